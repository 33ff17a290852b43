import JvmDerived
import JvmDerived.Pilot.@@N@@Statement
import JvmDerived.Pilot.@@N@@Code
set_option linter.unusedVariables false
set_option linter.unusedSimpArgs false
@@BLOCK:NumsL.lean.txt@@
namespace Jvm.Pilot.@@N@@
open Jvm Jvm.ClassFile Sem Op Lib Jvm.Free Jvm.Stand Jvm.LawKit Jvm.RoadKit Bundle Jvm.Pilot.@@N@@.Jvm.D
section OwnKit
theorem own_w {Z : State} {a0 : Array Value} (hw : ∀ d ∈ tables_1, d.before a0 Z = true) {d : Jvm.Cond} (i : Nat) (h : tables_1[i]? = some d) : d.before a0 Z = true := hw d (List.mem_of_getElem? h)
theorem own_narb (x : Int32) : nar .byte (x.toInt8.toInt32) = x.toInt8.toInt32 := by
  show (x.toInt8.toInt32).toInt8.toInt32 = x.toInt8.toInt32
  rw [Int8.toInt8_toInt32]
theorem own_narc (x : Int32) : nar .char (x.toUInt32.toUInt16.toUInt32.toInt32) = x.toUInt32.toUInt16.toUInt32.toInt32 := by
  show (x.toUInt32.toUInt16.toUInt32.toInt32).toUInt32.toUInt16.toUInt32.toInt32 = _
  have : (x.toUInt32.toUInt16.toUInt32.toInt32).toUInt32 = x.toUInt32.toUInt16.toUInt32 := rfl
  rw [this]
  have : x.toUInt32.toUInt16.toUInt32.toUInt16 = x.toUInt32.toUInt16 := by rw [← UInt16.toNat_inj]; simp
  rw [this]
theorem own_plain {Z : State} {h : Heap} {a : Addr} {C : String} (F : Exa Z h a C) : ∃ c : Cell, h[a]? = some c ∧ c.vm.isStatics = false := by
  obtain ⟨c, _, h1, -, -, h4, -⟩ := F; exact ⟨c, h1, h4⟩
theorem own_plainV {Z : State} {h : Heap} {a : Addr} {k : ClassId} {ty : FieldType} {z : Int32} {vs : List Value} {d : Value} (F : Arv Z h a k ty z vs d) : ∃ c : Cell, h[a]? = some c ∧ c.vm.isStatics = false := by
  obtain ⟨c, A, -⟩ := F; exact ⟨c, A.1, A.plain⟩
theorem own_Sta_keep {Z : State} {h h' : Heap} {C n d : String} {v : Value} {ws : List Addr} (F : Sta Z h C n d v) (K : Keep h h' ws) (q : ∀ a ∈ ws, ∃ c : Cell, h[a]? = some c ∧ c.vm.isStatics = false) : Sta Z h' C n d v := by
  obtain ⟨cf, i, k, f, st, cell, h1, h2, h3, h4, h5, h6, h7⟩ := F
  have ne : st ∉ ws := fun hm => by
    obtain ⟨c, g1, g2⟩ := q st hm
    cases h5.symm.trans g1
    rw [h6] at g2; cases g2
  exact ⟨cf, i, k, f, st, cell, h1, h2, h3, h4, K.2.1 _ _ h5 ne, h6, h7⟩
theorem own_NSroot {Z : State} {a0 : Array Value} {O K : String} {j : Nat} (w : (Cond.noSuperclass O).before a0 Z = true) (wk : (Cond.instantiable K j).before a0 Z = true) (hn : O ≠ K) : NS Z O K := by
  obtain ⟨c, k, h1, h2, h3, -⟩ := Cond.noSuperclass_spec w
  obtain ⟨t, kt, g1, -⟩ := Cond.instantiable_spec wk
  refine ⟨c, t, h1, g1, fun fuel => ?_⟩
  cases fuel with
  | zero => rfl
  | succ f => simp [Vm.isSubclassAux, ids_ne h1 g1 hn, h2, h3]
theorem own_NSno {Z : State} {a0 : Array Value} {C S K : String} {j : Nat} (w : (Cond.superclass C S).before a0 Z = true) (wk : (Cond.instantiable K j).before a0 Z = true) (q : NS Z C K) (hn : C ≠ K) : ∃ c t, Z.vm.findClass C = some c ∧ Z.vm.findClass K = some t ∧ Z.vm.assignable c t = false := by
  obtain ⟨c, t, h0, g0, n3⟩ := q
  obtain ⟨_, k, _, _, h2, _, _, h5, -⟩ := Cond.superclass_spec h0 w
  obtain ⟨t', kt, g1, g2, g5, g7, -⟩ := Cond.instantiable_spec wk
  cases g0.symm.trans g1
  have g8 : kt.isInterface = false := by simpa using (Bool.or_eq_false_iff.mp g7).1
  refine ⟨c, t, h0, g0, ?_⟩
  show Z.vm.assignableAux (255 + 1) c t = false
  simp [Vm.assignableAux, ids_ne h0 g0 hn, h2, g2, h5, g5, g8, Vm.isSubclass, n3]
theorem own_hc {T : State} {h : Heap} {a : Addr} {c : Cell} (e : T.heap = h) (q : h[a]? = some c) : T.heap[a]? = some c := by subst e; exact q
def own_b (P : Prop) [Decidable P] : Int32 := if P then 1 else 0
theorem own_b1 {P : Prop} [Decidable P] (h : P) : own_b P = 1 := if_pos h
theorem own_b0 {P : Prop} [Decidable P] (h : ¬ P) : own_b P = 0 := if_neg h
variable {p : Program} {l : Launch} {e : Env} {R : Room} {s : State} {m : MethodId} {args : Array Value} {below : List Frame} {meth : Method} {c : Code} {T : State} {locs : List Loc} {cells slots : Nat}
def own_Fin (p : Program) (e : Env) (below : List Frame) (s : State) (Q : Option Value → Heap → List Loc → Prop) (k n : Nat) (A : State) : Prop := ∃ s₂ o, Steps p.tables e below A s₂ ∧ s₂.status = .running ∧ Ended s₂ below o ∧ ∃ v L, o = .returned v ∧ Q v s₂.heap L ∧ FrameEnd s o s₂ L k n
theorem own_go {Q : Option Value → Heap → List Loc → Prop} {k n : Nat} {A B : State} (h : ∀ t, Steps p.tables e below B t → Steps p.tables e below A t) (q : own_Fin p e below s Q k n B) : own_Fin p e below s Q k n A := by
  obtain ⟨s₂, o, h1, h2⟩ := q
  exact ⟨s₂, o, h _ h1, h2⟩
theorem own_retN {Q : Option Value → Heap → List Loc → Prop} {k n : Nat} (X : Stand p l e R s m args below meth c T locs cells slots) (hx : p.tables.exec = Jvm.exec) (hlk : meth.locks = false) {pc : Nat} {Ls : Array Slot} {z w : Int32} {t : FieldType} {rest : List Value} (hret : meth.sig.returnType = some t) (ht : t = .boolean ∨ t = .byte ∨ t = .char ∨ t = .short)
    (hd : decode c.code pc = .ok (.ireturn, 1)) {h : Heap} (eT : T.heap = h) (hz : nar t z = w) (hQ : Q (some (.int w)) h locs) (hk : cells ≤ k) (hn : slots ≤ n) : own_Fin p e below s Q k n (T.setTop (mkF m pc Ls (.int z :: rest))) := by
  subst hz eT
  obtain ⟨fs, hr, hrun, hended, hW, hsame⟩ := X.leave (v := some (.int (nar t z))) (fun h => by rw [hret] at h; cases h) hlk
  exact ⟨_, _, retN X hx hret ht hd hr, hrun, hended, _, _, rfl, hQ, ⟨_, rfl⟩, hW, hsame.mono hk hn⟩
theorem own_retI {Q : Option Value → Heap → List Loc → Prop} {k n : Nat} (X : Stand p l e R s m args below meth c T locs cells slots) (hx : p.tables.exec = Jvm.exec) (hlk : meth.locks = false) {pc : Nat} {Ls : Array Slot} {z : Int32} {rest : List Value} (hret : meth.sig.returnType = some .int)
    (hd : decode c.code pc = .ok (.ireturn, 1)) {h : Heap} (eT : T.heap = h) (hQ : Q (some (.int z)) h locs) (hk : cells ≤ k) (hn : slots ≤ n) : own_Fin p e below s Q k n (T.setTop (mkF m pc Ls (.int z :: rest))) := by
  subst eT
  obtain ⟨fs, hr, hrun, hended, hW, hsame⟩ := X.leave (v := some (.int z)) (fun h => by rw [hret] at h; cases h) hlk
  exact ⟨_, _, retOut X hx hret rfl (Or.inl ⟨rfl, Or.inl rfl, z, rfl⟩) hd hr, hrun, hended, _, _, rfl, hQ, ⟨_, rfl⟩, hW, hsame.mono hk hn⟩
theorem own_retJ {Q : Option Value → Heap → List Loc → Prop} {k n : Nat} (X : Stand p l e R s m args below meth c T locs cells slots) (hx : p.tables.exec = Jvm.exec) (hlk : meth.locks = false) {pc : Nat} {Ls : Array Slot} {z : Int64} {rest : List Value} (hret : meth.sig.returnType = some .long)
    (hd : decode c.code pc = .ok (.lreturn, 1)) {h : Heap} (eT : T.heap = h) (hQ : Q (some (.long z)) h locs) (hk : cells ≤ k) (hn : slots ≤ n) : own_Fin p e below s Q k n (T.setTop (mkF m pc Ls (.long z :: rest))) := by
  subst eT
  obtain ⟨fs, hr, hrun, hended, hW, hsame⟩ := X.leave (v := some (.long z)) (fun h => by rw [hret] at h; cases h) hlk
  exact ⟨_, _, retOut X hx hret rfl (Or.inr (Or.inl ⟨rfl, rfl, z, rfl⟩)) hd hr, hrun, hended, _, _, rfl, hQ, ⟨_, rfl⟩, hW, hsame.mono hk hn⟩
theorem own_retD {Q : Option Value → Heap → List Loc → Prop} {k n : Nat} (X : Stand p l e R s m args below meth c T locs cells slots) (hx : p.tables.exec = Jvm.exec) (hlk : meth.locks = false) {pc : Nat} {Ls : Array Slot} {z : UInt64} {rest : List Value} (hret : meth.sig.returnType = some .double)
    (hd : decode c.code pc = .ok (.dreturn, 1)) {h : Heap} (eT : T.heap = h) (hQ : Q (some (.double z)) h locs) (hk : cells ≤ k) (hn : slots ≤ n) : own_Fin p e below s Q k n (T.setTop (mkF m pc Ls (.double z :: rest))) := by
  subst eT
  obtain ⟨fs, hr, hrun, hended, hW, hsame⟩ := X.leave (v := some (.double z)) (fun h => by rw [hret] at h; cases h) hlk
  exact ⟨_, _, retOut X hx hret rfl (Or.inr (Or.inr (Or.inl ⟨rfl, rfl, z, rfl⟩))) hd hr, hrun, hended, _, _, rfl, hQ, ⟨_, rfl⟩, hW, hsame.mono hk hn⟩
theorem own_retA {Q : Option Value → Heap → List Loc → Prop} {k n : Nat} (X : Stand p l e R s m args below meth c T locs cells slots) (hx : p.tables.exec = Jvm.exec) (hlk : meth.locks = false) {pc : Nat} {Ls : Array Slot} {w : Value} {t : FieldType} {rest : List Value} (hret : meth.sig.returnType = some t) (ht : t.isReference = true) (hw : w.isRef = true)
    (hd : decode c.code pc = .ok (.areturn, 1)) {h : Heap} (eT : T.heap = h) (hQ : Q (some w) h locs) (hk : cells ≤ k) (hn : slots ≤ n) : own_Fin p e below s Q k n (T.setTop (mkF m pc Ls (w :: rest))) := by
  subst eT
  obtain ⟨fs, hr, hrun, hended, hW, hsame⟩ := X.leave (v := some w) (fun h => by rw [hret] at h; cases h) hlk
  have hnw : narrow t w = w := by
    rcases ref_cases hw with rfl | ⟨z, rfl⟩ <;> cases t <;> first | rfl | (cases ht; done)
  exact ⟨_, _, retOut X hx hret hnw (Or.inr (Or.inr (Or.inr (Or.inr ⟨rfl, ht, hw⟩)))) hd hr, hrun, hended, _, _, rfl, hQ, ⟨_, rfl⟩, hW, hsame.mono hk hn⟩
theorem own_retV {Q : Option Value → Heap → List Loc → Prop} {k n : Nat} (X : Stand p l e R s m args below meth c T locs cells slots) (hx : p.tables.exec = Jvm.exec) (hlk : meth.locks = false) {pc : Nat} {Ls : Array Slot} (hret : meth.sig.returnType = none)
    (hd : decode c.code pc = .ok (.return_, 1)) {h : Heap} (eT : T.heap = h) (hQ : Q none h locs) (hk : cells ≤ k) (hn : slots ≤ n) : own_Fin p e below s Q k n (T.setTop (mkF m pc Ls [])) := by
  subst eT
  obtain ⟨fs, hr, hrun, hended, hW, hsame⟩ := X.leave (v := none) (fun _ => rfl) hlk
  exact ⟨_, _, X.returnOut hx hret hd hr, hrun, hended, _, _, rfl, hQ, ⟨_, rfl⟩, hW, hsame.mono hk hn⟩
end OwnKit
section OwnNums
theorem own_iushr (x : Int32) {n : UInt32} {k : Nat} (hn : n.toNat = k) (h0 : 0 < k) (hk : k < 32) : ((x.toUInt32 >>> n).toInt32).toInt = (x.toInt % 4294967296) / 2 ^ k := by
  have e2 : ((x.toUInt32 >>> n).toInt32).toBitVec.toNat = x.toBitVec.toNat / 2 ^ k := by
    simp only [UInt32.toBitVec_toInt32, UInt32.toBitVec_shiftRight, Int32.toBitVec_toUInt32]
    simp [BitVec.toNat_ushiftRight, Nat.shiftRight_eq_div_pow, hn, Nat.mod_eq_of_lt hk]
  have hb := x.toBitVec.isLt
  have hp : 2 ^ 1 ≤ 2 ^ k := Nat.pow_le_pow_right (by decide) h0
  have hle : x.toBitVec.toNat / 2 ^ k ≤ x.toBitVec.toNat / 2 ^ 1 := Nat.div_le_div_left hp (by decide)
  have e3 : ((x.toUInt32 >>> n).toInt32).toInt = ((x.toBitVec.toNat / 2 ^ k : Nat) : Int) := by
    have : ((x.toUInt32 >>> n).toInt32).toInt = ((x.toUInt32 >>> n).toInt32).toBitVec.toInt := rfl
    rw [this, BitVec.toInt_eq_toNat_cond, e2, if_pos (by omega)]
  have e4 : x.toInt % 4294967296 = (x.toBitVec.toNat : Int) := by
    have : x.toInt = x.toBitVec.toInt := rfl
    rw [this, BitVec.toInt_eq_toNat_cond]
    split <;> omega
  rw [e3, e4, Int.natCast_ediv, Int.natCast_pow]
  rfl
theorem own_lushr (x : Int64) {n : UInt64} {k : Nat} (hn : n.toNat = k) (h0 : 0 < k) (hk : k < 64) : ((x.toUInt64 >>> n).toInt64).toInt = (x.toInt % 18446744073709551616) / 2 ^ k := by
  have e2 : ((x.toUInt64 >>> n).toInt64).toBitVec.toNat = x.toBitVec.toNat / 2 ^ k := by
    simp only [UInt64.toBitVec_toInt64, UInt64.toBitVec_shiftRight, Int64.toBitVec_toUInt64]
    simp [BitVec.toNat_ushiftRight, Nat.shiftRight_eq_div_pow, hn, Nat.mod_eq_of_lt hk]
  have hb := x.toBitVec.isLt
  have hp : 2 ^ 1 ≤ 2 ^ k := Nat.pow_le_pow_right (by decide) h0
  have hle : x.toBitVec.toNat / 2 ^ k ≤ x.toBitVec.toNat / 2 ^ 1 := Nat.div_le_div_left hp (by decide)
  have e3 : ((x.toUInt64 >>> n).toInt64).toInt = ((x.toBitVec.toNat / 2 ^ k : Nat) : Int) := by
    have : ((x.toUInt64 >>> n).toInt64).toInt = ((x.toUInt64 >>> n).toInt64).toBitVec.toInt := rfl
    rw [this, BitVec.toInt_eq_toNat_cond, e2, if_pos (by omega)]
  have e4 : x.toInt % 18446744073709551616 = (x.toBitVec.toNat : Int) := by
    have : x.toInt = x.toBitVec.toInt := rfl
    rw [this, BitVec.toInt_eq_toNat_cond]
    split <;> omega
  rw [e3, e4, Int.natCast_ediv, Int.natCast_pow]
  rfl
theorem own_l2i (x : Int64) : (x.toInt32.toInt - x.toInt) % 4294967296 = 0 := by rw [Int64.toInt_toInt32]; exact bm32 _
theorem own_div32 {x y : Int32} (hx : 0 ≤ x.toInt) (hy : 0 < y.toInt) : (x / y).toInt = x.toInt / y.toInt := by
  rw [Jvm.Kit.i32_div (by omega), Int.tdiv_eq_ediv_of_nonneg hx]
theorem own_div64 {x y : Int64} (hx : 0 ≤ x.toInt) (hy : 0 < y.toInt) : (x / y).toInt = x.toInt / y.toInt := by
  rw [Jvm.Kit.i64_div (by omega), Int.tdiv_eq_ediv_of_nonneg hx]
theorem own_i2c (x : Int32) : (x.toUInt32.toUInt16.toUInt32.toInt32).toInt = x.toInt % 65536 := by
  have e2 : (x.toUInt32.toUInt16.toUInt32.toInt32).toBitVec.toNat = x.toBitVec.toNat % 65536 := by
    show (x.toUInt32.toUInt16.toUInt32).toNat = _
    simp
    rfl
  have hb := x.toBitVec.isLt
  have e3 : (x.toUInt32.toUInt16.toUInt32.toInt32).toInt = (x.toUInt32.toUInt16.toUInt32.toInt32).toBitVec.toInt := rfl
  have e4 : x.toInt = x.toBitVec.toInt := rfl
  rw [e3, e4, BitVec.toInt_eq_toNat_cond, BitVec.toInt_eq_toNat_cond, e2]
  split <;> split <;> omega
theorem own_i2b (x : Int32) : ((x.toInt8.toInt32).toInt - x.toInt) % 256 = 0 ∧ -128 ≤ (x.toInt8.toInt32).toInt ∧ (x.toInt8.toInt32).toInt < 128 := by
  have h1 : (x.toInt8.toInt32).toInt = x.toInt8.toInt := Int8.toInt_toInt32 _
  have h2 := x.toInt8.toInt_lt; have h3 := x.toInt8.le_toInt
  have h4 : x.toInt8.toInt = x.toInt.bmod 256 := Int32.toInt_toInt8 x
  have h5 := Int.bmod_emod (x := x.toInt) (m := 256)
  rw [h1]; omega
end OwnNums
theorem own_pd0 : parseMethodDescriptor "()V" = some ⟨[], none⟩ := by decide +kernel
theorem own_pd1 : parseMethodDescriptor "(I)V" = some ⟨[.int], none⟩ := by decide +kernel
theorem own_pd2 : parseMethodDescriptor "(II)V" = some ⟨[.int, .int], none⟩ := by decide +kernel
theorem own_pd3 : parseMethodDescriptor "(I)Ljava/lang/Integer;" = some ⟨[.int], some (.object "java/lang/Integer")⟩ := by decide +kernel
theorem own_pd4 : parseMethodDescriptor "(Ljava/lang/Object;)Z" = some ⟨[(.object "java/lang/Object")], some .boolean⟩ := by decide +kernel
def own_Cache (Z : State) (h : Heap) (w : Addr) (cl : Cell) : Prop := Arr Z h w cl (.object "java/lang/Integer") ∧ cl.slots.size = 256 ∧ ∀ n, n < 256 → ∃ z, cl.slots[n]? = some (.ref z) ∧ Exa Z h z "java/lang/Integer"
theorem own_Cache.lt {Z : State} {h : Heap} {w : Addr} {cl : Cell} (F : own_Cache Z h w cl) : w < h.size := F.1.lt
theorem own_Cache.ext {Z : State} {h h' : Heap} {w : Addr} {cl : Cell} (F : own_Cache Z h w cl) (E : Ext h h') : own_Cache Z h' w cl :=
  ⟨F.1.ext E, F.2.1, fun n hn => by obtain ⟨z, h1, h2⟩ := F.2.2 n hn; exact ⟨z, h1, h2.ext E⟩⟩
theorem own_Cache.other {Z : State} {h h' : Heap} {w a : Addr} {cl : Cell} {sl : Nat} {v : Value} (F : own_Cache Z h w cl) (W : Wr h h' a sl v) (q : w ≠ a) : own_Cache Z h' w cl :=
  ⟨F.1.other W q, F.2.1, fun n hn => by obtain ⟨z, h1, h2⟩ := F.2.2 n hn; exact ⟨z, h1, h2.wr W⟩⟩
theorem own_Cache.keep {Z : State} {h h' : Heap} {w : Addr} {cl : Cell} {ws : List Addr} (F : own_Cache Z h w cl) (K : Keep h h' ws) (q : w ∉ ws) : own_Cache Z h' w cl :=
  ⟨⟨K.2.1 _ _ F.1.1 q, F.1.2⟩, F.2.1, fun n hn => by obtain ⟨z, h1, h2⟩ := F.2.2 n hn; exact ⟨z, h1, h2.keep K⟩⟩
theorem own_place (w : Int32) (h1 : ¬ w < -128) (h2 : ¬ 127 < w) : ¬ ((w + 128) < 0 ∨ 256 ≤ (w + 128).toNatClampNeg) ∧ (w + 128).toNatClampNeg < 256 := Jvm.Free.IntBox.place_ok w h1 h2
theorem own_cache0 {args : Array Value} {s : State} (h4 : (Cond.arrayOf (Term.static "java/lang/Integer$IntegerCache" "cache" "[Ljava/lang/Integer;") (.object "java/lang/Integer")).before args s = true)
    (h5 : (Cond.exactly (Term.static "java/lang/Integer$IntegerCache" "cache" "[Ljava/lang/Integer;") "[Ljava/lang/Integer;").before args s = true)
    (h6 : (Cond.eq (.length (Term.static "java/lang/Integer$IntegerCache" "cache" "[Ljava/lang/Integer;")) (.int 256)).before args s = true) {C2 : Cond}
    (h7 : (Cond.all (Term.static "java/lang/Integer$IntegerCache" "cache" "[Ljava/lang/Integer;") (.and (.exactly (.elem (Term.static "java/lang/Integer$IntegerCache" "cache" "[Ljava/lang/Integer;") (.index 0)) "java/lang/Integer") C2)).before args s = true) :
    ∃ w cl, (Term.static "java/lang/Integer$IntegerCache" "cache" "[Ljava/lang/Integer;").eval args s none [] s = some (.ref w) ∧ own_Cache s s.heap w cl := by
  obtain ⟨w, c, cell, k, e1, -⟩ := Cond.exactly_spec h5
  obtain ⟨cl, A⟩ := Arr.start e1 (Cond.before_iff.mp h4)
  obtain ⟨hsz, hsize⟩ := Jvm.Free.IntBox.length_fwd h6 e1 A.1 A.2.1 A.2.2
  have hsz256 : cl.slots.size = 256 := by
    have e : (cl.slots.size.toInt32).toInt = cl.slots.size := by
      have : (cl.slots.size.toInt32).toInt = (cl.slots.size : Int).bmod (2 ^ 32) := by simp [Nat.toInt32, Int32.size]
      rw [this]; simp [Int.bmod]; omega
    rw [hsize] at e
    have : ((256 : Int32)).toInt = 256 := by decide
    omega
  have hat := Jvm.Free.IntBox.arrayAt_of A.1 A.2.1 A.2.2
  have hall := Cond.all_elim (c := .and (.exactly (.elem (Term.static "java/lang/Integer$IntegerCache" "cache" "[Ljava/lang/Integer;") (.index 0)) "java/lang/Integer") C2) e1 hat (by simpa [Cond.before, Cond.holds] using h7)
  refine ⟨w, cl, e1, A, hsz256, fun n hn => ?_⟩
  have hj := hall n (by rw [hsz256]; exact hn)
  have hval : (Cond.and (.exactly (.elem (Term.static "java/lang/Integer$IntegerCache" "cache" "[Ljava/lang/Integer;") (.index 0)) "java/lang/Integer") C2).holds args s none s [n] = true := by simpa [Cond.holds] using hj
  rw [Cond.holds_and, Bool.and_eq_true] at hval
  obtain ⟨hnn, hback⟩ := Jvm.Free.IntBox.place_nonneg _ hn
  have evalCi : (Term.static "java/lang/Integer$IntegerCache" "cache" "[Ljava/lang/Integer;").eval args s none [n] s = some (.ref w) := by simpa [Term.eval] using e1
  have evalE0 : (Term.elem (Term.static "java/lang/Integer$IntegerCache" "cache" "[Ljava/lang/Integer;") (.index 0)).eval args s none [n] s = cl.slots[n]? := by
    have evalI : (Term.index 0).eval args s none [n] s = some (.int n.toInt32) := by simp [Term.eval]
    rw [Term.eval]; simp [evalCi, evalI, hat, hnn, hback]
  obtain ⟨box, cB, cellB, kB, heB, hcB, hcellB, hkB, hnsB, hclsB, hord⟩ := Cond.exactly_spec hval.1
  rw [evalE0] at heB
  exact ⟨box, heB, cellB, kB, hcellB, hclsB ▸ hcB, hclsB ▸ hkB, hnsB, hord⟩
abbrev R_own_rm1 : Room := { frames := 1, cells := 0, slots := 0, locals := 12 }
theorem d1_0 : decode prog_13_method_1_code 0 = .ok (.aload_n 0, 1) := by decide +kernel
theorem d1_1 : decode prog_13_method_1_code 1 = .ok (.invokespecial 1, 3) := by decide +kernel
theorem d1_4 : decode prog_13_method_1_code 4 = .ok (.aload_n 0, 1) := by decide +kernel
theorem d1_5 : decode prog_13_method_1_code 5 = .ok (.iload_n 1, 1) := by decide +kernel
theorem d1_6 : decode prog_13_method_1_code 6 = .ok (.putfield 7, 3) := by decide +kernel
theorem d1_9 : decode prog_13_method_1_code 9 = .ok (.aload_n 0, 1) := by decide +kernel
theorem d1_10 : decode prog_13_method_1_code 10 = .ok (.iload_n 2, 1) := by decide +kernel
theorem d1_11 : decode prog_13_method_1_code 11 = .ok (.putfield 13, 3) := by decide +kernel
theorem d1_14 : decode prog_13_method_1_code 14 = .ok (.return_, 1) := by decide +kernel
theorem own_pn0 : plainName "com/example/carillon/carillon/Period" = true := by first | (simp [plainName, overriddenIn]; done) | decide +kernel
theorem ef_own_rm1 (m : MethodId) (x0 : Addr) (x1 : Int32) (x2 : Int32) : entryFrame m #[(.ref x0), (.int x1), (.int x2)] 3 = mkF m 0 #[.val (.ref x0), .val (.int x1), .val (.int x2)] [] := by first | (simp [entryFrame, mkF, argsToLocals, Value.category]; done) | rfl
def Q_own_rm1 (Z : State) (a1 : Addr) (p2 : Int32) (p3 : Int32) (h0 : Heap) (n0 : Nat) (v : Option Value) (h : Heap) (L : List Loc) : Prop := v = none ∧ Fr n0 L ∧ Keep h0 h [a1] ∧ Exa Z h a1 "com/example/carillon/carillon/Period" ∧ Fld Z h a1 "com/example/carillon/carillon/Period" "day" "I" (.int p2) ∧ Fld Z h a1 "com/example/carillon/carillon/Period" "periodOfDay" "I" (.int p3)
set_option maxRecDepth 65536 in
set_option maxHeartbeats 400000000 in
theorem own_rm1 (l : Launch) (Z : State) (a0 : Array Value) (hw : ∀ d ∈ tables_1, d.before a0 Z = true) (ws : List Jvm.Cond) (a1 : Addr) (p2 : Int32) (p3 : Int32) (h0 : Heap) (n0 : Nat) (Z0 : n0 ≤ h0.size) (P_E_a1 : Exa Z h0 a1 "com/example/carillon/carillon/Period") (P_F_a1_day : Fld Z h0 a1 "com/example/carillon/carillon/Period" "day" "I" (.int (0 : Int32))) (P_F_a1_periodOfDay : Fld Z h0 a1 "com/example/carillon/carillon/Period" "periodOfDay" "I" (.int (0 : Int32))) (g_a1 : n0 ≤ a1) :
    MetFree l (⟨"com/example/carillon/carillon/Period", "<init>", "(II)V"⟩ : MethodName) (head1 (Jvm.Cond.code (⟨"com/example/carillon/carillon/Period", "<init>", "(II)V"⟩ : MethodName) prog_13_method_1_code 3 none :: ws) R_own_rm1) (fun a U => a = #[(.ref a1), (.int p2), (.int p3)] ∧ Z.Warmed39 U.vm ∧ U.heap = h0) (fun _ _ _ _ _ => True) (fun _ U o U' => ∃ v L, o = .returned v ∧ Q_own_rm1 Z a1 p2 p3 h0 n0 v U'.heap L ∧ FrameEnd U o U' L R_own_rm1.cells R_own_rm1.slots) := by
  refine MetFree.of_bodySF (plainFor_of_name own_pn0) hisR ?_
  intro p e s m args below meth c s₁ Bd hml0 hP hK
  obtain ⟨rfl, hZ, hh⟩ := hP
  have hx := Bd.exec
  have hby := Bd.bytes
  have hml : c.maxLocals = 3 := hml0
  have hown : s.vm.findClass "com/example/carillon/carillon/Period" = some m.cls := findClass_of_methodNamed Bd.named
  have hnm := (name_of_methodNamed Bd.named Bd.method).1
  have X0 : Stand p l e R_own_rm1 s m #[(.ref a1), (.int p2), (.int p3)] below meth c s₁ [] 0 0 := Stand.of_body Bd
  have e0 : s₁.heap = h0 := by rw [← hh, Bd.state]; rfl
  have N0 := Fr.nil n0
  have K0 : Keep h0 h0 [a1] := Keep.refl h0 [a1]
  show own_Fin p e below s (Q_own_rm1 Z a1 p2 p3 h0 n0) R_own_rm1.cells R_own_rm1.slots (s₁.setTop (entryFrame m #[(.ref a1), (.int p2), (.int p3)] 3))
  refine own_go (fun _ k => castTop (ef_own_rm1 m a1 p2 p3) k) ?_
  show own_Fin _ _ _ _ _ _ _ (s₁.setTop (mkF m 0 #[.val (.ref a1), .val (.int p2), .val (.int p3)] []))
  refine own_go (B := s₁.setTop (mkF m 1 #[.val (.ref a1), .val (.int p2), .val (.int p3)] [(.ref a1)])) (fun _ k => XS.aloadN X0.here hx rfl (hb hby d1_0) rfl rfl k) ?_
  obtain ⟨T1, X1, e1, st1⟩ := initO X0 hx hZ hown (own_w hw 6 rfl) (own_w hw 7 rfl) (own_w hw 8 rfl) e0 (g := (mkF m 1 #[.val (.ref a1), .val (.int p2), .val (.int p3)] [(.ref a1)])) rfl (by rw [hml]; rfl) rfl (hb hby d1_1) (by decide) (W := 0) (by show 2 * 0 + _ ≤ _; exact Nat.le_of_eq rfl) (by decide)
  refine own_go (B := T1.setTop (mkF m 4 #[.val (.ref a1), .val (.int p2), .val (.int p3)] [])) st1 ?_
  refine own_go (B := T1.setTop (mkF m 5 #[.val (.ref a1), .val (.int p2), .val (.int p3)] [(.ref a1)])) (fun _ k => XS.aloadN X1.here hx rfl (hb hby d1_4) rfl rfl k) ?_
  refine own_go (B := T1.setTop (mkF m 6 #[.val (.ref a1), .val (.int p2), .val (.int p3)] [(.int p2), (.ref a1)])) (fun _ k => XS.iloadN X1.here hx rfl (hb hby d1_5) rfl  k) ?_
  obtain ⟨T2, h2, X2, e2, W2, st2⟩ := putF X1 hx hZ hown (host := "") (Or.inl (own_w hw 9 rfl)) Via.refl e1 P_F_a1_day P_E_a1 (Or.inr ⟨(own_w hw 10 rfl), rfl, hnm⟩) (own_w hw 1 rfl) (ty := .int) (by decide) rfl rfl (g := (mkF m 6 #[.val (.ref a1), .val (.int p2), .val (.int p3)] [(.int p2), (.ref a1)])) rfl rfl (hb hby d1_6)
  have F_w2 : Fld Z h2 a1 "com/example/carillon/carillon/Period" "day" "I" (.int p2) := P_F_a1_day.same W2
  have E_4 := P_E_a1.wr W2
  have F_6 := P_F_a1_periodOfDay.other W2 (Or.inr (slot_ne (Or.inr (own_w hw 12 rfl)) (Or.inr (own_w hw 10 rfl)) (by decide) (t := .int) (t' := .int) (by decide) (by decide)))
  have K7 : Keep h0 h2 [a1] := K0.wr W2 (Or.inl (List.mem_of_getElem? (i := 0) rfl))
  have N2 := Fr.snoc X2 N0 g_a1
  refine own_go (B := T2.setTop (mkF m 9 #[.val (.ref a1), .val (.int p2), .val (.int p3)] [])) st2 ?_
  refine own_go (B := T2.setTop (mkF m 10 #[.val (.ref a1), .val (.int p2), .val (.int p3)] [(.ref a1)])) (fun _ k => XS.aloadN X2.here hx rfl (hb hby d1_9) rfl rfl k) ?_
  refine own_go (B := T2.setTop (mkF m 11 #[.val (.ref a1), .val (.int p2), .val (.int p3)] [(.int p3), (.ref a1)])) (fun _ k => XS.iloadN X2.here hx rfl (hb hby d1_10) rfl  k) ?_
  obtain ⟨T8, h8, X8, e8, W8, st8⟩ := putF X2 hx hZ hown (host := "") (Or.inl (own_w hw 11 rfl)) Via.refl e2 F_6 E_4 (Or.inr ⟨(own_w hw 12 rfl), rfl, hnm⟩) (own_w hw 1 rfl) (ty := .int) (by decide) rfl rfl (g := (mkF m 11 #[.val (.ref a1), .val (.int p2), .val (.int p3)] [(.int p3), (.ref a1)])) rfl rfl (hb hby d1_11)
  have F_w8 : Fld Z h8 a1 "com/example/carillon/carillon/Period" "periodOfDay" "I" (.int p3) := F_6.same W8
  have E_10 := E_4.wr W8
  have F_12 := F_w2.other W8 (Or.inr (slot_ne (Or.inr (own_w hw 10 rfl)) (Or.inr (own_w hw 12 rfl)) (by decide) (t := .int) (t' := .int) (by decide) (by decide)))
  have K13 : Keep h0 h8 [a1] := K7.wr W8 (Or.inl (List.mem_of_getElem? (i := 0) rfl))
  have N8 := Fr.snoc X8 N2 g_a1
  refine own_go (B := T8.setTop (mkF m 14 #[.val (.ref a1), .val (.int p2), .val (.int p3)] [])) st8 ?_
  exact own_retV X8 hx Bd.notSynchronized Bd.returns (hb hby d1_14) e8 ⟨rfl, N8, K13, E_10, F_12, F_w8⟩ (by decide) (by decide)
abbrev R_own_rm6 : Room := { frames := 1, cells := 0, slots := 0, locals := 12 }
theorem d6_0 : decode jdk_18_method_1_code 0 = .ok (.aload_n 0, 1) := by decide +kernel
theorem d6_1 : decode jdk_18_method_1_code 1 = .ok (.invokespecial 1, 3) := by decide +kernel
theorem d6_4 : decode jdk_18_method_1_code 4 = .ok (.return_, 1) := by decide +kernel
theorem own_pn1 : plainName "java/lang/Number" = true := by first | (simp [plainName, overriddenIn]; done) | decide +kernel
theorem ef_own_rm6 (m : MethodId) (x0 : Addr) : entryFrame m #[(.ref x0)] 1 = mkF m 0 #[.val (.ref x0)] [] := by first | (simp [entryFrame, mkF, argsToLocals, Value.category]; done) | rfl
def Q_own_rm6 (Z : State) (a1 : Addr) (h0 : Heap) (n0 : Nat) (v : Option Value) (h : Heap) (L : List Loc) : Prop := v = none ∧ Fr n0 L ∧ h = h0
set_option maxRecDepth 65536 in
set_option maxHeartbeats 400000000 in
theorem own_rm6 (l : Launch) (Z : State) (a0 : Array Value) (hw : ∀ d ∈ tables_1, d.before a0 Z = true) (ws : List Jvm.Cond) (a1 : Addr) (h0 : Heap) (n0 : Nat) (Z0 : n0 ≤ h0.size)  :
    MetFree l (⟨"java/lang/Number", "<init>", "()V"⟩ : MethodName) (head1 (Jvm.Cond.code (⟨"java/lang/Number", "<init>", "()V"⟩ : MethodName) jdk_18_method_1_code 1 none :: ws) R_own_rm6) (fun a U => a = #[(.ref a1)] ∧ Z.Warmed39 U.vm ∧ U.heap = h0) (fun _ _ _ _ _ => True) (fun _ U o U' => ∃ v L, o = .returned v ∧ Q_own_rm6 Z a1 h0 n0 v U'.heap L ∧ FrameEnd U o U' L R_own_rm6.cells R_own_rm6.slots) := by
  refine MetFree.of_bodySF (plainFor_of_name own_pn1) hisR ?_
  intro p e s m args below meth c s₁ Bd hml0 hP hK
  obtain ⟨rfl, hZ, hh⟩ := hP
  have hx := Bd.exec
  have hby := Bd.bytes
  have hml : c.maxLocals = 1 := hml0
  have hown : s.vm.findClass "java/lang/Number" = some m.cls := findClass_of_methodNamed Bd.named
  have hnm := (name_of_methodNamed Bd.named Bd.method).1
  have X0 : Stand p l e R_own_rm6 s m #[(.ref a1)] below meth c s₁ [] 0 0 := Stand.of_body Bd
  have e0 : s₁.heap = h0 := by rw [← hh, Bd.state]; rfl
  have N0 := Fr.nil n0
  have K0 : Keep h0 h0 [] := Keep.refl h0 []
  show own_Fin p e below s (Q_own_rm6 Z a1 h0 n0) R_own_rm6.cells R_own_rm6.slots (s₁.setTop (entryFrame m #[(.ref a1)] 1))
  refine own_go (fun _ k => castTop (ef_own_rm6 m a1) k) ?_
  show own_Fin _ _ _ _ _ _ _ (s₁.setTop (mkF m 0 #[.val (.ref a1)] []))
  refine own_go (B := s₁.setTop (mkF m 1 #[.val (.ref a1)] [(.ref a1)])) (fun _ k => XS.aloadN X0.here hx rfl (hb hby d6_0) rfl rfl k) ?_
  obtain ⟨T1, X1, e1, st1⟩ := initO X0 hx hZ hown (own_w hw 42 rfl) (own_w hw 7 rfl) (own_w hw 8 rfl) e0 (g := (mkF m 1 #[.val (.ref a1)] [(.ref a1)])) rfl (by rw [hml]; rfl) rfl (hb hby d6_1) (by decide) (W := 0) (by show 2 * 0 + _ ≤ _; exact Nat.le_of_eq rfl) (by decide)
  refine own_go (B := T1.setTop (mkF m 4 #[.val (.ref a1)] [])) st1 ?_
  exact own_retV X1 hx Bd.notSynchronized Bd.returns (hb hby d6_4) e1 ⟨rfl, N0, rfl⟩ (by decide) (by decide)
abbrev R_own_rm5 : Room := { frames := 2, cells := 0, slots := 0, locals := 24 }
theorem d5_0 : decode jdk_33_method_23_code 0 = .ok (.aload_n 0, 1) := by decide +kernel
theorem d5_1 : decode jdk_33_method_23_code 1 = .ok (.invokespecial 202, 3) := by decide +kernel
theorem d5_4 : decode jdk_33_method_23_code 4 = .ok (.aload_n 0, 1) := by decide +kernel
theorem d5_5 : decode jdk_33_method_23_code 5 = .ok (.iload_n 1, 1) := by decide +kernel
theorem d5_6 : decode jdk_33_method_23_code 6 = .ok (.putfield 205, 3) := by decide +kernel
theorem d5_9 : decode jdk_33_method_23_code 9 = .ok (.return_, 1) := by decide +kernel
theorem own_pn2 : plainName "java/lang/Integer" = true := by first | (simp [plainName, overriddenIn]; done) | decide +kernel
theorem ef_own_rm5 (m : MethodId) (x0 : Addr) (x1 : Int32) : entryFrame m #[(.ref x0), (.int x1)] 2 = mkF m 0 #[.val (.ref x0), .val (.int x1)] [] := by first | (simp [entryFrame, mkF, argsToLocals, Value.category]; done) | rfl
def Q_own_rm5 (Z : State) (a1 : Addr) (p2 : Int32) (h0 : Heap) (n0 : Nat) (v : Option Value) (h : Heap) (L : List Loc) : Prop := v = none ∧ Fr n0 L ∧ Keep h0 h [a1]
set_option maxRecDepth 65536 in
set_option maxHeartbeats 400000000 in
theorem own_rm5 (l : Launch) (Z : State) (a0 : Array Value) (hw : ∀ d ∈ tables_1, d.before a0 Z = true) (ws : List Jvm.Cond) (a1 : Addr) (p2 : Int32) (h0 : Heap) (n0 : Nat) (Z0 : n0 ≤ h0.size) (P_E_a1 : Exa Z h0 a1 "java/lang/Integer") (P_F_a1_value : Fld Z h0 a1 "java/lang/Integer" "value" "I" (.int (0 : Int32))) (g_a1 : n0 ≤ a1) :
    MetFree l (⟨"java/lang/Integer", "<init>", "(I)V"⟩ : MethodName) (head1 (Jvm.Cond.code (⟨"java/lang/Integer", "<init>", "(I)V"⟩ : MethodName) jdk_33_method_23_code 2 none :: ws) R_own_rm5) (fun a U => a = #[(.ref a1), (.int p2)] ∧ Z.Warmed39 U.vm ∧ U.heap = h0) (fun _ _ _ _ _ => True) (fun _ U o U' => ∃ v L, o = .returned v ∧ Q_own_rm5 Z a1 p2 h0 n0 v U'.heap L ∧ FrameEnd U o U' L R_own_rm5.cells R_own_rm5.slots) := by
  refine MetFree.of_bodySF (plainFor_of_name own_pn2) hisR ?_
  intro p e s m args below meth c s₁ Bd hml0 hP hK
  obtain ⟨rfl, hZ, hh⟩ := hP
  have hx := Bd.exec
  have hby := Bd.bytes
  have hml : c.maxLocals = 2 := hml0
  have hown : s.vm.findClass "java/lang/Integer" = some m.cls := findClass_of_methodNamed Bd.named
  have hnm := (name_of_methodNamed Bd.named Bd.method).1
  have X0 : Stand p l e R_own_rm5 s m #[(.ref a1), (.int p2)] below meth c s₁ [] 0 0 := Stand.of_body Bd
  have e0 : s₁.heap = h0 := by rw [← hh, Bd.state]; rfl
  have N0 := Fr.nil n0
  have K0 : Keep h0 h0 [a1] := Keep.refl h0 [a1]
  show own_Fin p e below s (Q_own_rm5 Z a1 p2 h0 n0) R_own_rm5.cells R_own_rm5.slots (s₁.setTop (entryFrame m #[(.ref a1), (.int p2)] 2))
  refine own_go (fun _ k => castTop (ef_own_rm5 m a1 p2) k) ?_
  show own_Fin _ _ _ _ _ _ _ (s₁.setTop (mkF m 0 #[.val (.ref a1), .val (.int p2)] []))
  refine own_go (B := s₁.setTop (mkF m 1 #[.val (.ref a1), .val (.int p2)] [(.ref a1)])) (fun _ k => XS.aloadN X0.here hx rfl (hb hby d5_0) rfl rfl k) ?_
  obtain ⟨_, _, ⟨T1, L1, k1, n1⟩, -, X1, ⟨Lc1, hQ1, l1, y1, z1⟩, st1⟩ := X0.specialBack hx (y := (⟨"java/lang/Number", "<init>", "()V"⟩ : MethodName)) rfl hown (mvT hZ (own_w hw 36 rfl)) (mvT hZ (own_w hw 37 rfl)) (mvT hZ (own_w hw 41 rfl)) (by decide) (backOf (W := 0) (own_rm6 l Z a0 hw [] a1 h0 n0 (Nat.le_trans Z0 K0.1) ) hZ (own_w hw 41 rfl) (own_w hw 40 rfl) (by decide) (by decide)) (g := (mkF m 1 #[.val (.ref a1), .val (.int p2)] [(.ref a1)])) rfl (by rw [hml]; rfl) (Steps.refl _) (a := a1) (argsL := []) (rest := []) (lenOf own_pd0 rfl) rfl (by show 2 * 0 + _ ≤ _; exact Nat.le_of_eq rfl) (hb hby d5_1) (fun _ _ => ⟨rfl, e0, (by decide : 0 + 0 ≤ _), (by decide : 0 + 0 ≤ _)⟩)
  dsimp only [Pt.U, Pt.locs, Pt.cells, Pt.slots] at X1 l1 y1 z1 st1 hQ1
  subst l1 y1 z1
  obtain ⟨rfl, N1q, e1⟩ := hQ1
  have N1 := Fr.app N0 N1q
  refine own_go (B := T1.setTop (mkF m 4 #[.val (.ref a1), .val (.int p2)] [])) (fun _ k => st1.trans k) ?_
  refine own_go (B := T1.setTop (mkF m 5 #[.val (.ref a1), .val (.int p2)] [(.ref a1)])) (fun _ k => XS.aloadN X1.here hx rfl (hb hby d5_4) rfl rfl k) ?_
  refine own_go (B := T1.setTop (mkF m 6 #[.val (.ref a1), .val (.int p2)] [(.int p2), (.ref a1)])) (fun _ k => XS.iloadN X1.here hx rfl (hb hby d5_5) rfl  k) ?_
  obtain ⟨T2, h2, X2, e2, W2, st2⟩ := putF X1 hx hZ hown (host := "") (Or.inl (own_w hw 43 rfl)) Via.refl e1 P_F_a1_value P_E_a1 (Or.inr ⟨(own_w hw 44 rfl), rfl, hnm⟩) (own_w hw 31 rfl) (ty := .int) (by decide) rfl rfl (g := (mkF m 6 #[.val (.ref a1), .val (.int p2)] [(.int p2), (.ref a1)])) rfl rfl (hb hby d5_6)
  have F_w2 : Fld Z h2 a1 "java/lang/Integer" "value" "I" (.int p2) := P_F_a1_value.same W2
  have E_4 := P_E_a1.wr W2
  have K6 : Keep h0 h2 [a1] := K0.wr W2 (Or.inl (List.mem_of_getElem? (i := 0) rfl))
  have N2 := Fr.snoc X2 N1 g_a1
  refine own_go (B := T2.setTop (mkF m 9 #[.val (.ref a1), .val (.int p2)] [])) st2 ?_
  exact own_retV X2 hx Bd.notSynchronized Bd.returns (hb hby d5_9) e2 ⟨rfl, N2, K6⟩ (by decide) (by decide)
abbrev R_own_rm3 : Room := { frames := 3, cells := 1, slots := 1, locals := 38 }
theorem d3_0 : decode jdk_33_method_22_code 0 = .ok (.iload_n 0, 1) := by decide +kernel
theorem d3_1 : decode jdk_33_method_22_code 1 = .ok (.bipush (-128), 2) := by decide +kernel
theorem d3_3 : decode jdk_33_method_22_code 3 = .ok (.if_icmp .lt 20, 3) := by decide +kernel
theorem d3_6 : decode jdk_33_method_22_code 6 = .ok (.iload_n 0, 1) := by decide +kernel
theorem d3_7 : decode jdk_33_method_22_code 7 = .ok (.getstatic 191, 3) := by decide +kernel
theorem d3_10 : decode jdk_33_method_22_code 10 = .ok (.if_icmp .gt 13, 3) := by decide +kernel
theorem d3_13 : decode jdk_33_method_22_code 13 = .ok (.getstatic 195, 3) := by decide +kernel
theorem d3_16 : decode jdk_33_method_22_code 16 = .ok (.iload_n 0, 1) := by decide +kernel
theorem d3_17 : decode jdk_33_method_22_code 17 = .ok (.sipush 128, 3) := by decide +kernel
theorem d3_20 : decode jdk_33_method_22_code 20 = .ok (.iadd, 1) := by decide +kernel
theorem d3_21 : decode jdk_33_method_22_code 21 = .ok (.aaload, 1) := by decide +kernel
theorem d3_22 : decode jdk_33_method_22_code 22 = .ok (.areturn, 1) := by decide +kernel
theorem d3_23 : decode jdk_33_method_22_code 23 = .ok (.new 1, 3) := by decide +kernel
theorem d3_26 : decode jdk_33_method_22_code 26 = .ok (.dup, 1) := by decide +kernel
theorem d3_27 : decode jdk_33_method_22_code 27 = .ok (.iload_n 0, 1) := by decide +kernel
theorem d3_28 : decode jdk_33_method_22_code 28 = .ok (.invokespecial 199, 3) := by decide +kernel
theorem d3_31 : decode jdk_33_method_22_code 31 = .ok (.areturn, 1) := by decide +kernel
theorem ef_own_rm3 (m : MethodId) (x0 : Int32) : entryFrame m #[(.int x0)] 1 = mkF m 0 #[.val (.int x0)] [] := by first | (simp [entryFrame, mkF, argsToLocals, Value.category]; done) | rfl
def Q_own_rm3 (Z : State) (p1 : Int32) (w : Addr) (cl : Cell) (h0 : Heap) (n0 : Nat) (v : Option Value) (h : Heap) (L : List Loc) : Prop := ∃ b : Addr, v = some (.ref b) ∧ Fr n0 L ∧ Keep h0 h [] ∧ Exa Z h b "java/lang/Integer"
set_option maxRecDepth 65536 in
set_option maxHeartbeats 400000000 in
theorem own_rm3 (l : Launch) (Z : State) (a0 : Array Value) (hw : ∀ d ∈ tables_1, d.before a0 Z = true) (ws : List Jvm.Cond) (p1 : Int32) (w : Addr) (cl : Cell) (h0 : Heap) (n0 : Nat) (Z0 : n0 ≤ h0.size) (P_S_java_lang_Integer_IntegerCache_high : Sta Z h0 "java/lang/Integer$IntegerCache" "high" "I" (.int (127 : Int32))) (P_S_java_lang_Integer_IntegerCache_cache : Sta Z h0 "java/lang/Integer$IntegerCache" "cache" "[Ljava/lang/Integer;" (.ref w)) (P_G_w_cache : own_Cache Z h0 w cl) :
    MetFree l (⟨"java/lang/Integer", "valueOf", "(I)Ljava/lang/Integer;"⟩ : MethodName) (head1 (Jvm.Cond.code (⟨"java/lang/Integer", "valueOf", "(I)Ljava/lang/Integer;"⟩ : MethodName) jdk_33_method_22_code 1 (some (.object "java/lang/Integer")) :: ws) R_own_rm3) (fun a U => a = #[(.int p1)] ∧ Z.Warmed39 U.vm ∧ U.heap = h0) (fun _ _ _ _ _ => True) (fun _ U o U' => ∃ v L, o = .returned v ∧ Q_own_rm3 Z p1 w cl h0 n0 v U'.heap L ∧ FrameEnd U o U' L R_own_rm3.cells R_own_rm3.slots) := by
  refine MetFree.of_bodySF (plainFor_of_name own_pn2) hisR ?_
  intro p e s m args below meth c s₁ Bd hml0 hP hK
  obtain ⟨rfl, hZ, hh⟩ := hP
  have hx := Bd.exec
  have hby := Bd.bytes
  have hml : c.maxLocals = 1 := hml0
  have hown : s.vm.findClass "java/lang/Integer" = some m.cls := findClass_of_methodNamed Bd.named
  have hnm := (name_of_methodNamed Bd.named Bd.method).1
  have X0 : Stand p l e R_own_rm3 s m #[(.int p1)] below meth c s₁ [] 0 0 := Stand.of_body Bd
  have e0 : s₁.heap = h0 := by rw [← hh, Bd.state]; rfl
  have N0 := Fr.nil n0
  have K0 : Keep h0 h0 [] := Keep.refl h0 []
  show own_Fin p e below s (Q_own_rm3 Z p1 w cl h0 n0) R_own_rm3.cells R_own_rm3.slots (s₁.setTop (entryFrame m #[(.int p1)] 1))
  refine own_go (fun _ k => castTop (ef_own_rm3 m p1) k) ?_
  show own_Fin _ _ _ _ _ _ _ (s₁.setTop (mkF m 0 #[.val (.int p1)] []))
  refine own_go (B := s₁.setTop (mkF m 1 #[.val (.int p1)] [(.int p1)])) (fun _ k => XS.iloadN X0.here hx rfl (hb hby d3_0) rfl  k) ?_
  refine own_go (B := s₁.setTop (mkF m 3 #[.val (.int p1)] [(.int (-128 : Int32)), (.int p1)])) (fun _ k => XS.bipush X0.here hx rfl (hb hby d3_1) k) ?_
  by_cases hc1 : p1 < (-128 : Int32)
  · skip
    refine own_go (B := s₁.setTop (mkF m 23 #[.val (.int p1)] [])) (fun _ k => XS.icmpYes X0.here hx rfl (pc0 := 3) (pc' := 23) rfl (hb hby d3_3) rfl (tlt hc1).1 (by decide) (by decide) k) ?_
    obtain ⟨T2, h2, X2, e2, E2, A2, D2, -, st2⟩ := newO X0 hx hZ hown (own_w hw 30 rfl) (own_w hw 31 rfl) (own_w hw 15 rfl) e0 (g := (mkF m 23 #[.val (.int p1)] [])) rfl (hb hby d3_23) (by decide) (by decide)
    obtain ⟨b2, g2⟩ : ∃ z, z = h0.size := ⟨_, rfl⟩
    rw [← g2] at A2 D2 st2
    have ne_w_b2_3 : w ≠ b2 := Nat.ne_of_lt (Nat.lt_of_lt_of_le P_G_w_cache.lt (Nat.le_of_eq g2.symm))
    have sz_b2 : h0.size ≤ b2 := Nat.le_trans K0.1 (Nat.le_of_eq g2.symm)
    have g_b2 : n0 ≤ b2 := Nat.le_trans Z0 sz_b2
    have S_5 := P_S_java_lang_Integer_IntegerCache_high.ext E2
    have S_6 := P_S_java_lang_Integer_IntegerCache_cache.ext E2
    have G_7 := P_G_w_cache.ext E2
    have F_value_b2 : Fld Z h2 b2 "java/lang/Integer" "value" "I" (.int (0 : Int32)) := D2 (Or.inr (own_w hw 44 rfl)) (ty := .int) (by decide)
    have K8 : Keep h0 h2 [] := K0.ext E2
    refine own_go (B := T2.setTop (mkF m 26 #[.val (.int p1)] [(.ref b2)])) st2 ?_
    refine own_go (B := T2.setTop (mkF m 27 #[.val (.int p1)] [(.ref b2), (.ref b2)])) (fun _ k => XS.dup X2.here hx rfl (hb hby d3_26) rfl rfl k) ?_
    refine own_go (B := T2.setTop (mkF m 28 #[.val (.int p1)] [(.int p1), (.ref b2), (.ref b2)])) (fun _ k => XS.iloadN X2.here hx rfl (hb hby d3_27) rfl  k) ?_
    obtain ⟨_, _, ⟨T9, L9, k9, n9⟩, -, X9, ⟨Lc9, hQ9, l9, y9, z9⟩, st9⟩ := X2.specialBack hx (y := (⟨"java/lang/Integer", "<init>", "(I)V"⟩ : MethodName)) rfl hown (mvT hZ (own_w hw 32 rfl)) (mvT hZ (own_w hw 33 rfl)) (mvT hZ (own_w hw 35 rfl)) (by decide) (backOf (W := 1) (own_rm5 l Z a0 hw [] b2 p1 h2 n0 (Nat.le_trans Z0 K8.1) A2 F_value_b2 g_b2) hZ (own_w hw 35 rfl) (own_w hw 15 rfl) (by decide) (by decide)) (g := (mkF m 28 #[.val (.int p1)] [(.int p1), (.ref b2), (.ref b2)])) rfl (by rw [hml]; rfl) (Steps.refl _) (a := b2) (argsL := [(.int p1)]) (rest := [(.ref b2)]) (lenOf own_pd1 rfl) rfl (by show 2 * 0 + _ ≤ _; exact Nat.le_of_eq rfl) (hb hby d3_28) (fun _ _ => ⟨rfl, e2, (by decide : 1 + 0 ≤ _), (by decide : 1 + 0 ≤ _)⟩)
    dsimp only [Pt.U, Pt.locs, Pt.cells, Pt.slots] at X9 l9 y9 z9 st9 hQ9
    subst l9 y9 z9
    obtain ⟨rfl, N9q, K9q⟩ := hQ9
    have N9 := Fr.app N0 N9q
    have S_11 := own_Sta_keep S_5 K9q (allS (own_plain A2) all0)
    have S_12 := own_Sta_keep S_6 K9q (allS (own_plain A2) all0)
    have G_13 := G_7.keep K9q (ninS ne_w_b2_3 nin0)
    have E_14 := A2.keep K9q
    have K16 : Keep h0 T9.heap [] := K8.trans K9q (allS (Or.inr sz_b2) all0)
    refine own_go (B := T9.setTop (mkF m 31 #[.val (.int p1)] [(.ref b2)])) (fun _ k => st9.trans k) ?_
    exact own_retA X9 hx Bd.notSynchronized Bd.returns rfl rfl (hb hby d3_31) rfl ⟨b2, rfl, N9, K16, E_14⟩ (by decide) (by decide)
  · skip
    refine own_go (B := s₁.setTop (mkF m 6 #[.val (.int p1)] [])) (fun _ k => XS.icmpNo X0.here hx rfl (hb hby d3_3) rfl (flt hc1).1 k) ?_
    refine own_go (B := s₁.setTop (mkF m 7 #[.val (.int p1)] [(.int p1)])) (fun _ k => XS.iloadN X0.here hx rfl (hb hby d3_6) rfl  k) ?_
    obtain ⟨T17, X17, e17, st17⟩ := getS2 X0 hx hZ hown (host := "") (Or.inl (own_w hw 17 rfl)) Via.refl e0 P_S_java_lang_Integer_IntegerCache_high (g := (mkF m 7 #[.val (.int p1)] [(.int p1)])) rfl (hb hby d3_7)
    refine own_go (B := T17.setTop (mkF m 10 #[.val (.int p1)] [(.int (127 : Int32)), (.int p1)])) st17 ?_
    by_cases hc18 : (127 : Int32) < p1
    · skip
      refine own_go (B := T17.setTop (mkF m 23 #[.val (.int p1)] [])) (fun _ k => XS.icmpYes X17.here hx rfl (pc0 := 10) (pc' := 23) rfl (hb hby d3_10) rfl (tlt hc18).2.2.1 (by decide) (by decide) k) ?_
      obtain ⟨T19, h19, X19, e19, E19, A19, D19, -, st19⟩ := newO X17 hx hZ hown (own_w hw 30 rfl) (own_w hw 31 rfl) (own_w hw 15 rfl) e17 (g := (mkF m 23 #[.val (.int p1)] [])) rfl (hb hby d3_23) (by decide) (by decide)
      obtain ⟨b19, g19⟩ : ∃ z, z = h0.size := ⟨_, rfl⟩
      rw [← g19] at A19 D19 st19
      have ne_w_b19_20 : w ≠ b19 := Nat.ne_of_lt (Nat.lt_of_lt_of_le P_G_w_cache.lt (Nat.le_of_eq g19.symm))
      have sz_b19 : h0.size ≤ b19 := Nat.le_trans K0.1 (Nat.le_of_eq g19.symm)
      have g_b19 : n0 ≤ b19 := Nat.le_trans Z0 sz_b19
      have S_22 := P_S_java_lang_Integer_IntegerCache_high.ext E19
      have S_23 := P_S_java_lang_Integer_IntegerCache_cache.ext E19
      have G_24 := P_G_w_cache.ext E19
      have F_value_b19 : Fld Z h19 b19 "java/lang/Integer" "value" "I" (.int (0 : Int32)) := D19 (Or.inr (own_w hw 44 rfl)) (ty := .int) (by decide)
      have K25 : Keep h0 h19 [] := K0.ext E19
      refine own_go (B := T19.setTop (mkF m 26 #[.val (.int p1)] [(.ref b19)])) st19 ?_
      refine own_go (B := T19.setTop (mkF m 27 #[.val (.int p1)] [(.ref b19), (.ref b19)])) (fun _ k => XS.dup X19.here hx rfl (hb hby d3_26) rfl rfl k) ?_
      refine own_go (B := T19.setTop (mkF m 28 #[.val (.int p1)] [(.int p1), (.ref b19), (.ref b19)])) (fun _ k => XS.iloadN X19.here hx rfl (hb hby d3_27) rfl  k) ?_
      obtain ⟨_, _, ⟨T26, L26, k26, n26⟩, -, X26, ⟨Lc26, hQ26, l26, y26, z26⟩, st26⟩ := X19.specialBack hx (y := (⟨"java/lang/Integer", "<init>", "(I)V"⟩ : MethodName)) rfl hown (mvT hZ (own_w hw 32 rfl)) (mvT hZ (own_w hw 33 rfl)) (mvT hZ (own_w hw 35 rfl)) (by decide) (backOf (W := 1) (own_rm5 l Z a0 hw [] b19 p1 h19 n0 (Nat.le_trans Z0 K25.1) A19 F_value_b19 g_b19) hZ (own_w hw 35 rfl) (own_w hw 15 rfl) (by decide) (by decide)) (g := (mkF m 28 #[.val (.int p1)] [(.int p1), (.ref b19), (.ref b19)])) rfl (by rw [hml]; rfl) (Steps.refl _) (a := b19) (argsL := [(.int p1)]) (rest := [(.ref b19)]) (lenOf own_pd1 rfl) rfl (by show 2 * 0 + _ ≤ _; exact Nat.le_of_eq rfl) (hb hby d3_28) (fun _ _ => ⟨rfl, e19, (by decide : 1 + 0 ≤ _), (by decide : 1 + 0 ≤ _)⟩)
      dsimp only [Pt.U, Pt.locs, Pt.cells, Pt.slots] at X26 l26 y26 z26 st26 hQ26
      subst l26 y26 z26
      obtain ⟨rfl, N26q, K26q⟩ := hQ26
      have N26 := Fr.app N0 N26q
      have S_28 := own_Sta_keep S_22 K26q (allS (own_plain A19) all0)
      have S_29 := own_Sta_keep S_23 K26q (allS (own_plain A19) all0)
      have G_30 := G_24.keep K26q (ninS ne_w_b19_20 nin0)
      have E_31 := A19.keep K26q
      have K33 : Keep h0 T26.heap [] := K25.trans K26q (allS (Or.inr sz_b19) all0)
      refine own_go (B := T26.setTop (mkF m 31 #[.val (.int p1)] [(.ref b19)])) (fun _ k => st26.trans k) ?_
      exact own_retA X26 hx Bd.notSynchronized Bd.returns rfl rfl (hb hby d3_31) rfl ⟨b19, rfl, N26, K33, E_31⟩ (by decide) (by decide)
    · skip
      refine own_go (B := T17.setTop (mkF m 13 #[.val (.int p1)] [])) (fun _ k => XS.icmpNo X17.here hx rfl (hb hby d3_10) rfl (flt hc18).2.2.1 k) ?_
      obtain ⟨T34, X34, e34, st34⟩ := getS2 X17 hx hZ hown (host := "") (Or.inl (own_w hw 19 rfl)) Via.refl e17 P_S_java_lang_Integer_IntegerCache_cache (g := (mkF m 13 #[.val (.int p1)] [])) rfl (hb hby d3_13)
      refine own_go (B := T34.setTop (mkF m 16 #[.val (.int p1)] [(.ref w)])) st34 ?_
      refine own_go (B := T34.setTop (mkF m 17 #[.val (.int p1)] [(.int p1), (.ref w)])) (fun _ k => XS.iloadN X34.here hx rfl (hb hby d3_16) rfl  k) ?_
      refine own_go (B := T34.setTop (mkF m 20 #[.val (.int p1)] [(.int (128 : Int32)), (.int p1), (.ref w)])) (fun _ k => XS.sipush X34.here hx rfl (hb hby d3_17) k) ?_
      refine own_go (B := T34.setTop (mkF m 21 #[.val (.int p1)] [(.int (p1 + (128 : Int32))), (.ref w)])) (fun _ k => XS.iadd X34.here hx rfl (hb hby d3_20) rfl k) ?_
      obtain ⟨hin35, hlt35⟩ := own_place p1 hc1 hc18
      obtain ⟨z35, hz35, Ez35⟩ := P_G_w_cache.2.2 _ hlt35
      rw [← P_G_w_cache.2.1] at hin35
      refine own_go (B := T34.setTop (mkF m 22 #[.val (.int p1)] [(.ref z35)])) (fun _ k => X34.aaload hx (j := (p1 + (128 : Int32))) (v := .ref z35) (own_hc e34 P_G_w_cache.1.1) (State.isArrayOf_alike hZ.alike P_G_w_cache.1.2.1) rfl P_G_w_cache.1.2.2 hin35 hz35 (g := (mkF m 21 #[.val (.int p1)] [(.int (p1 + (128 : Int32))), (.ref w)])) rfl rfl (hb hby d3_21) _ k) ?_
      exact own_retA X34 hx Bd.notSynchronized Bd.returns rfl rfl (hb hby d3_22) e34 ⟨z35, rfl, N0, K0, Ez35⟩ (by decide) (by decide)
abbrev R_own_eq : Room := { frames := 0, cells := 0, slots := 0, locals := 0 }
theorem d4_0 : decode prog_13_method_10_code 0 = .ok (.aload_n 1, 1) := by decide +kernel
theorem d4_1 : decode prog_13_method_10_code 1 = .ok (.instanceof 8, 3) := by decide +kernel
theorem d4_4 : decode prog_13_method_10_code 4 = .ok (.ifCond .eq 34, 3) := by decide +kernel
theorem d4_7 : decode prog_13_method_10_code 7 = .ok (.aload_n 1, 1) := by decide +kernel
theorem d4_8 : decode prog_13_method_10_code 8 = .ok (.checkcast 8, 3) := by decide +kernel
theorem d4_11 : decode prog_13_method_10_code 11 = .ok (.astore_n 2, 1) := by decide +kernel
theorem d4_12 : decode prog_13_method_10_code 12 = .ok (.aload_n 0, 1) := by decide +kernel
theorem d4_13 : decode prog_13_method_10_code 13 = .ok (.getfield 7, 3) := by decide +kernel
theorem d4_16 : decode prog_13_method_10_code 16 = .ok (.aload_n 2, 1) := by decide +kernel
theorem d4_17 : decode prog_13_method_10_code 17 = .ok (.getfield 7, 3) := by decide +kernel
theorem d4_20 : decode prog_13_method_10_code 20 = .ok (.if_icmp .ne 18, 3) := by decide +kernel
theorem d4_23 : decode prog_13_method_10_code 23 = .ok (.aload_n 0, 1) := by decide +kernel
theorem d4_24 : decode prog_13_method_10_code 24 = .ok (.getfield 13, 3) := by decide +kernel
theorem d4_27 : decode prog_13_method_10_code 27 = .ok (.aload_n 2, 1) := by decide +kernel
theorem d4_28 : decode prog_13_method_10_code 28 = .ok (.getfield 13, 3) := by decide +kernel
theorem d4_31 : decode prog_13_method_10_code 31 = .ok (.if_icmp .ne 7, 3) := by decide +kernel
theorem d4_34 : decode prog_13_method_10_code 34 = .ok (.iconst 1, 1) := by decide +kernel
theorem d4_35 : decode prog_13_method_10_code 35 = .ok (.goto 4, 3) := by decide +kernel
theorem d4_38 : decode prog_13_method_10_code 38 = .ok (.iconst 0, 1) := by decide +kernel
theorem d4_39 : decode prog_13_method_10_code 39 = .ok (.ireturn, 1) := by decide +kernel
theorem ef_own_eq (m : MethodId) (x0 : Addr) (x1 : Addr) : entryFrame m #[(.ref x0), (.ref x1)] 3 = mkF m 0 #[.val (.ref x0), .val (.ref x1), .unset] [] := by first | (simp [entryFrame, mkF, argsToLocals, Value.category]; done) | rfl
set_option maxHeartbeats 2000000 in
theorem own_pl_eq_1 (p1 : Int32) (p2 : Int32) (p3 : Int32) (p4 : Int32) (hc6 : p1 = p3) (hc9 : p2 = p4) : p1.toInt = p3.toInt ∧ p2.toInt = p4.toInt := by
  have := rng32 p1
  have := rng32 p3
  have := rng32 p2
  have := rng32 p4
  try simp only [Int32.lt_iff_toInt_lt, Int32.le_iff_toInt_le, Int64.lt_iff_toInt_lt, Int64.le_iff_toInt_le, ← Int32.toInt_inj, ← Int64.toInt_inj, true_and, and_true, true_or, or_true, false_or, or_false, not_true_eq_false, not_false_eq_true, false_and, and_false] at *
  all_goals first | omega | (simp; done)
set_option maxHeartbeats 2000000 in
theorem own_pl_eq_2 (p1 : Int32) (p2 : Int32) (p3 : Int32) (p4 : Int32) (hc6 : p1 = p3) (hc9 : ¬ (p2 = p4)) : ¬ (p1.toInt = p3.toInt ∧ p2.toInt = p4.toInt) := by
  have := rng32 p1
  have := rng32 p3
  have := rng32 p2
  have := rng32 p4
  try simp only [Int32.lt_iff_toInt_lt, Int32.le_iff_toInt_le, Int64.lt_iff_toInt_lt, Int64.le_iff_toInt_le, ← Int32.toInt_inj, ← Int64.toInt_inj, true_and, and_true, true_or, or_true, false_or, or_false, not_true_eq_false, not_false_eq_true, false_and, and_false] at *
  all_goals first | omega | (simp; done)
set_option maxHeartbeats 2000000 in
theorem own_pl_eq_3 (p1 : Int32) (p2 : Int32) (p3 : Int32) (p4 : Int32) (hc6 : ¬ (p1 = p3)) : ¬ (p1.toInt = p3.toInt ∧ p2.toInt = p4.toInt) := by
  have := rng32 p1
  have := rng32 p3
  try simp only [Int32.lt_iff_toInt_lt, Int32.le_iff_toInt_le, Int64.lt_iff_toInt_lt, Int64.le_iff_toInt_le, ← Int32.toInt_inj, ← Int64.toInt_inj, true_and, and_true, true_or, or_true, false_or, or_false, not_true_eq_false, not_false_eq_true, false_and, and_false] at *
  all_goals first | omega | (simp; done)
def Q_own_eq (Z : State) (a1 : Addr) (a2 : Addr) (p1 : Int32) (p2 : Int32) (p3 : Int32) (p4 : Int32) (h0 : Heap) (n0 : Nat) (v : Option Value) (h : Heap) (L : List Loc) : Prop := v = some (.int (own_b (p1.toInt = p3.toInt ∧ p2.toInt = p4.toInt))) ∧ Fr n0 L ∧ h = h0
set_option maxRecDepth 65536 in
set_option maxHeartbeats 400000000 in
theorem own_eq (l : Launch) (Z : State) (a0 : Array Value) (hw : ∀ d ∈ tables_1, d.before a0 Z = true) (ws : List Jvm.Cond) (a1 : Addr) (a2 : Addr) (p1 : Int32) (p2 : Int32) (p3 : Int32) (p4 : Int32) (h0 : Heap) (n0 : Nat) (Z0 : n0 ≤ h0.size) (P_F_a1_day : Fld Z h0 a1 "com/example/carillon/carillon/Period" "day" "I" (.int p1)) (P_F_a1_periodOfDay : Fld Z h0 a1 "com/example/carillon/carillon/Period" "periodOfDay" "I" (.int p2)) (P_E_a2 : Exa Z h0 a2 "com/example/carillon/carillon/Period") (P_F_a2_day : Fld Z h0 a2 "com/example/carillon/carillon/Period" "day" "I" (.int p3)) (P_F_a2_periodOfDay : Fld Z h0 a2 "com/example/carillon/carillon/Period" "periodOfDay" "I" (.int p4)) :
    MetFree l (⟨"com/example/carillon/carillon/Period", "equals", "(Ljava/lang/Object;)Z"⟩ : MethodName) (head1 (Jvm.Cond.code (⟨"com/example/carillon/carillon/Period", "equals", "(Ljava/lang/Object;)Z"⟩ : MethodName) prog_13_method_10_code 3 (some .boolean) :: ws) R_own_eq) (fun a U => a = #[(.ref a1), (.ref a2)] ∧ Z.Warmed39 U.vm ∧ U.heap = h0) (fun _ _ _ _ _ => True) (fun _ U o U' => ∃ v L, o = .returned v ∧ Q_own_eq Z a1 a2 p1 p2 p3 p4 h0 n0 v U'.heap L ∧ FrameEnd U o U' L R_own_eq.cells R_own_eq.slots) := by
  refine MetFree.of_bodySF (plainFor_of_name own_pn0) hisR ?_
  intro p e s m args below meth c s₁ Bd hml0 hP hK
  obtain ⟨rfl, hZ, hh⟩ := hP
  have hx := Bd.exec
  have hby := Bd.bytes
  have hml : c.maxLocals = 3 := hml0
  have hown : s.vm.findClass "com/example/carillon/carillon/Period" = some m.cls := findClass_of_methodNamed Bd.named
  have hnm := (name_of_methodNamed Bd.named Bd.method).1
  have X0 : Stand p l e R_own_eq s m #[(.ref a1), (.ref a2)] below meth c s₁ [] 0 0 := Stand.of_body Bd
  have e0 : s₁.heap = h0 := by rw [← hh, Bd.state]; rfl
  have N0 := Fr.nil n0
  have K0 : Keep h0 h0 [] := Keep.refl h0 []
  show own_Fin p e below s (Q_own_eq Z a1 a2 p1 p2 p3 p4 h0 n0) R_own_eq.cells R_own_eq.slots (s₁.setTop (entryFrame m #[(.ref a1), (.ref a2)] 3))
  refine own_go (fun _ k => castTop (ef_own_eq m a1 a2) k) ?_
  show own_Fin _ _ _ _ _ _ _ (s₁.setTop (mkF m 0 #[.val (.ref a1), .val (.ref a2), .unset] []))
  refine own_go (B := s₁.setTop (mkF m 1 #[.val (.ref a1), .val (.ref a2), .unset] [(.ref a2)])) (fun _ k => XS.aloadN X0.here hx rfl (hb hby d4_0) rfl rfl k) ?_
  obtain ⟨T1, X1, e1, st1⟩ := instY X0 hx hZ hown (own_w hw 25 rfl) e0 (Ins.self P_E_a2) (g := (mkF m 1 #[.val (.ref a1), .val (.ref a2), .unset] [(.ref a2)])) rfl rfl (hb hby d4_1)
  refine own_go (B := T1.setTop (mkF m 4 #[.val (.ref a1), .val (.ref a2), .unset] [(.int (1 : Int32))])) st1 ?_
  have hc2 : ¬ ((1 : Int32) = (0 : Int32)) := by decide
  refine own_go (B := T1.setTop (mkF m 7 #[.val (.ref a1), .val (.ref a2), .unset] [])) (fun _ k => XS.ifNo X1.here hx rfl (hb hby d4_4) rfl ((if0 _ _).trans (feq hc2).1) k) ?_
  refine own_go (B := T1.setTop (mkF m 8 #[.val (.ref a1), .val (.ref a2), .unset] [(.ref a2)])) (fun _ k => XS.aloadN X1.here hx rfl (hb hby d4_7) rfl rfl k) ?_
  obtain ⟨T3, X3, e3, st3⟩ := castY X1 hx hZ hown (own_w hw 25 rfl) e1 (Ins.self P_E_a2) (g := (mkF m 8 #[.val (.ref a1), .val (.ref a2), .unset] [(.ref a2)])) rfl rfl (hb hby d4_8)
  refine own_go (B := T3.setTop (mkF m 11 #[.val (.ref a1), .val (.ref a2), .unset] [(.ref a2)])) st3 ?_
  refine own_go (B := T3.setTop (mkF m 12 #[.val (.ref a1), .val (.ref a2), .val (.ref a2)] [])) (fun _ k => XS.astoreN X3.here hx rfl (hb hby d4_11) rfl rfl (l' := #[.val (.ref a1), .val (.ref a2), .val (.ref a2)]) rfl k) ?_
  refine own_go (B := T3.setTop (mkF m 13 #[.val (.ref a1), .val (.ref a2), .val (.ref a2)] [(.ref a1)])) (fun _ k => XS.aloadN X3.here hx rfl (hb hby d4_12) rfl rfl k) ?_
  obtain ⟨T4, X4, e4, st4⟩ := getF X3 hx hZ hown (host := "") (Or.inl (own_w hw 9 rfl)) Via.refl e3 P_F_a1_day (g := (mkF m 13 #[.val (.ref a1), .val (.ref a2), .val (.ref a2)] [(.ref a1)])) rfl rfl (hb hby d4_13)
  refine own_go (B := T4.setTop (mkF m 16 #[.val (.ref a1), .val (.ref a2), .val (.ref a2)] [(.int p1)])) st4 ?_
  refine own_go (B := T4.setTop (mkF m 17 #[.val (.ref a1), .val (.ref a2), .val (.ref a2)] [(.ref a2), (.int p1)])) (fun _ k => XS.aloadN X4.here hx rfl (hb hby d4_16) rfl rfl k) ?_
  obtain ⟨T5, X5, e5, st5⟩ := getF X4 hx hZ hown (host := "") (Or.inl (own_w hw 9 rfl)) Via.refl e4 P_F_a2_day (g := (mkF m 17 #[.val (.ref a1), .val (.ref a2), .val (.ref a2)] [(.ref a2), (.int p1)])) rfl rfl (hb hby d4_17)
  refine own_go (B := T5.setTop (mkF m 20 #[.val (.ref a1), .val (.ref a2), .val (.ref a2)] [(.int p3), (.int p1)])) st5 ?_
  by_cases hc6 : p1 = p3
  · skip
    refine own_go (B := T5.setTop (mkF m 23 #[.val (.ref a1), .val (.ref a2), .val (.ref a2)] [])) (fun _ k => XS.icmpNo X5.here hx rfl (hb hby d4_20) rfl (teq hc6).2 k) ?_
    refine own_go (B := T5.setTop (mkF m 24 #[.val (.ref a1), .val (.ref a2), .val (.ref a2)] [(.ref a1)])) (fun _ k => XS.aloadN X5.here hx rfl (hb hby d4_23) rfl rfl k) ?_
    obtain ⟨T7, X7, e7, st7⟩ := getF X5 hx hZ hown (host := "") (Or.inl (own_w hw 11 rfl)) Via.refl e5 P_F_a1_periodOfDay (g := (mkF m 24 #[.val (.ref a1), .val (.ref a2), .val (.ref a2)] [(.ref a1)])) rfl rfl (hb hby d4_24)
    refine own_go (B := T7.setTop (mkF m 27 #[.val (.ref a1), .val (.ref a2), .val (.ref a2)] [(.int p2)])) st7 ?_
    refine own_go (B := T7.setTop (mkF m 28 #[.val (.ref a1), .val (.ref a2), .val (.ref a2)] [(.ref a2), (.int p2)])) (fun _ k => XS.aloadN X7.here hx rfl (hb hby d4_27) rfl rfl k) ?_
    obtain ⟨T8, X8, e8, st8⟩ := getF X7 hx hZ hown (host := "") (Or.inl (own_w hw 11 rfl)) Via.refl e7 P_F_a2_periodOfDay (g := (mkF m 28 #[.val (.ref a1), .val (.ref a2), .val (.ref a2)] [(.ref a2), (.int p2)])) rfl rfl (hb hby d4_28)
    refine own_go (B := T8.setTop (mkF m 31 #[.val (.ref a1), .val (.ref a2), .val (.ref a2)] [(.int p4), (.int p2)])) st8 ?_
    by_cases hc9 : p2 = p4
    · skip
      refine own_go (B := T8.setTop (mkF m 34 #[.val (.ref a1), .val (.ref a2), .val (.ref a2)] [])) (fun _ k => XS.icmpNo X8.here hx rfl (hb hby d4_31) rfl (teq hc9).2 k) ?_
      refine own_go (B := T8.setTop (mkF m 35 #[.val (.ref a1), .val (.ref a2), .val (.ref a2)] [(.int (1 : Int32))])) (fun _ k => XS.iconst X8.here hx rfl (hb hby d4_34) k) ?_
      refine own_go (B := T8.setTop (mkF m 39 #[.val (.ref a1), .val (.ref a2), .val (.ref a2)] [(.int (1 : Int32))])) (fun _ k => XS.goto X8.here hx rfl (pc0 := 35) (pc' := 39) rfl (hb hby d4_35) (by decide) (by decide) k) ?_
      exact own_retN X8 hx Bd.notSynchronized (t := .boolean) (w := (1 : Int32)) Bd.returns (by simp) (hb hby d4_39) e8 rfl ⟨(by rw [own_b1 (own_pl_eq_1 p1 p2 p3 p4 hc6 hc9)]), N0, rfl⟩ (by decide) (by decide)
    · skip
      refine own_go (B := T8.setTop (mkF m 38 #[.val (.ref a1), .val (.ref a2), .val (.ref a2)] [])) (fun _ k => XS.icmpYes X8.here hx rfl (pc0 := 31) (pc' := 38) rfl (hb hby d4_31) rfl (feq hc9).2 (by decide) (by decide) k) ?_
      refine own_go (B := T8.setTop (mkF m 39 #[.val (.ref a1), .val (.ref a2), .val (.ref a2)] [(.int (0 : Int32))])) (fun _ k => XS.iconst X8.here hx rfl (hb hby d4_38) k) ?_
      exact own_retN X8 hx Bd.notSynchronized (t := .boolean) (w := (0 : Int32)) Bd.returns (by simp) (hb hby d4_39) e8 rfl ⟨(by rw [own_b0 (own_pl_eq_2 p1 p2 p3 p4 hc6 hc9)]), N0, rfl⟩ (by decide) (by decide)
  · skip
    refine own_go (B := T5.setTop (mkF m 38 #[.val (.ref a1), .val (.ref a2), .val (.ref a2)] [])) (fun _ k => XS.icmpYes X5.here hx rfl (pc0 := 20) (pc' := 38) rfl (hb hby d4_20) rfl (feq hc6).2 (by decide) (by decide) k) ?_
    refine own_go (B := T5.setTop (mkF m 39 #[.val (.ref a1), .val (.ref a2), .val (.ref a2)] [(.int (0 : Int32))])) (fun _ k => XS.iconst X5.here hx rfl (hb hby d4_38) k) ?_
    exact own_retN X5 hx Bd.notSynchronized (t := .boolean) (w := (0 : Int32)) Bd.returns (by simp) (hb hby d4_39) e5 rfl ⟨(by rw [own_b0 (own_pl_eq_3 p1 p2 p3 p4 hc6)]), N0, rfl⟩ (by decide) (by decide)
abbrev R_own_eqN : Room := { frames := 0, cells := 0, slots := 0, locals := 0 }
theorem ef_own_eqN (m : MethodId) (x0 : Addr) : entryFrame m #[(.ref x0), .null] 3 = mkF m 0 #[.val (.ref x0), .val .null, .unset] [] := by first | (simp [entryFrame, mkF, argsToLocals, Value.category]; done) | rfl
def Q_own_eqN (Z : State) (a1 : Addr) (h0 : Heap) (n0 : Nat) (v : Option Value) (h : Heap) (L : List Loc) : Prop := v = some (.int (0 : Int32)) ∧ Fr n0 L ∧ h = h0
set_option maxRecDepth 65536 in
set_option maxHeartbeats 400000000 in
theorem own_eqN (l : Launch) (Z : State) (a0 : Array Value) (hw : ∀ d ∈ tables_1, d.before a0 Z = true) (ws : List Jvm.Cond) (a1 : Addr) (h0 : Heap) (n0 : Nat) (Z0 : n0 ≤ h0.size)  :
    MetFree l (⟨"com/example/carillon/carillon/Period", "equals", "(Ljava/lang/Object;)Z"⟩ : MethodName) (head1 (Jvm.Cond.code (⟨"com/example/carillon/carillon/Period", "equals", "(Ljava/lang/Object;)Z"⟩ : MethodName) prog_13_method_10_code 3 (some .boolean) :: ws) R_own_eqN) (fun a U => a = #[(.ref a1), .null] ∧ Z.Warmed39 U.vm ∧ U.heap = h0) (fun _ _ _ _ _ => True) (fun _ U o U' => ∃ v L, o = .returned v ∧ Q_own_eqN Z a1 h0 n0 v U'.heap L ∧ FrameEnd U o U' L R_own_eqN.cells R_own_eqN.slots) := by
  refine MetFree.of_bodySF (plainFor_of_name own_pn0) hisR ?_
  intro p e s m args below meth c s₁ Bd hml0 hP hK
  obtain ⟨rfl, hZ, hh⟩ := hP
  have hx := Bd.exec
  have hby := Bd.bytes
  have hml : c.maxLocals = 3 := hml0
  have hown : s.vm.findClass "com/example/carillon/carillon/Period" = some m.cls := findClass_of_methodNamed Bd.named
  have hnm := (name_of_methodNamed Bd.named Bd.method).1
  have X0 : Stand p l e R_own_eqN s m #[(.ref a1), .null] below meth c s₁ [] 0 0 := Stand.of_body Bd
  have e0 : s₁.heap = h0 := by rw [← hh, Bd.state]; rfl
  have N0 := Fr.nil n0
  have K0 : Keep h0 h0 [] := Keep.refl h0 []
  show own_Fin p e below s (Q_own_eqN Z a1 h0 n0) R_own_eqN.cells R_own_eqN.slots (s₁.setTop (entryFrame m #[(.ref a1), .null] 3))
  refine own_go (fun _ k => castTop (ef_own_eqN m a1) k) ?_
  show own_Fin _ _ _ _ _ _ _ (s₁.setTop (mkF m 0 #[.val (.ref a1), .val .null, .unset] []))
  refine own_go (B := s₁.setTop (mkF m 1 #[.val (.ref a1), .val .null, .unset] [.null])) (fun _ k => XS.aloadN X0.here hx rfl (hb hby d4_0) rfl rfl k) ?_
  refine own_go (B := s₁.setTop (mkF m 4 #[.val (.ref a1), .val .null, .unset] [(.int (0 : Int32))])) (fun _ k => X0.instanceofNull hx (g := (mkF m 1 #[.val (.ref a1), .val .null, .unset] [.null])) rfl rfl (hb hby d4_1) _ k) ?_
  have hc1 : (0 : Int32) = (0 : Int32) := by decide
  refine own_go (B := s₁.setTop (mkF m 38 #[.val (.ref a1), .val .null, .unset] [])) (fun _ k => XS.ifYes X0.here hx rfl (pc0 := 4) (pc' := 38) rfl (hb hby d4_4) rfl ((if0 _ _).trans (teq hc1).1) (by decide) (by decide) k) ?_
  refine own_go (B := s₁.setTop (mkF m 39 #[.val (.ref a1), .val .null, .unset] [(.int (0 : Int32))])) (fun _ k => XS.iconst X0.here hx rfl (hb hby d4_38) k) ?_
  exact own_retN X0 hx Bd.notSynchronized (t := .boolean) (w := (0 : Int32)) Bd.returns (by simp) (hb hby d4_39) e0 rfl ⟨rfl, N0, rfl⟩ (by decide) (by decide)
abbrev R_own_eqI : Room := { frames := 0, cells := 0, slots := 0, locals := 0 }
theorem ef_own_eqI (m : MethodId) (x0 : Addr) (x1 : Addr) : entryFrame m #[(.ref x0), (.ref x1)] 3 = mkF m 0 #[.val (.ref x0), .val (.ref x1), .unset] [] := by first | (simp [entryFrame, mkF, argsToLocals, Value.category]; done) | rfl
def Q_own_eqI (Z : State) (a1 : Addr) (a2 : Addr) (h0 : Heap) (n0 : Nat) (v : Option Value) (h : Heap) (L : List Loc) : Prop := v = some (.int (0 : Int32)) ∧ Fr n0 L ∧ h = h0
set_option maxRecDepth 65536 in
set_option maxHeartbeats 400000000 in
theorem own_eqI (l : Launch) (Z : State) (a0 : Array Value) (hw : ∀ d ∈ tables_1, d.before a0 Z = true) (ws : List Jvm.Cond) (a1 : Addr) (a2 : Addr) (h0 : Heap) (n0 : Nat) (Z0 : n0 ≤ h0.size) (P_E_a2 : Exa Z h0 a2 "java/lang/Integer") :
    MetFree l (⟨"com/example/carillon/carillon/Period", "equals", "(Ljava/lang/Object;)Z"⟩ : MethodName) (head1 (Jvm.Cond.code (⟨"com/example/carillon/carillon/Period", "equals", "(Ljava/lang/Object;)Z"⟩ : MethodName) prog_13_method_10_code 3 (some .boolean) :: ws) R_own_eqI) (fun a U => a = #[(.ref a1), (.ref a2)] ∧ Z.Warmed39 U.vm ∧ U.heap = h0) (fun _ _ _ _ _ => True) (fun _ U o U' => ∃ v L, o = .returned v ∧ Q_own_eqI Z a1 a2 h0 n0 v U'.heap L ∧ FrameEnd U o U' L R_own_eqI.cells R_own_eqI.slots) := by
  refine MetFree.of_bodySF (plainFor_of_name own_pn0) hisR ?_
  intro p e s m args below meth c s₁ Bd hml0 hP hK
  obtain ⟨rfl, hZ, hh⟩ := hP
  have hx := Bd.exec
  have hby := Bd.bytes
  have hml : c.maxLocals = 3 := hml0
  have hown : s.vm.findClass "com/example/carillon/carillon/Period" = some m.cls := findClass_of_methodNamed Bd.named
  have hnm := (name_of_methodNamed Bd.named Bd.method).1
  have X0 : Stand p l e R_own_eqI s m #[(.ref a1), (.ref a2)] below meth c s₁ [] 0 0 := Stand.of_body Bd
  have e0 : s₁.heap = h0 := by rw [← hh, Bd.state]; rfl
  have N0 := Fr.nil n0
  have K0 : Keep h0 h0 [] := Keep.refl h0 []
  show own_Fin p e below s (Q_own_eqI Z a1 a2 h0 n0) R_own_eqI.cells R_own_eqI.slots (s₁.setTop (entryFrame m #[(.ref a1), (.ref a2)] 3))
  refine own_go (fun _ k => castTop (ef_own_eqI m a1 a2) k) ?_
  show own_Fin _ _ _ _ _ _ _ (s₁.setTop (mkF m 0 #[.val (.ref a1), .val (.ref a2), .unset] []))
  refine own_go (B := s₁.setTop (mkF m 1 #[.val (.ref a1), .val (.ref a2), .unset] [(.ref a2)])) (fun _ k => XS.aloadN X0.here hx rfl (hb hby d4_0) rfl rfl k) ?_
  obtain ⟨T1, X1, e1, st1⟩ := instNo X0 hx hZ hown (own_w hw 25 rfl) e0 P_E_a2 (own_NSno (own_w hw 27 rfl) (own_w hw 1 rfl) (NS.step (own_w hw 27 rfl) (NS.step (own_w hw 28 rfl) (own_NSroot (own_w hw 29 rfl) (own_w hw 1 rfl) (by decide)) (by decide)) (by decide)) (by decide)) (g := (mkF m 1 #[.val (.ref a1), .val (.ref a2), .unset] [(.ref a2)])) rfl rfl (hb hby d4_1)
  refine own_go (B := T1.setTop (mkF m 4 #[.val (.ref a1), .val (.ref a2), .unset] [(.int (0 : Int32))])) st1 ?_
  have hc2 : (0 : Int32) = (0 : Int32) := by decide
  refine own_go (B := T1.setTop (mkF m 38 #[.val (.ref a1), .val (.ref a2), .unset] [])) (fun _ k => XS.ifYes X1.here hx rfl (pc0 := 4) (pc' := 38) rfl (hb hby d4_4) rfl ((if0 _ _).trans (teq hc2).1) (by decide) (by decide) k) ?_
  refine own_go (B := T1.setTop (mkF m 39 #[.val (.ref a1), .val (.ref a2), .unset] [(.int (0 : Int32))])) (fun _ k => XS.iconst X1.here hx rfl (hb hby d4_38) k) ?_
  exact own_retN X1 hx Bd.notSynchronized (t := .boolean) (w := (0 : Int32)) Bd.returns (by simp) (hb hby d4_39) e1 rfl ⟨rfl, N0, rfl⟩ (by decide) (by decide)
theorem own_pn3 : plainName "com/example/carillon/carillon/PeriodEqualsPinLaw" = true := by first | (simp [plainName, overriddenIn]; done) | decide +kernel
theorem ef_own_rm0 (m : MethodId) (x0 : Int32) (x1 : Int32) (x2 : Int32) (x3 : Int32) (x4 : Int32) : entryFrame m #[(.int x0), (.int x1), (.int x2), (.int x3), (.int x4)] maxLocals = mkF m 0 #[.val (.int x0), .val (.int x1), .val (.int x2), .val (.int x3), .val (.int x4), .unset, .unset, .unset, .unset, .unset, .unset, .unset] [] := by first | (simp [entryFrame, mkF, argsToLocals, Value.category, maxLocals]; done) | rfl
set_option maxHeartbeats 2000000 in
theorem own_pl_rm0_1 (p1 : Int32) (p2 : Int32) (c2 : Int32) (d2 : Int32) (hc56 : p1 = c2) (hc57 : p2 = d2) : p1.toInt = c2.toInt ∧ p2.toInt = d2.toInt := by
  have := rng32 p1
  have := rng32 c2
  have := rng32 p2
  have := rng32 d2
  try simp only [Int32.lt_iff_toInt_lt, Int32.le_iff_toInt_le, Int64.lt_iff_toInt_lt, Int64.le_iff_toInt_le, ← Int32.toInt_inj, ← Int64.toInt_inj, true_and, and_true, true_or, or_true, false_or, or_false, not_true_eq_false, not_false_eq_true, false_and, and_false] at *
  all_goals first | omega | (simp; done)
set_option maxHeartbeats 2000000 in
theorem own_pl_rm0_2 (p1 : Int32) (p2 : Int32) (c2 : Int32) (d2 : Int32) (hc56 : p1 = c2) (hc57 : p2 = d2) (hc59 : p1.toInt = c2.toInt ∧ p2.toInt = d2.toInt) : c2.toInt = p1.toInt ∧ d2.toInt = p2.toInt := by
  have := rng32 p1
  have := rng32 c2
  have := rng32 p2
  have := rng32 d2
  try simp only [Int32.lt_iff_toInt_lt, Int32.le_iff_toInt_le, Int64.lt_iff_toInt_lt, Int64.le_iff_toInt_le, ← Int32.toInt_inj, ← Int64.toInt_inj, true_and, and_true, true_or, or_true, false_or, or_false, not_true_eq_false, not_false_eq_true, false_and, and_false] at *
  all_goals first | omega | (simp; done)
set_option maxHeartbeats 2000000 in
theorem own_pl_rm0_3 (p1 : Int32) (p2 : Int32) (c2 : Int32) (d2 : Int32) (hc56 : p1 = c2) (hc57 : p2 = d2) (hc59 : p1.toInt = c2.toInt ∧ p2.toInt = d2.toInt) (hc63 : c2.toInt = p1.toInt ∧ d2.toInt = p2.toInt) : p1.toInt = p1.toInt ∧ p2.toInt = p2.toInt := by
  have := rng32 p1
  have := rng32 c2
  have := rng32 p2
  have := rng32 d2
  try simp only [Int32.lt_iff_toInt_lt, Int32.le_iff_toInt_le, Int64.lt_iff_toInt_lt, Int64.le_iff_toInt_le, ← Int32.toInt_inj, ← Int64.toInt_inj, true_and, and_true, true_or, or_true, false_or, or_false, not_true_eq_false, not_false_eq_true, false_and, and_false] at *
  all_goals first | omega | (simp; done)
set_option maxHeartbeats 2000000 in
theorem own_pl_rm0_4 (p1 : Int32) (p2 : Int32) (c2 : Int32) (d2 : Int32) (hc56 : p1 = c2) (hc57 : ¬ (p2 = d2)) : ¬ (p1.toInt = c2.toInt ∧ p2.toInt = d2.toInt) := by
  have := rng32 p1
  have := rng32 c2
  have := rng32 p2
  have := rng32 d2
  try simp only [Int32.lt_iff_toInt_lt, Int32.le_iff_toInt_le, Int64.lt_iff_toInt_lt, Int64.le_iff_toInt_le, ← Int32.toInt_inj, ← Int64.toInt_inj, true_and, and_true, true_or, or_true, false_or, or_false, not_true_eq_false, not_false_eq_true, false_and, and_false] at *
  all_goals first | omega | (simp; done)
set_option maxHeartbeats 2000000 in
theorem own_pl_rm0_5 (p1 : Int32) (p2 : Int32) (c2 : Int32) (d2 : Int32) (hc56 : p1 = c2) (hc57 : ¬ (p2 = d2)) (hc76 : ¬ (p1.toInt = c2.toInt ∧ p2.toInt = d2.toInt)) : ¬ (c2.toInt = p1.toInt ∧ d2.toInt = p2.toInt) := by
  have := rng32 p1
  have := rng32 c2
  have := rng32 p2
  have := rng32 d2
  try simp only [Int32.lt_iff_toInt_lt, Int32.le_iff_toInt_le, Int64.lt_iff_toInt_lt, Int64.le_iff_toInt_le, ← Int32.toInt_inj, ← Int64.toInt_inj, true_and, and_true, true_or, or_true, false_or, or_false, not_true_eq_false, not_false_eq_true, false_and, and_false] at *
  all_goals first | omega | (simp; done)
set_option maxHeartbeats 2000000 in
theorem own_pl_rm0_6 (p1 : Int32) (p2 : Int32) (c2 : Int32) (d2 : Int32) (hc56 : p1 = c2) (hc57 : ¬ (p2 = d2)) (hc76 : ¬ (p1.toInt = c2.toInt ∧ p2.toInt = d2.toInt)) (hc80 : ¬ (c2.toInt = p1.toInt ∧ d2.toInt = p2.toInt)) : p1.toInt = p1.toInt ∧ p2.toInt = p2.toInt := by
  have := rng32 p1
  have := rng32 c2
  have := rng32 p2
  have := rng32 d2
  try simp only [Int32.lt_iff_toInt_lt, Int32.le_iff_toInt_le, Int64.lt_iff_toInt_lt, Int64.le_iff_toInt_le, ← Int32.toInt_inj, ← Int64.toInt_inj, true_and, and_true, true_or, or_true, false_or, or_false, not_true_eq_false, not_false_eq_true, false_and, and_false] at *
  all_goals first | omega | (simp; done)
set_option maxHeartbeats 2000000 in
theorem own_pl_rm0_7 (p1 : Int32) (p2 : Int32) (c2 : Int32) (d2 : Int32) (hc56 : ¬ (p1 = c2)) : ¬ (p1.toInt = c2.toInt ∧ p2.toInt = d2.toInt) := by
  have := rng32 p1
  have := rng32 c2
  have := rng32 p2
  have := rng32 d2
  try simp only [Int32.lt_iff_toInt_lt, Int32.le_iff_toInt_le, Int64.lt_iff_toInt_lt, Int64.le_iff_toInt_le, ← Int32.toInt_inj, ← Int64.toInt_inj, true_and, and_true, true_or, or_true, false_or, or_false, not_true_eq_false, not_false_eq_true, false_and, and_false] at *
  all_goals first | omega | (simp; done)
set_option maxHeartbeats 2000000 in
theorem own_pl_rm0_8 (p1 : Int32) (p2 : Int32) (c2 : Int32) (d2 : Int32) (hc56 : ¬ (p1 = c2)) (hc93 : ¬ (p1.toInt = c2.toInt ∧ p2.toInt = d2.toInt)) : ¬ (c2.toInt = p1.toInt ∧ d2.toInt = p2.toInt) := by
  have := rng32 p1
  have := rng32 c2
  have := rng32 p2
  have := rng32 d2
  try simp only [Int32.lt_iff_toInt_lt, Int32.le_iff_toInt_le, Int64.lt_iff_toInt_lt, Int64.le_iff_toInt_le, ← Int32.toInt_inj, ← Int64.toInt_inj, true_and, and_true, true_or, or_true, false_or, or_false, not_true_eq_false, not_false_eq_true, false_and, and_false] at *
  all_goals first | omega | (simp; done)
set_option maxHeartbeats 2000000 in
theorem own_pl_rm0_9 (p1 : Int32) (p2 : Int32) (c2 : Int32) (d2 : Int32) (hc56 : ¬ (p1 = c2)) (hc93 : ¬ (p1.toInt = c2.toInt ∧ p2.toInt = d2.toInt)) (hc97 : ¬ (c2.toInt = p1.toInt ∧ d2.toInt = p2.toInt)) : p1.toInt = p1.toInt ∧ p2.toInt = p2.toInt := by
  have := rng32 p1
  have := rng32 c2
  have := rng32 p2
  have := rng32 d2
  try simp only [Int32.lt_iff_toInt_lt, Int32.le_iff_toInt_le, Int64.lt_iff_toInt_lt, Int64.le_iff_toInt_le, ← Int32.toInt_inj, ← Int64.toInt_inj, true_and, and_true, true_or, or_true, false_or, or_false, not_true_eq_false, not_false_eq_true, false_and, and_false] at *
  all_goals first | omega | (simp; done)
def Q_own_rm0 (Z : State) (p1 : Int32) (p2 : Int32) (p3 : Int32) (p4 : Int32) (p5 : Int32) (w : Addr) (cl : Cell) (h0 : Heap) (n0 : Nat) (v : Option Value) (h : Heap) (L : List Loc) : Prop := v = some (.int (1 : Int32)) ∧ Fr n0 L ∧ Keep h0 h []
set_option maxRecDepth 65536 in
set_option maxHeartbeats 400000000 in
theorem own_rm0 (l : Launch) (Z : State) (a0 : Array Value) (hw : ∀ d ∈ tables_1, d.before a0 Z = true) (ws : List Jvm.Cond) (p1 : Int32) (p2 : Int32) (p3 : Int32) (p4 : Int32) (p5 : Int32) (w : Addr) (cl : Cell) (h0 : Heap) (n0 : Nat) (Z0 : n0 ≤ h0.size) (P_S_java_lang_Integer_IntegerCache_high : Sta Z h0 "java/lang/Integer$IntegerCache" "high" "I" (.int (127 : Int32))) (P_S_java_lang_Integer_IntegerCache_cache : Sta Z h0 "java/lang/Integer$IntegerCache" "cache" "[Ljava/lang/Integer;" (.ref w)) (P_G_w_cache : own_Cache Z h0 w cl) :
    MetFree l x (head1 (Jvm.Cond.code x code maxLocals ret :: ws) room_1) (fun a U => a = #[(.int p1), (.int p2), (.int p3), (.int p4), (.int p5)] ∧ Z.Warmed39 U.vm ∧ U.heap = h0) (fun _ _ _ _ _ => True) (fun _ U o U' => ∃ v L, o = .returned v ∧ Q_own_rm0 Z p1 p2 p3 p4 p5 w cl h0 n0 v U'.heap L ∧ FrameEnd U o U' L 3 5) := by
  refine MetFree.of_bodySF (plainFor_of_name own_pn3) hisR ?_
  intro p e s m args below meth c s₁ Bd hml0 hP hK
  obtain ⟨rfl, hZ, hh⟩ := hP
  have hx := Bd.exec
  have hby := Bd.bytes
  have hml : c.maxLocals = 12 := hml0
  have hown : s.vm.findClass "com/example/carillon/carillon/PeriodEqualsPinLaw" = some m.cls := findClass_of_methodNamed Bd.named
  have hnm := (name_of_methodNamed Bd.named Bd.method).1
  have X0 : Stand p l e room_1 s m #[(.int p1), (.int p2), (.int p3), (.int p4), (.int p5)] below meth c s₁ [] 0 0 := Stand.of_body Bd
  have e0 : s₁.heap = h0 := by rw [← hh, Bd.state]; rfl
  have N0 := Fr.nil n0
  have K0 : Keep h0 h0 [] := Keep.refl h0 []
  show own_Fin p e below s (Q_own_rm0 Z p1 p2 p3 p4 p5 w cl h0 n0) 3 5 (s₁.setTop (entryFrame m #[(.int p1), (.int p2), (.int p3), (.int p4), (.int p5)] maxLocals))
  refine own_go (fun _ k => castTop (ef_own_rm0 m p1 p2 p3 p4 p5) k) ?_
  show own_Fin _ _ _ _ _ _ _ (s₁.setTop (mkF m 0 #[.val (.int p1), .val (.int p2), .val (.int p3), .val (.int p4), .val (.int p5), .unset, .unset, .unset, .unset, .unset, .unset, .unset] []))
  have J1 : ∀ (c2 : Int32), own_Fin p e below s (Q_own_rm0 Z p1 p2 p3 p4 p5 w cl h0 n0) 3 5 (s₁.setTop (mkF m 14 #[.val (.int p1), .val (.int p2), .val (.int p3), .val (.int p4), .val (.int p5), .val (.int c2), .unset, .unset, .unset, .unset, .unset, .unset] [])) := by
    intro c2
    have J3 : ∀ (d2 : Int32), own_Fin p e below s (Q_own_rm0 Z p1 p2 p3 p4 p5 w cl h0 n0) 3 5 (s₁.setTop (mkF m 28 #[.val (.int p1), .val (.int p2), .val (.int p3), .val (.int p4), .val (.int p5), .val (.int c2), .val (.int d2), .unset, .unset, .unset, .unset, .unset] [])) := by
      intro d2
      obtain ⟨T5, h5, X5, e5, E5, A5, D5, -, st5⟩ := newO X0 hx hZ hown (own_w hw 0 rfl) (own_w hw 1 rfl) (own_w hw 2 rfl) e0 (g := (mkF m 28 #[.val (.int p1), .val (.int p2), .val (.int p3), .val (.int p4), .val (.int p5), .val (.int c2), .val (.int d2), .unset, .unset, .unset, .unset, .unset] [])) rfl (hb hby at_28) (by decide) (by decide)
      obtain ⟨b5, g5⟩ : ∃ z, z = h0.size := ⟨_, rfl⟩
      rw [← g5] at A5 D5 st5
      have ne_w_b5_6 : w ≠ b5 := Nat.ne_of_lt (Nat.lt_of_lt_of_le P_G_w_cache.lt (Nat.le_of_eq g5.symm))
      have sz_b5 : h0.size ≤ b5 := Nat.le_trans K0.1 (Nat.le_of_eq g5.symm)
      have g_b5 : n0 ≤ b5 := Nat.le_trans Z0 sz_b5
      have S_8 := P_S_java_lang_Integer_IntegerCache_high.ext E5
      have S_9 := P_S_java_lang_Integer_IntegerCache_cache.ext E5
      have G_10 := P_G_w_cache.ext E5
      have F_day_b5 : Fld Z h5 b5 "com/example/carillon/carillon/Period" "day" "I" (.int (0 : Int32)) := D5 (Or.inr (own_w hw 10 rfl)) (ty := .int) (by decide)
      have F_periodOfDay_b5 : Fld Z h5 b5 "com/example/carillon/carillon/Period" "periodOfDay" "I" (.int (0 : Int32)) := D5 (Or.inr (own_w hw 12 rfl)) (ty := .int) (by decide)
      have K11 : Keep h0 h5 [] := K0.ext E5
      refine own_go (B := T5.setTop (mkF m 31 #[.val (.int p1), .val (.int p2), .val (.int p3), .val (.int p4), .val (.int p5), .val (.int c2), .val (.int d2), .unset, .unset, .unset, .unset, .unset] [(.ref b5)])) st5 ?_
      refine own_go (B := T5.setTop (mkF m 32 #[.val (.int p1), .val (.int p2), .val (.int p3), .val (.int p4), .val (.int p5), .val (.int c2), .val (.int d2), .unset, .unset, .unset, .unset, .unset] [(.ref b5), (.ref b5)])) (fun _ k => XS.dup X5.here hx rfl (hb hby at_31) rfl rfl k) ?_
      refine own_go (B := T5.setTop (mkF m 33 #[.val (.int p1), .val (.int p2), .val (.int p3), .val (.int p4), .val (.int p5), .val (.int c2), .val (.int d2), .unset, .unset, .unset, .unset, .unset] [(.int p1), (.ref b5), (.ref b5)])) (fun _ k => XS.iloadN X5.here hx rfl (hb hby at_32) rfl  k) ?_
      refine own_go (B := T5.setTop (mkF m 34 #[.val (.int p1), .val (.int p2), .val (.int p3), .val (.int p4), .val (.int p5), .val (.int c2), .val (.int d2), .unset, .unset, .unset, .unset, .unset] [(.int p2), (.int p1), (.ref b5), (.ref b5)])) (fun _ k => XS.iloadN X5.here hx rfl (hb hby at_33) rfl  k) ?_
      obtain ⟨_, _, ⟨T12, L12, k12, n12⟩, -, X12, ⟨Lc12, hQ12, l12, y12, z12⟩, st12⟩ := X5.specialBack hx (y := (⟨"com/example/carillon/carillon/Period", "<init>", "(II)V"⟩ : MethodName)) rfl hown (mvT hZ (own_w hw 3 rfl)) (mvT hZ (own_w hw 4 rfl)) (mvT hZ (own_w hw 5 rfl)) (by decide) (backOf (W := 1) (own_rm1 l Z a0 hw [] b5 p1 p2 h5 n0 (Nat.le_trans Z0 K11.1) A5 F_day_b5 F_periodOfDay_b5 g_b5) hZ (own_w hw 5 rfl) (own_w hw 2 rfl) (by decide) (by decide)) (g := (mkF m 34 #[.val (.int p1), .val (.int p2), .val (.int p3), .val (.int p4), .val (.int p5), .val (.int c2), .val (.int d2), .unset, .unset, .unset, .unset, .unset] [(.int p2), (.int p1), (.ref b5), (.ref b5)])) rfl (by rw [hml]; rfl) (Steps.refl _) (a := b5) (argsL := [(.int p1), (.int p2)]) (rest := [(.ref b5)]) (lenOf own_pd2 rfl) rfl (by show 2 * 0 + _ ≤ _; exact Nat.le_of_eq rfl) (hb hby at_34) (fun _ _ => ⟨rfl, e5, (by decide : 1 + 0 ≤ _), (by decide : 2 + 0 ≤ _)⟩)
      dsimp only [Pt.U, Pt.locs, Pt.cells, Pt.slots] at X12 l12 y12 z12 st12 hQ12
      subst l12 y12 z12
      obtain ⟨rfl, N12q, K12q, Q12_0, Q12_1, Q12_2⟩ := hQ12
      have N12 := Fr.app N0 N12q
      have S_14 := own_Sta_keep S_8 K12q (allS (own_plain A5) all0)
      have S_15 := own_Sta_keep S_9 K12q (allS (own_plain A5) all0)
      have G_16 := G_10.keep K12q (ninS ne_w_b5_6 nin0)
      have K20 : Keep h0 T12.heap [] := K11.trans K12q (allS (Or.inr sz_b5) all0)
      refine own_go (B := T12.setTop (mkF m 37 #[.val (.int p1), .val (.int p2), .val (.int p3), .val (.int p4), .val (.int p5), .val (.int c2), .val (.int d2), .unset, .unset, .unset, .unset, .unset] [(.ref b5)])) (fun _ k => st12.trans k) ?_
      refine own_go (B := T12.setTop (mkF m 39 #[.val (.int p1), .val (.int p2), .val (.int p3), .val (.int p4), .val (.int p5), .val (.int c2), .val (.int d2), .val (.ref b5), .unset, .unset, .unset, .unset] [])) (fun _ k => XS.astore X12.here hx rfl (hb hby at_37) rfl rfl (l' := #[.val (.int p1), .val (.int p2), .val (.int p3), .val (.int p4), .val (.int p5), .val (.int c2), .val (.int d2), .val (.ref b5), .unset, .unset, .unset, .unset]) rfl k) ?_
      obtain ⟨T21, h21, X21, e21, E21, A21, D21, -, st21⟩ := newO X12 hx hZ hown (own_w hw 0 rfl) (own_w hw 1 rfl) (own_w hw 2 rfl) rfl (g := (mkF m 39 #[.val (.int p1), .val (.int p2), .val (.int p3), .val (.int p4), .val (.int p5), .val (.int c2), .val (.int d2), .val (.ref b5), .unset, .unset, .unset, .unset] [])) rfl (hb hby at_39) (by decide) (by decide)
      obtain ⟨b21, g21⟩ : ∃ z, z = T12.heap.size := ⟨_, rfl⟩
      rw [← g21] at A21 D21 st21
      have ne_w_b21_22 : w ≠ b21 := Nat.ne_of_lt (Nat.lt_of_lt_of_le G_16.lt (Nat.le_of_eq g21.symm))
      have ne_b5_b21_23 : b5 ≠ b21 := Nat.ne_of_lt (Nat.lt_of_lt_of_le Q12_0.lt (Nat.le_of_eq g21.symm))
      have sz_b21 : h0.size ≤ b21 := Nat.le_trans K20.1 (Nat.le_of_eq g21.symm)
      have g_b21 : n0 ≤ b21 := Nat.le_trans Z0 sz_b21
      have S_25 := S_14.ext E21
      have S_26 := S_15.ext E21
      have G_27 := G_16.ext E21
      have E_28 := Q12_0.ext E21
      have F_29 := Q12_1.ext E21
      have F_30 := Q12_2.ext E21
      have F_day_b21 : Fld Z h21 b21 "com/example/carillon/carillon/Period" "day" "I" (.int (0 : Int32)) := D21 (Or.inr (own_w hw 10 rfl)) (ty := .int) (by decide)
      have F_periodOfDay_b21 : Fld Z h21 b21 "com/example/carillon/carillon/Period" "periodOfDay" "I" (.int (0 : Int32)) := D21 (Or.inr (own_w hw 12 rfl)) (ty := .int) (by decide)
      have K31 : Keep h0 h21 [] := K20.ext E21
      refine own_go (B := T21.setTop (mkF m 42 #[.val (.int p1), .val (.int p2), .val (.int p3), .val (.int p4), .val (.int p5), .val (.int c2), .val (.int d2), .val (.ref b5), .unset, .unset, .unset, .unset] [(.ref b21)])) st21 ?_
      refine own_go (B := T21.setTop (mkF m 43 #[.val (.int p1), .val (.int p2), .val (.int p3), .val (.int p4), .val (.int p5), .val (.int c2), .val (.int d2), .val (.ref b5), .unset, .unset, .unset, .unset] [(.ref b21), (.ref b21)])) (fun _ k => XS.dup X21.here hx rfl (hb hby at_42) rfl rfl k) ?_
      refine own_go (B := T21.setTop (mkF m 45 #[.val (.int p1), .val (.int p2), .val (.int p3), .val (.int p4), .val (.int p5), .val (.int c2), .val (.int d2), .val (.ref b5), .unset, .unset, .unset, .unset] [(.int c2), (.ref b21), (.ref b21)])) (fun _ k => XS.iload X21.here hx rfl (hb hby at_43) rfl  k) ?_
      refine own_go (B := T21.setTop (mkF m 47 #[.val (.int p1), .val (.int p2), .val (.int p3), .val (.int p4), .val (.int p5), .val (.int c2), .val (.int d2), .val (.ref b5), .unset, .unset, .unset, .unset] [(.int d2), (.int c2), (.ref b21), (.ref b21)])) (fun _ k => XS.iload X21.here hx rfl (hb hby at_45) rfl  k) ?_
      obtain ⟨_, _, ⟨T32, L32, k32, n32⟩, -, X32, ⟨Lc32, hQ32, l32, y32, z32⟩, st32⟩ := X21.specialBack hx (y := (⟨"com/example/carillon/carillon/Period", "<init>", "(II)V"⟩ : MethodName)) rfl hown (mvT hZ (own_w hw 3 rfl)) (mvT hZ (own_w hw 4 rfl)) (mvT hZ (own_w hw 5 rfl)) (by decide) (backOf (W := 1) (own_rm1 l Z a0 hw [] b21 c2 d2 h21 n0 (Nat.le_trans Z0 K31.1) A21 F_day_b21 F_periodOfDay_b21 g_b21) hZ (own_w hw 5 rfl) (own_w hw 2 rfl) (by decide) (by decide)) (g := (mkF m 47 #[.val (.int p1), .val (.int p2), .val (.int p3), .val (.int p4), .val (.int p5), .val (.int c2), .val (.int d2), .val (.ref b5), .unset, .unset, .unset, .unset] [(.int d2), (.int c2), (.ref b21), (.ref b21)])) rfl (by rw [hml]; rfl) (Steps.refl _) (a := b21) (argsL := [(.int c2), (.int d2)]) (rest := [(.ref b21)]) (lenOf own_pd2 rfl) rfl (by show 2 * 0 + _ ≤ _; exact Nat.le_of_eq rfl) (hb hby at_47) (fun _ _ => ⟨rfl, e21, (by decide : 2 + 0 ≤ _), (by decide : 4 + 0 ≤ _)⟩)
      dsimp only [Pt.U, Pt.locs, Pt.cells, Pt.slots] at X32 l32 y32 z32 st32 hQ32
      subst l32 y32 z32
      obtain ⟨rfl, N32q, K32q, Q32_0, Q32_1, Q32_2⟩ := hQ32
      have N32 := Fr.app N12 N32q
      have S_34 := own_Sta_keep S_25 K32q (allS (own_plain A21) all0)
      have S_35 := own_Sta_keep S_26 K32q (allS (own_plain A21) all0)
      have G_36 := G_27.keep K32q (ninS ne_w_b21_22 nin0)
      have E_37 := E_28.keep K32q
      have F_38 := F_29.keep K32q (ninS ne_b5_b21_23 nin0)
      have F_39 := F_30.keep K32q (ninS ne_b5_b21_23 nin0)
      have K43 : Keep h0 T32.heap [] := K31.trans K32q (allS (Or.inr sz_b21) all0)
      refine own_go (B := T32.setTop (mkF m 50 #[.val (.int p1), .val (.int p2), .val (.int p3), .val (.int p4), .val (.int p5), .val (.int c2), .val (.int d2), .val (.ref b5), .unset, .unset, .unset, .unset] [(.ref b21)])) (fun _ k => st32.trans k) ?_
      refine own_go (B := T32.setTop (mkF m 52 #[.val (.int p1), .val (.int p2), .val (.int p3), .val (.int p4), .val (.int p5), .val (.int c2), .val (.int d2), .val (.ref b5), .val (.ref b21), .unset, .unset, .unset] [])) (fun _ k => XS.astore X32.here hx rfl (hb hby at_50) rfl rfl (l' := #[.val (.int p1), .val (.int p2), .val (.int p3), .val (.int p4), .val (.int p5), .val (.int c2), .val (.int d2), .val (.ref b5), .val (.ref b21), .unset, .unset, .unset]) rfl k) ?_
      refine own_go (B := T32.setTop (mkF m 53 #[.val (.int p1), .val (.int p2), .val (.int p3), .val (.int p4), .val (.int p5), .val (.int c2), .val (.int d2), .val (.ref b5), .val (.ref b21), .unset, .unset, .unset] [(.int p1)])) (fun _ k => XS.iloadN X32.here hx rfl (hb hby at_52) rfl  k) ?_
      obtain ⟨_, _, ⟨T44, L44, k44, n44⟩, -, X44, ⟨Lc44, hQ44, l44, y44, z44⟩, st44⟩ := Jvm.LawKit.callS X32 hx (y := (⟨"java/lang/Integer", "valueOf", "(I)Ljava/lang/Integer;"⟩ : MethodName)) hown (mvT hZ (own_w hw 13 rfl)) (mvT hZ (own_w hw 14 rfl)) (mvT hZ (own_w hw 15 rfl)) (mvT hZ (own_w hw 16 rfl)) (by decide) (backOf (W := 0) (own_rm3 l Z a0 hw [] p1 w cl T32.heap n0 (Nat.le_trans Z0 K43.1) S_34 S_35 G_36) hZ (own_w hw 16 rfl) (own_w hw 15 rfl) (by decide) (by decide)) (g := (mkF m 53 #[.val (.int p1), .val (.int p2), .val (.int p3), .val (.int p4), .val (.int p5), .val (.int c2), .val (.int d2), .val (.ref b5), .val (.ref b21), .unset, .unset, .unset] [(.int p1)])) rfl (by rw [hml]; rfl) (argsL := [(.int p1)]) (rest := []) (lenOf own_pd3 rfl) rfl (by show 2 * 0 + _ ≤ _; exact Nat.le_of_eq rfl) (hb hby at_53) (fun _ _ => ⟨rfl, rfl, (by decide : 2 + 1 ≤ _), (by decide : 4 + 1 ≤ _)⟩)
      dsimp only [Pt.U, Pt.locs, Pt.cells, Pt.slots] at X44 l44 y44 z44 st44 hQ44
      subst l44 y44 z44
      obtain ⟨b_44, rfl, N44q, K44q, Q44_0⟩ := hQ44
      have N44 := Fr.app N32 N44q
      have S_46 := own_Sta_keep S_34 K44q all0
      have S_47 := own_Sta_keep S_35 K44q all0
      have G_48 := G_36.keep K44q nin0
      have E_49 := E_37.keep K44q
      have F_50 := F_38.keep K44q nin0
      have F_51 := F_39.keep K44q nin0
      have E_52 := Q32_0.keep K44q
      have F_53 := Q32_1.keep K44q nin0
      have F_54 := Q32_2.keep K44q nin0
      have K55 : Keep h0 T44.heap [] := K43.trans K44q all0
      refine own_go (B := T44.setTop (mkF m 56 #[.val (.int p1), .val (.int p2), .val (.int p3), .val (.int p4), .val (.int p5), .val (.int c2), .val (.int d2), .val (.ref b5), .val (.ref b21), .unset, .unset, .unset] [(.ref b_44)])) st44 ?_
      refine own_go (B := T44.setTop (mkF m 58 #[.val (.int p1), .val (.int p2), .val (.int p3), .val (.int p4), .val (.int p5), .val (.int c2), .val (.int d2), .val (.ref b5), .val (.ref b21), .val (.ref b_44), .unset, .unset] [])) (fun _ k => XS.astore X44.here hx rfl (hb hby at_56) rfl rfl (l' := #[.val (.int p1), .val (.int p2), .val (.int p3), .val (.int p4), .val (.int p5), .val (.int c2), .val (.int d2), .val (.ref b5), .val (.ref b21), .val (.ref b_44), .unset, .unset]) rfl k) ?_
      refine own_go (B := T44.setTop (mkF m 59 #[.val (.int p1), .val (.int p2), .val (.int p3), .val (.int p4), .val (.int p5), .val (.int c2), .val (.int d2), .val (.ref b5), .val (.ref b21), .val (.ref b_44), .unset, .unset] [(.int p1)])) (fun _ k => XS.iloadN X44.here hx rfl (hb hby at_58) rfl  k) ?_
      refine own_go (B := T44.setTop (mkF m 61 #[.val (.int p1), .val (.int p2), .val (.int p3), .val (.int p4), .val (.int p5), .val (.int c2), .val (.int d2), .val (.ref b5), .val (.ref b21), .val (.ref b_44), .unset, .unset] [(.int c2), (.int p1)])) (fun _ k => XS.iload X44.here hx rfl (hb hby at_59) rfl  k) ?_
      by_cases hc56 : p1 = c2
      · skip
        refine own_go (B := T44.setTop (mkF m 64 #[.val (.int p1), .val (.int p2), .val (.int p3), .val (.int p4), .val (.int p5), .val (.int c2), .val (.int d2), .val (.ref b5), .val (.ref b21), .val (.ref b_44), .unset, .unset] [])) (fun _ k => XS.icmpNo X44.here hx rfl (hb hby at_61) rfl (teq hc56).2 k) ?_
        refine own_go (B := T44.setTop (mkF m 65 #[.val (.int p1), .val (.int p2), .val (.int p3), .val (.int p4), .val (.int p5), .val (.int c2), .val (.int d2), .val (.ref b5), .val (.ref b21), .val (.ref b_44), .unset, .unset] [(.int p2)])) (fun _ k => XS.iloadN X44.here hx rfl (hb hby at_64) rfl  k) ?_
        refine own_go (B := T44.setTop (mkF m 67 #[.val (.int p1), .val (.int p2), .val (.int p3), .val (.int p4), .val (.int p5), .val (.int c2), .val (.int d2), .val (.ref b5), .val (.ref b21), .val (.ref b_44), .unset, .unset] [(.int d2), (.int p2)])) (fun _ k => XS.iload X44.here hx rfl (hb hby at_65) rfl  k) ?_
        by_cases hc57 : p2 = d2
        · skip
          refine own_go (B := T44.setTop (mkF m 70 #[.val (.int p1), .val (.int p2), .val (.int p3), .val (.int p4), .val (.int p5), .val (.int c2), .val (.int d2), .val (.ref b5), .val (.ref b21), .val (.ref b_44), .unset, .unset] [])) (fun _ k => XS.icmpNo X44.here hx rfl (hb hby at_67) rfl (teq hc57).2 k) ?_
          refine own_go (B := T44.setTop (mkF m 71 #[.val (.int p1), .val (.int p2), .val (.int p3), .val (.int p4), .val (.int p5), .val (.int c2), .val (.int d2), .val (.ref b5), .val (.ref b21), .val (.ref b_44), .unset, .unset] [(.int (1 : Int32))])) (fun _ k => XS.iconst X44.here hx rfl (hb hby at_70) k) ?_
          refine own_go (B := T44.setTop (mkF m 75 #[.val (.int p1), .val (.int p2), .val (.int p3), .val (.int p4), .val (.int p5), .val (.int c2), .val (.int d2), .val (.ref b5), .val (.ref b21), .val (.ref b_44), .unset, .unset] [(.int (1 : Int32))])) (fun _ k => XS.goto X44.here hx rfl (pc0 := 71) (pc' := 75) rfl (hb hby at_71) (by decide) (by decide) k) ?_
          refine own_go (B := T44.setTop (mkF m 77 #[.val (.int p1), .val (.int p2), .val (.int p3), .val (.int p4), .val (.int p5), .val (.int c2), .val (.int d2), .val (.ref b5), .val (.ref b21), .val (.ref b_44), .val (.int (1 : Int32)), .unset] [])) (fun _ k => XS.istore X44.here hx rfl (hb hby at_75) rfl (l' := #[.val (.int p1), .val (.int p2), .val (.int p3), .val (.int p4), .val (.int p5), .val (.int c2), .val (.int d2), .val (.ref b5), .val (.ref b21), .val (.ref b_44), .val (.int (1 : Int32)), .unset]) rfl k) ?_
          refine own_go (B := T44.setTop (mkF m 79 #[.val (.int p1), .val (.int p2), .val (.int p3), .val (.int p4), .val (.int p5), .val (.int c2), .val (.int d2), .val (.ref b5), .val (.ref b21), .val (.ref b_44), .val (.int (1 : Int32)), .unset] [(.ref b5)])) (fun _ k => XS.aload X44.here hx rfl (hb hby at_77) rfl rfl k) ?_
          refine own_go (B := T44.setTop (mkF m 81 #[.val (.int p1), .val (.int p2), .val (.int p3), .val (.int p4), .val (.int p5), .val (.int c2), .val (.int d2), .val (.ref b5), .val (.ref b21), .val (.ref b_44), .val (.int (1 : Int32)), .unset] [(.ref b21), (.ref b5)])) (fun _ k => XS.aload X44.here hx rfl (hb hby at_79) rfl rfl k) ?_
          obtain ⟨cq58, kq58, q58a, q58b, q58c⟩ := isOf hZ rfl E_49
          obtain ⟨_, _, ⟨T58, L58, k58, n58⟩, -, X58, ⟨Lc58, hQ58, l58, y58, z58⟩, st58⟩ := X44.virtualBack hx (y := (⟨"com/example/carillon/carillon/Period", "equals", "(Ljava/lang/Object;)Z"⟩ : MethodName)) (z := (⟨"com/example/carillon/carillon/Period", "equals", "(Ljava/lang/Object;)Z"⟩ : MethodName)) hown (mvT hZ (own_w hw 20 rfl)) (mvT hZ (own_w hw 21 rfl)) (notFace_of_selects (args := #[]) (mvT hZ (own_w hw 23 rfl))) (mvT hZ (own_w hw 23 rfl)) (mvT hZ (own_w hw 22 rfl)) (by decide) (backOf (W := 0) (own_eq l Z a0 hw [] b5 b21 p1 p2 c2 d2 T44.heap n0 (Nat.le_trans Z0 K55.1) F_50 F_51 E_52 F_53 F_54) hZ (own_w hw 24 rfl) (own_w hw 2 rfl) (by decide) (by decide)) q58a q58c (g := (mkF m 81 #[.val (.int p1), .val (.int p2), .val (.int p3), .val (.int p4), .val (.int p5), .val (.int c2), .val (.int d2), .val (.ref b5), .val (.ref b21), .val (.ref b_44), .val (.int (1 : Int32)), .unset] [(.ref b21), (.ref b5)])) rfl (by rw [hml]; rfl) (Steps.refl _) (argsL := [(.ref b21)]) (rest := []) (lenOf own_pd4 rfl) rfl (by show 2 * 0 + _ ≤ _; exact Nat.le_of_eq rfl) (hb hby at_81) (fun _ _ => ⟨rfl, rfl, (by decide : 3 + 0 ≤ _), (by decide : 5 + 0 ≤ _)⟩)
          dsimp only [Pt.U, Pt.locs, Pt.cells, Pt.slots] at X58 l58 y58 z58 st58 hQ58
          subst l58 y58 z58
          obtain ⟨rfl, N58q, e58⟩ := hQ58
          have N58 := Fr.app N44 N58q
          refine own_go (B := T58.setTop (mkF m 84 #[.val (.int p1), .val (.int p2), .val (.int p3), .val (.int p4), .val (.int p5), .val (.int c2), .val (.int d2), .val (.ref b5), .val (.ref b21), .val (.ref b_44), .val (.int (1 : Int32)), .unset] [(.int (own_b (p1.toInt = c2.toInt ∧ p2.toInt = d2.toInt)))])) (fun _ k => st58.trans k) ?_
          have hc59 : p1.toInt = c2.toInt ∧ p2.toInt = d2.toInt := (own_pl_rm0_1 p1 p2 c2 d2 hc56 hc57)
          rw [own_b1 hc59]
          show own_Fin _ _ _ _ _ _ _ (T58.setTop (mkF m 84 #[.val (.int p1), .val (.int p2), .val (.int p3), .val (.int p4), .val (.int p5), .val (.int c2), .val (.int d2), .val (.ref b5), .val (.ref b21), .val (.ref b_44), .val (.int (1 : Int32)), .unset] [(.int (1 : Int32))]))
          refine own_go (B := T58.setTop (mkF m 86 #[.val (.int p1), .val (.int p2), .val (.int p3), .val (.int p4), .val (.int p5), .val (.int c2), .val (.int d2), .val (.ref b5), .val (.ref b21), .val (.ref b_44), .val (.int (1 : Int32)), .unset] [(.int (1 : Int32)), (.int (1 : Int32))])) (fun _ k => XS.iload X58.here hx rfl (hb hby at_84) rfl  k) ?_
          have hc60 : (1 : Int32) = (1 : Int32) := by decide
          refine own_go (B := T58.setTop (mkF m 89 #[.val (.int p1), .val (.int p2), .val (.int p3), .val (.int p4), .val (.int p5), .val (.int c2), .val (.int d2), .val (.ref b5), .val (.ref b21), .val (.ref b_44), .val (.int (1 : Int32)), .unset] [])) (fun _ k => XS.icmpNo X58.here hx rfl (hb hby at_86) rfl (teq hc60).2 k) ?_
          refine own_go (B := T58.setTop (mkF m 90 #[.val (.int p1), .val (.int p2), .val (.int p3), .val (.int p4), .val (.int p5), .val (.int c2), .val (.int d2), .val (.ref b5), .val (.ref b21), .val (.ref b_44), .val (.int (1 : Int32)), .unset] [(.int (1 : Int32))])) (fun _ k => XS.iconst X58.here hx rfl (hb hby at_89) k) ?_
          refine own_go (B := T58.setTop (mkF m 94 #[.val (.int p1), .val (.int p2), .val (.int p3), .val (.int p4), .val (.int p5), .val (.int c2), .val (.int d2), .val (.ref b5), .val (.ref b21), .val (.ref b_44), .val (.int (1 : Int32)), .unset] [(.int (1 : Int32))])) (fun _ k => XS.goto X58.here hx rfl (pc0 := 90) (pc' := 94) rfl (hb hby at_90) (by decide) (by decide) k) ?_
          refine own_go (B := T58.setTop (mkF m 96 #[.val (.int p1), .val (.int p2), .val (.int p3), .val (.int p4), .val (.int p5), .val (.int c2), .val (.int d2), .val (.ref b5), .val (.ref b21), .val (.ref b_44), .val (.int (1 : Int32)), .val (.int (1 : Int32))] [])) (fun _ k => XS.istore X58.here hx rfl (hb hby at_94) rfl (l' := #[.val (.int p1), .val (.int p2), .val (.int p3), .val (.int p4), .val (.int p5), .val (.int c2), .val (.int d2), .val (.ref b5), .val (.ref b21), .val (.ref b_44), .val (.int (1 : Int32)), .val (.int (1 : Int32))]) rfl k) ?_
          refine own_go (B := T58.setTop (mkF m 98 #[.val (.int p1), .val (.int p2), .val (.int p3), .val (.int p4), .val (.int p5), .val (.int c2), .val (.int d2), .val (.ref b5), .val (.ref b21), .val (.ref b_44), .val (.int (1 : Int32)), .val (.int (1 : Int32))] [(.int (1 : Int32))])) (fun _ k => XS.iload X58.here hx rfl (hb hby at_96) rfl  k) ?_
          have hc61 : ¬ ((1 : Int32) = (0 : Int32)) := by decide
          refine own_go (B := T58.setTop (mkF m 101 #[.val (.int p1), .val (.int p2), .val (.int p3), .val (.int p4), .val (.int p5), .val (.int c2), .val (.int d2), .val (.ref b5), .val (.ref b21), .val (.ref b_44), .val (.int (1 : Int32)), .val (.int (1 : Int32))] [])) (fun _ k => XS.ifNo X58.here hx rfl (hb hby at_98) rfl ((if0 _ _).trans (feq hc61).1) k) ?_
          refine own_go (B := T58.setTop (mkF m 103 #[.val (.int p1), .val (.int p2), .val (.int p3), .val (.int p4), .val (.int p5), .val (.int c2), .val (.int d2), .val (.ref b5), .val (.ref b21), .val (.ref b_44), .val (.int (1 : Int32)), .val (.int (1 : Int32))] [(.ref b21)])) (fun _ k => XS.aload X58.here hx rfl (hb hby at_101) rfl rfl k) ?_
          refine own_go (B := T58.setTop (mkF m 105 #[.val (.int p1), .val (.int p2), .val (.int p3), .val (.int p4), .val (.int p5), .val (.int c2), .val (.int d2), .val (.ref b5), .val (.ref b21), .val (.ref b_44), .val (.int (1 : Int32)), .val (.int (1 : Int32))] [(.ref b5), (.ref b21)])) (fun _ k => XS.aload X58.here hx rfl (hb hby at_103) rfl rfl k) ?_
          obtain ⟨cq62, kq62, q62a, q62b, q62c⟩ := isOf hZ e58 E_52
          obtain ⟨_, _, ⟨T62, L62, k62, n62⟩, -, X62, ⟨Lc62, hQ62, l62, y62, z62⟩, st62⟩ := X58.virtualBack hx (y := (⟨"com/example/carillon/carillon/Period", "equals", "(Ljava/lang/Object;)Z"⟩ : MethodName)) (z := (⟨"com/example/carillon/carillon/Period", "equals", "(Ljava/lang/Object;)Z"⟩ : MethodName)) hown (mvT hZ (own_w hw 20 rfl)) (mvT hZ (own_w hw 21 rfl)) (notFace_of_selects (args := #[]) (mvT hZ (own_w hw 23 rfl))) (mvT hZ (own_w hw 23 rfl)) (mvT hZ (own_w hw 22 rfl)) (by decide) (backOf (W := 0) (own_eq l Z a0 hw [] b21 b5 c2 d2 p1 p2 T44.heap n0 (Nat.le_trans Z0 K55.1) F_53 F_54 E_49 F_50 F_51) hZ (own_w hw 24 rfl) (own_w hw 2 rfl) (by decide) (by decide)) q62a q62c (g := (mkF m 105 #[.val (.int p1), .val (.int p2), .val (.int p3), .val (.int p4), .val (.int p5), .val (.int c2), .val (.int d2), .val (.ref b5), .val (.ref b21), .val (.ref b_44), .val (.int (1 : Int32)), .val (.int (1 : Int32))] [(.ref b5), (.ref b21)])) rfl (by rw [hml]; rfl) (Steps.refl _) (argsL := [(.ref b5)]) (rest := []) (lenOf own_pd4 rfl) rfl (by show 2 * 0 + _ ≤ _; exact Nat.le_of_eq rfl) (hb hby at_105) (fun _ _ => ⟨rfl, e58, (by decide : 3 + 0 ≤ _), (by decide : 5 + 0 ≤ _)⟩)
          dsimp only [Pt.U, Pt.locs, Pt.cells, Pt.slots] at X62 l62 y62 z62 st62 hQ62
          subst l62 y62 z62
          obtain ⟨rfl, N62q, e62⟩ := hQ62
          have N62 := Fr.app N58 N62q
          refine own_go (B := T62.setTop (mkF m 108 #[.val (.int p1), .val (.int p2), .val (.int p3), .val (.int p4), .val (.int p5), .val (.int c2), .val (.int d2), .val (.ref b5), .val (.ref b21), .val (.ref b_44), .val (.int (1 : Int32)), .val (.int (1 : Int32))] [(.int (own_b (c2.toInt = p1.toInt ∧ d2.toInt = p2.toInt)))])) (fun _ k => st62.trans k) ?_
          have hc63 : c2.toInt = p1.toInt ∧ d2.toInt = p2.toInt := (own_pl_rm0_2 p1 p2 c2 d2 hc56 hc57 hc59)
          rw [own_b1 hc63]
          show own_Fin _ _ _ _ _ _ _ (T62.setTop (mkF m 108 #[.val (.int p1), .val (.int p2), .val (.int p3), .val (.int p4), .val (.int p5), .val (.int c2), .val (.int d2), .val (.ref b5), .val (.ref b21), .val (.ref b_44), .val (.int (1 : Int32)), .val (.int (1 : Int32))] [(.int (1 : Int32))]))
          refine own_go (B := T62.setTop (mkF m 110 #[.val (.int p1), .val (.int p2), .val (.int p3), .val (.int p4), .val (.int p5), .val (.int c2), .val (.int d2), .val (.ref b5), .val (.ref b21), .val (.ref b_44), .val (.int (1 : Int32)), .val (.int (1 : Int32))] [(.int (1 : Int32)), (.int (1 : Int32))])) (fun _ k => XS.iload X62.here hx rfl (hb hby at_108) rfl  k) ?_
          have hc64 : (1 : Int32) = (1 : Int32) := by decide
          refine own_go (B := T62.setTop (mkF m 113 #[.val (.int p1), .val (.int p2), .val (.int p3), .val (.int p4), .val (.int p5), .val (.int c2), .val (.int d2), .val (.ref b5), .val (.ref b21), .val (.ref b_44), .val (.int (1 : Int32)), .val (.int (1 : Int32))] [])) (fun _ k => XS.icmpNo X62.here hx rfl (hb hby at_110) rfl (teq hc64).2 k) ?_
          refine own_go (B := T62.setTop (mkF m 114 #[.val (.int p1), .val (.int p2), .val (.int p3), .val (.int p4), .val (.int p5), .val (.int c2), .val (.int d2), .val (.ref b5), .val (.ref b21), .val (.ref b_44), .val (.int (1 : Int32)), .val (.int (1 : Int32))] [(.int (1 : Int32))])) (fun _ k => XS.iconst X62.here hx rfl (hb hby at_113) k) ?_
          refine own_go (B := T62.setTop (mkF m 118 #[.val (.int p1), .val (.int p2), .val (.int p3), .val (.int p4), .val (.int p5), .val (.int c2), .val (.int d2), .val (.ref b5), .val (.ref b21), .val (.ref b_44), .val (.int (1 : Int32)), .val (.int (1 : Int32))] [(.int (1 : Int32))])) (fun _ k => XS.goto X62.here hx rfl (pc0 := 114) (pc' := 118) rfl (hb hby at_114) (by decide) (by decide) k) ?_
          refine own_go (B := T62.setTop (mkF m 120 #[.val (.int p1), .val (.int p2), .val (.int p3), .val (.int p4), .val (.int p5), .val (.int c2), .val (.int d2), .val (.ref b5), .val (.ref b21), .val (.ref b_44), .val (.int (1 : Int32)), .val (.int (1 : Int32))] [])) (fun _ k => XS.istore X62.here hx rfl (hb hby at_118) rfl (l' := #[.val (.int p1), .val (.int p2), .val (.int p3), .val (.int p4), .val (.int p5), .val (.int c2), .val (.int d2), .val (.ref b5), .val (.ref b21), .val (.ref b_44), .val (.int (1 : Int32)), .val (.int (1 : Int32))]) rfl k) ?_
          refine own_go (B := T62.setTop (mkF m 122 #[.val (.int p1), .val (.int p2), .val (.int p3), .val (.int p4), .val (.int p5), .val (.int c2), .val (.int d2), .val (.ref b5), .val (.ref b21), .val (.ref b_44), .val (.int (1 : Int32)), .val (.int (1 : Int32))] [(.int (1 : Int32))])) (fun _ k => XS.iload X62.here hx rfl (hb hby at_120) rfl  k) ?_
          have hc65 : ¬ ((1 : Int32) = (0 : Int32)) := by decide
          refine own_go (B := T62.setTop (mkF m 125 #[.val (.int p1), .val (.int p2), .val (.int p3), .val (.int p4), .val (.int p5), .val (.int c2), .val (.int d2), .val (.ref b5), .val (.ref b21), .val (.ref b_44), .val (.int (1 : Int32)), .val (.int (1 : Int32))] [])) (fun _ k => XS.ifNo X62.here hx rfl (hb hby at_122) rfl ((if0 _ _).trans (feq hc65).1) k) ?_
          refine own_go (B := T62.setTop (mkF m 127 #[.val (.int p1), .val (.int p2), .val (.int p3), .val (.int p4), .val (.int p5), .val (.int c2), .val (.int d2), .val (.ref b5), .val (.ref b21), .val (.ref b_44), .val (.int (1 : Int32)), .val (.int (1 : Int32))] [(.ref b5)])) (fun _ k => XS.aload X62.here hx rfl (hb hby at_125) rfl rfl k) ?_
          refine own_go (B := T62.setTop (mkF m 129 #[.val (.int p1), .val (.int p2), .val (.int p3), .val (.int p4), .val (.int p5), .val (.int c2), .val (.int d2), .val (.ref b5), .val (.ref b21), .val (.ref b_44), .val (.int (1 : Int32)), .val (.int (1 : Int32))] [(.ref b5), (.ref b5)])) (fun _ k => XS.aload X62.here hx rfl (hb hby at_127) rfl rfl k) ?_
          obtain ⟨cq66, kq66, q66a, q66b, q66c⟩ := isOf hZ e62 E_49
          obtain ⟨_, _, ⟨T66, L66, k66, n66⟩, -, X66, ⟨Lc66, hQ66, l66, y66, z66⟩, st66⟩ := X62.virtualBack hx (y := (⟨"com/example/carillon/carillon/Period", "equals", "(Ljava/lang/Object;)Z"⟩ : MethodName)) (z := (⟨"com/example/carillon/carillon/Period", "equals", "(Ljava/lang/Object;)Z"⟩ : MethodName)) hown (mvT hZ (own_w hw 20 rfl)) (mvT hZ (own_w hw 21 rfl)) (notFace_of_selects (args := #[]) (mvT hZ (own_w hw 23 rfl))) (mvT hZ (own_w hw 23 rfl)) (mvT hZ (own_w hw 22 rfl)) (by decide) (backOf (W := 0) (own_eq l Z a0 hw [] b5 b5 p1 p2 p1 p2 T44.heap n0 (Nat.le_trans Z0 K55.1) F_50 F_51 E_49 F_50 F_51) hZ (own_w hw 24 rfl) (own_w hw 2 rfl) (by decide) (by decide)) q66a q66c (g := (mkF m 129 #[.val (.int p1), .val (.int p2), .val (.int p3), .val (.int p4), .val (.int p5), .val (.int c2), .val (.int d2), .val (.ref b5), .val (.ref b21), .val (.ref b_44), .val (.int (1 : Int32)), .val (.int (1 : Int32))] [(.ref b5), (.ref b5)])) rfl (by rw [hml]; rfl) (Steps.refl _) (argsL := [(.ref b5)]) (rest := []) (lenOf own_pd4 rfl) rfl (by show 2 * 0 + _ ≤ _; exact Nat.le_of_eq rfl) (hb hby at_129) (fun _ _ => ⟨rfl, e62, (by decide : 3 + 0 ≤ _), (by decide : 5 + 0 ≤ _)⟩)
          dsimp only [Pt.U, Pt.locs, Pt.cells, Pt.slots] at X66 l66 y66 z66 st66 hQ66
          subst l66 y66 z66
          obtain ⟨rfl, N66q, e66⟩ := hQ66
          have N66 := Fr.app N62 N66q
          refine own_go (B := T66.setTop (mkF m 132 #[.val (.int p1), .val (.int p2), .val (.int p3), .val (.int p4), .val (.int p5), .val (.int c2), .val (.int d2), .val (.ref b5), .val (.ref b21), .val (.ref b_44), .val (.int (1 : Int32)), .val (.int (1 : Int32))] [(.int (own_b (p1.toInt = p1.toInt ∧ p2.toInt = p2.toInt)))])) (fun _ k => st66.trans k) ?_
          have hc67 : p1.toInt = p1.toInt ∧ p2.toInt = p2.toInt := (own_pl_rm0_3 p1 p2 c2 d2 hc56 hc57 hc59 hc63)
          rw [own_b1 hc67]
          show own_Fin _ _ _ _ _ _ _ (T66.setTop (mkF m 132 #[.val (.int p1), .val (.int p2), .val (.int p3), .val (.int p4), .val (.int p5), .val (.int c2), .val (.int d2), .val (.ref b5), .val (.ref b21), .val (.ref b_44), .val (.int (1 : Int32)), .val (.int (1 : Int32))] [(.int (1 : Int32))]))
          have hc68 : ¬ ((1 : Int32) = (0 : Int32)) := by decide
          refine own_go (B := T66.setTop (mkF m 135 #[.val (.int p1), .val (.int p2), .val (.int p3), .val (.int p4), .val (.int p5), .val (.int c2), .val (.int d2), .val (.ref b5), .val (.ref b21), .val (.ref b_44), .val (.int (1 : Int32)), .val (.int (1 : Int32))] [])) (fun _ k => XS.ifNo X66.here hx rfl (hb hby at_132) rfl ((if0 _ _).trans (feq hc68).1) k) ?_
          refine own_go (B := T66.setTop (mkF m 136 #[.val (.int p1), .val (.int p2), .val (.int p3), .val (.int p4), .val (.int p5), .val (.int c2), .val (.int d2), .val (.ref b5), .val (.ref b21), .val (.ref b_44), .val (.int (1 : Int32)), .val (.int (1 : Int32))] [(.int (1 : Int32))])) (fun _ k => XS.iconst X66.here hx rfl (hb hby at_135) k) ?_
          refine own_go (B := T66.setTop (mkF m 140 #[.val (.int p1), .val (.int p2), .val (.int p3), .val (.int p4), .val (.int p5), .val (.int c2), .val (.int d2), .val (.ref b5), .val (.ref b21), .val (.ref b_44), .val (.int (1 : Int32)), .val (.int (1 : Int32))] [(.int (1 : Int32))])) (fun _ k => XS.goto X66.here hx rfl (pc0 := 136) (pc' := 140) rfl (hb hby at_136) (by decide) (by decide) k) ?_
          refine own_go (B := T66.setTop (mkF m 142 #[.val (.int p1), .val (.int p2), .val (.int p3), .val (.int p4), .val (.int p5), .val (.int c2), .val (.int d2), .val (.ref b5), .val (.ref b21), .val (.ref b_44), .val (.int (1 : Int32)), .val (.int (1 : Int32))] [])) (fun _ k => XS.istore X66.here hx rfl (hb hby at_140) rfl (l' := #[.val (.int p1), .val (.int p2), .val (.int p3), .val (.int p4), .val (.int p5), .val (.int c2), .val (.int d2), .val (.ref b5), .val (.ref b21), .val (.ref b_44), .val (.int (1 : Int32)), .val (.int (1 : Int32))]) rfl k) ?_
          refine own_go (B := T66.setTop (mkF m 144 #[.val (.int p1), .val (.int p2), .val (.int p3), .val (.int p4), .val (.int p5), .val (.int c2), .val (.int d2), .val (.ref b5), .val (.ref b21), .val (.ref b_44), .val (.int (1 : Int32)), .val (.int (1 : Int32))] [(.int (1 : Int32))])) (fun _ k => XS.iload X66.here hx rfl (hb hby at_142) rfl  k) ?_
          have hc69 : ¬ ((1 : Int32) = (0 : Int32)) := by decide
          refine own_go (B := T66.setTop (mkF m 147 #[.val (.int p1), .val (.int p2), .val (.int p3), .val (.int p4), .val (.int p5), .val (.int c2), .val (.int d2), .val (.ref b5), .val (.ref b21), .val (.ref b_44), .val (.int (1 : Int32)), .val (.int (1 : Int32))] [])) (fun _ k => XS.ifNo X66.here hx rfl (hb hby at_144) rfl ((if0 _ _).trans (feq hc69).1) k) ?_
          refine own_go (B := T66.setTop (mkF m 149 #[.val (.int p1), .val (.int p2), .val (.int p3), .val (.int p4), .val (.int p5), .val (.int c2), .val (.int d2), .val (.ref b5), .val (.ref b21), .val (.ref b_44), .val (.int (1 : Int32)), .val (.int (1 : Int32))] [(.ref b5)])) (fun _ k => XS.aload X66.here hx rfl (hb hby at_147) rfl rfl k) ?_
          refine own_go (B := T66.setTop (mkF m 150 #[.val (.int p1), .val (.int p2), .val (.int p3), .val (.int p4), .val (.int p5), .val (.int c2), .val (.int d2), .val (.ref b5), .val (.ref b21), .val (.ref b_44), .val (.int (1 : Int32)), .val (.int (1 : Int32))] [.null, (.ref b5)])) (fun _ k => XS.aconstNull X66.here hx rfl (hb hby at_149) k) ?_
          obtain ⟨cq70, kq70, q70a, q70b, q70c⟩ := isOf hZ e66 E_49
          obtain ⟨_, _, ⟨T70, L70, k70, n70⟩, -, X70, ⟨Lc70, hQ70, l70, y70, z70⟩, st70⟩ := X66.virtualBack hx (y := (⟨"com/example/carillon/carillon/Period", "equals", "(Ljava/lang/Object;)Z"⟩ : MethodName)) (z := (⟨"com/example/carillon/carillon/Period", "equals", "(Ljava/lang/Object;)Z"⟩ : MethodName)) hown (mvT hZ (own_w hw 20 rfl)) (mvT hZ (own_w hw 21 rfl)) (notFace_of_selects (args := #[]) (mvT hZ (own_w hw 23 rfl))) (mvT hZ (own_w hw 23 rfl)) (mvT hZ (own_w hw 22 rfl)) (by decide) (backOf (W := 0) (own_eqN l Z a0 hw [] b5 T44.heap n0 (Nat.le_trans Z0 K55.1) ) hZ (own_w hw 24 rfl) (own_w hw 2 rfl) (by decide) (by decide)) q70a q70c (g := (mkF m 150 #[.val (.int p1), .val (.int p2), .val (.int p3), .val (.int p4), .val (.int p5), .val (.int c2), .val (.int d2), .val (.ref b5), .val (.ref b21), .val (.ref b_44), .val (.int (1 : Int32)), .val (.int (1 : Int32))] [.null, (.ref b5)])) rfl (by rw [hml]; rfl) (Steps.refl _) (argsL := [.null]) (rest := []) (lenOf own_pd4 rfl) rfl (by show 2 * 0 + _ ≤ _; exact Nat.le_of_eq rfl) (hb hby at_150) (fun _ _ => ⟨rfl, e66, (by decide : 3 + 0 ≤ _), (by decide : 5 + 0 ≤ _)⟩)
          dsimp only [Pt.U, Pt.locs, Pt.cells, Pt.slots] at X70 l70 y70 z70 st70 hQ70
          subst l70 y70 z70
          obtain ⟨rfl, N70q, e70⟩ := hQ70
          have N70 := Fr.app N66 N70q
          refine own_go (B := T70.setTop (mkF m 153 #[.val (.int p1), .val (.int p2), .val (.int p3), .val (.int p4), .val (.int p5), .val (.int c2), .val (.int d2), .val (.ref b5), .val (.ref b21), .val (.ref b_44), .val (.int (1 : Int32)), .val (.int (1 : Int32))] [(.int (0 : Int32))])) (fun _ k => st70.trans k) ?_
          have hc71 : (0 : Int32) = (0 : Int32) := by decide
          refine own_go (B := T70.setTop (mkF m 156 #[.val (.int p1), .val (.int p2), .val (.int p3), .val (.int p4), .val (.int p5), .val (.int c2), .val (.int d2), .val (.ref b5), .val (.ref b21), .val (.ref b_44), .val (.int (1 : Int32)), .val (.int (1 : Int32))] [])) (fun _ k => XS.ifNo X70.here hx rfl (hb hby at_153) rfl ((if0 _ _).trans (teq hc71).2) k) ?_
          refine own_go (B := T70.setTop (mkF m 157 #[.val (.int p1), .val (.int p2), .val (.int p3), .val (.int p4), .val (.int p5), .val (.int c2), .val (.int d2), .val (.ref b5), .val (.ref b21), .val (.ref b_44), .val (.int (1 : Int32)), .val (.int (1 : Int32))] [(.int (1 : Int32))])) (fun _ k => XS.iconst X70.here hx rfl (hb hby at_156) k) ?_
          refine own_go (B := T70.setTop (mkF m 161 #[.val (.int p1), .val (.int p2), .val (.int p3), .val (.int p4), .val (.int p5), .val (.int c2), .val (.int d2), .val (.ref b5), .val (.ref b21), .val (.ref b_44), .val (.int (1 : Int32)), .val (.int (1 : Int32))] [(.int (1 : Int32))])) (fun _ k => XS.goto X70.here hx rfl (pc0 := 157) (pc' := 161) rfl (hb hby at_157) (by decide) (by decide) k) ?_
          refine own_go (B := T70.setTop (mkF m 163 #[.val (.int p1), .val (.int p2), .val (.int p3), .val (.int p4), .val (.int p5), .val (.int c2), .val (.int d2), .val (.ref b5), .val (.ref b21), .val (.ref b_44), .val (.int (1 : Int32)), .val (.int (1 : Int32))] [])) (fun _ k => XS.istore X70.here hx rfl (hb hby at_161) rfl (l' := #[.val (.int p1), .val (.int p2), .val (.int p3), .val (.int p4), .val (.int p5), .val (.int c2), .val (.int d2), .val (.ref b5), .val (.ref b21), .val (.ref b_44), .val (.int (1 : Int32)), .val (.int (1 : Int32))]) rfl k) ?_
          refine own_go (B := T70.setTop (mkF m 165 #[.val (.int p1), .val (.int p2), .val (.int p3), .val (.int p4), .val (.int p5), .val (.int c2), .val (.int d2), .val (.ref b5), .val (.ref b21), .val (.ref b_44), .val (.int (1 : Int32)), .val (.int (1 : Int32))] [(.int (1 : Int32))])) (fun _ k => XS.iload X70.here hx rfl (hb hby at_163) rfl  k) ?_
          have hc72 : ¬ ((1 : Int32) = (0 : Int32)) := by decide
          refine own_go (B := T70.setTop (mkF m 168 #[.val (.int p1), .val (.int p2), .val (.int p3), .val (.int p4), .val (.int p5), .val (.int c2), .val (.int d2), .val (.ref b5), .val (.ref b21), .val (.ref b_44), .val (.int (1 : Int32)), .val (.int (1 : Int32))] [])) (fun _ k => XS.ifNo X70.here hx rfl (hb hby at_165) rfl ((if0 _ _).trans (feq hc72).1) k) ?_
          refine own_go (B := T70.setTop (mkF m 170 #[.val (.int p1), .val (.int p2), .val (.int p3), .val (.int p4), .val (.int p5), .val (.int c2), .val (.int d2), .val (.ref b5), .val (.ref b21), .val (.ref b_44), .val (.int (1 : Int32)), .val (.int (1 : Int32))] [(.ref b5)])) (fun _ k => XS.aload X70.here hx rfl (hb hby at_168) rfl rfl k) ?_
          refine own_go (B := T70.setTop (mkF m 172 #[.val (.int p1), .val (.int p2), .val (.int p3), .val (.int p4), .val (.int p5), .val (.int c2), .val (.int d2), .val (.ref b5), .val (.ref b21), .val (.ref b_44), .val (.int (1 : Int32)), .val (.int (1 : Int32))] [(.ref b_44), (.ref b5)])) (fun _ k => XS.aload X70.here hx rfl (hb hby at_170) rfl rfl k) ?_
          obtain ⟨cq73, kq73, q73a, q73b, q73c⟩ := isOf hZ e70 E_49
          obtain ⟨_, _, ⟨T73, L73, k73, n73⟩, -, X73, ⟨Lc73, hQ73, l73, y73, z73⟩, st73⟩ := X70.virtualBack hx (y := (⟨"com/example/carillon/carillon/Period", "equals", "(Ljava/lang/Object;)Z"⟩ : MethodName)) (z := (⟨"com/example/carillon/carillon/Period", "equals", "(Ljava/lang/Object;)Z"⟩ : MethodName)) hown (mvT hZ (own_w hw 20 rfl)) (mvT hZ (own_w hw 21 rfl)) (notFace_of_selects (args := #[]) (mvT hZ (own_w hw 23 rfl))) (mvT hZ (own_w hw 23 rfl)) (mvT hZ (own_w hw 22 rfl)) (by decide) (backOf (W := 0) (own_eqI l Z a0 hw [] b5 b_44 T44.heap n0 (Nat.le_trans Z0 K55.1) Q44_0) hZ (own_w hw 24 rfl) (own_w hw 2 rfl) (by decide) (by decide)) q73a q73c (g := (mkF m 172 #[.val (.int p1), .val (.int p2), .val (.int p3), .val (.int p4), .val (.int p5), .val (.int c2), .val (.int d2), .val (.ref b5), .val (.ref b21), .val (.ref b_44), .val (.int (1 : Int32)), .val (.int (1 : Int32))] [(.ref b_44), (.ref b5)])) rfl (by rw [hml]; rfl) (Steps.refl _) (argsL := [(.ref b_44)]) (rest := []) (lenOf own_pd4 rfl) rfl (by show 2 * 0 + _ ≤ _; exact Nat.le_of_eq rfl) (hb hby at_172) (fun _ _ => ⟨rfl, e70, (by decide : 3 + 0 ≤ _), (by decide : 5 + 0 ≤ _)⟩)
          dsimp only [Pt.U, Pt.locs, Pt.cells, Pt.slots] at X73 l73 y73 z73 st73 hQ73
          subst l73 y73 z73
          obtain ⟨rfl, N73q, e73⟩ := hQ73
          have N73 := Fr.app N70 N73q
          refine own_go (B := T73.setTop (mkF m 175 #[.val (.int p1), .val (.int p2), .val (.int p3), .val (.int p4), .val (.int p5), .val (.int c2), .val (.int d2), .val (.ref b5), .val (.ref b21), .val (.ref b_44), .val (.int (1 : Int32)), .val (.int (1 : Int32))] [(.int (0 : Int32))])) (fun _ k => st73.trans k) ?_
          have hc74 : (0 : Int32) = (0 : Int32) := by decide
          refine own_go (B := T73.setTop (mkF m 178 #[.val (.int p1), .val (.int p2), .val (.int p3), .val (.int p4), .val (.int p5), .val (.int c2), .val (.int d2), .val (.ref b5), .val (.ref b21), .val (.ref b_44), .val (.int (1 : Int32)), .val (.int (1 : Int32))] [])) (fun _ k => XS.ifNo X73.here hx rfl (hb hby at_175) rfl ((if0 _ _).trans (teq hc74).2) k) ?_
          refine own_go (B := T73.setTop (mkF m 179 #[.val (.int p1), .val (.int p2), .val (.int p3), .val (.int p4), .val (.int p5), .val (.int c2), .val (.int d2), .val (.ref b5), .val (.ref b21), .val (.ref b_44), .val (.int (1 : Int32)), .val (.int (1 : Int32))] [(.int (1 : Int32))])) (fun _ k => XS.iconst X73.here hx rfl (hb hby at_178) k) ?_
          refine own_go (B := T73.setTop (mkF m 183 #[.val (.int p1), .val (.int p2), .val (.int p3), .val (.int p4), .val (.int p5), .val (.int c2), .val (.int d2), .val (.ref b5), .val (.ref b21), .val (.ref b_44), .val (.int (1 : Int32)), .val (.int (1 : Int32))] [(.int (1 : Int32))])) (fun _ k => XS.goto X73.here hx rfl (pc0 := 179) (pc' := 183) rfl (hb hby at_179) (by decide) (by decide) k) ?_
          refine own_go (B := T73.setTop (mkF m 185 #[.val (.int p1), .val (.int p2), .val (.int p3), .val (.int p4), .val (.int p5), .val (.int c2), .val (.int d2), .val (.ref b5), .val (.ref b21), .val (.ref b_44), .val (.int (1 : Int32)), .val (.int (1 : Int32))] [])) (fun _ k => XS.istore X73.here hx rfl (hb hby at_183) rfl (l' := #[.val (.int p1), .val (.int p2), .val (.int p3), .val (.int p4), .val (.int p5), .val (.int c2), .val (.int d2), .val (.ref b5), .val (.ref b21), .val (.ref b_44), .val (.int (1 : Int32)), .val (.int (1 : Int32))]) rfl k) ?_
          refine own_go (B := T73.setTop (mkF m 187 #[.val (.int p1), .val (.int p2), .val (.int p3), .val (.int p4), .val (.int p5), .val (.int c2), .val (.int d2), .val (.ref b5), .val (.ref b21), .val (.ref b_44), .val (.int (1 : Int32)), .val (.int (1 : Int32))] [(.int (1 : Int32))])) (fun _ k => XS.iload X73.here hx rfl (hb hby at_185) rfl  k) ?_
          exact own_retN X73 hx Bd.notSynchronized (t := .boolean) (w := (1 : Int32)) Bd.returns (by simp) (hb hby at_187) e73 rfl ⟨rfl, N73, K55⟩ (by decide) (by decide)
        · skip
          refine own_go (B := T44.setTop (mkF m 74 #[.val (.int p1), .val (.int p2), .val (.int p3), .val (.int p4), .val (.int p5), .val (.int c2), .val (.int d2), .val (.ref b5), .val (.ref b21), .val (.ref b_44), .unset, .unset] [])) (fun _ k => XS.icmpYes X44.here hx rfl (pc0 := 67) (pc' := 74) rfl (hb hby at_67) rfl (feq hc57).2 (by decide) (by decide) k) ?_
          refine own_go (B := T44.setTop (mkF m 75 #[.val (.int p1), .val (.int p2), .val (.int p3), .val (.int p4), .val (.int p5), .val (.int c2), .val (.int d2), .val (.ref b5), .val (.ref b21), .val (.ref b_44), .unset, .unset] [(.int (0 : Int32))])) (fun _ k => XS.iconst X44.here hx rfl (hb hby at_74) k) ?_
          refine own_go (B := T44.setTop (mkF m 77 #[.val (.int p1), .val (.int p2), .val (.int p3), .val (.int p4), .val (.int p5), .val (.int c2), .val (.int d2), .val (.ref b5), .val (.ref b21), .val (.ref b_44), .val (.int (0 : Int32)), .unset] [])) (fun _ k => XS.istore X44.here hx rfl (hb hby at_75) rfl (l' := #[.val (.int p1), .val (.int p2), .val (.int p3), .val (.int p4), .val (.int p5), .val (.int c2), .val (.int d2), .val (.ref b5), .val (.ref b21), .val (.ref b_44), .val (.int (0 : Int32)), .unset]) rfl k) ?_
          refine own_go (B := T44.setTop (mkF m 79 #[.val (.int p1), .val (.int p2), .val (.int p3), .val (.int p4), .val (.int p5), .val (.int c2), .val (.int d2), .val (.ref b5), .val (.ref b21), .val (.ref b_44), .val (.int (0 : Int32)), .unset] [(.ref b5)])) (fun _ k => XS.aload X44.here hx rfl (hb hby at_77) rfl rfl k) ?_
          refine own_go (B := T44.setTop (mkF m 81 #[.val (.int p1), .val (.int p2), .val (.int p3), .val (.int p4), .val (.int p5), .val (.int c2), .val (.int d2), .val (.ref b5), .val (.ref b21), .val (.ref b_44), .val (.int (0 : Int32)), .unset] [(.ref b21), (.ref b5)])) (fun _ k => XS.aload X44.here hx rfl (hb hby at_79) rfl rfl k) ?_
          obtain ⟨cq75, kq75, q75a, q75b, q75c⟩ := isOf hZ rfl E_49
          obtain ⟨_, _, ⟨T75, L75, k75, n75⟩, -, X75, ⟨Lc75, hQ75, l75, y75, z75⟩, st75⟩ := X44.virtualBack hx (y := (⟨"com/example/carillon/carillon/Period", "equals", "(Ljava/lang/Object;)Z"⟩ : MethodName)) (z := (⟨"com/example/carillon/carillon/Period", "equals", "(Ljava/lang/Object;)Z"⟩ : MethodName)) hown (mvT hZ (own_w hw 20 rfl)) (mvT hZ (own_w hw 21 rfl)) (notFace_of_selects (args := #[]) (mvT hZ (own_w hw 23 rfl))) (mvT hZ (own_w hw 23 rfl)) (mvT hZ (own_w hw 22 rfl)) (by decide) (backOf (W := 0) (own_eq l Z a0 hw [] b5 b21 p1 p2 c2 d2 T44.heap n0 (Nat.le_trans Z0 K55.1) F_50 F_51 E_52 F_53 F_54) hZ (own_w hw 24 rfl) (own_w hw 2 rfl) (by decide) (by decide)) q75a q75c (g := (mkF m 81 #[.val (.int p1), .val (.int p2), .val (.int p3), .val (.int p4), .val (.int p5), .val (.int c2), .val (.int d2), .val (.ref b5), .val (.ref b21), .val (.ref b_44), .val (.int (0 : Int32)), .unset] [(.ref b21), (.ref b5)])) rfl (by rw [hml]; rfl) (Steps.refl _) (argsL := [(.ref b21)]) (rest := []) (lenOf own_pd4 rfl) rfl (by show 2 * 0 + _ ≤ _; exact Nat.le_of_eq rfl) (hb hby at_81) (fun _ _ => ⟨rfl, rfl, (by decide : 3 + 0 ≤ _), (by decide : 5 + 0 ≤ _)⟩)
          dsimp only [Pt.U, Pt.locs, Pt.cells, Pt.slots] at X75 l75 y75 z75 st75 hQ75
          subst l75 y75 z75
          obtain ⟨rfl, N75q, e75⟩ := hQ75
          have N75 := Fr.app N44 N75q
          refine own_go (B := T75.setTop (mkF m 84 #[.val (.int p1), .val (.int p2), .val (.int p3), .val (.int p4), .val (.int p5), .val (.int c2), .val (.int d2), .val (.ref b5), .val (.ref b21), .val (.ref b_44), .val (.int (0 : Int32)), .unset] [(.int (own_b (p1.toInt = c2.toInt ∧ p2.toInt = d2.toInt)))])) (fun _ k => st75.trans k) ?_
          have hc76 : ¬ (p1.toInt = c2.toInt ∧ p2.toInt = d2.toInt) := (own_pl_rm0_4 p1 p2 c2 d2 hc56 hc57)
          rw [own_b0 hc76]
          show own_Fin _ _ _ _ _ _ _ (T75.setTop (mkF m 84 #[.val (.int p1), .val (.int p2), .val (.int p3), .val (.int p4), .val (.int p5), .val (.int c2), .val (.int d2), .val (.ref b5), .val (.ref b21), .val (.ref b_44), .val (.int (0 : Int32)), .unset] [(.int (0 : Int32))]))
          refine own_go (B := T75.setTop (mkF m 86 #[.val (.int p1), .val (.int p2), .val (.int p3), .val (.int p4), .val (.int p5), .val (.int c2), .val (.int d2), .val (.ref b5), .val (.ref b21), .val (.ref b_44), .val (.int (0 : Int32)), .unset] [(.int (0 : Int32)), (.int (0 : Int32))])) (fun _ k => XS.iload X75.here hx rfl (hb hby at_84) rfl  k) ?_
          have hc77 : (0 : Int32) = (0 : Int32) := by decide
          refine own_go (B := T75.setTop (mkF m 89 #[.val (.int p1), .val (.int p2), .val (.int p3), .val (.int p4), .val (.int p5), .val (.int c2), .val (.int d2), .val (.ref b5), .val (.ref b21), .val (.ref b_44), .val (.int (0 : Int32)), .unset] [])) (fun _ k => XS.icmpNo X75.here hx rfl (hb hby at_86) rfl (teq hc77).2 k) ?_
          refine own_go (B := T75.setTop (mkF m 90 #[.val (.int p1), .val (.int p2), .val (.int p3), .val (.int p4), .val (.int p5), .val (.int c2), .val (.int d2), .val (.ref b5), .val (.ref b21), .val (.ref b_44), .val (.int (0 : Int32)), .unset] [(.int (1 : Int32))])) (fun _ k => XS.iconst X75.here hx rfl (hb hby at_89) k) ?_
          refine own_go (B := T75.setTop (mkF m 94 #[.val (.int p1), .val (.int p2), .val (.int p3), .val (.int p4), .val (.int p5), .val (.int c2), .val (.int d2), .val (.ref b5), .val (.ref b21), .val (.ref b_44), .val (.int (0 : Int32)), .unset] [(.int (1 : Int32))])) (fun _ k => XS.goto X75.here hx rfl (pc0 := 90) (pc' := 94) rfl (hb hby at_90) (by decide) (by decide) k) ?_
          refine own_go (B := T75.setTop (mkF m 96 #[.val (.int p1), .val (.int p2), .val (.int p3), .val (.int p4), .val (.int p5), .val (.int c2), .val (.int d2), .val (.ref b5), .val (.ref b21), .val (.ref b_44), .val (.int (0 : Int32)), .val (.int (1 : Int32))] [])) (fun _ k => XS.istore X75.here hx rfl (hb hby at_94) rfl (l' := #[.val (.int p1), .val (.int p2), .val (.int p3), .val (.int p4), .val (.int p5), .val (.int c2), .val (.int d2), .val (.ref b5), .val (.ref b21), .val (.ref b_44), .val (.int (0 : Int32)), .val (.int (1 : Int32))]) rfl k) ?_
          refine own_go (B := T75.setTop (mkF m 98 #[.val (.int p1), .val (.int p2), .val (.int p3), .val (.int p4), .val (.int p5), .val (.int c2), .val (.int d2), .val (.ref b5), .val (.ref b21), .val (.ref b_44), .val (.int (0 : Int32)), .val (.int (1 : Int32))] [(.int (1 : Int32))])) (fun _ k => XS.iload X75.here hx rfl (hb hby at_96) rfl  k) ?_
          have hc78 : ¬ ((1 : Int32) = (0 : Int32)) := by decide
          refine own_go (B := T75.setTop (mkF m 101 #[.val (.int p1), .val (.int p2), .val (.int p3), .val (.int p4), .val (.int p5), .val (.int c2), .val (.int d2), .val (.ref b5), .val (.ref b21), .val (.ref b_44), .val (.int (0 : Int32)), .val (.int (1 : Int32))] [])) (fun _ k => XS.ifNo X75.here hx rfl (hb hby at_98) rfl ((if0 _ _).trans (feq hc78).1) k) ?_
          refine own_go (B := T75.setTop (mkF m 103 #[.val (.int p1), .val (.int p2), .val (.int p3), .val (.int p4), .val (.int p5), .val (.int c2), .val (.int d2), .val (.ref b5), .val (.ref b21), .val (.ref b_44), .val (.int (0 : Int32)), .val (.int (1 : Int32))] [(.ref b21)])) (fun _ k => XS.aload X75.here hx rfl (hb hby at_101) rfl rfl k) ?_
          refine own_go (B := T75.setTop (mkF m 105 #[.val (.int p1), .val (.int p2), .val (.int p3), .val (.int p4), .val (.int p5), .val (.int c2), .val (.int d2), .val (.ref b5), .val (.ref b21), .val (.ref b_44), .val (.int (0 : Int32)), .val (.int (1 : Int32))] [(.ref b5), (.ref b21)])) (fun _ k => XS.aload X75.here hx rfl (hb hby at_103) rfl rfl k) ?_
          obtain ⟨cq79, kq79, q79a, q79b, q79c⟩ := isOf hZ e75 E_52
          obtain ⟨_, _, ⟨T79, L79, k79, n79⟩, -, X79, ⟨Lc79, hQ79, l79, y79, z79⟩, st79⟩ := X75.virtualBack hx (y := (⟨"com/example/carillon/carillon/Period", "equals", "(Ljava/lang/Object;)Z"⟩ : MethodName)) (z := (⟨"com/example/carillon/carillon/Period", "equals", "(Ljava/lang/Object;)Z"⟩ : MethodName)) hown (mvT hZ (own_w hw 20 rfl)) (mvT hZ (own_w hw 21 rfl)) (notFace_of_selects (args := #[]) (mvT hZ (own_w hw 23 rfl))) (mvT hZ (own_w hw 23 rfl)) (mvT hZ (own_w hw 22 rfl)) (by decide) (backOf (W := 0) (own_eq l Z a0 hw [] b21 b5 c2 d2 p1 p2 T44.heap n0 (Nat.le_trans Z0 K55.1) F_53 F_54 E_49 F_50 F_51) hZ (own_w hw 24 rfl) (own_w hw 2 rfl) (by decide) (by decide)) q79a q79c (g := (mkF m 105 #[.val (.int p1), .val (.int p2), .val (.int p3), .val (.int p4), .val (.int p5), .val (.int c2), .val (.int d2), .val (.ref b5), .val (.ref b21), .val (.ref b_44), .val (.int (0 : Int32)), .val (.int (1 : Int32))] [(.ref b5), (.ref b21)])) rfl (by rw [hml]; rfl) (Steps.refl _) (argsL := [(.ref b5)]) (rest := []) (lenOf own_pd4 rfl) rfl (by show 2 * 0 + _ ≤ _; exact Nat.le_of_eq rfl) (hb hby at_105) (fun _ _ => ⟨rfl, e75, (by decide : 3 + 0 ≤ _), (by decide : 5 + 0 ≤ _)⟩)
          dsimp only [Pt.U, Pt.locs, Pt.cells, Pt.slots] at X79 l79 y79 z79 st79 hQ79
          subst l79 y79 z79
          obtain ⟨rfl, N79q, e79⟩ := hQ79
          have N79 := Fr.app N75 N79q
          refine own_go (B := T79.setTop (mkF m 108 #[.val (.int p1), .val (.int p2), .val (.int p3), .val (.int p4), .val (.int p5), .val (.int c2), .val (.int d2), .val (.ref b5), .val (.ref b21), .val (.ref b_44), .val (.int (0 : Int32)), .val (.int (1 : Int32))] [(.int (own_b (c2.toInt = p1.toInt ∧ d2.toInt = p2.toInt)))])) (fun _ k => st79.trans k) ?_
          have hc80 : ¬ (c2.toInt = p1.toInt ∧ d2.toInt = p2.toInt) := (own_pl_rm0_5 p1 p2 c2 d2 hc56 hc57 hc76)
          rw [own_b0 hc80]
          show own_Fin _ _ _ _ _ _ _ (T79.setTop (mkF m 108 #[.val (.int p1), .val (.int p2), .val (.int p3), .val (.int p4), .val (.int p5), .val (.int c2), .val (.int d2), .val (.ref b5), .val (.ref b21), .val (.ref b_44), .val (.int (0 : Int32)), .val (.int (1 : Int32))] [(.int (0 : Int32))]))
          refine own_go (B := T79.setTop (mkF m 110 #[.val (.int p1), .val (.int p2), .val (.int p3), .val (.int p4), .val (.int p5), .val (.int c2), .val (.int d2), .val (.ref b5), .val (.ref b21), .val (.ref b_44), .val (.int (0 : Int32)), .val (.int (1 : Int32))] [(.int (0 : Int32)), (.int (0 : Int32))])) (fun _ k => XS.iload X79.here hx rfl (hb hby at_108) rfl  k) ?_
          have hc81 : (0 : Int32) = (0 : Int32) := by decide
          refine own_go (B := T79.setTop (mkF m 113 #[.val (.int p1), .val (.int p2), .val (.int p3), .val (.int p4), .val (.int p5), .val (.int c2), .val (.int d2), .val (.ref b5), .val (.ref b21), .val (.ref b_44), .val (.int (0 : Int32)), .val (.int (1 : Int32))] [])) (fun _ k => XS.icmpNo X79.here hx rfl (hb hby at_110) rfl (teq hc81).2 k) ?_
          refine own_go (B := T79.setTop (mkF m 114 #[.val (.int p1), .val (.int p2), .val (.int p3), .val (.int p4), .val (.int p5), .val (.int c2), .val (.int d2), .val (.ref b5), .val (.ref b21), .val (.ref b_44), .val (.int (0 : Int32)), .val (.int (1 : Int32))] [(.int (1 : Int32))])) (fun _ k => XS.iconst X79.here hx rfl (hb hby at_113) k) ?_
          refine own_go (B := T79.setTop (mkF m 118 #[.val (.int p1), .val (.int p2), .val (.int p3), .val (.int p4), .val (.int p5), .val (.int c2), .val (.int d2), .val (.ref b5), .val (.ref b21), .val (.ref b_44), .val (.int (0 : Int32)), .val (.int (1 : Int32))] [(.int (1 : Int32))])) (fun _ k => XS.goto X79.here hx rfl (pc0 := 114) (pc' := 118) rfl (hb hby at_114) (by decide) (by decide) k) ?_
          refine own_go (B := T79.setTop (mkF m 120 #[.val (.int p1), .val (.int p2), .val (.int p3), .val (.int p4), .val (.int p5), .val (.int c2), .val (.int d2), .val (.ref b5), .val (.ref b21), .val (.ref b_44), .val (.int (0 : Int32)), .val (.int (1 : Int32))] [])) (fun _ k => XS.istore X79.here hx rfl (hb hby at_118) rfl (l' := #[.val (.int p1), .val (.int p2), .val (.int p3), .val (.int p4), .val (.int p5), .val (.int c2), .val (.int d2), .val (.ref b5), .val (.ref b21), .val (.ref b_44), .val (.int (0 : Int32)), .val (.int (1 : Int32))]) rfl k) ?_
          refine own_go (B := T79.setTop (mkF m 122 #[.val (.int p1), .val (.int p2), .val (.int p3), .val (.int p4), .val (.int p5), .val (.int c2), .val (.int d2), .val (.ref b5), .val (.ref b21), .val (.ref b_44), .val (.int (0 : Int32)), .val (.int (1 : Int32))] [(.int (1 : Int32))])) (fun _ k => XS.iload X79.here hx rfl (hb hby at_120) rfl  k) ?_
          have hc82 : ¬ ((1 : Int32) = (0 : Int32)) := by decide
          refine own_go (B := T79.setTop (mkF m 125 #[.val (.int p1), .val (.int p2), .val (.int p3), .val (.int p4), .val (.int p5), .val (.int c2), .val (.int d2), .val (.ref b5), .val (.ref b21), .val (.ref b_44), .val (.int (0 : Int32)), .val (.int (1 : Int32))] [])) (fun _ k => XS.ifNo X79.here hx rfl (hb hby at_122) rfl ((if0 _ _).trans (feq hc82).1) k) ?_
          refine own_go (B := T79.setTop (mkF m 127 #[.val (.int p1), .val (.int p2), .val (.int p3), .val (.int p4), .val (.int p5), .val (.int c2), .val (.int d2), .val (.ref b5), .val (.ref b21), .val (.ref b_44), .val (.int (0 : Int32)), .val (.int (1 : Int32))] [(.ref b5)])) (fun _ k => XS.aload X79.here hx rfl (hb hby at_125) rfl rfl k) ?_
          refine own_go (B := T79.setTop (mkF m 129 #[.val (.int p1), .val (.int p2), .val (.int p3), .val (.int p4), .val (.int p5), .val (.int c2), .val (.int d2), .val (.ref b5), .val (.ref b21), .val (.ref b_44), .val (.int (0 : Int32)), .val (.int (1 : Int32))] [(.ref b5), (.ref b5)])) (fun _ k => XS.aload X79.here hx rfl (hb hby at_127) rfl rfl k) ?_
          obtain ⟨cq83, kq83, q83a, q83b, q83c⟩ := isOf hZ e79 E_49
          obtain ⟨_, _, ⟨T83, L83, k83, n83⟩, -, X83, ⟨Lc83, hQ83, l83, y83, z83⟩, st83⟩ := X79.virtualBack hx (y := (⟨"com/example/carillon/carillon/Period", "equals", "(Ljava/lang/Object;)Z"⟩ : MethodName)) (z := (⟨"com/example/carillon/carillon/Period", "equals", "(Ljava/lang/Object;)Z"⟩ : MethodName)) hown (mvT hZ (own_w hw 20 rfl)) (mvT hZ (own_w hw 21 rfl)) (notFace_of_selects (args := #[]) (mvT hZ (own_w hw 23 rfl))) (mvT hZ (own_w hw 23 rfl)) (mvT hZ (own_w hw 22 rfl)) (by decide) (backOf (W := 0) (own_eq l Z a0 hw [] b5 b5 p1 p2 p1 p2 T44.heap n0 (Nat.le_trans Z0 K55.1) F_50 F_51 E_49 F_50 F_51) hZ (own_w hw 24 rfl) (own_w hw 2 rfl) (by decide) (by decide)) q83a q83c (g := (mkF m 129 #[.val (.int p1), .val (.int p2), .val (.int p3), .val (.int p4), .val (.int p5), .val (.int c2), .val (.int d2), .val (.ref b5), .val (.ref b21), .val (.ref b_44), .val (.int (0 : Int32)), .val (.int (1 : Int32))] [(.ref b5), (.ref b5)])) rfl (by rw [hml]; rfl) (Steps.refl _) (argsL := [(.ref b5)]) (rest := []) (lenOf own_pd4 rfl) rfl (by show 2 * 0 + _ ≤ _; exact Nat.le_of_eq rfl) (hb hby at_129) (fun _ _ => ⟨rfl, e79, (by decide : 3 + 0 ≤ _), (by decide : 5 + 0 ≤ _)⟩)
          dsimp only [Pt.U, Pt.locs, Pt.cells, Pt.slots] at X83 l83 y83 z83 st83 hQ83
          subst l83 y83 z83
          obtain ⟨rfl, N83q, e83⟩ := hQ83
          have N83 := Fr.app N79 N83q
          refine own_go (B := T83.setTop (mkF m 132 #[.val (.int p1), .val (.int p2), .val (.int p3), .val (.int p4), .val (.int p5), .val (.int c2), .val (.int d2), .val (.ref b5), .val (.ref b21), .val (.ref b_44), .val (.int (0 : Int32)), .val (.int (1 : Int32))] [(.int (own_b (p1.toInt = p1.toInt ∧ p2.toInt = p2.toInt)))])) (fun _ k => st83.trans k) ?_
          have hc84 : p1.toInt = p1.toInt ∧ p2.toInt = p2.toInt := (own_pl_rm0_6 p1 p2 c2 d2 hc56 hc57 hc76 hc80)
          rw [own_b1 hc84]
          show own_Fin _ _ _ _ _ _ _ (T83.setTop (mkF m 132 #[.val (.int p1), .val (.int p2), .val (.int p3), .val (.int p4), .val (.int p5), .val (.int c2), .val (.int d2), .val (.ref b5), .val (.ref b21), .val (.ref b_44), .val (.int (0 : Int32)), .val (.int (1 : Int32))] [(.int (1 : Int32))]))
          have hc85 : ¬ ((1 : Int32) = (0 : Int32)) := by decide
          refine own_go (B := T83.setTop (mkF m 135 #[.val (.int p1), .val (.int p2), .val (.int p3), .val (.int p4), .val (.int p5), .val (.int c2), .val (.int d2), .val (.ref b5), .val (.ref b21), .val (.ref b_44), .val (.int (0 : Int32)), .val (.int (1 : Int32))] [])) (fun _ k => XS.ifNo X83.here hx rfl (hb hby at_132) rfl ((if0 _ _).trans (feq hc85).1) k) ?_
          refine own_go (B := T83.setTop (mkF m 136 #[.val (.int p1), .val (.int p2), .val (.int p3), .val (.int p4), .val (.int p5), .val (.int c2), .val (.int d2), .val (.ref b5), .val (.ref b21), .val (.ref b_44), .val (.int (0 : Int32)), .val (.int (1 : Int32))] [(.int (1 : Int32))])) (fun _ k => XS.iconst X83.here hx rfl (hb hby at_135) k) ?_
          refine own_go (B := T83.setTop (mkF m 140 #[.val (.int p1), .val (.int p2), .val (.int p3), .val (.int p4), .val (.int p5), .val (.int c2), .val (.int d2), .val (.ref b5), .val (.ref b21), .val (.ref b_44), .val (.int (0 : Int32)), .val (.int (1 : Int32))] [(.int (1 : Int32))])) (fun _ k => XS.goto X83.here hx rfl (pc0 := 136) (pc' := 140) rfl (hb hby at_136) (by decide) (by decide) k) ?_
          refine own_go (B := T83.setTop (mkF m 142 #[.val (.int p1), .val (.int p2), .val (.int p3), .val (.int p4), .val (.int p5), .val (.int c2), .val (.int d2), .val (.ref b5), .val (.ref b21), .val (.ref b_44), .val (.int (0 : Int32)), .val (.int (1 : Int32))] [])) (fun _ k => XS.istore X83.here hx rfl (hb hby at_140) rfl (l' := #[.val (.int p1), .val (.int p2), .val (.int p3), .val (.int p4), .val (.int p5), .val (.int c2), .val (.int d2), .val (.ref b5), .val (.ref b21), .val (.ref b_44), .val (.int (0 : Int32)), .val (.int (1 : Int32))]) rfl k) ?_
          refine own_go (B := T83.setTop (mkF m 144 #[.val (.int p1), .val (.int p2), .val (.int p3), .val (.int p4), .val (.int p5), .val (.int c2), .val (.int d2), .val (.ref b5), .val (.ref b21), .val (.ref b_44), .val (.int (0 : Int32)), .val (.int (1 : Int32))] [(.int (1 : Int32))])) (fun _ k => XS.iload X83.here hx rfl (hb hby at_142) rfl  k) ?_
          have hc86 : ¬ ((1 : Int32) = (0 : Int32)) := by decide
          refine own_go (B := T83.setTop (mkF m 147 #[.val (.int p1), .val (.int p2), .val (.int p3), .val (.int p4), .val (.int p5), .val (.int c2), .val (.int d2), .val (.ref b5), .val (.ref b21), .val (.ref b_44), .val (.int (0 : Int32)), .val (.int (1 : Int32))] [])) (fun _ k => XS.ifNo X83.here hx rfl (hb hby at_144) rfl ((if0 _ _).trans (feq hc86).1) k) ?_
          refine own_go (B := T83.setTop (mkF m 149 #[.val (.int p1), .val (.int p2), .val (.int p3), .val (.int p4), .val (.int p5), .val (.int c2), .val (.int d2), .val (.ref b5), .val (.ref b21), .val (.ref b_44), .val (.int (0 : Int32)), .val (.int (1 : Int32))] [(.ref b5)])) (fun _ k => XS.aload X83.here hx rfl (hb hby at_147) rfl rfl k) ?_
          refine own_go (B := T83.setTop (mkF m 150 #[.val (.int p1), .val (.int p2), .val (.int p3), .val (.int p4), .val (.int p5), .val (.int c2), .val (.int d2), .val (.ref b5), .val (.ref b21), .val (.ref b_44), .val (.int (0 : Int32)), .val (.int (1 : Int32))] [.null, (.ref b5)])) (fun _ k => XS.aconstNull X83.here hx rfl (hb hby at_149) k) ?_
          obtain ⟨cq87, kq87, q87a, q87b, q87c⟩ := isOf hZ e83 E_49
          obtain ⟨_, _, ⟨T87, L87, k87, n87⟩, -, X87, ⟨Lc87, hQ87, l87, y87, z87⟩, st87⟩ := X83.virtualBack hx (y := (⟨"com/example/carillon/carillon/Period", "equals", "(Ljava/lang/Object;)Z"⟩ : MethodName)) (z := (⟨"com/example/carillon/carillon/Period", "equals", "(Ljava/lang/Object;)Z"⟩ : MethodName)) hown (mvT hZ (own_w hw 20 rfl)) (mvT hZ (own_w hw 21 rfl)) (notFace_of_selects (args := #[]) (mvT hZ (own_w hw 23 rfl))) (mvT hZ (own_w hw 23 rfl)) (mvT hZ (own_w hw 22 rfl)) (by decide) (backOf (W := 0) (own_eqN l Z a0 hw [] b5 T44.heap n0 (Nat.le_trans Z0 K55.1) ) hZ (own_w hw 24 rfl) (own_w hw 2 rfl) (by decide) (by decide)) q87a q87c (g := (mkF m 150 #[.val (.int p1), .val (.int p2), .val (.int p3), .val (.int p4), .val (.int p5), .val (.int c2), .val (.int d2), .val (.ref b5), .val (.ref b21), .val (.ref b_44), .val (.int (0 : Int32)), .val (.int (1 : Int32))] [.null, (.ref b5)])) rfl (by rw [hml]; rfl) (Steps.refl _) (argsL := [.null]) (rest := []) (lenOf own_pd4 rfl) rfl (by show 2 * 0 + _ ≤ _; exact Nat.le_of_eq rfl) (hb hby at_150) (fun _ _ => ⟨rfl, e83, (by decide : 3 + 0 ≤ _), (by decide : 5 + 0 ≤ _)⟩)
          dsimp only [Pt.U, Pt.locs, Pt.cells, Pt.slots] at X87 l87 y87 z87 st87 hQ87
          subst l87 y87 z87
          obtain ⟨rfl, N87q, e87⟩ := hQ87
          have N87 := Fr.app N83 N87q
          refine own_go (B := T87.setTop (mkF m 153 #[.val (.int p1), .val (.int p2), .val (.int p3), .val (.int p4), .val (.int p5), .val (.int c2), .val (.int d2), .val (.ref b5), .val (.ref b21), .val (.ref b_44), .val (.int (0 : Int32)), .val (.int (1 : Int32))] [(.int (0 : Int32))])) (fun _ k => st87.trans k) ?_
          have hc88 : (0 : Int32) = (0 : Int32) := by decide
          refine own_go (B := T87.setTop (mkF m 156 #[.val (.int p1), .val (.int p2), .val (.int p3), .val (.int p4), .val (.int p5), .val (.int c2), .val (.int d2), .val (.ref b5), .val (.ref b21), .val (.ref b_44), .val (.int (0 : Int32)), .val (.int (1 : Int32))] [])) (fun _ k => XS.ifNo X87.here hx rfl (hb hby at_153) rfl ((if0 _ _).trans (teq hc88).2) k) ?_
          refine own_go (B := T87.setTop (mkF m 157 #[.val (.int p1), .val (.int p2), .val (.int p3), .val (.int p4), .val (.int p5), .val (.int c2), .val (.int d2), .val (.ref b5), .val (.ref b21), .val (.ref b_44), .val (.int (0 : Int32)), .val (.int (1 : Int32))] [(.int (1 : Int32))])) (fun _ k => XS.iconst X87.here hx rfl (hb hby at_156) k) ?_
          refine own_go (B := T87.setTop (mkF m 161 #[.val (.int p1), .val (.int p2), .val (.int p3), .val (.int p4), .val (.int p5), .val (.int c2), .val (.int d2), .val (.ref b5), .val (.ref b21), .val (.ref b_44), .val (.int (0 : Int32)), .val (.int (1 : Int32))] [(.int (1 : Int32))])) (fun _ k => XS.goto X87.here hx rfl (pc0 := 157) (pc' := 161) rfl (hb hby at_157) (by decide) (by decide) k) ?_
          refine own_go (B := T87.setTop (mkF m 163 #[.val (.int p1), .val (.int p2), .val (.int p3), .val (.int p4), .val (.int p5), .val (.int c2), .val (.int d2), .val (.ref b5), .val (.ref b21), .val (.ref b_44), .val (.int (0 : Int32)), .val (.int (1 : Int32))] [])) (fun _ k => XS.istore X87.here hx rfl (hb hby at_161) rfl (l' := #[.val (.int p1), .val (.int p2), .val (.int p3), .val (.int p4), .val (.int p5), .val (.int c2), .val (.int d2), .val (.ref b5), .val (.ref b21), .val (.ref b_44), .val (.int (0 : Int32)), .val (.int (1 : Int32))]) rfl k) ?_
          refine own_go (B := T87.setTop (mkF m 165 #[.val (.int p1), .val (.int p2), .val (.int p3), .val (.int p4), .val (.int p5), .val (.int c2), .val (.int d2), .val (.ref b5), .val (.ref b21), .val (.ref b_44), .val (.int (0 : Int32)), .val (.int (1 : Int32))] [(.int (1 : Int32))])) (fun _ k => XS.iload X87.here hx rfl (hb hby at_163) rfl  k) ?_
          have hc89 : ¬ ((1 : Int32) = (0 : Int32)) := by decide
          refine own_go (B := T87.setTop (mkF m 168 #[.val (.int p1), .val (.int p2), .val (.int p3), .val (.int p4), .val (.int p5), .val (.int c2), .val (.int d2), .val (.ref b5), .val (.ref b21), .val (.ref b_44), .val (.int (0 : Int32)), .val (.int (1 : Int32))] [])) (fun _ k => XS.ifNo X87.here hx rfl (hb hby at_165) rfl ((if0 _ _).trans (feq hc89).1) k) ?_
          refine own_go (B := T87.setTop (mkF m 170 #[.val (.int p1), .val (.int p2), .val (.int p3), .val (.int p4), .val (.int p5), .val (.int c2), .val (.int d2), .val (.ref b5), .val (.ref b21), .val (.ref b_44), .val (.int (0 : Int32)), .val (.int (1 : Int32))] [(.ref b5)])) (fun _ k => XS.aload X87.here hx rfl (hb hby at_168) rfl rfl k) ?_
          refine own_go (B := T87.setTop (mkF m 172 #[.val (.int p1), .val (.int p2), .val (.int p3), .val (.int p4), .val (.int p5), .val (.int c2), .val (.int d2), .val (.ref b5), .val (.ref b21), .val (.ref b_44), .val (.int (0 : Int32)), .val (.int (1 : Int32))] [(.ref b_44), (.ref b5)])) (fun _ k => XS.aload X87.here hx rfl (hb hby at_170) rfl rfl k) ?_
          obtain ⟨cq90, kq90, q90a, q90b, q90c⟩ := isOf hZ e87 E_49
          obtain ⟨_, _, ⟨T90, L90, k90, n90⟩, -, X90, ⟨Lc90, hQ90, l90, y90, z90⟩, st90⟩ := X87.virtualBack hx (y := (⟨"com/example/carillon/carillon/Period", "equals", "(Ljava/lang/Object;)Z"⟩ : MethodName)) (z := (⟨"com/example/carillon/carillon/Period", "equals", "(Ljava/lang/Object;)Z"⟩ : MethodName)) hown (mvT hZ (own_w hw 20 rfl)) (mvT hZ (own_w hw 21 rfl)) (notFace_of_selects (args := #[]) (mvT hZ (own_w hw 23 rfl))) (mvT hZ (own_w hw 23 rfl)) (mvT hZ (own_w hw 22 rfl)) (by decide) (backOf (W := 0) (own_eqI l Z a0 hw [] b5 b_44 T44.heap n0 (Nat.le_trans Z0 K55.1) Q44_0) hZ (own_w hw 24 rfl) (own_w hw 2 rfl) (by decide) (by decide)) q90a q90c (g := (mkF m 172 #[.val (.int p1), .val (.int p2), .val (.int p3), .val (.int p4), .val (.int p5), .val (.int c2), .val (.int d2), .val (.ref b5), .val (.ref b21), .val (.ref b_44), .val (.int (0 : Int32)), .val (.int (1 : Int32))] [(.ref b_44), (.ref b5)])) rfl (by rw [hml]; rfl) (Steps.refl _) (argsL := [(.ref b_44)]) (rest := []) (lenOf own_pd4 rfl) rfl (by show 2 * 0 + _ ≤ _; exact Nat.le_of_eq rfl) (hb hby at_172) (fun _ _ => ⟨rfl, e87, (by decide : 3 + 0 ≤ _), (by decide : 5 + 0 ≤ _)⟩)
          dsimp only [Pt.U, Pt.locs, Pt.cells, Pt.slots] at X90 l90 y90 z90 st90 hQ90
          subst l90 y90 z90
          obtain ⟨rfl, N90q, e90⟩ := hQ90
          have N90 := Fr.app N87 N90q
          refine own_go (B := T90.setTop (mkF m 175 #[.val (.int p1), .val (.int p2), .val (.int p3), .val (.int p4), .val (.int p5), .val (.int c2), .val (.int d2), .val (.ref b5), .val (.ref b21), .val (.ref b_44), .val (.int (0 : Int32)), .val (.int (1 : Int32))] [(.int (0 : Int32))])) (fun _ k => st90.trans k) ?_
          have hc91 : (0 : Int32) = (0 : Int32) := by decide
          refine own_go (B := T90.setTop (mkF m 178 #[.val (.int p1), .val (.int p2), .val (.int p3), .val (.int p4), .val (.int p5), .val (.int c2), .val (.int d2), .val (.ref b5), .val (.ref b21), .val (.ref b_44), .val (.int (0 : Int32)), .val (.int (1 : Int32))] [])) (fun _ k => XS.ifNo X90.here hx rfl (hb hby at_175) rfl ((if0 _ _).trans (teq hc91).2) k) ?_
          refine own_go (B := T90.setTop (mkF m 179 #[.val (.int p1), .val (.int p2), .val (.int p3), .val (.int p4), .val (.int p5), .val (.int c2), .val (.int d2), .val (.ref b5), .val (.ref b21), .val (.ref b_44), .val (.int (0 : Int32)), .val (.int (1 : Int32))] [(.int (1 : Int32))])) (fun _ k => XS.iconst X90.here hx rfl (hb hby at_178) k) ?_
          refine own_go (B := T90.setTop (mkF m 183 #[.val (.int p1), .val (.int p2), .val (.int p3), .val (.int p4), .val (.int p5), .val (.int c2), .val (.int d2), .val (.ref b5), .val (.ref b21), .val (.ref b_44), .val (.int (0 : Int32)), .val (.int (1 : Int32))] [(.int (1 : Int32))])) (fun _ k => XS.goto X90.here hx rfl (pc0 := 179) (pc' := 183) rfl (hb hby at_179) (by decide) (by decide) k) ?_
          refine own_go (B := T90.setTop (mkF m 185 #[.val (.int p1), .val (.int p2), .val (.int p3), .val (.int p4), .val (.int p5), .val (.int c2), .val (.int d2), .val (.ref b5), .val (.ref b21), .val (.ref b_44), .val (.int (0 : Int32)), .val (.int (1 : Int32))] [])) (fun _ k => XS.istore X90.here hx rfl (hb hby at_183) rfl (l' := #[.val (.int p1), .val (.int p2), .val (.int p3), .val (.int p4), .val (.int p5), .val (.int c2), .val (.int d2), .val (.ref b5), .val (.ref b21), .val (.ref b_44), .val (.int (0 : Int32)), .val (.int (1 : Int32))]) rfl k) ?_
          refine own_go (B := T90.setTop (mkF m 187 #[.val (.int p1), .val (.int p2), .val (.int p3), .val (.int p4), .val (.int p5), .val (.int c2), .val (.int d2), .val (.ref b5), .val (.ref b21), .val (.ref b_44), .val (.int (0 : Int32)), .val (.int (1 : Int32))] [(.int (1 : Int32))])) (fun _ k => XS.iload X90.here hx rfl (hb hby at_185) rfl  k) ?_
          exact own_retN X90 hx Bd.notSynchronized (t := .boolean) (w := (1 : Int32)) Bd.returns (by simp) (hb hby at_187) e90 rfl ⟨rfl, N90, K55⟩ (by decide) (by decide)
      · skip
        refine own_go (B := T44.setTop (mkF m 74 #[.val (.int p1), .val (.int p2), .val (.int p3), .val (.int p4), .val (.int p5), .val (.int c2), .val (.int d2), .val (.ref b5), .val (.ref b21), .val (.ref b_44), .unset, .unset] [])) (fun _ k => XS.icmpYes X44.here hx rfl (pc0 := 61) (pc' := 74) rfl (hb hby at_61) rfl (feq hc56).2 (by decide) (by decide) k) ?_
        refine own_go (B := T44.setTop (mkF m 75 #[.val (.int p1), .val (.int p2), .val (.int p3), .val (.int p4), .val (.int p5), .val (.int c2), .val (.int d2), .val (.ref b5), .val (.ref b21), .val (.ref b_44), .unset, .unset] [(.int (0 : Int32))])) (fun _ k => XS.iconst X44.here hx rfl (hb hby at_74) k) ?_
        refine own_go (B := T44.setTop (mkF m 77 #[.val (.int p1), .val (.int p2), .val (.int p3), .val (.int p4), .val (.int p5), .val (.int c2), .val (.int d2), .val (.ref b5), .val (.ref b21), .val (.ref b_44), .val (.int (0 : Int32)), .unset] [])) (fun _ k => XS.istore X44.here hx rfl (hb hby at_75) rfl (l' := #[.val (.int p1), .val (.int p2), .val (.int p3), .val (.int p4), .val (.int p5), .val (.int c2), .val (.int d2), .val (.ref b5), .val (.ref b21), .val (.ref b_44), .val (.int (0 : Int32)), .unset]) rfl k) ?_
        refine own_go (B := T44.setTop (mkF m 79 #[.val (.int p1), .val (.int p2), .val (.int p3), .val (.int p4), .val (.int p5), .val (.int c2), .val (.int d2), .val (.ref b5), .val (.ref b21), .val (.ref b_44), .val (.int (0 : Int32)), .unset] [(.ref b5)])) (fun _ k => XS.aload X44.here hx rfl (hb hby at_77) rfl rfl k) ?_
        refine own_go (B := T44.setTop (mkF m 81 #[.val (.int p1), .val (.int p2), .val (.int p3), .val (.int p4), .val (.int p5), .val (.int c2), .val (.int d2), .val (.ref b5), .val (.ref b21), .val (.ref b_44), .val (.int (0 : Int32)), .unset] [(.ref b21), (.ref b5)])) (fun _ k => XS.aload X44.here hx rfl (hb hby at_79) rfl rfl k) ?_
        obtain ⟨cq92, kq92, q92a, q92b, q92c⟩ := isOf hZ rfl E_49
        obtain ⟨_, _, ⟨T92, L92, k92, n92⟩, -, X92, ⟨Lc92, hQ92, l92, y92, z92⟩, st92⟩ := X44.virtualBack hx (y := (⟨"com/example/carillon/carillon/Period", "equals", "(Ljava/lang/Object;)Z"⟩ : MethodName)) (z := (⟨"com/example/carillon/carillon/Period", "equals", "(Ljava/lang/Object;)Z"⟩ : MethodName)) hown (mvT hZ (own_w hw 20 rfl)) (mvT hZ (own_w hw 21 rfl)) (notFace_of_selects (args := #[]) (mvT hZ (own_w hw 23 rfl))) (mvT hZ (own_w hw 23 rfl)) (mvT hZ (own_w hw 22 rfl)) (by decide) (backOf (W := 0) (own_eq l Z a0 hw [] b5 b21 p1 p2 c2 d2 T44.heap n0 (Nat.le_trans Z0 K55.1) F_50 F_51 E_52 F_53 F_54) hZ (own_w hw 24 rfl) (own_w hw 2 rfl) (by decide) (by decide)) q92a q92c (g := (mkF m 81 #[.val (.int p1), .val (.int p2), .val (.int p3), .val (.int p4), .val (.int p5), .val (.int c2), .val (.int d2), .val (.ref b5), .val (.ref b21), .val (.ref b_44), .val (.int (0 : Int32)), .unset] [(.ref b21), (.ref b5)])) rfl (by rw [hml]; rfl) (Steps.refl _) (argsL := [(.ref b21)]) (rest := []) (lenOf own_pd4 rfl) rfl (by show 2 * 0 + _ ≤ _; exact Nat.le_of_eq rfl) (hb hby at_81) (fun _ _ => ⟨rfl, rfl, (by decide : 3 + 0 ≤ _), (by decide : 5 + 0 ≤ _)⟩)
        dsimp only [Pt.U, Pt.locs, Pt.cells, Pt.slots] at X92 l92 y92 z92 st92 hQ92
        subst l92 y92 z92
        obtain ⟨rfl, N92q, e92⟩ := hQ92
        have N92 := Fr.app N44 N92q
        refine own_go (B := T92.setTop (mkF m 84 #[.val (.int p1), .val (.int p2), .val (.int p3), .val (.int p4), .val (.int p5), .val (.int c2), .val (.int d2), .val (.ref b5), .val (.ref b21), .val (.ref b_44), .val (.int (0 : Int32)), .unset] [(.int (own_b (p1.toInt = c2.toInt ∧ p2.toInt = d2.toInt)))])) (fun _ k => st92.trans k) ?_
        have hc93 : ¬ (p1.toInt = c2.toInt ∧ p2.toInt = d2.toInt) := (own_pl_rm0_7 p1 p2 c2 d2 hc56)
        rw [own_b0 hc93]
        show own_Fin _ _ _ _ _ _ _ (T92.setTop (mkF m 84 #[.val (.int p1), .val (.int p2), .val (.int p3), .val (.int p4), .val (.int p5), .val (.int c2), .val (.int d2), .val (.ref b5), .val (.ref b21), .val (.ref b_44), .val (.int (0 : Int32)), .unset] [(.int (0 : Int32))]))
        refine own_go (B := T92.setTop (mkF m 86 #[.val (.int p1), .val (.int p2), .val (.int p3), .val (.int p4), .val (.int p5), .val (.int c2), .val (.int d2), .val (.ref b5), .val (.ref b21), .val (.ref b_44), .val (.int (0 : Int32)), .unset] [(.int (0 : Int32)), (.int (0 : Int32))])) (fun _ k => XS.iload X92.here hx rfl (hb hby at_84) rfl  k) ?_
        have hc94 : (0 : Int32) = (0 : Int32) := by decide
        refine own_go (B := T92.setTop (mkF m 89 #[.val (.int p1), .val (.int p2), .val (.int p3), .val (.int p4), .val (.int p5), .val (.int c2), .val (.int d2), .val (.ref b5), .val (.ref b21), .val (.ref b_44), .val (.int (0 : Int32)), .unset] [])) (fun _ k => XS.icmpNo X92.here hx rfl (hb hby at_86) rfl (teq hc94).2 k) ?_
        refine own_go (B := T92.setTop (mkF m 90 #[.val (.int p1), .val (.int p2), .val (.int p3), .val (.int p4), .val (.int p5), .val (.int c2), .val (.int d2), .val (.ref b5), .val (.ref b21), .val (.ref b_44), .val (.int (0 : Int32)), .unset] [(.int (1 : Int32))])) (fun _ k => XS.iconst X92.here hx rfl (hb hby at_89) k) ?_
        refine own_go (B := T92.setTop (mkF m 94 #[.val (.int p1), .val (.int p2), .val (.int p3), .val (.int p4), .val (.int p5), .val (.int c2), .val (.int d2), .val (.ref b5), .val (.ref b21), .val (.ref b_44), .val (.int (0 : Int32)), .unset] [(.int (1 : Int32))])) (fun _ k => XS.goto X92.here hx rfl (pc0 := 90) (pc' := 94) rfl (hb hby at_90) (by decide) (by decide) k) ?_
        refine own_go (B := T92.setTop (mkF m 96 #[.val (.int p1), .val (.int p2), .val (.int p3), .val (.int p4), .val (.int p5), .val (.int c2), .val (.int d2), .val (.ref b5), .val (.ref b21), .val (.ref b_44), .val (.int (0 : Int32)), .val (.int (1 : Int32))] [])) (fun _ k => XS.istore X92.here hx rfl (hb hby at_94) rfl (l' := #[.val (.int p1), .val (.int p2), .val (.int p3), .val (.int p4), .val (.int p5), .val (.int c2), .val (.int d2), .val (.ref b5), .val (.ref b21), .val (.ref b_44), .val (.int (0 : Int32)), .val (.int (1 : Int32))]) rfl k) ?_
        refine own_go (B := T92.setTop (mkF m 98 #[.val (.int p1), .val (.int p2), .val (.int p3), .val (.int p4), .val (.int p5), .val (.int c2), .val (.int d2), .val (.ref b5), .val (.ref b21), .val (.ref b_44), .val (.int (0 : Int32)), .val (.int (1 : Int32))] [(.int (1 : Int32))])) (fun _ k => XS.iload X92.here hx rfl (hb hby at_96) rfl  k) ?_
        have hc95 : ¬ ((1 : Int32) = (0 : Int32)) := by decide
        refine own_go (B := T92.setTop (mkF m 101 #[.val (.int p1), .val (.int p2), .val (.int p3), .val (.int p4), .val (.int p5), .val (.int c2), .val (.int d2), .val (.ref b5), .val (.ref b21), .val (.ref b_44), .val (.int (0 : Int32)), .val (.int (1 : Int32))] [])) (fun _ k => XS.ifNo X92.here hx rfl (hb hby at_98) rfl ((if0 _ _).trans (feq hc95).1) k) ?_
        refine own_go (B := T92.setTop (mkF m 103 #[.val (.int p1), .val (.int p2), .val (.int p3), .val (.int p4), .val (.int p5), .val (.int c2), .val (.int d2), .val (.ref b5), .val (.ref b21), .val (.ref b_44), .val (.int (0 : Int32)), .val (.int (1 : Int32))] [(.ref b21)])) (fun _ k => XS.aload X92.here hx rfl (hb hby at_101) rfl rfl k) ?_
        refine own_go (B := T92.setTop (mkF m 105 #[.val (.int p1), .val (.int p2), .val (.int p3), .val (.int p4), .val (.int p5), .val (.int c2), .val (.int d2), .val (.ref b5), .val (.ref b21), .val (.ref b_44), .val (.int (0 : Int32)), .val (.int (1 : Int32))] [(.ref b5), (.ref b21)])) (fun _ k => XS.aload X92.here hx rfl (hb hby at_103) rfl rfl k) ?_
        obtain ⟨cq96, kq96, q96a, q96b, q96c⟩ := isOf hZ e92 E_52
        obtain ⟨_, _, ⟨T96, L96, k96, n96⟩, -, X96, ⟨Lc96, hQ96, l96, y96, z96⟩, st96⟩ := X92.virtualBack hx (y := (⟨"com/example/carillon/carillon/Period", "equals", "(Ljava/lang/Object;)Z"⟩ : MethodName)) (z := (⟨"com/example/carillon/carillon/Period", "equals", "(Ljava/lang/Object;)Z"⟩ : MethodName)) hown (mvT hZ (own_w hw 20 rfl)) (mvT hZ (own_w hw 21 rfl)) (notFace_of_selects (args := #[]) (mvT hZ (own_w hw 23 rfl))) (mvT hZ (own_w hw 23 rfl)) (mvT hZ (own_w hw 22 rfl)) (by decide) (backOf (W := 0) (own_eq l Z a0 hw [] b21 b5 c2 d2 p1 p2 T44.heap n0 (Nat.le_trans Z0 K55.1) F_53 F_54 E_49 F_50 F_51) hZ (own_w hw 24 rfl) (own_w hw 2 rfl) (by decide) (by decide)) q96a q96c (g := (mkF m 105 #[.val (.int p1), .val (.int p2), .val (.int p3), .val (.int p4), .val (.int p5), .val (.int c2), .val (.int d2), .val (.ref b5), .val (.ref b21), .val (.ref b_44), .val (.int (0 : Int32)), .val (.int (1 : Int32))] [(.ref b5), (.ref b21)])) rfl (by rw [hml]; rfl) (Steps.refl _) (argsL := [(.ref b5)]) (rest := []) (lenOf own_pd4 rfl) rfl (by show 2 * 0 + _ ≤ _; exact Nat.le_of_eq rfl) (hb hby at_105) (fun _ _ => ⟨rfl, e92, (by decide : 3 + 0 ≤ _), (by decide : 5 + 0 ≤ _)⟩)
        dsimp only [Pt.U, Pt.locs, Pt.cells, Pt.slots] at X96 l96 y96 z96 st96 hQ96
        subst l96 y96 z96
        obtain ⟨rfl, N96q, e96⟩ := hQ96
        have N96 := Fr.app N92 N96q
        refine own_go (B := T96.setTop (mkF m 108 #[.val (.int p1), .val (.int p2), .val (.int p3), .val (.int p4), .val (.int p5), .val (.int c2), .val (.int d2), .val (.ref b5), .val (.ref b21), .val (.ref b_44), .val (.int (0 : Int32)), .val (.int (1 : Int32))] [(.int (own_b (c2.toInt = p1.toInt ∧ d2.toInt = p2.toInt)))])) (fun _ k => st96.trans k) ?_
        have hc97 : ¬ (c2.toInt = p1.toInt ∧ d2.toInt = p2.toInt) := (own_pl_rm0_8 p1 p2 c2 d2 hc56 hc93)
        rw [own_b0 hc97]
        show own_Fin _ _ _ _ _ _ _ (T96.setTop (mkF m 108 #[.val (.int p1), .val (.int p2), .val (.int p3), .val (.int p4), .val (.int p5), .val (.int c2), .val (.int d2), .val (.ref b5), .val (.ref b21), .val (.ref b_44), .val (.int (0 : Int32)), .val (.int (1 : Int32))] [(.int (0 : Int32))]))
        refine own_go (B := T96.setTop (mkF m 110 #[.val (.int p1), .val (.int p2), .val (.int p3), .val (.int p4), .val (.int p5), .val (.int c2), .val (.int d2), .val (.ref b5), .val (.ref b21), .val (.ref b_44), .val (.int (0 : Int32)), .val (.int (1 : Int32))] [(.int (0 : Int32)), (.int (0 : Int32))])) (fun _ k => XS.iload X96.here hx rfl (hb hby at_108) rfl  k) ?_
        have hc98 : (0 : Int32) = (0 : Int32) := by decide
        refine own_go (B := T96.setTop (mkF m 113 #[.val (.int p1), .val (.int p2), .val (.int p3), .val (.int p4), .val (.int p5), .val (.int c2), .val (.int d2), .val (.ref b5), .val (.ref b21), .val (.ref b_44), .val (.int (0 : Int32)), .val (.int (1 : Int32))] [])) (fun _ k => XS.icmpNo X96.here hx rfl (hb hby at_110) rfl (teq hc98).2 k) ?_
        refine own_go (B := T96.setTop (mkF m 114 #[.val (.int p1), .val (.int p2), .val (.int p3), .val (.int p4), .val (.int p5), .val (.int c2), .val (.int d2), .val (.ref b5), .val (.ref b21), .val (.ref b_44), .val (.int (0 : Int32)), .val (.int (1 : Int32))] [(.int (1 : Int32))])) (fun _ k => XS.iconst X96.here hx rfl (hb hby at_113) k) ?_
        refine own_go (B := T96.setTop (mkF m 118 #[.val (.int p1), .val (.int p2), .val (.int p3), .val (.int p4), .val (.int p5), .val (.int c2), .val (.int d2), .val (.ref b5), .val (.ref b21), .val (.ref b_44), .val (.int (0 : Int32)), .val (.int (1 : Int32))] [(.int (1 : Int32))])) (fun _ k => XS.goto X96.here hx rfl (pc0 := 114) (pc' := 118) rfl (hb hby at_114) (by decide) (by decide) k) ?_
        refine own_go (B := T96.setTop (mkF m 120 #[.val (.int p1), .val (.int p2), .val (.int p3), .val (.int p4), .val (.int p5), .val (.int c2), .val (.int d2), .val (.ref b5), .val (.ref b21), .val (.ref b_44), .val (.int (0 : Int32)), .val (.int (1 : Int32))] [])) (fun _ k => XS.istore X96.here hx rfl (hb hby at_118) rfl (l' := #[.val (.int p1), .val (.int p2), .val (.int p3), .val (.int p4), .val (.int p5), .val (.int c2), .val (.int d2), .val (.ref b5), .val (.ref b21), .val (.ref b_44), .val (.int (0 : Int32)), .val (.int (1 : Int32))]) rfl k) ?_
        refine own_go (B := T96.setTop (mkF m 122 #[.val (.int p1), .val (.int p2), .val (.int p3), .val (.int p4), .val (.int p5), .val (.int c2), .val (.int d2), .val (.ref b5), .val (.ref b21), .val (.ref b_44), .val (.int (0 : Int32)), .val (.int (1 : Int32))] [(.int (1 : Int32))])) (fun _ k => XS.iload X96.here hx rfl (hb hby at_120) rfl  k) ?_
        have hc99 : ¬ ((1 : Int32) = (0 : Int32)) := by decide
        refine own_go (B := T96.setTop (mkF m 125 #[.val (.int p1), .val (.int p2), .val (.int p3), .val (.int p4), .val (.int p5), .val (.int c2), .val (.int d2), .val (.ref b5), .val (.ref b21), .val (.ref b_44), .val (.int (0 : Int32)), .val (.int (1 : Int32))] [])) (fun _ k => XS.ifNo X96.here hx rfl (hb hby at_122) rfl ((if0 _ _).trans (feq hc99).1) k) ?_
        refine own_go (B := T96.setTop (mkF m 127 #[.val (.int p1), .val (.int p2), .val (.int p3), .val (.int p4), .val (.int p5), .val (.int c2), .val (.int d2), .val (.ref b5), .val (.ref b21), .val (.ref b_44), .val (.int (0 : Int32)), .val (.int (1 : Int32))] [(.ref b5)])) (fun _ k => XS.aload X96.here hx rfl (hb hby at_125) rfl rfl k) ?_
        refine own_go (B := T96.setTop (mkF m 129 #[.val (.int p1), .val (.int p2), .val (.int p3), .val (.int p4), .val (.int p5), .val (.int c2), .val (.int d2), .val (.ref b5), .val (.ref b21), .val (.ref b_44), .val (.int (0 : Int32)), .val (.int (1 : Int32))] [(.ref b5), (.ref b5)])) (fun _ k => XS.aload X96.here hx rfl (hb hby at_127) rfl rfl k) ?_
        obtain ⟨cq100, kq100, q100a, q100b, q100c⟩ := isOf hZ e96 E_49
        obtain ⟨_, _, ⟨T100, L100, k100, n100⟩, -, X100, ⟨Lc100, hQ100, l100, y100, z100⟩, st100⟩ := X96.virtualBack hx (y := (⟨"com/example/carillon/carillon/Period", "equals", "(Ljava/lang/Object;)Z"⟩ : MethodName)) (z := (⟨"com/example/carillon/carillon/Period", "equals", "(Ljava/lang/Object;)Z"⟩ : MethodName)) hown (mvT hZ (own_w hw 20 rfl)) (mvT hZ (own_w hw 21 rfl)) (notFace_of_selects (args := #[]) (mvT hZ (own_w hw 23 rfl))) (mvT hZ (own_w hw 23 rfl)) (mvT hZ (own_w hw 22 rfl)) (by decide) (backOf (W := 0) (own_eq l Z a0 hw [] b5 b5 p1 p2 p1 p2 T44.heap n0 (Nat.le_trans Z0 K55.1) F_50 F_51 E_49 F_50 F_51) hZ (own_w hw 24 rfl) (own_w hw 2 rfl) (by decide) (by decide)) q100a q100c (g := (mkF m 129 #[.val (.int p1), .val (.int p2), .val (.int p3), .val (.int p4), .val (.int p5), .val (.int c2), .val (.int d2), .val (.ref b5), .val (.ref b21), .val (.ref b_44), .val (.int (0 : Int32)), .val (.int (1 : Int32))] [(.ref b5), (.ref b5)])) rfl (by rw [hml]; rfl) (Steps.refl _) (argsL := [(.ref b5)]) (rest := []) (lenOf own_pd4 rfl) rfl (by show 2 * 0 + _ ≤ _; exact Nat.le_of_eq rfl) (hb hby at_129) (fun _ _ => ⟨rfl, e96, (by decide : 3 + 0 ≤ _), (by decide : 5 + 0 ≤ _)⟩)
        dsimp only [Pt.U, Pt.locs, Pt.cells, Pt.slots] at X100 l100 y100 z100 st100 hQ100
        subst l100 y100 z100
        obtain ⟨rfl, N100q, e100⟩ := hQ100
        have N100 := Fr.app N96 N100q
        refine own_go (B := T100.setTop (mkF m 132 #[.val (.int p1), .val (.int p2), .val (.int p3), .val (.int p4), .val (.int p5), .val (.int c2), .val (.int d2), .val (.ref b5), .val (.ref b21), .val (.ref b_44), .val (.int (0 : Int32)), .val (.int (1 : Int32))] [(.int (own_b (p1.toInt = p1.toInt ∧ p2.toInt = p2.toInt)))])) (fun _ k => st100.trans k) ?_
        have hc101 : p1.toInt = p1.toInt ∧ p2.toInt = p2.toInt := (own_pl_rm0_9 p1 p2 c2 d2 hc56 hc93 hc97)
        rw [own_b1 hc101]
        show own_Fin _ _ _ _ _ _ _ (T100.setTop (mkF m 132 #[.val (.int p1), .val (.int p2), .val (.int p3), .val (.int p4), .val (.int p5), .val (.int c2), .val (.int d2), .val (.ref b5), .val (.ref b21), .val (.ref b_44), .val (.int (0 : Int32)), .val (.int (1 : Int32))] [(.int (1 : Int32))]))
        have hc102 : ¬ ((1 : Int32) = (0 : Int32)) := by decide
        refine own_go (B := T100.setTop (mkF m 135 #[.val (.int p1), .val (.int p2), .val (.int p3), .val (.int p4), .val (.int p5), .val (.int c2), .val (.int d2), .val (.ref b5), .val (.ref b21), .val (.ref b_44), .val (.int (0 : Int32)), .val (.int (1 : Int32))] [])) (fun _ k => XS.ifNo X100.here hx rfl (hb hby at_132) rfl ((if0 _ _).trans (feq hc102).1) k) ?_
        refine own_go (B := T100.setTop (mkF m 136 #[.val (.int p1), .val (.int p2), .val (.int p3), .val (.int p4), .val (.int p5), .val (.int c2), .val (.int d2), .val (.ref b5), .val (.ref b21), .val (.ref b_44), .val (.int (0 : Int32)), .val (.int (1 : Int32))] [(.int (1 : Int32))])) (fun _ k => XS.iconst X100.here hx rfl (hb hby at_135) k) ?_
        refine own_go (B := T100.setTop (mkF m 140 #[.val (.int p1), .val (.int p2), .val (.int p3), .val (.int p4), .val (.int p5), .val (.int c2), .val (.int d2), .val (.ref b5), .val (.ref b21), .val (.ref b_44), .val (.int (0 : Int32)), .val (.int (1 : Int32))] [(.int (1 : Int32))])) (fun _ k => XS.goto X100.here hx rfl (pc0 := 136) (pc' := 140) rfl (hb hby at_136) (by decide) (by decide) k) ?_
        refine own_go (B := T100.setTop (mkF m 142 #[.val (.int p1), .val (.int p2), .val (.int p3), .val (.int p4), .val (.int p5), .val (.int c2), .val (.int d2), .val (.ref b5), .val (.ref b21), .val (.ref b_44), .val (.int (0 : Int32)), .val (.int (1 : Int32))] [])) (fun _ k => XS.istore X100.here hx rfl (hb hby at_140) rfl (l' := #[.val (.int p1), .val (.int p2), .val (.int p3), .val (.int p4), .val (.int p5), .val (.int c2), .val (.int d2), .val (.ref b5), .val (.ref b21), .val (.ref b_44), .val (.int (0 : Int32)), .val (.int (1 : Int32))]) rfl k) ?_
        refine own_go (B := T100.setTop (mkF m 144 #[.val (.int p1), .val (.int p2), .val (.int p3), .val (.int p4), .val (.int p5), .val (.int c2), .val (.int d2), .val (.ref b5), .val (.ref b21), .val (.ref b_44), .val (.int (0 : Int32)), .val (.int (1 : Int32))] [(.int (1 : Int32))])) (fun _ k => XS.iload X100.here hx rfl (hb hby at_142) rfl  k) ?_
        have hc103 : ¬ ((1 : Int32) = (0 : Int32)) := by decide
        refine own_go (B := T100.setTop (mkF m 147 #[.val (.int p1), .val (.int p2), .val (.int p3), .val (.int p4), .val (.int p5), .val (.int c2), .val (.int d2), .val (.ref b5), .val (.ref b21), .val (.ref b_44), .val (.int (0 : Int32)), .val (.int (1 : Int32))] [])) (fun _ k => XS.ifNo X100.here hx rfl (hb hby at_144) rfl ((if0 _ _).trans (feq hc103).1) k) ?_
        refine own_go (B := T100.setTop (mkF m 149 #[.val (.int p1), .val (.int p2), .val (.int p3), .val (.int p4), .val (.int p5), .val (.int c2), .val (.int d2), .val (.ref b5), .val (.ref b21), .val (.ref b_44), .val (.int (0 : Int32)), .val (.int (1 : Int32))] [(.ref b5)])) (fun _ k => XS.aload X100.here hx rfl (hb hby at_147) rfl rfl k) ?_
        refine own_go (B := T100.setTop (mkF m 150 #[.val (.int p1), .val (.int p2), .val (.int p3), .val (.int p4), .val (.int p5), .val (.int c2), .val (.int d2), .val (.ref b5), .val (.ref b21), .val (.ref b_44), .val (.int (0 : Int32)), .val (.int (1 : Int32))] [.null, (.ref b5)])) (fun _ k => XS.aconstNull X100.here hx rfl (hb hby at_149) k) ?_
        obtain ⟨cq104, kq104, q104a, q104b, q104c⟩ := isOf hZ e100 E_49
        obtain ⟨_, _, ⟨T104, L104, k104, n104⟩, -, X104, ⟨Lc104, hQ104, l104, y104, z104⟩, st104⟩ := X100.virtualBack hx (y := (⟨"com/example/carillon/carillon/Period", "equals", "(Ljava/lang/Object;)Z"⟩ : MethodName)) (z := (⟨"com/example/carillon/carillon/Period", "equals", "(Ljava/lang/Object;)Z"⟩ : MethodName)) hown (mvT hZ (own_w hw 20 rfl)) (mvT hZ (own_w hw 21 rfl)) (notFace_of_selects (args := #[]) (mvT hZ (own_w hw 23 rfl))) (mvT hZ (own_w hw 23 rfl)) (mvT hZ (own_w hw 22 rfl)) (by decide) (backOf (W := 0) (own_eqN l Z a0 hw [] b5 T44.heap n0 (Nat.le_trans Z0 K55.1) ) hZ (own_w hw 24 rfl) (own_w hw 2 rfl) (by decide) (by decide)) q104a q104c (g := (mkF m 150 #[.val (.int p1), .val (.int p2), .val (.int p3), .val (.int p4), .val (.int p5), .val (.int c2), .val (.int d2), .val (.ref b5), .val (.ref b21), .val (.ref b_44), .val (.int (0 : Int32)), .val (.int (1 : Int32))] [.null, (.ref b5)])) rfl (by rw [hml]; rfl) (Steps.refl _) (argsL := [.null]) (rest := []) (lenOf own_pd4 rfl) rfl (by show 2 * 0 + _ ≤ _; exact Nat.le_of_eq rfl) (hb hby at_150) (fun _ _ => ⟨rfl, e100, (by decide : 3 + 0 ≤ _), (by decide : 5 + 0 ≤ _)⟩)
        dsimp only [Pt.U, Pt.locs, Pt.cells, Pt.slots] at X104 l104 y104 z104 st104 hQ104
        subst l104 y104 z104
        obtain ⟨rfl, N104q, e104⟩ := hQ104
        have N104 := Fr.app N100 N104q
        refine own_go (B := T104.setTop (mkF m 153 #[.val (.int p1), .val (.int p2), .val (.int p3), .val (.int p4), .val (.int p5), .val (.int c2), .val (.int d2), .val (.ref b5), .val (.ref b21), .val (.ref b_44), .val (.int (0 : Int32)), .val (.int (1 : Int32))] [(.int (0 : Int32))])) (fun _ k => st104.trans k) ?_
        have hc105 : (0 : Int32) = (0 : Int32) := by decide
        refine own_go (B := T104.setTop (mkF m 156 #[.val (.int p1), .val (.int p2), .val (.int p3), .val (.int p4), .val (.int p5), .val (.int c2), .val (.int d2), .val (.ref b5), .val (.ref b21), .val (.ref b_44), .val (.int (0 : Int32)), .val (.int (1 : Int32))] [])) (fun _ k => XS.ifNo X104.here hx rfl (hb hby at_153) rfl ((if0 _ _).trans (teq hc105).2) k) ?_
        refine own_go (B := T104.setTop (mkF m 157 #[.val (.int p1), .val (.int p2), .val (.int p3), .val (.int p4), .val (.int p5), .val (.int c2), .val (.int d2), .val (.ref b5), .val (.ref b21), .val (.ref b_44), .val (.int (0 : Int32)), .val (.int (1 : Int32))] [(.int (1 : Int32))])) (fun _ k => XS.iconst X104.here hx rfl (hb hby at_156) k) ?_
        refine own_go (B := T104.setTop (mkF m 161 #[.val (.int p1), .val (.int p2), .val (.int p3), .val (.int p4), .val (.int p5), .val (.int c2), .val (.int d2), .val (.ref b5), .val (.ref b21), .val (.ref b_44), .val (.int (0 : Int32)), .val (.int (1 : Int32))] [(.int (1 : Int32))])) (fun _ k => XS.goto X104.here hx rfl (pc0 := 157) (pc' := 161) rfl (hb hby at_157) (by decide) (by decide) k) ?_
        refine own_go (B := T104.setTop (mkF m 163 #[.val (.int p1), .val (.int p2), .val (.int p3), .val (.int p4), .val (.int p5), .val (.int c2), .val (.int d2), .val (.ref b5), .val (.ref b21), .val (.ref b_44), .val (.int (0 : Int32)), .val (.int (1 : Int32))] [])) (fun _ k => XS.istore X104.here hx rfl (hb hby at_161) rfl (l' := #[.val (.int p1), .val (.int p2), .val (.int p3), .val (.int p4), .val (.int p5), .val (.int c2), .val (.int d2), .val (.ref b5), .val (.ref b21), .val (.ref b_44), .val (.int (0 : Int32)), .val (.int (1 : Int32))]) rfl k) ?_
        refine own_go (B := T104.setTop (mkF m 165 #[.val (.int p1), .val (.int p2), .val (.int p3), .val (.int p4), .val (.int p5), .val (.int c2), .val (.int d2), .val (.ref b5), .val (.ref b21), .val (.ref b_44), .val (.int (0 : Int32)), .val (.int (1 : Int32))] [(.int (1 : Int32))])) (fun _ k => XS.iload X104.here hx rfl (hb hby at_163) rfl  k) ?_
        have hc106 : ¬ ((1 : Int32) = (0 : Int32)) := by decide
        refine own_go (B := T104.setTop (mkF m 168 #[.val (.int p1), .val (.int p2), .val (.int p3), .val (.int p4), .val (.int p5), .val (.int c2), .val (.int d2), .val (.ref b5), .val (.ref b21), .val (.ref b_44), .val (.int (0 : Int32)), .val (.int (1 : Int32))] [])) (fun _ k => XS.ifNo X104.here hx rfl (hb hby at_165) rfl ((if0 _ _).trans (feq hc106).1) k) ?_
        refine own_go (B := T104.setTop (mkF m 170 #[.val (.int p1), .val (.int p2), .val (.int p3), .val (.int p4), .val (.int p5), .val (.int c2), .val (.int d2), .val (.ref b5), .val (.ref b21), .val (.ref b_44), .val (.int (0 : Int32)), .val (.int (1 : Int32))] [(.ref b5)])) (fun _ k => XS.aload X104.here hx rfl (hb hby at_168) rfl rfl k) ?_
        refine own_go (B := T104.setTop (mkF m 172 #[.val (.int p1), .val (.int p2), .val (.int p3), .val (.int p4), .val (.int p5), .val (.int c2), .val (.int d2), .val (.ref b5), .val (.ref b21), .val (.ref b_44), .val (.int (0 : Int32)), .val (.int (1 : Int32))] [(.ref b_44), (.ref b5)])) (fun _ k => XS.aload X104.here hx rfl (hb hby at_170) rfl rfl k) ?_
        obtain ⟨cq107, kq107, q107a, q107b, q107c⟩ := isOf hZ e104 E_49
        obtain ⟨_, _, ⟨T107, L107, k107, n107⟩, -, X107, ⟨Lc107, hQ107, l107, y107, z107⟩, st107⟩ := X104.virtualBack hx (y := (⟨"com/example/carillon/carillon/Period", "equals", "(Ljava/lang/Object;)Z"⟩ : MethodName)) (z := (⟨"com/example/carillon/carillon/Period", "equals", "(Ljava/lang/Object;)Z"⟩ : MethodName)) hown (mvT hZ (own_w hw 20 rfl)) (mvT hZ (own_w hw 21 rfl)) (notFace_of_selects (args := #[]) (mvT hZ (own_w hw 23 rfl))) (mvT hZ (own_w hw 23 rfl)) (mvT hZ (own_w hw 22 rfl)) (by decide) (backOf (W := 0) (own_eqI l Z a0 hw [] b5 b_44 T44.heap n0 (Nat.le_trans Z0 K55.1) Q44_0) hZ (own_w hw 24 rfl) (own_w hw 2 rfl) (by decide) (by decide)) q107a q107c (g := (mkF m 172 #[.val (.int p1), .val (.int p2), .val (.int p3), .val (.int p4), .val (.int p5), .val (.int c2), .val (.int d2), .val (.ref b5), .val (.ref b21), .val (.ref b_44), .val (.int (0 : Int32)), .val (.int (1 : Int32))] [(.ref b_44), (.ref b5)])) rfl (by rw [hml]; rfl) (Steps.refl _) (argsL := [(.ref b_44)]) (rest := []) (lenOf own_pd4 rfl) rfl (by show 2 * 0 + _ ≤ _; exact Nat.le_of_eq rfl) (hb hby at_172) (fun _ _ => ⟨rfl, e104, (by decide : 3 + 0 ≤ _), (by decide : 5 + 0 ≤ _)⟩)
        dsimp only [Pt.U, Pt.locs, Pt.cells, Pt.slots] at X107 l107 y107 z107 st107 hQ107
        subst l107 y107 z107
        obtain ⟨rfl, N107q, e107⟩ := hQ107
        have N107 := Fr.app N104 N107q
        refine own_go (B := T107.setTop (mkF m 175 #[.val (.int p1), .val (.int p2), .val (.int p3), .val (.int p4), .val (.int p5), .val (.int c2), .val (.int d2), .val (.ref b5), .val (.ref b21), .val (.ref b_44), .val (.int (0 : Int32)), .val (.int (1 : Int32))] [(.int (0 : Int32))])) (fun _ k => st107.trans k) ?_
        have hc108 : (0 : Int32) = (0 : Int32) := by decide
        refine own_go (B := T107.setTop (mkF m 178 #[.val (.int p1), .val (.int p2), .val (.int p3), .val (.int p4), .val (.int p5), .val (.int c2), .val (.int d2), .val (.ref b5), .val (.ref b21), .val (.ref b_44), .val (.int (0 : Int32)), .val (.int (1 : Int32))] [])) (fun _ k => XS.ifNo X107.here hx rfl (hb hby at_175) rfl ((if0 _ _).trans (teq hc108).2) k) ?_
        refine own_go (B := T107.setTop (mkF m 179 #[.val (.int p1), .val (.int p2), .val (.int p3), .val (.int p4), .val (.int p5), .val (.int c2), .val (.int d2), .val (.ref b5), .val (.ref b21), .val (.ref b_44), .val (.int (0 : Int32)), .val (.int (1 : Int32))] [(.int (1 : Int32))])) (fun _ k => XS.iconst X107.here hx rfl (hb hby at_178) k) ?_
        refine own_go (B := T107.setTop (mkF m 183 #[.val (.int p1), .val (.int p2), .val (.int p3), .val (.int p4), .val (.int p5), .val (.int c2), .val (.int d2), .val (.ref b5), .val (.ref b21), .val (.ref b_44), .val (.int (0 : Int32)), .val (.int (1 : Int32))] [(.int (1 : Int32))])) (fun _ k => XS.goto X107.here hx rfl (pc0 := 179) (pc' := 183) rfl (hb hby at_179) (by decide) (by decide) k) ?_
        refine own_go (B := T107.setTop (mkF m 185 #[.val (.int p1), .val (.int p2), .val (.int p3), .val (.int p4), .val (.int p5), .val (.int c2), .val (.int d2), .val (.ref b5), .val (.ref b21), .val (.ref b_44), .val (.int (0 : Int32)), .val (.int (1 : Int32))] [])) (fun _ k => XS.istore X107.here hx rfl (hb hby at_183) rfl (l' := #[.val (.int p1), .val (.int p2), .val (.int p3), .val (.int p4), .val (.int p5), .val (.int c2), .val (.int d2), .val (.ref b5), .val (.ref b21), .val (.ref b_44), .val (.int (0 : Int32)), .val (.int (1 : Int32))]) rfl k) ?_
        refine own_go (B := T107.setTop (mkF m 187 #[.val (.int p1), .val (.int p2), .val (.int p3), .val (.int p4), .val (.int p5), .val (.int c2), .val (.int d2), .val (.ref b5), .val (.ref b21), .val (.ref b_44), .val (.int (0 : Int32)), .val (.int (1 : Int32))] [(.int (1 : Int32))])) (fun _ k => XS.iload X107.here hx rfl (hb hby at_185) rfl  k) ?_
        exact own_retN X107 hx Bd.notSynchronized (t := .boolean) (w := (1 : Int32)) Bd.returns (by simp) (hb hby at_187) e107 rfl ⟨rfl, N107, K55⟩ (by decide) (by decide)
    refine own_go (B := s₁.setTop (mkF m 16 #[.val (.int p1), .val (.int p2), .val (.int p3), .val (.int p4), .val (.int p5), .val (.int c2), .unset, .unset, .unset, .unset, .unset, .unset] [(.int p5)])) (fun _ k => XS.iload X0.here hx rfl (hb hby at_14) rfl  k) ?_
    refine own_go (B := s₁.setTop (mkF m 17 #[.val (.int p1), .val (.int p2), .val (.int p3), .val (.int p4), .val (.int p5), .val (.int c2), .unset, .unset, .unset, .unset, .unset, .unset] [(.int (2 : Int32)), (.int p5)])) (fun _ k => XS.iconst X0.here hx rfl (hb hby at_16) k) ?_
    refine own_go (B := s₁.setTop (mkF m 18 #[.val (.int p1), .val (.int p2), .val (.int p3), .val (.int p4), .val (.int p5), .val (.int c2), .unset, .unset, .unset, .unset, .unset, .unset] [(.int (p5 &&& (2 : Int32)))])) (fun _ k => XS.iand X0.here hx rfl (hb hby at_17) rfl k) ?_
    by_cases hc4 : (p5 &&& (2 : Int32)) = (0 : Int32)
    · skip
      refine own_go (B := s₁.setTop (mkF m 25 #[.val (.int p1), .val (.int p2), .val (.int p3), .val (.int p4), .val (.int p5), .val (.int c2), .unset, .unset, .unset, .unset, .unset, .unset] [])) (fun _ k => XS.ifYes X0.here hx rfl (pc0 := 18) (pc' := 25) rfl (hb hby at_18) rfl ((if0 _ _).trans (teq hc4).1) (by decide) (by decide) k) ?_
      refine own_go (B := s₁.setTop (mkF m 26 #[.val (.int p1), .val (.int p2), .val (.int p3), .val (.int p4), .val (.int p5), .val (.int c2), .unset, .unset, .unset, .unset, .unset, .unset] [(.int p4)])) (fun _ k => XS.iloadN X0.here hx rfl (hb hby at_25) rfl  k) ?_
      refine own_go (B := s₁.setTop (mkF m 28 #[.val (.int p1), .val (.int p2), .val (.int p3), .val (.int p4), .val (.int p5), .val (.int c2), .val (.int p4), .unset, .unset, .unset, .unset, .unset] [])) (fun _ k => XS.istore X0.here hx rfl (hb hby at_26) rfl (l' := #[.val (.int p1), .val (.int p2), .val (.int p3), .val (.int p4), .val (.int p5), .val (.int c2), .val (.int p4), .unset, .unset, .unset, .unset, .unset]) rfl k) ?_
      exact J3 p4
    · skip
      refine own_go (B := s₁.setTop (mkF m 21 #[.val (.int p1), .val (.int p2), .val (.int p3), .val (.int p4), .val (.int p5), .val (.int c2), .unset, .unset, .unset, .unset, .unset, .unset] [])) (fun _ k => XS.ifNo X0.here hx rfl (hb hby at_18) rfl ((if0 _ _).trans (feq hc4).1) k) ?_
      refine own_go (B := s₁.setTop (mkF m 22 #[.val (.int p1), .val (.int p2), .val (.int p3), .val (.int p4), .val (.int p5), .val (.int c2), .unset, .unset, .unset, .unset, .unset, .unset] [(.int p2)])) (fun _ k => XS.iloadN X0.here hx rfl (hb hby at_21) rfl  k) ?_
      refine own_go (B := s₁.setTop (mkF m 26 #[.val (.int p1), .val (.int p2), .val (.int p3), .val (.int p4), .val (.int p5), .val (.int c2), .unset, .unset, .unset, .unset, .unset, .unset] [(.int p2)])) (fun _ k => XS.goto X0.here hx rfl (pc0 := 22) (pc' := 26) rfl (hb hby at_22) (by decide) (by decide) k) ?_
      refine own_go (B := s₁.setTop (mkF m 28 #[.val (.int p1), .val (.int p2), .val (.int p3), .val (.int p4), .val (.int p5), .val (.int c2), .val (.int p2), .unset, .unset, .unset, .unset, .unset] [])) (fun _ k => XS.istore X0.here hx rfl (hb hby at_26) rfl (l' := #[.val (.int p1), .val (.int p2), .val (.int p3), .val (.int p4), .val (.int p5), .val (.int c2), .val (.int p2), .unset, .unset, .unset, .unset, .unset]) rfl k) ?_
      exact J3 p2
  refine own_go (B := s₁.setTop (mkF m 2 #[.val (.int p1), .val (.int p2), .val (.int p3), .val (.int p4), .val (.int p5), .unset, .unset, .unset, .unset, .unset, .unset, .unset] [(.int p5)])) (fun _ k => XS.iload X0.here hx rfl (hb hby at_0) rfl  k) ?_
  refine own_go (B := s₁.setTop (mkF m 3 #[.val (.int p1), .val (.int p2), .val (.int p3), .val (.int p4), .val (.int p5), .unset, .unset, .unset, .unset, .unset, .unset, .unset] [(.int (1 : Int32)), (.int p5)])) (fun _ k => XS.iconst X0.here hx rfl (hb hby at_2) k) ?_
  refine own_go (B := s₁.setTop (mkF m 4 #[.val (.int p1), .val (.int p2), .val (.int p3), .val (.int p4), .val (.int p5), .unset, .unset, .unset, .unset, .unset, .unset, .unset] [(.int (p5 &&& (1 : Int32)))])) (fun _ k => XS.iand X0.here hx rfl (hb hby at_3) rfl k) ?_
  by_cases hc2 : (p5 &&& (1 : Int32)) = (0 : Int32)
  · skip
    refine own_go (B := s₁.setTop (mkF m 11 #[.val (.int p1), .val (.int p2), .val (.int p3), .val (.int p4), .val (.int p5), .unset, .unset, .unset, .unset, .unset, .unset, .unset] [])) (fun _ k => XS.ifYes X0.here hx rfl (pc0 := 4) (pc' := 11) rfl (hb hby at_4) rfl ((if0 _ _).trans (teq hc2).1) (by decide) (by decide) k) ?_
    refine own_go (B := s₁.setTop (mkF m 12 #[.val (.int p1), .val (.int p2), .val (.int p3), .val (.int p4), .val (.int p5), .unset, .unset, .unset, .unset, .unset, .unset, .unset] [(.int p3)])) (fun _ k => XS.iloadN X0.here hx rfl (hb hby at_11) rfl  k) ?_
    refine own_go (B := s₁.setTop (mkF m 14 #[.val (.int p1), .val (.int p2), .val (.int p3), .val (.int p4), .val (.int p5), .val (.int p3), .unset, .unset, .unset, .unset, .unset, .unset] [])) (fun _ k => XS.istore X0.here hx rfl (hb hby at_12) rfl (l' := #[.val (.int p1), .val (.int p2), .val (.int p3), .val (.int p4), .val (.int p5), .val (.int p3), .unset, .unset, .unset, .unset, .unset, .unset]) rfl k) ?_
    exact J1 p3
  · skip
    refine own_go (B := s₁.setTop (mkF m 7 #[.val (.int p1), .val (.int p2), .val (.int p3), .val (.int p4), .val (.int p5), .unset, .unset, .unset, .unset, .unset, .unset, .unset] [])) (fun _ k => XS.ifNo X0.here hx rfl (hb hby at_4) rfl ((if0 _ _).trans (feq hc2).1) k) ?_
    refine own_go (B := s₁.setTop (mkF m 8 #[.val (.int p1), .val (.int p2), .val (.int p3), .val (.int p4), .val (.int p5), .unset, .unset, .unset, .unset, .unset, .unset, .unset] [(.int p1)])) (fun _ k => XS.iloadN X0.here hx rfl (hb hby at_7) rfl  k) ?_
    refine own_go (B := s₁.setTop (mkF m 12 #[.val (.int p1), .val (.int p2), .val (.int p3), .val (.int p4), .val (.int p5), .unset, .unset, .unset, .unset, .unset, .unset, .unset] [(.int p1)])) (fun _ k => XS.goto X0.here hx rfl (pc0 := 8) (pc' := 12) rfl (hb hby at_8) (by decide) (by decide) k) ?_
    refine own_go (B := s₁.setTop (mkF m 14 #[.val (.int p1), .val (.int p2), .val (.int p3), .val (.int p4), .val (.int p5), .val (.int p1), .unset, .unset, .unset, .unset, .unset, .unset] [])) (fun _ k => XS.istore X0.here hx rfl (hb hby at_12) rfl (l' := #[.val (.int p1), .val (.int p2), .val (.int p3), .val (.int p4), .val (.int p5), .val (.int p1), .unset, .unset, .unset, .unset, .unset, .unset]) rfl k) ?_
    exact J1 p1
set_option maxRecDepth 65536 in
set_option maxHeartbeats 40000000 in
theorem comes_1 {Post : Tables → Env → Array Value → State → Outcome → State → Prop} (hpost : ∀ tb e args s v u, (limb_1_1.after args s (.returned v) u = true ∧ limb_1_2.after args s (.returned v) u = true ∧ True) → FrameEnd s (.returned v) u (Jvm.fieldLocs frame_1_writes args s ++ Jvm.arrayLocs frame_1_arrays args s ++ Jvm.staticLocs frame_1_statics s) 16 128 → Post tb e args s (.returned v) u) :
    ArmFor flags0 classFile x code maxLocals ret World_1 tables_1 room_1 Calls_1 rest_1 Pre_1 Post := by
  intro l hfl _ _ p e ha hc hk s m args below hf hA hF happ hP
  obtain ⟨hcalls, hrest, hpre⟩ := hP
  obtain ⟨-, -, -, hnamed, -, -, -, hat⟩ := (Spec.applies_iff hf).mp happ
  obtain ⟨hg, hn⟩ := and_e (Cond.before_iff.mp (show (Jvm.Cond.and given_1 narrow_1).before args s = true from hpre))
  obtain ⟨gg1, gg2⟩ := and_e hg
  obtain ⟨gg3, gg4⟩ := and_e gg2
  obtain ⟨gg5, gg6⟩ := and_e gg4
  obtain ⟨gg7, gg8⟩ := and_e gg6
  obtain ⟨gg9, gg10⟩ := and_e gg8
  obtain ⟨w0, w1, w2, w3, w4, rfl⟩ : ∃ w0 w1 w2 w3 w4 : Value, args = #[w0, w1, w2, w3, w4] := by
    have hs : args.size = 5 := by simpa [Cond.value, given_1] using gg1
    obtain ⟨L⟩ := args
    match L, hs with
    | [w0, w1, w2, w3, w4], _ => exact ⟨w0, w1, w2, w3, w4, rfl⟩
  have hw := fun d (hd : d ∈ tables_1) => atoms_spec (ws := Jvm.Cond.code x code maxLocals ret :: tables_1) hat d (List.mem_cons_of_mem _ hd)
  have hfit : Fit s := fun {y c} hc i hi => by
    obtain ⟨ha, rfl⟩ := Array.getElem?_eq_some_iff.mp hc
    have q := List.all_eq_true.mp ((Array.all_eq_true_iff_forall_mem.mp hF) _ (Array.getElem_mem ha)) i (List.mem_range.mpr hi)
    simpa [Array.getElem?_eq_getElem hi] using q
  obtain ⟨hsets, hown0⟩ := atoms_of _ (rest_1_c_eq ▸ (show rest_1_c.before _ s = true from hrest))
  have hr0 := Cond.before_iff.mp hown0
  obtain ⟨i0, ei0⟩ := is_v gg3
  obtain rfl : w0 = (.int i0) := Option.some.inj ei0
  obtain ⟨i1, ei1⟩ := is_v gg5
  obtain rfl : w1 = (.int i1) := Option.some.inj ei1
  obtain ⟨i2, ei2⟩ := is_v gg7
  obtain rfl : w2 = (.int i2) := Option.some.inj ei2
  obtain ⟨i3, ei3⟩ := is_v gg9
  obtain rfl : w3 = (.int i3) := Option.some.inj ei3
  obtain ⟨i4, ei4⟩ := is_v gg10
  obtain rfl : w4 = (.int i4) := Option.some.inj ei4
  obtain ⟨w, cl, ew, C0⟩ := own_cache0 (hsets _ (List.mem_of_getElem? (i := 4) rfl)) (hsets _ (List.mem_of_getElem? (i := 5) rfl)) (hsets _ (List.mem_of_getElem? (i := 6) rfl)) (hsets _ (List.mem_of_getElem? (i := 7) rfl))
  have Sc := Sta.start ew (Or.inr ⟨(own_w hw 18 rfl), (hsets _ (List.mem_of_getElem? (i := 2) rfl))⟩)
  have eh := Cond.eq_int (show (Cond.eq (Term.static "java/lang/Integer$IntegerCache" "high" "I") (.int 127)).holds _ s none s [] = true from (hsets _ (List.mem_of_getElem? (i := 3) rfl))) (rfl : (Term.int 127).eval _ s none [] s = some (.int 127))
  have Sh := Sta.start eh (Or.inr ⟨(own_w hw 18 rfl), (hsets _ (List.mem_of_getElem? (i := 0) rfl))⟩)
  obtain ⟨n, o, h1, h2, h3, _, L, rfl, ⟨rfl, N, _⟩, hq⟩ := own_rm0 l s _ hw tables_1 i0 i1 i2 i3 i4 w cl s.heap s.heap.size (Nat.le_refl _) Sh Sc C0 p e ha hc hk s m _ below hf ((Spec.applies_iff_loose hf).mp happ).1 ⟨rfl, State.Warmed39.refl s, rfl⟩ trivial
  refine ⟨n, _, h1, h2, h3, hpost _ _ _ _ _ _ ⟨Cond.after_iff.mpr rfl, Cond.after_iff.mpr (eq_i res_at (Term.int_eval (1)) rfl), trivial⟩ ⟨hq.1, hq.2.1, (hq.2.2.sift fun y hy => Or.inr (N y hy)).mono (by decide) (by decide)⟩⟩
theorem main_1_1 : Claimed_1_1 := comes_1 fun _ _ _ _ _ _ h hF => ⟨h.1, hF⟩
theorem main_1_2 : Claimed_1_2 := comes_1 fun _ _ _ _ _ _ h hF => ⟨h.2.1, hF⟩
end Jvm.Pilot.@@N@@
namespace Jvm.Pilot.@@N@@
open Jvm Jvm.ClassFile Sem Op Lib Jvm.Free Jvm.Stand Jvm.Pilot.@@N@@.Jvm.D
/-! MADE BY PROGRAM (witnessworld.py) out of the Statement's table words and the real class files: 16 classes; the members and pool entries that the words name. The judged class is class 1, her method 1. -/
namespace start1
open Jvm.ClassFile
def u (s : String) : CpInfo := .utf8 (stringToUtf16 s)
/-- a pool by its gaps: so many unusable entries, then the entry; so many at the end -/
def gap : Nat → List CpInfo → List CpInfo
  | 0, r => r
  | n + 1, r => .unusable :: gap n r
def poolList (es : List (Nat × CpInfo)) (last : Nat) : List CpInfo := es.foldr (fun e r => gap e.1 (e.2 :: r)) (gap last [])
def pool (es : List (Nat × CpInfo)) (last : Nat) : Array CpInfo := ⟨poolList es last⟩
def fileOf (pool : Array CpInfo) (this : Nat) (attrs : Array Attribute := #[]) (ms : Array MethodInfo := #[]) (fl : Nat := 33) (sup : Nat := 0) (ifs : Array Nat := #[]) (fds : Array FieldInfo := #[]) : ClassFile where
  minorVersion := 0
  majorVersion := 65
  constantPool := pool
  accessFlags := fl
  thisClass := this
  superClass := sup
  interfaces := ifs
  fields := fds
  methods := ms
  attributes := attrs
def plain (name : String) (sup : Option ClassId) : Class where
  name := name
  kind := .ordinary
  loader := none
  accessFlags := 33
  super := sup
  interfaces := #[]
  cf := none
  fields := #[]
  methods := #[]
  instanceTypes := #[]
  staticTypes := #[]
  resolved := #[]
  callSites := []
  init := .initialized
  statics := none
  mirror := none

def pool0 : Array CpInfo := pool [(5, u "<init>"), (0, u "()V"), (1, .class_ 10), (1, u "java/lang/Object")] 113

def k0c0 : Code := { maxStack := 0, maxLocals := 1, code := object_method_1_code, exceptionTable := #[], attributes := #[] }
def k0m0 : Method := { name := "<init>", desc := "()V", sig := { parameters := [], returnType := none }, accessFlags := 1, code := some k0c0 }
/-- java/lang/Object -/
def k0 : Class := { plain "java/lang/Object" none with
  accessFlags := 33
  interfaces := #[]
  cf := some (fileOf pool0 8 #[] #[{ accessFlags := 1, nameIndex := 5, descriptorIndex := 6, attributes := #[] }] 33 0 #[] #[])
  fields := #[]
  methods := #[k0m0]
  instanceTypes := #[]
  staticTypes := #[]
  resolved := Array.replicate 124 none
  statics := none }

def pool1 : Array CpInfo := pool [(2, .class_ 4), (1, u "java/lang/Object"), (0, u "<init>"), (0, u "()V"), (0, .class_ 8), (0, u "com/example/carillon/carillon/Period"), (0, .methodref 7 10), (0, .nameAndType 5 11), (0, u "(II)V"), (0, .methodref 13 14), (0, .class_ 15), (0, .nameAndType 16 17), (0, u "java/lang/Integer"), (0, u "valueOf"), (0, u "(I)Ljava/lang/Integer;"), (0, .methodref 7 19), (0, .nameAndType 20 21), (0, u "equals"), (0, u "(Ljava/lang/Object;)Z"), (0, .class_ 23), (0, u "com/example/carillon/carillon/PeriodEqualsPinLaw"), (2, u "law"), (0, u "(IIIII)Z")] 3

def k1m0 : Method := { name := "<init>", desc := "()V", sig := { parameters := [], returnType := none }, accessFlags := 1, code := none }
def k1c1 : Code := { maxStack := 4, maxLocals := 12, code := code, exceptionTable := #[], attributes := #[] }
def k1m1 : Method := { name := "law", desc := "(IIIII)Z", sig := { parameters := [.int, .int, .int, .int, .int], returnType := some .boolean }, accessFlags := 9, code := some k1c1 }
/-- com/example/carillon/carillon/PeriodEqualsPinLaw -/
def k1 : Class := { plain "com/example/carillon/carillon/PeriodEqualsPinLaw" (some 0) with
  accessFlags := 49
  interfaces := #[]
  cf := some (fileOf pool1 22 #[] #[{ accessFlags := 1, nameIndex := 5, descriptorIndex := 6, attributes := #[] }, { accessFlags := 9, nameIndex := 26, descriptorIndex := 27, attributes := #[] }] 49 2 #[] #[])
  fields := #[]
  methods := #[k1m0, k1m1]
  instanceTypes := #[]
  staticTypes := #[]
  resolved := Array.replicate 31 none
  statics := none }

def pool2 : Array CpInfo := pool [(1, .class_ 2), (0, u "java/lang/Comparable"), (0, .class_ 4), (0, u "java/lang/Object")] 7

/-- java/lang/Comparable -/
def k2 : Class := { plain "java/lang/Comparable" (some 0) with
  accessFlags := 1537
  interfaces := #[]
  cf := some (fileOf pool2 1 #[] #[] 1537 3 #[] #[])
  fields := #[]
  methods := #[]
  instanceTypes := #[]
  staticTypes := #[]
  resolved := Array.replicate 12 none
  statics := none }

def pool3 : Array CpInfo := pool [(1, .methodref 2 3), (0, .class_ 4), (0, .nameAndType 5 6), (0, u "java/lang/Object"), (0, u "<init>"), (0, u "()V"), (0, .fieldref 8 9), (0, .class_ 10), (0, .nameAndType 11 12), (0, u "com/example/carillon/carillon/Period"), (0, u "day"), (0, u "I"), (0, .fieldref 8 14), (0, .nameAndType 15 12), (0, u "periodOfDay"), (12, u "(II)V"), (2, u "ORDER"), (0, u "Ljava/util/Comparator;"), (36, .class_ 70), (0, u "java/lang/Comparable"), (16, u "equals"), (0, u "(Ljava/lang/Object;)Z")] 39

def k3c0 : Code := { maxStack := 2, maxLocals := 3, code := prog_13_method_1_code, exceptionTable := #[], attributes := #[] }
def k3m0 : Method := { name := "<init>", desc := "(II)V", sig := { parameters := [.int, .int], returnType := none }, accessFlags := 1, code := some k3c0 }
def k3c1 : Code := { maxStack := 2, maxLocals := 3, code := prog_13_method_10_code, exceptionTable := #[], attributes := #[] }
def k3m1 : Method := { name := "equals", desc := "(Ljava/lang/Object;)Z", sig := { parameters := [(.object "java/lang/Object")], returnType := some .boolean }, accessFlags := 1, code := some k3c1 }
/-- com/example/carillon/carillon/Period -/
def k3 : Class := { plain "com/example/carillon/carillon/Period" (some 0) with
  accessFlags := 49
  interfaces := #[2]
  cf := some (fileOf pool3 8 #[] #[{ accessFlags := 1, nameIndex := 5, descriptorIndex := 28, attributes := #[] }, { accessFlags := 1, nameIndex := 87, descriptorIndex := 88, attributes := #[] }] 49 2 #[69] #[{ accessFlags := 26, nameIndex := 31, descriptorIndex := 32, attributes := #[] }, { accessFlags := 18, nameIndex := 11, descriptorIndex := 12, attributes := #[] }, { accessFlags := 18, nameIndex := 15, descriptorIndex := 12, attributes := #[] }])
  fields := #[{ name := "ORDER", type := (.object "java/util/Comparator"), accessFlags := 26, slot := 0, constantValue := 0 }, { name := "day", type := .int, accessFlags := 18, slot := 0, constantValue := 0 }, { name := "periodOfDay", type := .int, accessFlags := 18, slot := 1, constantValue := 0 }]
  methods := #[k3m0, k3m1]
  instanceTypes := #[.int, .int]
  staticTypes := #[(.object "java/util/Comparator")]
  resolved := Array.replicate 128 none
  statics := none }

def pool4 : Array CpInfo := pool [(1, .class_ 2), (0, u "java/io/Serializable"), (0, .class_ 4), (0, u "java/lang/Object")] 2

/-- java/io/Serializable -/
def k4 : Class := { plain "java/io/Serializable" (some 0) with
  accessFlags := 1537
  interfaces := #[]
  cf := some (fileOf pool4 1 #[] #[] 1537 3 #[] #[])
  fields := #[]
  methods := #[]
  instanceTypes := #[]
  staticTypes := #[]
  resolved := Array.replicate 7 none
  statics := none }

def pool5 : Array CpInfo := pool [(1, .methodref 2 3), (0, .class_ 4), (0, .nameAndType 5 6), (0, u "java/lang/Object"), (0, u "<init>"), (0, u "()V"), (1, .class_ 10), (1, u "java/lang/Number"), (2, .class_ 14), (0, u "java/io/Serializable"), (0, u "serialVersionUID"), (0, u "J")] 20

def k5c0 : Code := { maxStack := 1, maxLocals := 1, code := jdk_18_method_1_code, exceptionTable := #[], attributes := #[] }
def k5m0 : Method := { name := "<init>", desc := "()V", sig := { parameters := [], returnType := none }, accessFlags := 1, code := some k5c0 }
/-- java/lang/Number -/
def k5 : Class := { plain "java/lang/Number" (some 0) with
  accessFlags := 1057
  interfaces := #[4]
  cf := some (fileOf pool5 8 #[] #[{ accessFlags := 1, nameIndex := 5, descriptorIndex := 6, attributes := #[] }] 1057 2 #[13] #[{ accessFlags := 26, nameIndex := 15, descriptorIndex := 16, attributes := #[] }])
  fields := #[{ name := "serialVersionUID", type := .long, accessFlags := 26, slot := 0, constantValue := 0 }]
  methods := #[k5m0]
  instanceTypes := #[]
  staticTypes := #[.long]
  resolved := Array.replicate 37 none
  statics := none }

def pool6 : Array CpInfo := pool [(1, .class_ 2), (0, u "java/lang/constant/Constable"), (0, .class_ 4), (0, u "java/lang/Object")] 6

/-- java/lang/constant/Constable -/
def k6 : Class := { plain "java/lang/constant/Constable" (some 0) with
  accessFlags := 1537
  interfaces := #[]
  cf := some (fileOf pool6 1 #[] #[] 1537 3 #[] #[])
  fields := #[]
  methods := #[]
  instanceTypes := #[]
  staticTypes := #[]
  resolved := Array.replicate 11 none
  statics := none }

def pool7 : Array CpInfo := pool [(1, .class_ 2), (0, u "java/lang/constant/ConstantDesc"), (0, .class_ 4), (0, u "java/lang/Object")] 32

/-- java/lang/constant/ConstantDesc -/
def k7 : Class := { plain "java/lang/constant/ConstantDesc" (some 0) with
  accessFlags := 1537
  interfaces := #[]
  cf := some (fileOf pool7 1 #[] #[] 1537 3 #[] #[])
  fields := #[]
  methods := #[]
  instanceTypes := #[]
  staticTypes := #[]
  resolved := Array.replicate 37 none
  statics := none }

def pool8 : Array CpInfo := pool [(1, .class_ 2), (0, u "java/lang/Integer"), (16, u "digits"), (0, u "[C"), (46, u "<init>"), (17, u "DigitOnes"), (0, u "[B"), (2, u "DigitTens"), (10, .nameAndType 67 101), (0, u "()V"), (85, u "valueOf"), (0, u "(I)Ljava/lang/Integer;"), (0, .class_ 190), (0, u "java/lang/Integer$IntegerCache"), (0, .fieldref 189 192), (0, .nameAndType 193 194), (0, u "high"), (0, u "I"), (0, .fieldref 189 196), (0, .nameAndType 197 198), (0, u "cache"), (0, u "[Ljava/lang/Integer;"), (0, .methodref 1 200), (0, .nameAndType 67 201), (0, u "(I)V"), (0, .methodref 203 100), (0, .class_ 204), (0, u "java/lang/Number"), (0, .fieldref 1 206), (0, .nameAndType 207 194), (0, u "value"), (94, u "TYPE"), (0, u "Ljava/lang/Class;"), (0, .class_ 305), (0, u "java/lang/Comparable"), (0, .class_ 307), (0, u "java/lang/constant/Constable"), (0, .class_ 309), (0, u "java/lang/constant/ConstantDesc"), (0, u "MIN_VALUE"), (1, u "MAX_VALUE"), (3, u "SIZE"), (1, u "BYTES"), (1, u "serialVersionUID"), (0, u "J")] 131

def k8c0 : Code := { maxStack := 3, maxLocals := 1, code := jdk_33_method_22_code, exceptionTable := #[], attributes := #[] }
def k8m0 : Method := { name := "valueOf", desc := "(I)Ljava/lang/Integer;", sig := { parameters := [.int], returnType := some (.object "java/lang/Integer") }, accessFlags := 9, code := some k8c0 }
def k8c1 : Code := { maxStack := 2, maxLocals := 2, code := jdk_33_method_23_code, exceptionTable := #[], attributes := #[] }
def k8m1 : Method := { name := "<init>", desc := "(I)V", sig := { parameters := [.int], returnType := none }, accessFlags := 1, code := some k8c1 }
/-- java/lang/Integer -/
def k8 : Class := { plain "java/lang/Integer" (some 5) with
  accessFlags := 49
  interfaces := #[2, 6, 7]
  cf := some (fileOf pool8 1 #[.nestMembers #[189]] #[{ accessFlags := 9, nameIndex := 187, descriptorIndex := 188, attributes := #[] }, { accessFlags := 1, nameIndex := 67, descriptorIndex := 201, attributes := #[] }] 49 203 #[304, 306, 308] #[{ accessFlags := 25, nameIndex := 310, descriptorIndex := 194, attributes := #[] }, { accessFlags := 25, nameIndex := 312, descriptorIndex := 194, attributes := #[] }, { accessFlags := 25, nameIndex := 302, descriptorIndex := 303, attributes := #[] }, { accessFlags := 24, nameIndex := 19, descriptorIndex := 20, attributes := #[] }, { accessFlags := 24, nameIndex := 89, descriptorIndex := 86, attributes := #[] }, { accessFlags := 24, nameIndex := 85, descriptorIndex := 86, attributes := #[] }, { accessFlags := 18, nameIndex := 207, descriptorIndex := 194, attributes := #[] }, { accessFlags := 25, nameIndex := 316, descriptorIndex := 194, attributes := #[] }, { accessFlags := 25, nameIndex := 318, descriptorIndex := 194, attributes := #[] }, { accessFlags := 26, nameIndex := 320, descriptorIndex := 321, attributes := #[] }])
  fields := #[{ name := "MIN_VALUE", type := .int, accessFlags := 25, slot := 0, constantValue := 0 }, { name := "MAX_VALUE", type := .int, accessFlags := 25, slot := 1, constantValue := 0 }, { name := "TYPE", type := (.object "java/lang/Class"), accessFlags := 25, slot := 2, constantValue := 0 }, { name := "digits", type := (.array .char), accessFlags := 24, slot := 3, constantValue := 0 }, { name := "DigitTens", type := (.array .byte), accessFlags := 24, slot := 4, constantValue := 0 }, { name := "DigitOnes", type := (.array .byte), accessFlags := 24, slot := 5, constantValue := 0 }, { name := "value", type := .int, accessFlags := 18, slot := 0, constantValue := 0 }, { name := "SIZE", type := .int, accessFlags := 25, slot := 6, constantValue := 0 }, { name := "BYTES", type := .int, accessFlags := 25, slot := 7, constantValue := 0 }, { name := "serialVersionUID", type := .long, accessFlags := 26, slot := 8, constantValue := 0 }]
  methods := #[k8m0, k8m1]
  instanceTypes := #[.int]
  staticTypes := #[.int, .int, (.object "java/lang/Class"), (.array .char), (.array .byte), (.array .byte), .int, .int, .long]
  resolved := Array.replicate 453 none
  statics := none }

def pool9 : Array CpInfo := pool [(2, .class_ 4), (1, u "java/lang/Object"), (0, u "<init>"), (0, u "()V"), (0, .class_ 8), (0, u "java/lang/Integer"), (7, .class_ 18), (1, u "java/lang/Integer$IntegerCache"), (0, u "$assertionsDisabled"), (0, u "Z"), (26, u "high"), (0, u "I"), (8, u "archivedCache"), (0, u "[Ljava/lang/Integer;"), (12, u "cache"), (0, u "low")] 27

def k9m0 : Method := { name := "<init>", desc := "()V", sig := { parameters := [], returnType := none }, accessFlags := 2, code := none }
/-- java/lang/Integer$IntegerCache -/
def k9 : Class := { plain "java/lang/Integer$IntegerCache" (some 0) with
  accessFlags := 48
  interfaces := #[]
  cf := some (fileOf pool9 16 #[.nestHost 7] #[{ accessFlags := 2, nameIndex := 5, descriptorIndex := 6, attributes := #[] }] 48 2 #[] #[{ accessFlags := 24, nameIndex := 72, descriptorIndex := 48, attributes := #[] }, { accessFlags := 24, nameIndex := 47, descriptorIndex := 48, attributes := #[] }, { accessFlags := 24, nameIndex := 71, descriptorIndex := 58, attributes := #[] }, { accessFlags := 8, nameIndex := 57, descriptorIndex := 58, attributes := #[] }, { accessFlags := 4120, nameIndex := 19, descriptorIndex := 20, attributes := #[] }])
  fields := #[{ name := "low", type := .int, accessFlags := 24, slot := 0, constantValue := 0 }, { name := "high", type := .int, accessFlags := 24, slot := 1, constantValue := 0 }, { name := "cache", type := (.array (.object "java/lang/Integer")), accessFlags := 24, slot := 2, constantValue := 0 }, { name := "archivedCache", type := (.array (.object "java/lang/Integer")), accessFlags := 8, slot := 3, constantValue := 0 }, { name := "$assertionsDisabled", type := .boolean, accessFlags := 4120, slot := 4, constantValue := 0 }]
  methods := #[k9m0]
  instanceTypes := #[]
  staticTypes := #[.int, .int, (.array (.object "java/lang/Integer")), (.array (.object "java/lang/Integer")), .boolean]
  resolved := Array.replicate 100 none
  statics := some 0 }

def pool10 : Array CpInfo := pool [(1, u "java/lang/Cloneable"), (0, .class_ 1), (0, u "java/lang/Object"), (0, .class_ 3)] 3

/-- java/lang/Cloneable -/
def k10 : Class := { plain "java/lang/Cloneable" (some 0) with
  accessFlags := 1537
  interfaces := #[]
  cf := some (fileOf pool10 2 #[] #[] 1537 4 #[] #[])
  fields := #[]
  methods := #[]
  instanceTypes := #[]
  staticTypes := #[]
  resolved := Array.replicate 8 none
  statics := none }

/-- the primitive byte -/
def k11 : Class := { plain "byte" none with kind := .primitive 'B', accessFlags := 0x411 }
/-- [B -/
def k12 : Class := { plain "[B" (some 0) with kind := .array 11 .byte, interfaces := #[10, 4], accessFlags := 1041 }

/-- the primitive int -/
def k13 : Class := { plain "int" none with kind := .primitive 'I', accessFlags := 0x411 }
/-- [I -/
def k14 : Class := { plain "[I" (some 0) with kind := .array 13 .int, interfaces := #[10, 4], accessFlags := 1041 }

/-- [Ljava/lang/Integer; -/
def k15 : Class := { plain "[Ljava/lang/Integer;" (some 0) with kind := .array 8 (.object "java/lang/Integer"), interfaces := #[10, 4], accessFlags := 1041 }

def heap : Heap := #[{ cls := 9, slots := #[.int 0, .int 127, .ref 1, .null, .int 0], vm := .statics 9 },
  { cls := 15, slots := #[.ref 2, .ref 3, .ref 4, .ref 5, .ref 6, .ref 7, .ref 8, .ref 9, .ref 10, .ref 11, .ref 12, .ref 13, .ref 14, .ref 15, .ref 16, .ref 17, .ref 18, .ref 19, .ref 20, .ref 21, .ref 22, .ref 23, .ref 24, .ref 25, .ref 26, .ref 27, .ref 28, .ref 29, .ref 30, .ref 31, .ref 32, .ref 33, .ref 34, .ref 35, .ref 36, .ref 37, .ref 38, .ref 39, .ref 40, .ref 41, .ref 42, .ref 43, .ref 44, .ref 45, .ref 46, .ref 47, .ref 48, .ref 49, .ref 50, .ref 51, .ref 52, .ref 53, .ref 54, .ref 55, .ref 56, .ref 57, .ref 58, .ref 59, .ref 60, .ref 61, .ref 62, .ref 63, .ref 64, .ref 65, .ref 66, .ref 67, .ref 68, .ref 69, .ref 70, .ref 71, .ref 72, .ref 73, .ref 74, .ref 75, .ref 76, .ref 77, .ref 78, .ref 79, .ref 80, .ref 81, .ref 82, .ref 83, .ref 84, .ref 85, .ref 86, .ref 87, .ref 88, .ref 89, .ref 90, .ref 91, .ref 92, .ref 93, .ref 94, .ref 95, .ref 96, .ref 97, .ref 98, .ref 99, .ref 100, .ref 101, .ref 102, .ref 103, .ref 104, .ref 105, .ref 106, .ref 107, .ref 108, .ref 109, .ref 110, .ref 111, .ref 112, .ref 113, .ref 114, .ref 115, .ref 116, .ref 117, .ref 118, .ref 119, .ref 120, .ref 121, .ref 122, .ref 123, .ref 124, .ref 125, .ref 126, .ref 127, .ref 128, .ref 129, .ref 130, .ref 131, .ref 132, .ref 133, .ref 134, .ref 135, .ref 136, .ref 137, .ref 138, .ref 139, .ref 140, .ref 141, .ref 142, .ref 143, .ref 144, .ref 145, .ref 146, .ref 147, .ref 148, .ref 149, .ref 150, .ref 151, .ref 152, .ref 153, .ref 154, .ref 155, .ref 156, .ref 157, .ref 158, .ref 159, .ref 160, .ref 161, .ref 162, .ref 163, .ref 164, .ref 165, .ref 166, .ref 167, .ref 168, .ref 169, .ref 170, .ref 171, .ref 172, .ref 173, .ref 174, .ref 175, .ref 176, .ref 177, .ref 178, .ref 179, .ref 180, .ref 181, .ref 182, .ref 183, .ref 184, .ref 185, .ref 186, .ref 187, .ref 188, .ref 189, .ref 190, .ref 191, .ref 192, .ref 193, .ref 194, .ref 195, .ref 196, .ref 197, .ref 198, .ref 199, .ref 200, .ref 201, .ref 202, .ref 203, .ref 204, .ref 205, .ref 206, .ref 207, .ref 208, .ref 209, .ref 210, .ref 211, .ref 212, .ref 213, .ref 214, .ref 215, .ref 216, .ref 217, .ref 218, .ref 219, .ref 220, .ref 221, .ref 222, .ref 223, .ref 224, .ref 225, .ref 226, .ref 227, .ref 228, .ref 229, .ref 230, .ref 231, .ref 232, .ref 233, .ref 234, .ref 235, .ref 236, .ref 237, .ref 238, .ref 239, .ref 240, .ref 241, .ref 242, .ref 243, .ref 244, .ref 245, .ref 246, .ref 247, .ref 248, .ref 249, .ref 250, .ref 251, .ref 252, .ref 253, .ref 254, .ref 255, .ref 256, .ref 257], vm := .none },
  { cls := 8, slots := #[.int (-128)], vm := .none },
  { cls := 8, slots := #[.int (-127)], vm := .none },
  { cls := 8, slots := #[.int (-126)], vm := .none },
  { cls := 8, slots := #[.int (-125)], vm := .none },
  { cls := 8, slots := #[.int (-124)], vm := .none },
  { cls := 8, slots := #[.int (-123)], vm := .none },
  { cls := 8, slots := #[.int (-122)], vm := .none },
  { cls := 8, slots := #[.int (-121)], vm := .none },
  { cls := 8, slots := #[.int (-120)], vm := .none },
  { cls := 8, slots := #[.int (-119)], vm := .none },
  { cls := 8, slots := #[.int (-118)], vm := .none },
  { cls := 8, slots := #[.int (-117)], vm := .none },
  { cls := 8, slots := #[.int (-116)], vm := .none },
  { cls := 8, slots := #[.int (-115)], vm := .none },
  { cls := 8, slots := #[.int (-114)], vm := .none },
  { cls := 8, slots := #[.int (-113)], vm := .none },
  { cls := 8, slots := #[.int (-112)], vm := .none },
  { cls := 8, slots := #[.int (-111)], vm := .none },
  { cls := 8, slots := #[.int (-110)], vm := .none },
  { cls := 8, slots := #[.int (-109)], vm := .none },
  { cls := 8, slots := #[.int (-108)], vm := .none },
  { cls := 8, slots := #[.int (-107)], vm := .none },
  { cls := 8, slots := #[.int (-106)], vm := .none },
  { cls := 8, slots := #[.int (-105)], vm := .none },
  { cls := 8, slots := #[.int (-104)], vm := .none },
  { cls := 8, slots := #[.int (-103)], vm := .none },
  { cls := 8, slots := #[.int (-102)], vm := .none },
  { cls := 8, slots := #[.int (-101)], vm := .none },
  { cls := 8, slots := #[.int (-100)], vm := .none },
  { cls := 8, slots := #[.int (-99)], vm := .none },
  { cls := 8, slots := #[.int (-98)], vm := .none },
  { cls := 8, slots := #[.int (-97)], vm := .none },
  { cls := 8, slots := #[.int (-96)], vm := .none },
  { cls := 8, slots := #[.int (-95)], vm := .none },
  { cls := 8, slots := #[.int (-94)], vm := .none },
  { cls := 8, slots := #[.int (-93)], vm := .none },
  { cls := 8, slots := #[.int (-92)], vm := .none },
  { cls := 8, slots := #[.int (-91)], vm := .none },
  { cls := 8, slots := #[.int (-90)], vm := .none },
  { cls := 8, slots := #[.int (-89)], vm := .none },
  { cls := 8, slots := #[.int (-88)], vm := .none },
  { cls := 8, slots := #[.int (-87)], vm := .none },
  { cls := 8, slots := #[.int (-86)], vm := .none },
  { cls := 8, slots := #[.int (-85)], vm := .none },
  { cls := 8, slots := #[.int (-84)], vm := .none },
  { cls := 8, slots := #[.int (-83)], vm := .none },
  { cls := 8, slots := #[.int (-82)], vm := .none },
  { cls := 8, slots := #[.int (-81)], vm := .none },
  { cls := 8, slots := #[.int (-80)], vm := .none },
  { cls := 8, slots := #[.int (-79)], vm := .none },
  { cls := 8, slots := #[.int (-78)], vm := .none },
  { cls := 8, slots := #[.int (-77)], vm := .none },
  { cls := 8, slots := #[.int (-76)], vm := .none },
  { cls := 8, slots := #[.int (-75)], vm := .none },
  { cls := 8, slots := #[.int (-74)], vm := .none },
  { cls := 8, slots := #[.int (-73)], vm := .none },
  { cls := 8, slots := #[.int (-72)], vm := .none },
  { cls := 8, slots := #[.int (-71)], vm := .none },
  { cls := 8, slots := #[.int (-70)], vm := .none },
  { cls := 8, slots := #[.int (-69)], vm := .none },
  { cls := 8, slots := #[.int (-68)], vm := .none },
  { cls := 8, slots := #[.int (-67)], vm := .none },
  { cls := 8, slots := #[.int (-66)], vm := .none },
  { cls := 8, slots := #[.int (-65)], vm := .none },
  { cls := 8, slots := #[.int (-64)], vm := .none },
  { cls := 8, slots := #[.int (-63)], vm := .none },
  { cls := 8, slots := #[.int (-62)], vm := .none },
  { cls := 8, slots := #[.int (-61)], vm := .none },
  { cls := 8, slots := #[.int (-60)], vm := .none },
  { cls := 8, slots := #[.int (-59)], vm := .none },
  { cls := 8, slots := #[.int (-58)], vm := .none },
  { cls := 8, slots := #[.int (-57)], vm := .none },
  { cls := 8, slots := #[.int (-56)], vm := .none },
  { cls := 8, slots := #[.int (-55)], vm := .none },
  { cls := 8, slots := #[.int (-54)], vm := .none },
  { cls := 8, slots := #[.int (-53)], vm := .none },
  { cls := 8, slots := #[.int (-52)], vm := .none },
  { cls := 8, slots := #[.int (-51)], vm := .none },
  { cls := 8, slots := #[.int (-50)], vm := .none },
  { cls := 8, slots := #[.int (-49)], vm := .none },
  { cls := 8, slots := #[.int (-48)], vm := .none },
  { cls := 8, slots := #[.int (-47)], vm := .none },
  { cls := 8, slots := #[.int (-46)], vm := .none },
  { cls := 8, slots := #[.int (-45)], vm := .none },
  { cls := 8, slots := #[.int (-44)], vm := .none },
  { cls := 8, slots := #[.int (-43)], vm := .none },
  { cls := 8, slots := #[.int (-42)], vm := .none },
  { cls := 8, slots := #[.int (-41)], vm := .none },
  { cls := 8, slots := #[.int (-40)], vm := .none },
  { cls := 8, slots := #[.int (-39)], vm := .none },
  { cls := 8, slots := #[.int (-38)], vm := .none },
  { cls := 8, slots := #[.int (-37)], vm := .none },
  { cls := 8, slots := #[.int (-36)], vm := .none },
  { cls := 8, slots := #[.int (-35)], vm := .none },
  { cls := 8, slots := #[.int (-34)], vm := .none },
  { cls := 8, slots := #[.int (-33)], vm := .none },
  { cls := 8, slots := #[.int (-32)], vm := .none },
  { cls := 8, slots := #[.int (-31)], vm := .none },
  { cls := 8, slots := #[.int (-30)], vm := .none },
  { cls := 8, slots := #[.int (-29)], vm := .none },
  { cls := 8, slots := #[.int (-28)], vm := .none },
  { cls := 8, slots := #[.int (-27)], vm := .none },
  { cls := 8, slots := #[.int (-26)], vm := .none },
  { cls := 8, slots := #[.int (-25)], vm := .none },
  { cls := 8, slots := #[.int (-24)], vm := .none },
  { cls := 8, slots := #[.int (-23)], vm := .none },
  { cls := 8, slots := #[.int (-22)], vm := .none },
  { cls := 8, slots := #[.int (-21)], vm := .none },
  { cls := 8, slots := #[.int (-20)], vm := .none },
  { cls := 8, slots := #[.int (-19)], vm := .none },
  { cls := 8, slots := #[.int (-18)], vm := .none },
  { cls := 8, slots := #[.int (-17)], vm := .none },
  { cls := 8, slots := #[.int (-16)], vm := .none },
  { cls := 8, slots := #[.int (-15)], vm := .none },
  { cls := 8, slots := #[.int (-14)], vm := .none },
  { cls := 8, slots := #[.int (-13)], vm := .none },
  { cls := 8, slots := #[.int (-12)], vm := .none },
  { cls := 8, slots := #[.int (-11)], vm := .none },
  { cls := 8, slots := #[.int (-10)], vm := .none },
  { cls := 8, slots := #[.int (-9)], vm := .none },
  { cls := 8, slots := #[.int (-8)], vm := .none },
  { cls := 8, slots := #[.int (-7)], vm := .none },
  { cls := 8, slots := #[.int (-6)], vm := .none },
  { cls := 8, slots := #[.int (-5)], vm := .none },
  { cls := 8, slots := #[.int (-4)], vm := .none },
  { cls := 8, slots := #[.int (-3)], vm := .none },
  { cls := 8, slots := #[.int (-2)], vm := .none },
  { cls := 8, slots := #[.int (-1)], vm := .none },
  { cls := 8, slots := #[.int (0)], vm := .none },
  { cls := 8, slots := #[.int (1)], vm := .none },
  { cls := 8, slots := #[.int (2)], vm := .none },
  { cls := 8, slots := #[.int (3)], vm := .none },
  { cls := 8, slots := #[.int (4)], vm := .none },
  { cls := 8, slots := #[.int (5)], vm := .none },
  { cls := 8, slots := #[.int (6)], vm := .none },
  { cls := 8, slots := #[.int (7)], vm := .none },
  { cls := 8, slots := #[.int (8)], vm := .none },
  { cls := 8, slots := #[.int (9)], vm := .none },
  { cls := 8, slots := #[.int (10)], vm := .none },
  { cls := 8, slots := #[.int (11)], vm := .none },
  { cls := 8, slots := #[.int (12)], vm := .none },
  { cls := 8, slots := #[.int (13)], vm := .none },
  { cls := 8, slots := #[.int (14)], vm := .none },
  { cls := 8, slots := #[.int (15)], vm := .none },
  { cls := 8, slots := #[.int (16)], vm := .none },
  { cls := 8, slots := #[.int (17)], vm := .none },
  { cls := 8, slots := #[.int (18)], vm := .none },
  { cls := 8, slots := #[.int (19)], vm := .none },
  { cls := 8, slots := #[.int (20)], vm := .none },
  { cls := 8, slots := #[.int (21)], vm := .none },
  { cls := 8, slots := #[.int (22)], vm := .none },
  { cls := 8, slots := #[.int (23)], vm := .none },
  { cls := 8, slots := #[.int (24)], vm := .none },
  { cls := 8, slots := #[.int (25)], vm := .none },
  { cls := 8, slots := #[.int (26)], vm := .none },
  { cls := 8, slots := #[.int (27)], vm := .none },
  { cls := 8, slots := #[.int (28)], vm := .none },
  { cls := 8, slots := #[.int (29)], vm := .none },
  { cls := 8, slots := #[.int (30)], vm := .none },
  { cls := 8, slots := #[.int (31)], vm := .none },
  { cls := 8, slots := #[.int (32)], vm := .none },
  { cls := 8, slots := #[.int (33)], vm := .none },
  { cls := 8, slots := #[.int (34)], vm := .none },
  { cls := 8, slots := #[.int (35)], vm := .none },
  { cls := 8, slots := #[.int (36)], vm := .none },
  { cls := 8, slots := #[.int (37)], vm := .none },
  { cls := 8, slots := #[.int (38)], vm := .none },
  { cls := 8, slots := #[.int (39)], vm := .none },
  { cls := 8, slots := #[.int (40)], vm := .none },
  { cls := 8, slots := #[.int (41)], vm := .none },
  { cls := 8, slots := #[.int (42)], vm := .none },
  { cls := 8, slots := #[.int (43)], vm := .none },
  { cls := 8, slots := #[.int (44)], vm := .none },
  { cls := 8, slots := #[.int (45)], vm := .none },
  { cls := 8, slots := #[.int (46)], vm := .none },
  { cls := 8, slots := #[.int (47)], vm := .none },
  { cls := 8, slots := #[.int (48)], vm := .none },
  { cls := 8, slots := #[.int (49)], vm := .none },
  { cls := 8, slots := #[.int (50)], vm := .none },
  { cls := 8, slots := #[.int (51)], vm := .none },
  { cls := 8, slots := #[.int (52)], vm := .none },
  { cls := 8, slots := #[.int (53)], vm := .none },
  { cls := 8, slots := #[.int (54)], vm := .none },
  { cls := 8, slots := #[.int (55)], vm := .none },
  { cls := 8, slots := #[.int (56)], vm := .none },
  { cls := 8, slots := #[.int (57)], vm := .none },
  { cls := 8, slots := #[.int (58)], vm := .none },
  { cls := 8, slots := #[.int (59)], vm := .none },
  { cls := 8, slots := #[.int (60)], vm := .none },
  { cls := 8, slots := #[.int (61)], vm := .none },
  { cls := 8, slots := #[.int (62)], vm := .none },
  { cls := 8, slots := #[.int (63)], vm := .none },
  { cls := 8, slots := #[.int (64)], vm := .none },
  { cls := 8, slots := #[.int (65)], vm := .none },
  { cls := 8, slots := #[.int (66)], vm := .none },
  { cls := 8, slots := #[.int (67)], vm := .none },
  { cls := 8, slots := #[.int (68)], vm := .none },
  { cls := 8, slots := #[.int (69)], vm := .none },
  { cls := 8, slots := #[.int (70)], vm := .none },
  { cls := 8, slots := #[.int (71)], vm := .none },
  { cls := 8, slots := #[.int (72)], vm := .none },
  { cls := 8, slots := #[.int (73)], vm := .none },
  { cls := 8, slots := #[.int (74)], vm := .none },
  { cls := 8, slots := #[.int (75)], vm := .none },
  { cls := 8, slots := #[.int (76)], vm := .none },
  { cls := 8, slots := #[.int (77)], vm := .none },
  { cls := 8, slots := #[.int (78)], vm := .none },
  { cls := 8, slots := #[.int (79)], vm := .none },
  { cls := 8, slots := #[.int (80)], vm := .none },
  { cls := 8, slots := #[.int (81)], vm := .none },
  { cls := 8, slots := #[.int (82)], vm := .none },
  { cls := 8, slots := #[.int (83)], vm := .none },
  { cls := 8, slots := #[.int (84)], vm := .none },
  { cls := 8, slots := #[.int (85)], vm := .none },
  { cls := 8, slots := #[.int (86)], vm := .none },
  { cls := 8, slots := #[.int (87)], vm := .none },
  { cls := 8, slots := #[.int (88)], vm := .none },
  { cls := 8, slots := #[.int (89)], vm := .none },
  { cls := 8, slots := #[.int (90)], vm := .none },
  { cls := 8, slots := #[.int (91)], vm := .none },
  { cls := 8, slots := #[.int (92)], vm := .none },
  { cls := 8, slots := #[.int (93)], vm := .none },
  { cls := 8, slots := #[.int (94)], vm := .none },
  { cls := 8, slots := #[.int (95)], vm := .none },
  { cls := 8, slots := #[.int (96)], vm := .none },
  { cls := 8, slots := #[.int (97)], vm := .none },
  { cls := 8, slots := #[.int (98)], vm := .none },
  { cls := 8, slots := #[.int (99)], vm := .none },
  { cls := 8, slots := #[.int (100)], vm := .none },
  { cls := 8, slots := #[.int (101)], vm := .none },
  { cls := 8, slots := #[.int (102)], vm := .none },
  { cls := 8, slots := #[.int (103)], vm := .none },
  { cls := 8, slots := #[.int (104)], vm := .none },
  { cls := 8, slots := #[.int (105)], vm := .none },
  { cls := 8, slots := #[.int (106)], vm := .none },
  { cls := 8, slots := #[.int (107)], vm := .none },
  { cls := 8, slots := #[.int (108)], vm := .none },
  { cls := 8, slots := #[.int (109)], vm := .none },
  { cls := 8, slots := #[.int (110)], vm := .none },
  { cls := 8, slots := #[.int (111)], vm := .none },
  { cls := 8, slots := #[.int (112)], vm := .none },
  { cls := 8, slots := #[.int (113)], vm := .none },
  { cls := 8, slots := #[.int (114)], vm := .none },
  { cls := 8, slots := #[.int (115)], vm := .none },
  { cls := 8, slots := #[.int (116)], vm := .none },
  { cls := 8, slots := #[.int (117)], vm := .none },
  { cls := 8, slots := #[.int (118)], vm := .none },
  { cls := 8, slots := #[.int (119)], vm := .none },
  { cls := 8, slots := #[.int (120)], vm := .none },
  { cls := 8, slots := #[.int (121)], vm := .none },
  { cls := 8, slots := #[.int (122)], vm := .none },
  { cls := 8, slots := #[.int (123)], vm := .none },
  { cls := 8, slots := #[.int (124)], vm := .none },
  { cls := 8, slots := #[.int (125)], vm := .none },
  { cls := 8, slots := #[.int (126)], vm := .none },
  { cls := 8, slots := #[.int (127)], vm := .none }]
def classes : Array Class := #[k0, k1, k2, k3, k4, k5, k6, k7, k8, k9, k10, k11, k12, k13, k14, k15]
def interned : List (Array UInt16 × Addr) := []
def slotsUsed : Nat := 517
def theMethod : MethodId := ⟨1, 1⟩
def args0 : Array Value := #[.int 5, .int 5, .int 5, .int 5, .int 5]
def aboutOver (below : List Frame) : State where
  vm := { classes := classes, interned := interned.toArray }
  heap := heap
  slotsUsed := slotsUsed
  threads := #[{ frames := .invoking theMethod args0 :: below }]
def below0 : List Frame := [.native { method := ⟨0, 0⟩, args := #[] }]
def about1 : State := aboutOver below0
def p0 : Program := .bare "" "" ""
def e0 : Env := launch0.env 0 0 0
theorem w_frames : about1.frames = Frame.invoking theMethod args0 :: below0 := rfl
set_option maxRecDepth 65536 in
theorem w_args : argsFit about1.vm theMethod args0 = true := by decide +kernel
set_option maxRecDepth 65536 in
theorem w_heap : heapFits about1 = true := by decide +kernel
set_option maxRecDepth 65536 in
theorem w_runnable : about1.curStatus? = some .runnable := by decide +kernel
set_option maxRecDepth 65536 in
theorem w_alone : about1.alone = true := by decide +kernel
set_option maxRecDepth 65536 in
theorem w_named : about1.methodNamed? x = some theMethod := by decide +kernel
set_option maxRecDepth 65536 in
theorem w_hears : about1.hears theMethod below0 = true := by decide +kernel
set_option maxRecDepth 65536 in
theorem w_ripe : about1.ripe theMethod args0 below0 = true := by decide +kernel
theorem w_running : about1.status = .running := rfl
set_option maxRecDepth 65536 in
theorem w_room : about1.hasRoom e0.platform room_1 = true :=
  launch0.hasRoom_least _ room_1 (by decide +kernel) (by decide +kernel) (by decide +kernel) (by decide +kernel) (by decide +kernel) (by decide +kernel)
theorem allAtoms_all (ts : List Jvm.Cond) (a : Array Jvm.Value) (st : Jvm.State) : (allAtoms ts).before a st = ts.all (fun c => c.before a st) := by
  induction ts with
  | nil => rfl
  | cons c t ih =>
    show (Jvm.Cond.and c (allAtoms t)).before a st = _
    rw [Jvm.Cond.before_and, ih, List.all_cons]
def words1 : List Jvm.Cond := Jvm.Cond.code x code maxLocals ret :: tables_1
/-- a 'code' word, met by the world's own term for the bytes: nothing is compared byte by byte -/
theorem code_word {y : MethodName} {bytes : ByteArray} {mx : Nat} {rt : Option FieldType} {a : Array Value} {s : State} {m : MethodId} {meth : Method} {c : Code} (h1 : s.methodNamed? y = some m) (h2 : s.vm.method? m = some meth) (h3 : meth.code = some c) (h4 : c.code = bytes)
    (h5 : (c.maxLocals == mx && c.exceptionTable.isEmpty && decide (c.maxStack ≤ mostOperands) && decide (meth.sig.returnType = rt) && !meth.locks && decide (parseMethodDescriptor y.desc = some meth.sig)) = true) : (Jvm.Cond.code y bytes mx rt).before a s = true := by
  simp only [Bool.and_eq_true, beq_iff_eq, Bool.not_eq_true', decide_eq_true_eq] at h5
  obtain ⟨⟨⟨⟨⟨g1, g2⟩, g3⟩, g4⟩, g5⟩, g6⟩ := h5
  simp [Cond.before, Cond.holds, Cond.value, h1, h2, h3, h4, g1, g2, g3, g4, g5, g6]
def isCode : Jvm.Cond → Bool
  | .code _ _ _ _ => true
  | _ => false
theorem all_split {L : List Jvm.Cond} {P : Jvm.Cond → Bool} (h1 : L.all (fun c => isCode c || P c) = true) (h2 : ∀ c ∈ L.filter isCode, P c = true) : L.all P = true := by
  refine List.all_eq_true.mpr fun c hc => ?_
  have h := List.all_eq_true.mp h1 c hc
  rcases Bool.eq_false_or_eq_true (isCode c) with hi | hi
  · exact h2 c (List.mem_filter.mpr ⟨hc, hi⟩)
  · simpa [hi] using h
set_option maxRecDepth 65536 in
theorem w_c0 : (Jvm.Cond.code x code maxLocals ret).before args0 about1 = true := code_word (m := ⟨1, 1⟩) (meth := k1m1) (c := k1c1) (by decide +kernel) rfl rfl rfl (by decide +kernel)
set_option maxRecDepth 65536 in
theorem w_c1 : (Jvm.Cond.code ({ cls := "com/example/carillon/carillon/Period", name := "<init>", desc := "(II)V" } : Jvm.MethodName) prog_13_method_1_code (3 : Nat) (Option.none : Option Jvm.ClassFile.FieldType)).before args0 about1 = true := code_word (m := ⟨3, 0⟩) (meth := k3m0) (c := k3c0) (by decide +kernel) rfl rfl rfl (by decide +kernel)
set_option maxRecDepth 65536 in
theorem w_c2 : (Jvm.Cond.code ({ cls := "java/lang/Object", name := "<init>", desc := "()V" } : Jvm.MethodName) object_method_1_code (1 : Nat) (Option.none : Option Jvm.ClassFile.FieldType)).before args0 about1 = true := code_word (m := ⟨0, 0⟩) (meth := k0m0) (c := k0c0) (by decide +kernel) rfl rfl rfl (by decide +kernel)
set_option maxRecDepth 65536 in
theorem w_c3 : (Jvm.Cond.code ({ cls := "java/lang/Integer", name := "valueOf", desc := "(I)Ljava/lang/Integer;" } : Jvm.MethodName) jdk_33_method_22_code (1 : Nat) (Option.some (Jvm.ClassFile.FieldType.object "java/lang/Integer"))).before args0 about1 = true := code_word (m := ⟨8, 0⟩) (meth := k8m0) (c := k8c0) (by decide +kernel) rfl rfl rfl (by decide +kernel)
set_option maxRecDepth 65536 in
theorem w_c4 : (Jvm.Cond.code ({ cls := "com/example/carillon/carillon/Period", name := "equals", desc := "(Ljava/lang/Object;)Z" } : Jvm.MethodName) prog_13_method_10_code (3 : Nat) (Option.some Jvm.ClassFile.FieldType.boolean)).before args0 about1 = true := code_word (m := ⟨3, 1⟩) (meth := k3m1) (c := k3c1) (by decide +kernel) rfl rfl rfl (by decide +kernel)
set_option maxRecDepth 65536 in
theorem w_c5 : (Jvm.Cond.code ({ cls := "java/lang/Integer", name := "<init>", desc := "(I)V" } : Jvm.MethodName) jdk_33_method_23_code (2 : Nat) (Option.none : Option Jvm.ClassFile.FieldType)).before args0 about1 = true := code_word (m := ⟨8, 1⟩) (meth := k8m1) (c := k8c1) (by decide +kernel) rfl rfl rfl (by decide +kernel)
set_option maxRecDepth 65536 in
theorem w_c6 : (Jvm.Cond.code ({ cls := "java/lang/Number", name := "<init>", desc := "()V" } : Jvm.MethodName) jdk_18_method_1_code (1 : Nat) (Option.none : Option Jvm.ClassFile.FieldType)).before args0 about1 = true := code_word (m := ⟨5, 0⟩) (meth := k5m0) (c := k5c0) (by decide +kernel) rfl rfl rfl (by decide +kernel)
def codes1 : List Jvm.Cond := [Jvm.Cond.code x code maxLocals ret, Jvm.Cond.code ({ cls := "com/example/carillon/carillon/Period", name := "<init>", desc := "(II)V" } : Jvm.MethodName) prog_13_method_1_code (3 : Nat) (Option.none : Option Jvm.ClassFile.FieldType), Jvm.Cond.code ({ cls := "java/lang/Object", name := "<init>", desc := "()V" } : Jvm.MethodName) object_method_1_code (1 : Nat) (Option.none : Option Jvm.ClassFile.FieldType), Jvm.Cond.code ({ cls := "java/lang/Integer", name := "valueOf", desc := "(I)Ljava/lang/Integer;" } : Jvm.MethodName) jdk_33_method_22_code (1 : Nat) (Option.some (Jvm.ClassFile.FieldType.object "java/lang/Integer")), Jvm.Cond.code ({ cls := "com/example/carillon/carillon/Period", name := "equals", desc := "(Ljava/lang/Object;)Z" } : Jvm.MethodName) prog_13_method_10_code (3 : Nat) (Option.some Jvm.ClassFile.FieldType.boolean), Jvm.Cond.code ({ cls := "java/lang/Integer", name := "<init>", desc := "(I)V" } : Jvm.MethodName) jdk_33_method_23_code (2 : Nat) (Option.none : Option Jvm.ClassFile.FieldType), Jvm.Cond.code ({ cls := "java/lang/Number", name := "<init>", desc := "()V" } : Jvm.MethodName) jdk_18_method_1_code (1 : Nat) (Option.none : Option Jvm.ClassFile.FieldType)]
set_option maxRecDepth 65536 in
theorem codes_eq : words1.filter isCode = codes1 := rfl
theorem w_codes : ∀ c ∈ words1.filter isCode, c.before args0 about1 = true := by
  rw [codes_eq]
  intro c hc
  simp only [codes1, List.mem_cons, List.not_mem_nil, or_false] at hc
  rcases hc with rfl | rfl | rfl | rfl | rfl | rfl | rfl
  · exact w_c0
  · exact w_c1
  · exact w_c2
  · exact w_c3
  · exact w_c4
  · exact w_c5
  · exact w_c6
set_option maxRecDepth 65536 in
theorem w_t1 : (words1.take 24).all (fun c => isCode c || c.before args0 about1) = true := by decide +kernel
set_option maxRecDepth 65536 in
theorem w_t2 : (words1.drop 24).all (fun c => isCode c || c.before args0 about1) = true := by decide +kernel
theorem w_tables : (allAtoms (Jvm.Cond.code x code maxLocals ret :: tables_1)).before args0 about1 = true := by
  rw [allAtoms_all]
  show words1.all (fun c => c.before args0 about1) = true
  refine all_split ?_ w_codes
  rw [← List.take_append_drop 24 words1, List.all_append, w_t1, w_t2]
  rfl
set_option maxRecDepth 65536 in
theorem w_rest : rest_1_c.before args0 about1 = true := by decide +kernel
set_option maxRecDepth 65536 in
theorem w_case : (Jvm.Cond.and given_1 narrow_1).before args0 about1 = true := by decide +kernel
theorem w_applies : (headSpec (Jvm.Cond.code x code maxLocals ret :: tables_1) room_1).applies x e0.platform about1 = true :=
  (Spec.applies_iff w_frames).mpr ⟨w_running, w_runnable, w_alone, w_named, w_hears, w_ripe, w_room, w_tables⟩
theorem atStart : AtStart classFile x code maxLocals ret World_1 tables_1 room_1 Calls_1 rest_1 Pre_1 launch0 p0 e0 about1 theMethod args0 below0 :=
  ⟨lists_1, trivial, launch0.admits_env _ _ _, launch0.least_env, fairChoices_fair.cas, fairChoices_fair.clock, w_frames, w_args, w_heap, w_applies, trivial, w_rest, w_case⟩
end start1
theorem witness_1 : WitnessClaimed_1 := ⟨start1.p0, start1.e0, start1.about1, start1.theMethod, start1.args0, start1.below0, start1.atStart⟩
end Jvm.Pilot.@@N@@
