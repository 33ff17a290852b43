import JvmDerived
import JvmDerived.Pilot.@@N@@Statement
import JvmDerived.Pilot.@@N@@Code
set_option linter.unusedVariables false
set_option linter.unusedSimpArgs false
@@BLOCK:NumsL.lean.txt@@
namespace Jvm.Pilot.@@N@@
open Jvm Jvm.ClassFile Sem Op Lib Jvm.Free Jvm.Stand Jvm.LawKit Jvm.RoadKit Bundle Jvm.Pilot.@@N@@.Jvm.D
section OwnKit
theorem own_w {Z : State} {a0 : Array Value} (hw : ∀ d ∈ tables_1, d.before a0 Z = true) {d : Jvm.Cond} (i : Nat) (h : tables_1[i]? = some d) : d.before a0 Z = true := hw d (List.mem_of_getElem? h)
theorem own_narb (x : Int32) : nar .byte (x.toInt8.toInt32) = x.toInt8.toInt32 := by
  show (x.toInt8.toInt32).toInt8.toInt32 = x.toInt8.toInt32
  rw [Int8.toInt8_toInt32]
theorem own_narc (x : Int32) : nar .char (x.toUInt32.toUInt16.toUInt32.toInt32) = x.toUInt32.toUInt16.toUInt32.toInt32 := by
  show (x.toUInt32.toUInt16.toUInt32.toInt32).toUInt32.toUInt16.toUInt32.toInt32 = _
  have : (x.toUInt32.toUInt16.toUInt32.toInt32).toUInt32 = x.toUInt32.toUInt16.toUInt32 := rfl
  rw [this]
  have : x.toUInt32.toUInt16.toUInt32.toUInt16 = x.toUInt32.toUInt16 := by rw [← UInt16.toNat_inj]; simp
  rw [this]
theorem own_plain {Z : State} {h : Heap} {a : Addr} {C : String} (F : Exa Z h a C) : ∃ c : Cell, h[a]? = some c ∧ c.vm.isStatics = false := by
  obtain ⟨c, _, h1, -, -, h4, -⟩ := F; exact ⟨c, h1, h4⟩
theorem own_plainV {Z : State} {h : Heap} {a : Addr} {k : ClassId} {ty : FieldType} {z : Int32} {vs : List Value} {d : Value} (F : Arv Z h a k ty z vs d) : ∃ c : Cell, h[a]? = some c ∧ c.vm.isStatics = false := by
  obtain ⟨c, A, -⟩ := F; exact ⟨c, A.1, A.plain⟩
theorem own_Sta_keep {Z : State} {h h' : Heap} {C n d : String} {v : Value} {ws : List Addr} (F : Sta Z h C n d v) (K : Keep h h' ws) (q : ∀ a ∈ ws, ∃ c : Cell, h[a]? = some c ∧ c.vm.isStatics = false) : Sta Z h' C n d v := by
  obtain ⟨cf, i, k, f, st, cell, h1, h2, h3, h4, h5, h6, h7⟩ := F
  have ne : st ∉ ws := fun hm => by
    obtain ⟨c, g1, g2⟩ := q st hm
    cases h5.symm.trans g1
    rw [h6] at g2; cases g2
  exact ⟨cf, i, k, f, st, cell, h1, h2, h3, h4, K.2.1 _ _ h5 ne, h6, h7⟩
theorem own_NSroot {Z : State} {a0 : Array Value} {O K : String} {j : Nat} (w : (Cond.noSuperclass O).before a0 Z = true) (wk : (Cond.instantiable K j).before a0 Z = true) (hn : O ≠ K) : NS Z O K := by
  obtain ⟨c, k, h1, h2, h3, -⟩ := Cond.noSuperclass_spec w
  obtain ⟨t, kt, g1, -⟩ := Cond.instantiable_spec wk
  refine ⟨c, t, h1, g1, fun fuel => ?_⟩
  cases fuel with
  | zero => rfl
  | succ f => simp [Vm.isSubclassAux, ids_ne h1 g1 hn, h2, h3]
theorem own_NSno {Z : State} {a0 : Array Value} {C S K : String} {j : Nat} (w : (Cond.superclass C S).before a0 Z = true) (wk : (Cond.instantiable K j).before a0 Z = true) (q : NS Z C K) (hn : C ≠ K) : ∃ c t, Z.vm.findClass C = some c ∧ Z.vm.findClass K = some t ∧ Z.vm.assignable c t = false := by
  obtain ⟨c, t, h0, g0, n3⟩ := q
  obtain ⟨_, k, _, _, h2, _, _, h5, -⟩ := Cond.superclass_spec h0 w
  obtain ⟨t', kt, g1, g2, g5, g7, -⟩ := Cond.instantiable_spec wk
  cases g0.symm.trans g1
  have g8 : kt.isInterface = false := by simpa using (Bool.or_eq_false_iff.mp g7).1
  refine ⟨c, t, h0, g0, ?_⟩
  show Z.vm.assignableAux (255 + 1) c t = false
  simp [Vm.assignableAux, ids_ne h0 g0 hn, h2, g2, h5, g5, g8, Vm.isSubclass, n3]
theorem own_hc {T : State} {h : Heap} {a : Addr} {c : Cell} (e : T.heap = h) (q : h[a]? = some c) : T.heap[a]? = some c := by subst e; exact q
def own_b (P : Prop) [Decidable P] : Int32 := if P then 1 else 0
theorem own_b1 {P : Prop} [Decidable P] (h : P) : own_b P = 1 := if_pos h
theorem own_b0 {P : Prop} [Decidable P] (h : ¬ P) : own_b P = 0 := if_neg h
variable {p : Program} {l : Launch} {e : Env} {R : Room} {s : State} {m : MethodId} {args : Array Value} {below : List Frame} {meth : Method} {c : Code} {T : State} {locs : List Loc} {cells slots : Nat}
def own_Fin (p : Program) (e : Env) (below : List Frame) (s : State) (Q : Option Value → Heap → List Loc → Prop) (k n : Nat) (A : State) : Prop := ∃ s₂ o, Steps p.tables e below A s₂ ∧ s₂.status = .running ∧ Ended s₂ below o ∧ ∃ v L, o = .returned v ∧ Q v s₂.heap L ∧ FrameEnd s o s₂ L k n
theorem own_go {Q : Option Value → Heap → List Loc → Prop} {k n : Nat} {A B : State} (h : ∀ t, Steps p.tables e below B t → Steps p.tables e below A t) (q : own_Fin p e below s Q k n B) : own_Fin p e below s Q k n A := by
  obtain ⟨s₂, o, h1, h2⟩ := q
  exact ⟨s₂, o, h _ h1, h2⟩
theorem own_retN {Q : Option Value → Heap → List Loc → Prop} {k n : Nat} (X : Stand p l e R s m args below meth c T locs cells slots) (hx : p.tables.exec = Jvm.exec) (hlk : meth.locks = false) {pc : Nat} {Ls : Array Slot} {z w : Int32} {t : FieldType} {rest : List Value} (hret : meth.sig.returnType = some t) (ht : t = .boolean ∨ t = .byte ∨ t = .char ∨ t = .short)
    (hd : decode c.code pc = .ok (.ireturn, 1)) {h : Heap} (eT : T.heap = h) (hz : nar t z = w) (hQ : Q (some (.int w)) h locs) (hk : cells ≤ k) (hn : slots ≤ n) : own_Fin p e below s Q k n (T.setTop (mkF m pc Ls (.int z :: rest))) := by
  subst hz eT
  obtain ⟨fs, hr, hrun, hended, hW, hsame⟩ := X.leave (v := some (.int (nar t z))) (fun h => by rw [hret] at h; cases h) hlk
  exact ⟨_, _, retN X hx hret ht hd hr, hrun, hended, _, _, rfl, hQ, ⟨_, rfl⟩, hW, hsame.mono hk hn⟩
theorem own_retI {Q : Option Value → Heap → List Loc → Prop} {k n : Nat} (X : Stand p l e R s m args below meth c T locs cells slots) (hx : p.tables.exec = Jvm.exec) (hlk : meth.locks = false) {pc : Nat} {Ls : Array Slot} {z : Int32} {rest : List Value} (hret : meth.sig.returnType = some .int)
    (hd : decode c.code pc = .ok (.ireturn, 1)) {h : Heap} (eT : T.heap = h) (hQ : Q (some (.int z)) h locs) (hk : cells ≤ k) (hn : slots ≤ n) : own_Fin p e below s Q k n (T.setTop (mkF m pc Ls (.int z :: rest))) := by
  subst eT
  obtain ⟨fs, hr, hrun, hended, hW, hsame⟩ := X.leave (v := some (.int z)) (fun h => by rw [hret] at h; cases h) hlk
  exact ⟨_, _, retOut X hx hret rfl (Or.inl ⟨rfl, Or.inl rfl, z, rfl⟩) hd hr, hrun, hended, _, _, rfl, hQ, ⟨_, rfl⟩, hW, hsame.mono hk hn⟩
theorem own_retJ {Q : Option Value → Heap → List Loc → Prop} {k n : Nat} (X : Stand p l e R s m args below meth c T locs cells slots) (hx : p.tables.exec = Jvm.exec) (hlk : meth.locks = false) {pc : Nat} {Ls : Array Slot} {z : Int64} {rest : List Value} (hret : meth.sig.returnType = some .long)
    (hd : decode c.code pc = .ok (.lreturn, 1)) {h : Heap} (eT : T.heap = h) (hQ : Q (some (.long z)) h locs) (hk : cells ≤ k) (hn : slots ≤ n) : own_Fin p e below s Q k n (T.setTop (mkF m pc Ls (.long z :: rest))) := by
  subst eT
  obtain ⟨fs, hr, hrun, hended, hW, hsame⟩ := X.leave (v := some (.long z)) (fun h => by rw [hret] at h; cases h) hlk
  exact ⟨_, _, retOut X hx hret rfl (Or.inr (Or.inl ⟨rfl, rfl, z, rfl⟩)) hd hr, hrun, hended, _, _, rfl, hQ, ⟨_, rfl⟩, hW, hsame.mono hk hn⟩
theorem own_retD {Q : Option Value → Heap → List Loc → Prop} {k n : Nat} (X : Stand p l e R s m args below meth c T locs cells slots) (hx : p.tables.exec = Jvm.exec) (hlk : meth.locks = false) {pc : Nat} {Ls : Array Slot} {z : UInt64} {rest : List Value} (hret : meth.sig.returnType = some .double)
    (hd : decode c.code pc = .ok (.dreturn, 1)) {h : Heap} (eT : T.heap = h) (hQ : Q (some (.double z)) h locs) (hk : cells ≤ k) (hn : slots ≤ n) : own_Fin p e below s Q k n (T.setTop (mkF m pc Ls (.double z :: rest))) := by
  subst eT
  obtain ⟨fs, hr, hrun, hended, hW, hsame⟩ := X.leave (v := some (.double z)) (fun h => by rw [hret] at h; cases h) hlk
  exact ⟨_, _, retOut X hx hret rfl (Or.inr (Or.inr (Or.inl ⟨rfl, rfl, z, rfl⟩))) hd hr, hrun, hended, _, _, rfl, hQ, ⟨_, rfl⟩, hW, hsame.mono hk hn⟩
theorem own_retA {Q : Option Value → Heap → List Loc → Prop} {k n : Nat} (X : Stand p l e R s m args below meth c T locs cells slots) (hx : p.tables.exec = Jvm.exec) (hlk : meth.locks = false) {pc : Nat} {Ls : Array Slot} {w : Value} {t : FieldType} {rest : List Value} (hret : meth.sig.returnType = some t) (ht : t.isReference = true) (hw : w.isRef = true)
    (hd : decode c.code pc = .ok (.areturn, 1)) {h : Heap} (eT : T.heap = h) (hQ : Q (some w) h locs) (hk : cells ≤ k) (hn : slots ≤ n) : own_Fin p e below s Q k n (T.setTop (mkF m pc Ls (w :: rest))) := by
  subst eT
  obtain ⟨fs, hr, hrun, hended, hW, hsame⟩ := X.leave (v := some w) (fun h => by rw [hret] at h; cases h) hlk
  have hnw : narrow t w = w := by
    rcases ref_cases hw with rfl | ⟨z, rfl⟩ <;> cases t <;> first | rfl | (cases ht; done)
  exact ⟨_, _, retOut X hx hret hnw (Or.inr (Or.inr (Or.inr (Or.inr ⟨rfl, ht, hw⟩)))) hd hr, hrun, hended, _, _, rfl, hQ, ⟨_, rfl⟩, hW, hsame.mono hk hn⟩
theorem own_retV {Q : Option Value → Heap → List Loc → Prop} {k n : Nat} (X : Stand p l e R s m args below meth c T locs cells slots) (hx : p.tables.exec = Jvm.exec) (hlk : meth.locks = false) {pc : Nat} {Ls : Array Slot} (hret : meth.sig.returnType = none)
    (hd : decode c.code pc = .ok (.return_, 1)) {h : Heap} (eT : T.heap = h) (hQ : Q none h locs) (hk : cells ≤ k) (hn : slots ≤ n) : own_Fin p e below s Q k n (T.setTop (mkF m pc Ls [])) := by
  subst eT
  obtain ⟨fs, hr, hrun, hended, hW, hsame⟩ := X.leave (v := none) (fun _ => rfl) hlk
  exact ⟨_, _, X.returnOut hx hret hd hr, hrun, hended, _, _, rfl, hQ, ⟨_, rfl⟩, hW, hsame.mono hk hn⟩
end OwnKit
section OwnNums
theorem own_iushr (x : Int32) {n : UInt32} {k : Nat} (hn : n.toNat = k) (h0 : 0 < k) (hk : k < 32) : ((x.toUInt32 >>> n).toInt32).toInt = (x.toInt % 4294967296) / 2 ^ k := by
  have e2 : ((x.toUInt32 >>> n).toInt32).toBitVec.toNat = x.toBitVec.toNat / 2 ^ k := by
    simp only [UInt32.toBitVec_toInt32, UInt32.toBitVec_shiftRight, Int32.toBitVec_toUInt32]
    simp [BitVec.toNat_ushiftRight, Nat.shiftRight_eq_div_pow, hn, Nat.mod_eq_of_lt hk]
  have hb := x.toBitVec.isLt
  have hp : 2 ^ 1 ≤ 2 ^ k := Nat.pow_le_pow_right (by decide) h0
  have hle : x.toBitVec.toNat / 2 ^ k ≤ x.toBitVec.toNat / 2 ^ 1 := Nat.div_le_div_left hp (by decide)
  have e3 : ((x.toUInt32 >>> n).toInt32).toInt = ((x.toBitVec.toNat / 2 ^ k : Nat) : Int) := by
    have : ((x.toUInt32 >>> n).toInt32).toInt = ((x.toUInt32 >>> n).toInt32).toBitVec.toInt := rfl
    rw [this, BitVec.toInt_eq_toNat_cond, e2, if_pos (by omega)]
  have e4 : x.toInt % 4294967296 = (x.toBitVec.toNat : Int) := by
    have : x.toInt = x.toBitVec.toInt := rfl
    rw [this, BitVec.toInt_eq_toNat_cond]
    split <;> omega
  rw [e3, e4, Int.natCast_ediv, Int.natCast_pow]
  rfl
theorem own_lushr (x : Int64) {n : UInt64} {k : Nat} (hn : n.toNat = k) (h0 : 0 < k) (hk : k < 64) : ((x.toUInt64 >>> n).toInt64).toInt = (x.toInt % 18446744073709551616) / 2 ^ k := by
  have e2 : ((x.toUInt64 >>> n).toInt64).toBitVec.toNat = x.toBitVec.toNat / 2 ^ k := by
    simp only [UInt64.toBitVec_toInt64, UInt64.toBitVec_shiftRight, Int64.toBitVec_toUInt64]
    simp [BitVec.toNat_ushiftRight, Nat.shiftRight_eq_div_pow, hn, Nat.mod_eq_of_lt hk]
  have hb := x.toBitVec.isLt
  have hp : 2 ^ 1 ≤ 2 ^ k := Nat.pow_le_pow_right (by decide) h0
  have hle : x.toBitVec.toNat / 2 ^ k ≤ x.toBitVec.toNat / 2 ^ 1 := Nat.div_le_div_left hp (by decide)
  have e3 : ((x.toUInt64 >>> n).toInt64).toInt = ((x.toBitVec.toNat / 2 ^ k : Nat) : Int) := by
    have : ((x.toUInt64 >>> n).toInt64).toInt = ((x.toUInt64 >>> n).toInt64).toBitVec.toInt := rfl
    rw [this, BitVec.toInt_eq_toNat_cond, e2, if_pos (by omega)]
  have e4 : x.toInt % 18446744073709551616 = (x.toBitVec.toNat : Int) := by
    have : x.toInt = x.toBitVec.toInt := rfl
    rw [this, BitVec.toInt_eq_toNat_cond]
    split <;> omega
  rw [e3, e4, Int.natCast_ediv, Int.natCast_pow]
  rfl
theorem own_l2i (x : Int64) : (x.toInt32.toInt - x.toInt) % 4294967296 = 0 := by rw [Int64.toInt_toInt32]; exact bm32 _
theorem own_div32 {x y : Int32} (hx : 0 ≤ x.toInt) (hy : 0 < y.toInt) : (x / y).toInt = x.toInt / y.toInt := by
  rw [Jvm.Kit.i32_div (by omega), Int.tdiv_eq_ediv_of_nonneg hx]
theorem own_div64 {x y : Int64} (hx : 0 ≤ x.toInt) (hy : 0 < y.toInt) : (x / y).toInt = x.toInt / y.toInt := by
  rw [Jvm.Kit.i64_div (by omega), Int.tdiv_eq_ediv_of_nonneg hx]
theorem own_i2c (x : Int32) : (x.toUInt32.toUInt16.toUInt32.toInt32).toInt = x.toInt % 65536 := by
  have e2 : (x.toUInt32.toUInt16.toUInt32.toInt32).toBitVec.toNat = x.toBitVec.toNat % 65536 := by
    show (x.toUInt32.toUInt16.toUInt32).toNat = _
    simp
    rfl
  have hb := x.toBitVec.isLt
  have e3 : (x.toUInt32.toUInt16.toUInt32.toInt32).toInt = (x.toUInt32.toUInt16.toUInt32.toInt32).toBitVec.toInt := rfl
  have e4 : x.toInt = x.toBitVec.toInt := rfl
  rw [e3, e4, BitVec.toInt_eq_toNat_cond, BitVec.toInt_eq_toNat_cond, e2]
  split <;> split <;> omega
theorem own_i2b (x : Int32) : ((x.toInt8.toInt32).toInt - x.toInt) % 256 = 0 ∧ -128 ≤ (x.toInt8.toInt32).toInt ∧ (x.toInt8.toInt32).toInt < 128 := by
  have h1 : (x.toInt8.toInt32).toInt = x.toInt8.toInt := Int8.toInt_toInt32 _
  have h2 := x.toInt8.toInt_lt; have h3 := x.toInt8.le_toInt
  have h4 : x.toInt8.toInt = x.toInt.bmod 256 := Int32.toInt_toInt8 x
  have h5 := Int.bmod_emod (x := x.toInt) (m := 256)
  rw [h1]; omega
end OwnNums
theorem own_pd0 : parseMethodDescriptor "(I)Lcom/example/stackyard/stackyard/app/ApplicationState;" = some ⟨[.int], some (.object "com/example/stackyard/stackyard/app/ApplicationState")⟩ := by decide +kernel
theorem own_pd1 : parseMethodDescriptor "()Z" = some ⟨[], some .boolean⟩ := by decide +kernel
theorem own_pd2 : parseMethodDescriptor "(I)Z" = some ⟨[.int], some .boolean⟩ := by decide +kernel
theorem own_i32_0 : (0 : Int32).toInt = 0 := by decide
theorem own_i32_1 : (1 : Int32).toInt = 1 := by decide
theorem own_i32_2 : (2 : Int32).toInt = 2 := by decide
theorem own_i32_3 : (3 : Int32).toInt = 3 := by decide
theorem own_i32_4 : (4 : Int32).toInt = 4 := by decide
theorem own_i32_5 : (5 : Int32).toInt = 5 := by decide
theorem own_i32_6 : (6 : Int32).toInt = 6 := by decide
theorem own_i32_7 : (7 : Int32).toInt = 7 := by decide
theorem own_enum {args : Array Value} {s : State} {C f d K : String} {n : Int32} (hex : (Cond.exactly (Term.static C f d) K).value args s none s [] = some true) (hord : (Cond.eq (Term.field (Term.static C f d) "java/lang/Enum" "ordinal" "I") (Term.int n)).value args s none s [] = some true)
    (hi : (Cond.initialized C).before args s = true) (hl : (Cond.laysStatic C f d).before args s = true) : ∃ a, Sta s s.heap C f d (.ref a) ∧ Exa s s.heap a K ∧ Fld s s.heap a "java/lang/Enum" "ordinal" "I" (.int n) := by
  obtain ⟨a, c, cell, k, e1, -⟩ := Cond.exactly_spec (Cond.before_iff.mpr hex)
  refine ⟨a, Sta.start e1 (Or.inr ⟨hi, hl⟩), Exa.start e1 hex, Fld.start ?_⟩
  have e2 : (Term.field (Term.static C f d) "java/lang/Enum" "ordinal" "I").eval args s none [] s = s.fieldOf? a "java/lang/Enum" "ordinal" "I" := by
    show (do let v ← (Term.static C f d).eval args s none [] s; _) = _
    rw [e1]; rfl
  simp only [Cond.value, e2] at hord
  cases hq : s.fieldOf? a "java/lang/Enum" "ordinal" "I" with
  | none => rw [hq] at hord; cases hord
  | some v =>
    rw [hq] at hord
    cases v <;> simp [Term.eval] at hord
    rw [hord]
abbrev R_own_f0 : Room := { frames := 0, cells := 0, slots := 0, locals := 0 }
theorem d2_0 : decode prog_17_method_4_code 0 = .ok (.aload_n 0, 1) := by decide +kernel
theorem d2_1 : decode prog_17_method_4_code 1 = .ok (.getstatic 19, 3) := by decide +kernel
theorem d2_4 : decode prog_17_method_4_code 4 = .ok (.if_acmp .eq 17, 3) := by decide +kernel
theorem d2_7 : decode prog_17_method_4_code 7 = .ok (.aload_n 0, 1) := by decide +kernel
theorem d2_8 : decode prog_17_method_4_code 8 = .ok (.getstatic 22, 3) := by decide +kernel
theorem d2_11 : decode prog_17_method_4_code 11 = .ok (.if_acmp .eq 10, 3) := by decide +kernel
theorem d2_14 : decode prog_17_method_4_code 14 = .ok (.aload_n 0, 1) := by decide +kernel
theorem d2_15 : decode prog_17_method_4_code 15 = .ok (.getstatic 25, 3) := by decide +kernel
theorem d2_18 : decode prog_17_method_4_code 18 = .ok (.if_acmp .ne 7, 3) := by decide +kernel
theorem d2_25 : decode prog_17_method_4_code 25 = .ok (.iconst 0, 1) := by decide +kernel
theorem d2_26 : decode prog_17_method_4_code 26 = .ok (.ireturn, 1) := by decide +kernel
theorem own_pn0 : plainName "com/example/stackyard/stackyard/app/ApplicationState" = true := by first | (simp [plainName, overriddenIn]; done) | decide +kernel
theorem ef_own_f0 (m : MethodId) (x0 : Addr) : entryFrame m #[(.ref x0)] 1 = mkF m 0 #[.val (.ref x0)] [] := by first | (simp [entryFrame, mkF, argsToLocals, Value.category]; done) | rfl
def Q_own_f0 (Z : State) (a1 : Addr) (w_FINISHED : Addr) (w_FAILED : Addr) (w_KILLED : Addr) (h0 : Heap) (n0 : Nat) (v : Option Value) (h : Heap) (L : List Loc) : Prop := v = some (.int (0 : Int32)) ∧ Fr n0 L ∧ h = h0
set_option maxRecDepth 65536 in
set_option maxHeartbeats 400000000 in
theorem own_f0 (l : Launch) (Z : State) (a0 : Array Value) (hw : ∀ d ∈ tables_1, d.before a0 Z = true) (ws : List Jvm.Cond) (a1 : Addr) (w_FINISHED : Addr) (w_FAILED : Addr) (w_KILLED : Addr) (h0 : Heap) (n0 : Nat) (Z0 : n0 ≤ h0.size) (P_S_com_example_stackyard_stackyard_app_ApplicationState_FINISHED : Sta Z h0 "com/example/stackyard/stackyard/app/ApplicationState" "FINISHED" "Lcom/example/stackyard/stackyard/app/ApplicationState;" (.ref w_FINISHED)) (P_S_com_example_stackyard_stackyard_app_ApplicationState_FAILED : Sta Z h0 "com/example/stackyard/stackyard/app/ApplicationState" "FAILED" "Lcom/example/stackyard/stackyard/app/ApplicationState;" (.ref w_FAILED)) (P_S_com_example_stackyard_stackyard_app_ApplicationState_KILLED : Sta Z h0 "com/example/stackyard/stackyard/app/ApplicationState" "KILLED" "Lcom/example/stackyard/stackyard/app/ApplicationState;" (.ref w_KILLED)) (ne_a1_w_FINISHED : a1 ≠ w_FINISHED) (ne_a1_w_FAILED : a1 ≠ w_FAILED) (ne_a1_w_KILLED : a1 ≠ w_KILLED) :
    MetFree l (⟨"com/example/stackyard/stackyard/app/ApplicationState", "isFinal", "()Z"⟩ : MethodName) (head1 (Jvm.Cond.code (⟨"com/example/stackyard/stackyard/app/ApplicationState", "isFinal", "()Z"⟩ : MethodName) prog_17_method_4_code 1 (some .boolean) :: ws) R_own_f0) (fun a U => a = #[(.ref a1)] ∧ Z.Warmed39 U.vm ∧ U.heap = h0) (fun _ _ _ _ _ => True) (fun _ U o U' => ∃ v L, o = .returned v ∧ Q_own_f0 Z a1 w_FINISHED w_FAILED w_KILLED h0 n0 v U'.heap L ∧ FrameEnd U o U' L R_own_f0.cells R_own_f0.slots) := by
  refine MetFree.of_bodySF (plainFor_of_name own_pn0) hisR ?_
  intro p e s m args below meth c s₁ Bd hml0 hP hK
  obtain ⟨rfl, hZ, hh⟩ := hP
  have hx := Bd.exec
  have hby := Bd.bytes
  have hml : c.maxLocals = 1 := hml0
  have hown : s.vm.findClass "com/example/stackyard/stackyard/app/ApplicationState" = some m.cls := findClass_of_methodNamed Bd.named
  have hnm := (name_of_methodNamed Bd.named Bd.method).1
  have X0 : Stand p l e R_own_f0 s m #[(.ref a1)] below meth c s₁ [] 0 0 := Stand.of_body Bd
  have e0 : s₁.heap = h0 := by rw [← hh, Bd.state]; rfl
  have N0 := Fr.nil n0
  have K0 : Keep h0 h0 [] := Keep.refl h0 []
  show own_Fin p e below s (Q_own_f0 Z a1 w_FINISHED w_FAILED w_KILLED h0 n0) R_own_f0.cells R_own_f0.slots (s₁.setTop (entryFrame m #[(.ref a1)] 1))
  refine own_go (fun _ k => castTop (ef_own_f0 m a1) k) ?_
  show own_Fin _ _ _ _ _ _ _ (s₁.setTop (mkF m 0 #[.val (.ref a1)] []))
  refine own_go (B := s₁.setTop (mkF m 1 #[.val (.ref a1)] [(.ref a1)])) (fun _ k => XS.aloadN X0.here hx rfl (hb hby d2_0) rfl rfl k) ?_
  obtain ⟨T1, X1, e1, st1⟩ := getS2 X0 hx hZ hown (host := "") (Or.inl (own_w hw 12 rfl)) Via.refl e0 P_S_com_example_stackyard_stackyard_app_ApplicationState_FINISHED (g := (mkF m 1 #[.val (.ref a1)] [(.ref a1)])) rfl (hb hby d2_1)
  refine own_go (B := T1.setTop (mkF m 4 #[.val (.ref a1)] [(.ref w_FINISHED), (.ref a1)])) st1 ?_
  refine own_go (B := T1.setTop (mkF m 7 #[.val (.ref a1)] [])) (fun _ k => Jvm.RoadKit.acmp (g := (mkF m 4 #[.val (.ref a1)] [(.ref w_FINISHED), (.ref a1)])) X1 hx rfl rfl rfl (pc0 := 4) (pc' := 7) (same := false) rfl (hb hby d2_4) rfl (decide_eq_false fun q => ne_a1_w_FINISHED (Value.ref.inj q)) (by decide) (by decide) k) ?_
  refine own_go (B := T1.setTop (mkF m 8 #[.val (.ref a1)] [(.ref a1)])) (fun _ k => XS.aloadN X1.here hx rfl (hb hby d2_7) rfl rfl k) ?_
  obtain ⟨T2, X2, e2, st2⟩ := getS2 X1 hx hZ hown (host := "") (Or.inl (own_w hw 14 rfl)) Via.refl e1 P_S_com_example_stackyard_stackyard_app_ApplicationState_FAILED (g := (mkF m 8 #[.val (.ref a1)] [(.ref a1)])) rfl (hb hby d2_8)
  refine own_go (B := T2.setTop (mkF m 11 #[.val (.ref a1)] [(.ref w_FAILED), (.ref a1)])) st2 ?_
  refine own_go (B := T2.setTop (mkF m 14 #[.val (.ref a1)] [])) (fun _ k => Jvm.RoadKit.acmp (g := (mkF m 11 #[.val (.ref a1)] [(.ref w_FAILED), (.ref a1)])) X2 hx rfl rfl rfl (pc0 := 11) (pc' := 14) (same := false) rfl (hb hby d2_11) rfl (decide_eq_false fun q => ne_a1_w_FAILED (Value.ref.inj q)) (by decide) (by decide) k) ?_
  refine own_go (B := T2.setTop (mkF m 15 #[.val (.ref a1)] [(.ref a1)])) (fun _ k => XS.aloadN X2.here hx rfl (hb hby d2_14) rfl rfl k) ?_
  obtain ⟨T3, X3, e3, st3⟩ := getS2 X2 hx hZ hown (host := "") (Or.inl (own_w hw 16 rfl)) Via.refl e2 P_S_com_example_stackyard_stackyard_app_ApplicationState_KILLED (g := (mkF m 15 #[.val (.ref a1)] [(.ref a1)])) rfl (hb hby d2_15)
  refine own_go (B := T3.setTop (mkF m 18 #[.val (.ref a1)] [(.ref w_KILLED), (.ref a1)])) st3 ?_
  refine own_go (B := T3.setTop (mkF m 25 #[.val (.ref a1)] [])) (fun _ k => Jvm.RoadKit.acmp (g := (mkF m 18 #[.val (.ref a1)] [(.ref w_KILLED), (.ref a1)])) X3 hx rfl rfl rfl (pc0 := 18) (pc' := 25) (same := false) rfl (hb hby d2_18) rfl (decide_eq_false fun q => ne_a1_w_KILLED (Value.ref.inj q)) (by decide) (by decide) k) ?_
  refine own_go (B := T3.setTop (mkF m 26 #[.val (.ref a1)] [(.int (0 : Int32))])) (fun _ k => XS.iconst X3.here hx rfl (hb hby d2_25) k) ?_
  exact own_retN X3 hx Bd.notSynchronized (t := .boolean) (w := (0 : Int32)) Bd.returns (by simp) (hb hby d2_26) e3 rfl ⟨rfl, N0, rfl⟩ (by decide) (by decide)
abbrev R_own_f_FINISHED : Room := { frames := 0, cells := 0, slots := 0, locals := 0 }
theorem d2_21 : decode prog_17_method_4_code 21 = .ok (.iconst 1, 1) := by decide +kernel
theorem d2_22 : decode prog_17_method_4_code 22 = .ok (.goto 4, 3) := by decide +kernel
theorem ef_own_f_FINISHED (m : MethodId) (x0 : Addr) : entryFrame m #[(.ref x0)] 1 = mkF m 0 #[.val (.ref x0)] [] := by first | (simp [entryFrame, mkF, argsToLocals, Value.category]; done) | rfl
def Q_own_f_FINISHED (Z : State) (w_FINISHED : Addr) (h0 : Heap) (n0 : Nat) (v : Option Value) (h : Heap) (L : List Loc) : Prop := v = some (.int (1 : Int32)) ∧ Fr n0 L ∧ h = h0
set_option maxRecDepth 65536 in
set_option maxHeartbeats 400000000 in
theorem own_f_FINISHED (l : Launch) (Z : State) (a0 : Array Value) (hw : ∀ d ∈ tables_1, d.before a0 Z = true) (ws : List Jvm.Cond) (w_FINISHED : Addr) (h0 : Heap) (n0 : Nat) (Z0 : n0 ≤ h0.size) (P_S_com_example_stackyard_stackyard_app_ApplicationState_FINISHED : Sta Z h0 "com/example/stackyard/stackyard/app/ApplicationState" "FINISHED" "Lcom/example/stackyard/stackyard/app/ApplicationState;" (.ref w_FINISHED)) :
    MetFree l (⟨"com/example/stackyard/stackyard/app/ApplicationState", "isFinal", "()Z"⟩ : MethodName) (head1 (Jvm.Cond.code (⟨"com/example/stackyard/stackyard/app/ApplicationState", "isFinal", "()Z"⟩ : MethodName) prog_17_method_4_code 1 (some .boolean) :: ws) R_own_f_FINISHED) (fun a U => a = #[(.ref w_FINISHED)] ∧ Z.Warmed39 U.vm ∧ U.heap = h0) (fun _ _ _ _ _ => True) (fun _ U o U' => ∃ v L, o = .returned v ∧ Q_own_f_FINISHED Z w_FINISHED h0 n0 v U'.heap L ∧ FrameEnd U o U' L R_own_f_FINISHED.cells R_own_f_FINISHED.slots) := by
  refine MetFree.of_bodySF (plainFor_of_name own_pn0) hisR ?_
  intro p e s m args below meth c s₁ Bd hml0 hP hK
  obtain ⟨rfl, hZ, hh⟩ := hP
  have hx := Bd.exec
  have hby := Bd.bytes
  have hml : c.maxLocals = 1 := hml0
  have hown : s.vm.findClass "com/example/stackyard/stackyard/app/ApplicationState" = some m.cls := findClass_of_methodNamed Bd.named
  have hnm := (name_of_methodNamed Bd.named Bd.method).1
  have X0 : Stand p l e R_own_f_FINISHED s m #[(.ref w_FINISHED)] below meth c s₁ [] 0 0 := Stand.of_body Bd
  have e0 : s₁.heap = h0 := by rw [← hh, Bd.state]; rfl
  have N0 := Fr.nil n0
  have K0 : Keep h0 h0 [] := Keep.refl h0 []
  show own_Fin p e below s (Q_own_f_FINISHED Z w_FINISHED h0 n0) R_own_f_FINISHED.cells R_own_f_FINISHED.slots (s₁.setTop (entryFrame m #[(.ref w_FINISHED)] 1))
  refine own_go (fun _ k => castTop (ef_own_f_FINISHED m w_FINISHED) k) ?_
  show own_Fin _ _ _ _ _ _ _ (s₁.setTop (mkF m 0 #[.val (.ref w_FINISHED)] []))
  refine own_go (B := s₁.setTop (mkF m 1 #[.val (.ref w_FINISHED)] [(.ref w_FINISHED)])) (fun _ k => XS.aloadN X0.here hx rfl (hb hby d2_0) rfl rfl k) ?_
  obtain ⟨T1, X1, e1, st1⟩ := getS2 X0 hx hZ hown (host := "") (Or.inl (own_w hw 12 rfl)) Via.refl e0 P_S_com_example_stackyard_stackyard_app_ApplicationState_FINISHED (g := (mkF m 1 #[.val (.ref w_FINISHED)] [(.ref w_FINISHED)])) rfl (hb hby d2_1)
  refine own_go (B := T1.setTop (mkF m 4 #[.val (.ref w_FINISHED)] [(.ref w_FINISHED), (.ref w_FINISHED)])) st1 ?_
  refine own_go (B := T1.setTop (mkF m 21 #[.val (.ref w_FINISHED)] [])) (fun _ k => Jvm.RoadKit.acmp (g := (mkF m 4 #[.val (.ref w_FINISHED)] [(.ref w_FINISHED), (.ref w_FINISHED)])) X1 hx rfl rfl rfl (pc0 := 4) (pc' := 21) (same := true) rfl (hb hby d2_4) rfl (decide_eq_true rfl) (by decide) (by decide) k) ?_
  refine own_go (B := T1.setTop (mkF m 22 #[.val (.ref w_FINISHED)] [(.int (1 : Int32))])) (fun _ k => XS.iconst X1.here hx rfl (hb hby d2_21) k) ?_
  refine own_go (B := T1.setTop (mkF m 26 #[.val (.ref w_FINISHED)] [(.int (1 : Int32))])) (fun _ k => XS.goto X1.here hx rfl (pc0 := 22) (pc' := 26) rfl (hb hby d2_22) (by decide) (by decide) k) ?_
  exact own_retN X1 hx Bd.notSynchronized (t := .boolean) (w := (1 : Int32)) Bd.returns (by simp) (hb hby d2_26) e1 rfl ⟨rfl, N0, rfl⟩ (by decide) (by decide)
abbrev R_own_f_FAILED : Room := { frames := 0, cells := 0, slots := 0, locals := 0 }
theorem ef_own_f_FAILED (m : MethodId) (x0 : Addr) : entryFrame m #[(.ref x0)] 1 = mkF m 0 #[.val (.ref x0)] [] := by first | (simp [entryFrame, mkF, argsToLocals, Value.category]; done) | rfl
def Q_own_f_FAILED (Z : State) (w_FINISHED : Addr) (w_FAILED : Addr) (h0 : Heap) (n0 : Nat) (v : Option Value) (h : Heap) (L : List Loc) : Prop := v = some (.int (1 : Int32)) ∧ Fr n0 L ∧ h = h0
set_option maxRecDepth 65536 in
set_option maxHeartbeats 400000000 in
theorem own_f_FAILED (l : Launch) (Z : State) (a0 : Array Value) (hw : ∀ d ∈ tables_1, d.before a0 Z = true) (ws : List Jvm.Cond) (w_FINISHED : Addr) (w_FAILED : Addr) (h0 : Heap) (n0 : Nat) (Z0 : n0 ≤ h0.size) (P_S_com_example_stackyard_stackyard_app_ApplicationState_FINISHED : Sta Z h0 "com/example/stackyard/stackyard/app/ApplicationState" "FINISHED" "Lcom/example/stackyard/stackyard/app/ApplicationState;" (.ref w_FINISHED)) (P_S_com_example_stackyard_stackyard_app_ApplicationState_FAILED : Sta Z h0 "com/example/stackyard/stackyard/app/ApplicationState" "FAILED" "Lcom/example/stackyard/stackyard/app/ApplicationState;" (.ref w_FAILED)) (ne_w_FAILED_w_FINISHED : w_FAILED ≠ w_FINISHED) :
    MetFree l (⟨"com/example/stackyard/stackyard/app/ApplicationState", "isFinal", "()Z"⟩ : MethodName) (head1 (Jvm.Cond.code (⟨"com/example/stackyard/stackyard/app/ApplicationState", "isFinal", "()Z"⟩ : MethodName) prog_17_method_4_code 1 (some .boolean) :: ws) R_own_f_FAILED) (fun a U => a = #[(.ref w_FAILED)] ∧ Z.Warmed39 U.vm ∧ U.heap = h0) (fun _ _ _ _ _ => True) (fun _ U o U' => ∃ v L, o = .returned v ∧ Q_own_f_FAILED Z w_FINISHED w_FAILED h0 n0 v U'.heap L ∧ FrameEnd U o U' L R_own_f_FAILED.cells R_own_f_FAILED.slots) := by
  refine MetFree.of_bodySF (plainFor_of_name own_pn0) hisR ?_
  intro p e s m args below meth c s₁ Bd hml0 hP hK
  obtain ⟨rfl, hZ, hh⟩ := hP
  have hx := Bd.exec
  have hby := Bd.bytes
  have hml : c.maxLocals = 1 := hml0
  have hown : s.vm.findClass "com/example/stackyard/stackyard/app/ApplicationState" = some m.cls := findClass_of_methodNamed Bd.named
  have hnm := (name_of_methodNamed Bd.named Bd.method).1
  have X0 : Stand p l e R_own_f_FAILED s m #[(.ref w_FAILED)] below meth c s₁ [] 0 0 := Stand.of_body Bd
  have e0 : s₁.heap = h0 := by rw [← hh, Bd.state]; rfl
  have N0 := Fr.nil n0
  have K0 : Keep h0 h0 [] := Keep.refl h0 []
  show own_Fin p e below s (Q_own_f_FAILED Z w_FINISHED w_FAILED h0 n0) R_own_f_FAILED.cells R_own_f_FAILED.slots (s₁.setTop (entryFrame m #[(.ref w_FAILED)] 1))
  refine own_go (fun _ k => castTop (ef_own_f_FAILED m w_FAILED) k) ?_
  show own_Fin _ _ _ _ _ _ _ (s₁.setTop (mkF m 0 #[.val (.ref w_FAILED)] []))
  refine own_go (B := s₁.setTop (mkF m 1 #[.val (.ref w_FAILED)] [(.ref w_FAILED)])) (fun _ k => XS.aloadN X0.here hx rfl (hb hby d2_0) rfl rfl k) ?_
  obtain ⟨T1, X1, e1, st1⟩ := getS2 X0 hx hZ hown (host := "") (Or.inl (own_w hw 12 rfl)) Via.refl e0 P_S_com_example_stackyard_stackyard_app_ApplicationState_FINISHED (g := (mkF m 1 #[.val (.ref w_FAILED)] [(.ref w_FAILED)])) rfl (hb hby d2_1)
  refine own_go (B := T1.setTop (mkF m 4 #[.val (.ref w_FAILED)] [(.ref w_FINISHED), (.ref w_FAILED)])) st1 ?_
  refine own_go (B := T1.setTop (mkF m 7 #[.val (.ref w_FAILED)] [])) (fun _ k => Jvm.RoadKit.acmp (g := (mkF m 4 #[.val (.ref w_FAILED)] [(.ref w_FINISHED), (.ref w_FAILED)])) X1 hx rfl rfl rfl (pc0 := 4) (pc' := 7) (same := false) rfl (hb hby d2_4) rfl (decide_eq_false fun q => ne_w_FAILED_w_FINISHED (Value.ref.inj q)) (by decide) (by decide) k) ?_
  refine own_go (B := T1.setTop (mkF m 8 #[.val (.ref w_FAILED)] [(.ref w_FAILED)])) (fun _ k => XS.aloadN X1.here hx rfl (hb hby d2_7) rfl rfl k) ?_
  obtain ⟨T2, X2, e2, st2⟩ := getS2 X1 hx hZ hown (host := "") (Or.inl (own_w hw 14 rfl)) Via.refl e1 P_S_com_example_stackyard_stackyard_app_ApplicationState_FAILED (g := (mkF m 8 #[.val (.ref w_FAILED)] [(.ref w_FAILED)])) rfl (hb hby d2_8)
  refine own_go (B := T2.setTop (mkF m 11 #[.val (.ref w_FAILED)] [(.ref w_FAILED), (.ref w_FAILED)])) st2 ?_
  refine own_go (B := T2.setTop (mkF m 21 #[.val (.ref w_FAILED)] [])) (fun _ k => Jvm.RoadKit.acmp (g := (mkF m 11 #[.val (.ref w_FAILED)] [(.ref w_FAILED), (.ref w_FAILED)])) X2 hx rfl rfl rfl (pc0 := 11) (pc' := 21) (same := true) rfl (hb hby d2_11) rfl (decide_eq_true rfl) (by decide) (by decide) k) ?_
  refine own_go (B := T2.setTop (mkF m 22 #[.val (.ref w_FAILED)] [(.int (1 : Int32))])) (fun _ k => XS.iconst X2.here hx rfl (hb hby d2_21) k) ?_
  refine own_go (B := T2.setTop (mkF m 26 #[.val (.ref w_FAILED)] [(.int (1 : Int32))])) (fun _ k => XS.goto X2.here hx rfl (pc0 := 22) (pc' := 26) rfl (hb hby d2_22) (by decide) (by decide) k) ?_
  exact own_retN X2 hx Bd.notSynchronized (t := .boolean) (w := (1 : Int32)) Bd.returns (by simp) (hb hby d2_26) e2 rfl ⟨rfl, N0, rfl⟩ (by decide) (by decide)
abbrev R_own_f_KILLED : Room := { frames := 0, cells := 0, slots := 0, locals := 0 }
theorem ef_own_f_KILLED (m : MethodId) (x0 : Addr) : entryFrame m #[(.ref x0)] 1 = mkF m 0 #[.val (.ref x0)] [] := by first | (simp [entryFrame, mkF, argsToLocals, Value.category]; done) | rfl
def Q_own_f_KILLED (Z : State) (w_FINISHED : Addr) (w_FAILED : Addr) (w_KILLED : Addr) (h0 : Heap) (n0 : Nat) (v : Option Value) (h : Heap) (L : List Loc) : Prop := v = some (.int (1 : Int32)) ∧ Fr n0 L ∧ h = h0
set_option maxRecDepth 65536 in
set_option maxHeartbeats 400000000 in
theorem own_f_KILLED (l : Launch) (Z : State) (a0 : Array Value) (hw : ∀ d ∈ tables_1, d.before a0 Z = true) (ws : List Jvm.Cond) (w_FINISHED : Addr) (w_FAILED : Addr) (w_KILLED : Addr) (h0 : Heap) (n0 : Nat) (Z0 : n0 ≤ h0.size) (P_S_com_example_stackyard_stackyard_app_ApplicationState_FINISHED : Sta Z h0 "com/example/stackyard/stackyard/app/ApplicationState" "FINISHED" "Lcom/example/stackyard/stackyard/app/ApplicationState;" (.ref w_FINISHED)) (P_S_com_example_stackyard_stackyard_app_ApplicationState_FAILED : Sta Z h0 "com/example/stackyard/stackyard/app/ApplicationState" "FAILED" "Lcom/example/stackyard/stackyard/app/ApplicationState;" (.ref w_FAILED)) (P_S_com_example_stackyard_stackyard_app_ApplicationState_KILLED : Sta Z h0 "com/example/stackyard/stackyard/app/ApplicationState" "KILLED" "Lcom/example/stackyard/stackyard/app/ApplicationState;" (.ref w_KILLED)) (ne_w_KILLED_w_FINISHED : w_KILLED ≠ w_FINISHED) (ne_w_KILLED_w_FAILED : w_KILLED ≠ w_FAILED) :
    MetFree l (⟨"com/example/stackyard/stackyard/app/ApplicationState", "isFinal", "()Z"⟩ : MethodName) (head1 (Jvm.Cond.code (⟨"com/example/stackyard/stackyard/app/ApplicationState", "isFinal", "()Z"⟩ : MethodName) prog_17_method_4_code 1 (some .boolean) :: ws) R_own_f_KILLED) (fun a U => a = #[(.ref w_KILLED)] ∧ Z.Warmed39 U.vm ∧ U.heap = h0) (fun _ _ _ _ _ => True) (fun _ U o U' => ∃ v L, o = .returned v ∧ Q_own_f_KILLED Z w_FINISHED w_FAILED w_KILLED h0 n0 v U'.heap L ∧ FrameEnd U o U' L R_own_f_KILLED.cells R_own_f_KILLED.slots) := by
  refine MetFree.of_bodySF (plainFor_of_name own_pn0) hisR ?_
  intro p e s m args below meth c s₁ Bd hml0 hP hK
  obtain ⟨rfl, hZ, hh⟩ := hP
  have hx := Bd.exec
  have hby := Bd.bytes
  have hml : c.maxLocals = 1 := hml0
  have hown : s.vm.findClass "com/example/stackyard/stackyard/app/ApplicationState" = some m.cls := findClass_of_methodNamed Bd.named
  have hnm := (name_of_methodNamed Bd.named Bd.method).1
  have X0 : Stand p l e R_own_f_KILLED s m #[(.ref w_KILLED)] below meth c s₁ [] 0 0 := Stand.of_body Bd
  have e0 : s₁.heap = h0 := by rw [← hh, Bd.state]; rfl
  have N0 := Fr.nil n0
  have K0 : Keep h0 h0 [] := Keep.refl h0 []
  show own_Fin p e below s (Q_own_f_KILLED Z w_FINISHED w_FAILED w_KILLED h0 n0) R_own_f_KILLED.cells R_own_f_KILLED.slots (s₁.setTop (entryFrame m #[(.ref w_KILLED)] 1))
  refine own_go (fun _ k => castTop (ef_own_f_KILLED m w_KILLED) k) ?_
  show own_Fin _ _ _ _ _ _ _ (s₁.setTop (mkF m 0 #[.val (.ref w_KILLED)] []))
  refine own_go (B := s₁.setTop (mkF m 1 #[.val (.ref w_KILLED)] [(.ref w_KILLED)])) (fun _ k => XS.aloadN X0.here hx rfl (hb hby d2_0) rfl rfl k) ?_
  obtain ⟨T1, X1, e1, st1⟩ := getS2 X0 hx hZ hown (host := "") (Or.inl (own_w hw 12 rfl)) Via.refl e0 P_S_com_example_stackyard_stackyard_app_ApplicationState_FINISHED (g := (mkF m 1 #[.val (.ref w_KILLED)] [(.ref w_KILLED)])) rfl (hb hby d2_1)
  refine own_go (B := T1.setTop (mkF m 4 #[.val (.ref w_KILLED)] [(.ref w_FINISHED), (.ref w_KILLED)])) st1 ?_
  refine own_go (B := T1.setTop (mkF m 7 #[.val (.ref w_KILLED)] [])) (fun _ k => Jvm.RoadKit.acmp (g := (mkF m 4 #[.val (.ref w_KILLED)] [(.ref w_FINISHED), (.ref w_KILLED)])) X1 hx rfl rfl rfl (pc0 := 4) (pc' := 7) (same := false) rfl (hb hby d2_4) rfl (decide_eq_false fun q => ne_w_KILLED_w_FINISHED (Value.ref.inj q)) (by decide) (by decide) k) ?_
  refine own_go (B := T1.setTop (mkF m 8 #[.val (.ref w_KILLED)] [(.ref w_KILLED)])) (fun _ k => XS.aloadN X1.here hx rfl (hb hby d2_7) rfl rfl k) ?_
  obtain ⟨T2, X2, e2, st2⟩ := getS2 X1 hx hZ hown (host := "") (Or.inl (own_w hw 14 rfl)) Via.refl e1 P_S_com_example_stackyard_stackyard_app_ApplicationState_FAILED (g := (mkF m 8 #[.val (.ref w_KILLED)] [(.ref w_KILLED)])) rfl (hb hby d2_8)
  refine own_go (B := T2.setTop (mkF m 11 #[.val (.ref w_KILLED)] [(.ref w_FAILED), (.ref w_KILLED)])) st2 ?_
  refine own_go (B := T2.setTop (mkF m 14 #[.val (.ref w_KILLED)] [])) (fun _ k => Jvm.RoadKit.acmp (g := (mkF m 11 #[.val (.ref w_KILLED)] [(.ref w_FAILED), (.ref w_KILLED)])) X2 hx rfl rfl rfl (pc0 := 11) (pc' := 14) (same := false) rfl (hb hby d2_11) rfl (decide_eq_false fun q => ne_w_KILLED_w_FAILED (Value.ref.inj q)) (by decide) (by decide) k) ?_
  refine own_go (B := T2.setTop (mkF m 15 #[.val (.ref w_KILLED)] [(.ref w_KILLED)])) (fun _ k => XS.aloadN X2.here hx rfl (hb hby d2_14) rfl rfl k) ?_
  obtain ⟨T3, X3, e3, st3⟩ := getS2 X2 hx hZ hown (host := "") (Or.inl (own_w hw 16 rfl)) Via.refl e2 P_S_com_example_stackyard_stackyard_app_ApplicationState_KILLED (g := (mkF m 15 #[.val (.ref w_KILLED)] [(.ref w_KILLED)])) rfl (hb hby d2_15)
  refine own_go (B := T3.setTop (mkF m 18 #[.val (.ref w_KILLED)] [(.ref w_KILLED), (.ref w_KILLED)])) st3 ?_
  refine own_go (B := T3.setTop (mkF m 21 #[.val (.ref w_KILLED)] [])) (fun _ k => Jvm.RoadKit.acmp (g := (mkF m 18 #[.val (.ref w_KILLED)] [(.ref w_KILLED), (.ref w_KILLED)])) X3 hx rfl rfl rfl (pc0 := 18) (pc' := 21) (same := true) rfl (hb hby d2_18) rfl (decide_eq_true rfl) (by decide) (by decide) k) ?_
  refine own_go (B := T3.setTop (mkF m 22 #[.val (.ref w_KILLED)] [(.int (1 : Int32))])) (fun _ k => XS.iconst X3.here hx rfl (hb hby d2_21) k) ?_
  refine own_go (B := T3.setTop (mkF m 26 #[.val (.ref w_KILLED)] [(.int (1 : Int32))])) (fun _ k => XS.goto X3.here hx rfl (pc0 := 22) (pc' := 26) rfl (hb hby d2_22) (by decide) (by decide) k) ?_
  exact own_retN X3 hx Bd.notSynchronized (t := .boolean) (w := (1 : Int32)) Bd.returns (by simp) (hb hby d2_26) e3 rfl ⟨rfl, N0, rfl⟩ (by decide) (by decide)
abbrev R_own_pick0 : Room := { frames := 0, cells := 0, slots := 0, locals := 0 }
theorem d1_0 : decode method_2_code 0 = .ok (.iload_n 0, 1) := by decide +kernel
theorem d1_1 : decode method_2_code 1 = .ok (.ifCond .ne 7, 3) := by decide +kernel
theorem d1_4 : decode method_2_code 4 = .ok (.getstatic 7, 3) := by decide +kernel
theorem d1_7 : decode method_2_code 7 = .ok (.areturn, 1) := by decide +kernel
theorem own_pn1 : plainName "com/example/stackyard/stackyard/app/ApplicationStateIsFinalPinLaw" = true := by first | (simp [plainName, overriddenIn]; done) | decide +kernel
theorem ef_own_pick0 (m : MethodId)  : entryFrame m #[(.int (0 : Int32))] 1 = mkF m 0 #[.val (.int (0 : Int32))] [] := by first | (simp [entryFrame, mkF, argsToLocals, Value.category]; done) | rfl
def Q_own_pick0 (Z : State) (w_NEW : Addr) (h0 : Heap) (n0 : Nat) (v : Option Value) (h : Heap) (L : List Loc) : Prop := v = some (.ref w_NEW) ∧ Fr n0 L ∧ h = h0
set_option maxRecDepth 65536 in
set_option maxHeartbeats 400000000 in
theorem own_pick0 (l : Launch) (Z : State) (a0 : Array Value) (hw : ∀ d ∈ tables_1, d.before a0 Z = true) (ws : List Jvm.Cond) (w_NEW : Addr) (h0 : Heap) (n0 : Nat) (Z0 : n0 ≤ h0.size) (P_S_com_example_stackyard_stackyard_app_ApplicationState_NEW : Sta Z h0 "com/example/stackyard/stackyard/app/ApplicationState" "NEW" "Lcom/example/stackyard/stackyard/app/ApplicationState;" (.ref w_NEW)) :
    MetFree l (⟨"com/example/stackyard/stackyard/app/ApplicationStateIsFinalPinLaw", "pick", "(I)Lcom/example/stackyard/stackyard/app/ApplicationState;"⟩ : MethodName) (head1 (Jvm.Cond.code (⟨"com/example/stackyard/stackyard/app/ApplicationStateIsFinalPinLaw", "pick", "(I)Lcom/example/stackyard/stackyard/app/ApplicationState;"⟩ : MethodName) method_2_code 1 (some (.object "com/example/stackyard/stackyard/app/ApplicationState")) :: ws) R_own_pick0) (fun a U => a = #[(.int (0 : Int32))] ∧ Z.Warmed39 U.vm ∧ U.heap = h0) (fun _ _ _ _ _ => True) (fun _ U o U' => ∃ v L, o = .returned v ∧ Q_own_pick0 Z w_NEW h0 n0 v U'.heap L ∧ FrameEnd U o U' L R_own_pick0.cells R_own_pick0.slots) := by
  refine MetFree.of_bodySF (plainFor_of_name own_pn1) hisR ?_
  intro p e s m args below meth c s₁ Bd hml0 hP hK
  obtain ⟨rfl, hZ, hh⟩ := hP
  have hx := Bd.exec
  have hby := Bd.bytes
  have hml : c.maxLocals = 1 := hml0
  have hown : s.vm.findClass "com/example/stackyard/stackyard/app/ApplicationStateIsFinalPinLaw" = some m.cls := findClass_of_methodNamed Bd.named
  have hnm := (name_of_methodNamed Bd.named Bd.method).1
  have X0 : Stand p l e R_own_pick0 s m #[(.int (0 : Int32))] below meth c s₁ [] 0 0 := Stand.of_body Bd
  have e0 : s₁.heap = h0 := by rw [← hh, Bd.state]; rfl
  have N0 := Fr.nil n0
  have K0 : Keep h0 h0 [] := Keep.refl h0 []
  show own_Fin p e below s (Q_own_pick0 Z w_NEW h0 n0) R_own_pick0.cells R_own_pick0.slots (s₁.setTop (entryFrame m #[(.int (0 : Int32))] 1))
  refine own_go (fun _ k => castTop (ef_own_pick0 m ) k) ?_
  show own_Fin _ _ _ _ _ _ _ (s₁.setTop (mkF m 0 #[.val (.int (0 : Int32))] []))
  refine own_go (B := s₁.setTop (mkF m 1 #[.val (.int (0 : Int32))] [(.int (0 : Int32))])) (fun _ k => XS.iloadN X0.here hx rfl (hb hby d1_0) rfl  k) ?_
  have hc1 : (0 : Int32) = (0 : Int32) := by decide
  refine own_go (B := s₁.setTop (mkF m 4 #[.val (.int (0 : Int32))] [])) (fun _ k => XS.ifNo X0.here hx rfl (hb hby d1_1) rfl ((if0 _ _).trans (teq hc1).2) k) ?_
  obtain ⟨T2, X2, e2, st2⟩ := getS2 X0 hx hZ hown (host := "") (Or.inl (own_w hw 4 rfl)) Via.refl e0 P_S_com_example_stackyard_stackyard_app_ApplicationState_NEW (g := (mkF m 4 #[.val (.int (0 : Int32))] [])) rfl (hb hby d1_4)
  refine own_go (B := T2.setTop (mkF m 7 #[.val (.int (0 : Int32))] [(.ref w_NEW)])) st2 ?_
  exact own_retA X2 hx Bd.notSynchronized Bd.returns rfl rfl (hb hby d1_7) e2 ⟨rfl, N0, rfl⟩ (by decide) (by decide)
abbrev R_own_exp0 : Room := { frames := 0, cells := 0, slots := 0, locals := 0 }
theorem d3_0 : decode method_3_code 0 = .ok (.iload_n 0, 1) := by decide +kernel
theorem d3_1 : decode method_3_code 1 = .ok (.ifCond .ne 5, 3) := by decide +kernel
theorem d3_4 : decode method_3_code 4 = .ok (.iconst 0, 1) := by decide +kernel
theorem d3_5 : decode method_3_code 5 = .ok (.ireturn, 1) := by decide +kernel
theorem ef_own_exp0 (m : MethodId)  : entryFrame m #[(.int (0 : Int32))] 1 = mkF m 0 #[.val (.int (0 : Int32))] [] := by first | (simp [entryFrame, mkF, argsToLocals, Value.category]; done) | rfl
def Q_own_exp0 (Z : State)  (h0 : Heap) (n0 : Nat) (v : Option Value) (h : Heap) (L : List Loc) : Prop := v = some (.int (0 : Int32)) ∧ Fr n0 L ∧ h = h0
set_option maxRecDepth 65536 in
set_option maxHeartbeats 400000000 in
theorem own_exp0 (l : Launch) (Z : State) (a0 : Array Value) (hw : ∀ d ∈ tables_1, d.before a0 Z = true) (ws : List Jvm.Cond)  (h0 : Heap) (n0 : Nat) (Z0 : n0 ≤ h0.size)  :
    MetFree l (⟨"com/example/stackyard/stackyard/app/ApplicationStateIsFinalPinLaw", "expected", "(I)Z"⟩ : MethodName) (head1 (Jvm.Cond.code (⟨"com/example/stackyard/stackyard/app/ApplicationStateIsFinalPinLaw", "expected", "(I)Z"⟩ : MethodName) method_3_code 1 (some .boolean) :: ws) R_own_exp0) (fun a U => a = #[(.int (0 : Int32))] ∧ Z.Warmed39 U.vm ∧ U.heap = h0) (fun _ _ _ _ _ => True) (fun _ U o U' => ∃ v L, o = .returned v ∧ Q_own_exp0 Z  h0 n0 v U'.heap L ∧ FrameEnd U o U' L R_own_exp0.cells R_own_exp0.slots) := by
  refine MetFree.of_bodySF (plainFor_of_name own_pn1) hisR ?_
  intro p e s m args below meth c s₁ Bd hml0 hP hK
  obtain ⟨rfl, hZ, hh⟩ := hP
  have hx := Bd.exec
  have hby := Bd.bytes
  have hml : c.maxLocals = 1 := hml0
  have hown : s.vm.findClass "com/example/stackyard/stackyard/app/ApplicationStateIsFinalPinLaw" = some m.cls := findClass_of_methodNamed Bd.named
  have hnm := (name_of_methodNamed Bd.named Bd.method).1
  have X0 : Stand p l e R_own_exp0 s m #[(.int (0 : Int32))] below meth c s₁ [] 0 0 := Stand.of_body Bd
  have e0 : s₁.heap = h0 := by rw [← hh, Bd.state]; rfl
  have N0 := Fr.nil n0
  have K0 : Keep h0 h0 [] := Keep.refl h0 []
  show own_Fin p e below s (Q_own_exp0 Z  h0 n0) R_own_exp0.cells R_own_exp0.slots (s₁.setTop (entryFrame m #[(.int (0 : Int32))] 1))
  refine own_go (fun _ k => castTop (ef_own_exp0 m ) k) ?_
  show own_Fin _ _ _ _ _ _ _ (s₁.setTop (mkF m 0 #[.val (.int (0 : Int32))] []))
  refine own_go (B := s₁.setTop (mkF m 1 #[.val (.int (0 : Int32))] [(.int (0 : Int32))])) (fun _ k => XS.iloadN X0.here hx rfl (hb hby d3_0) rfl  k) ?_
  have hc1 : (0 : Int32) = (0 : Int32) := by decide
  refine own_go (B := s₁.setTop (mkF m 4 #[.val (.int (0 : Int32))] [])) (fun _ k => XS.ifNo X0.here hx rfl (hb hby d3_1) rfl ((if0 _ _).trans (teq hc1).2) k) ?_
  refine own_go (B := s₁.setTop (mkF m 5 #[.val (.int (0 : Int32))] [(.int (0 : Int32))])) (fun _ k => XS.iconst X0.here hx rfl (hb hby d3_4) k) ?_
  exact own_retN X0 hx Bd.notSynchronized (t := .boolean) (w := (0 : Int32)) Bd.returns (by simp) (hb hby d3_5) e0 rfl ⟨rfl, N0, rfl⟩ (by decide) (by decide)
abbrev R_own_pick1 : Room := { frames := 0, cells := 0, slots := 0, locals := 0 }
theorem d1_8 : decode method_2_code 8 = .ok (.iload_n 0, 1) := by decide +kernel
theorem d1_9 : decode method_2_code 9 = .ok (.iconst 1, 1) := by decide +kernel
theorem d1_10 : decode method_2_code 10 = .ok (.if_icmp .ne 7, 3) := by decide +kernel
theorem d1_13 : decode method_2_code 13 = .ok (.getstatic 13, 3) := by decide +kernel
theorem d1_16 : decode method_2_code 16 = .ok (.areturn, 1) := by decide +kernel
theorem ef_own_pick1 (m : MethodId)  : entryFrame m #[(.int (1 : Int32))] 1 = mkF m 0 #[.val (.int (1 : Int32))] [] := by first | (simp [entryFrame, mkF, argsToLocals, Value.category]; done) | rfl
def Q_own_pick1 (Z : State) (w_NEW_SAVING : Addr) (h0 : Heap) (n0 : Nat) (v : Option Value) (h : Heap) (L : List Loc) : Prop := v = some (.ref w_NEW_SAVING) ∧ Fr n0 L ∧ h = h0
set_option maxRecDepth 65536 in
set_option maxHeartbeats 400000000 in
theorem own_pick1 (l : Launch) (Z : State) (a0 : Array Value) (hw : ∀ d ∈ tables_1, d.before a0 Z = true) (ws : List Jvm.Cond) (w_NEW_SAVING : Addr) (h0 : Heap) (n0 : Nat) (Z0 : n0 ≤ h0.size) (P_S_com_example_stackyard_stackyard_app_ApplicationState_NEW_SAVING : Sta Z h0 "com/example/stackyard/stackyard/app/ApplicationState" "NEW_SAVING" "Lcom/example/stackyard/stackyard/app/ApplicationState;" (.ref w_NEW_SAVING)) :
    MetFree l (⟨"com/example/stackyard/stackyard/app/ApplicationStateIsFinalPinLaw", "pick", "(I)Lcom/example/stackyard/stackyard/app/ApplicationState;"⟩ : MethodName) (head1 (Jvm.Cond.code (⟨"com/example/stackyard/stackyard/app/ApplicationStateIsFinalPinLaw", "pick", "(I)Lcom/example/stackyard/stackyard/app/ApplicationState;"⟩ : MethodName) method_2_code 1 (some (.object "com/example/stackyard/stackyard/app/ApplicationState")) :: ws) R_own_pick1) (fun a U => a = #[(.int (1 : Int32))] ∧ Z.Warmed39 U.vm ∧ U.heap = h0) (fun _ _ _ _ _ => True) (fun _ U o U' => ∃ v L, o = .returned v ∧ Q_own_pick1 Z w_NEW_SAVING h0 n0 v U'.heap L ∧ FrameEnd U o U' L R_own_pick1.cells R_own_pick1.slots) := by
  refine MetFree.of_bodySF (plainFor_of_name own_pn1) hisR ?_
  intro p e s m args below meth c s₁ Bd hml0 hP hK
  obtain ⟨rfl, hZ, hh⟩ := hP
  have hx := Bd.exec
  have hby := Bd.bytes
  have hml : c.maxLocals = 1 := hml0
  have hown : s.vm.findClass "com/example/stackyard/stackyard/app/ApplicationStateIsFinalPinLaw" = some m.cls := findClass_of_methodNamed Bd.named
  have hnm := (name_of_methodNamed Bd.named Bd.method).1
  have X0 : Stand p l e R_own_pick1 s m #[(.int (1 : Int32))] below meth c s₁ [] 0 0 := Stand.of_body Bd
  have e0 : s₁.heap = h0 := by rw [← hh, Bd.state]; rfl
  have N0 := Fr.nil n0
  have K0 : Keep h0 h0 [] := Keep.refl h0 []
  show own_Fin p e below s (Q_own_pick1 Z w_NEW_SAVING h0 n0) R_own_pick1.cells R_own_pick1.slots (s₁.setTop (entryFrame m #[(.int (1 : Int32))] 1))
  refine own_go (fun _ k => castTop (ef_own_pick1 m ) k) ?_
  show own_Fin _ _ _ _ _ _ _ (s₁.setTop (mkF m 0 #[.val (.int (1 : Int32))] []))
  refine own_go (B := s₁.setTop (mkF m 1 #[.val (.int (1 : Int32))] [(.int (1 : Int32))])) (fun _ k => XS.iloadN X0.here hx rfl (hb hby d1_0) rfl  k) ?_
  have hc1 : ¬ ((1 : Int32) = (0 : Int32)) := by decide
  refine own_go (B := s₁.setTop (mkF m 8 #[.val (.int (1 : Int32))] [])) (fun _ k => XS.ifYes X0.here hx rfl (pc0 := 1) (pc' := 8) rfl (hb hby d1_1) rfl ((if0 _ _).trans (feq hc1).2) (by decide) (by decide) k) ?_
  refine own_go (B := s₁.setTop (mkF m 9 #[.val (.int (1 : Int32))] [(.int (1 : Int32))])) (fun _ k => XS.iloadN X0.here hx rfl (hb hby d1_8) rfl  k) ?_
  refine own_go (B := s₁.setTop (mkF m 10 #[.val (.int (1 : Int32))] [(.int (1 : Int32)), (.int (1 : Int32))])) (fun _ k => XS.iconst X0.here hx rfl (hb hby d1_9) k) ?_
  have hc2 : (1 : Int32) = (1 : Int32) := by decide
  refine own_go (B := s₁.setTop (mkF m 13 #[.val (.int (1 : Int32))] [])) (fun _ k => XS.icmpNo X0.here hx rfl (hb hby d1_10) rfl (teq hc2).2 k) ?_
  obtain ⟨T3, X3, e3, st3⟩ := getS2 X0 hx hZ hown (host := "") (Or.inl (own_w hw 27 rfl)) Via.refl e0 P_S_com_example_stackyard_stackyard_app_ApplicationState_NEW_SAVING (g := (mkF m 13 #[.val (.int (1 : Int32))] [])) rfl (hb hby d1_13)
  refine own_go (B := T3.setTop (mkF m 16 #[.val (.int (1 : Int32))] [(.ref w_NEW_SAVING)])) st3 ?_
  exact own_retA X3 hx Bd.notSynchronized Bd.returns rfl rfl (hb hby d1_16) e3 ⟨rfl, N0, rfl⟩ (by decide) (by decide)
abbrev R_own_exp1 : Room := { frames := 0, cells := 0, slots := 0, locals := 0 }
theorem d3_6 : decode method_3_code 6 = .ok (.iload_n 0, 1) := by decide +kernel
theorem d3_7 : decode method_3_code 7 = .ok (.iconst 1, 1) := by decide +kernel
theorem d3_8 : decode method_3_code 8 = .ok (.if_icmp .ne 5, 3) := by decide +kernel
theorem d3_11 : decode method_3_code 11 = .ok (.iconst 0, 1) := by decide +kernel
theorem d3_12 : decode method_3_code 12 = .ok (.ireturn, 1) := by decide +kernel
theorem ef_own_exp1 (m : MethodId)  : entryFrame m #[(.int (1 : Int32))] 1 = mkF m 0 #[.val (.int (1 : Int32))] [] := by first | (simp [entryFrame, mkF, argsToLocals, Value.category]; done) | rfl
def Q_own_exp1 (Z : State)  (h0 : Heap) (n0 : Nat) (v : Option Value) (h : Heap) (L : List Loc) : Prop := v = some (.int (0 : Int32)) ∧ Fr n0 L ∧ h = h0
set_option maxRecDepth 65536 in
set_option maxHeartbeats 400000000 in
theorem own_exp1 (l : Launch) (Z : State) (a0 : Array Value) (hw : ∀ d ∈ tables_1, d.before a0 Z = true) (ws : List Jvm.Cond)  (h0 : Heap) (n0 : Nat) (Z0 : n0 ≤ h0.size)  :
    MetFree l (⟨"com/example/stackyard/stackyard/app/ApplicationStateIsFinalPinLaw", "expected", "(I)Z"⟩ : MethodName) (head1 (Jvm.Cond.code (⟨"com/example/stackyard/stackyard/app/ApplicationStateIsFinalPinLaw", "expected", "(I)Z"⟩ : MethodName) method_3_code 1 (some .boolean) :: ws) R_own_exp1) (fun a U => a = #[(.int (1 : Int32))] ∧ Z.Warmed39 U.vm ∧ U.heap = h0) (fun _ _ _ _ _ => True) (fun _ U o U' => ∃ v L, o = .returned v ∧ Q_own_exp1 Z  h0 n0 v U'.heap L ∧ FrameEnd U o U' L R_own_exp1.cells R_own_exp1.slots) := by
  refine MetFree.of_bodySF (plainFor_of_name own_pn1) hisR ?_
  intro p e s m args below meth c s₁ Bd hml0 hP hK
  obtain ⟨rfl, hZ, hh⟩ := hP
  have hx := Bd.exec
  have hby := Bd.bytes
  have hml : c.maxLocals = 1 := hml0
  have hown : s.vm.findClass "com/example/stackyard/stackyard/app/ApplicationStateIsFinalPinLaw" = some m.cls := findClass_of_methodNamed Bd.named
  have hnm := (name_of_methodNamed Bd.named Bd.method).1
  have X0 : Stand p l e R_own_exp1 s m #[(.int (1 : Int32))] below meth c s₁ [] 0 0 := Stand.of_body Bd
  have e0 : s₁.heap = h0 := by rw [← hh, Bd.state]; rfl
  have N0 := Fr.nil n0
  have K0 : Keep h0 h0 [] := Keep.refl h0 []
  show own_Fin p e below s (Q_own_exp1 Z  h0 n0) R_own_exp1.cells R_own_exp1.slots (s₁.setTop (entryFrame m #[(.int (1 : Int32))] 1))
  refine own_go (fun _ k => castTop (ef_own_exp1 m ) k) ?_
  show own_Fin _ _ _ _ _ _ _ (s₁.setTop (mkF m 0 #[.val (.int (1 : Int32))] []))
  refine own_go (B := s₁.setTop (mkF m 1 #[.val (.int (1 : Int32))] [(.int (1 : Int32))])) (fun _ k => XS.iloadN X0.here hx rfl (hb hby d3_0) rfl  k) ?_
  have hc1 : ¬ ((1 : Int32) = (0 : Int32)) := by decide
  refine own_go (B := s₁.setTop (mkF m 6 #[.val (.int (1 : Int32))] [])) (fun _ k => XS.ifYes X0.here hx rfl (pc0 := 1) (pc' := 6) rfl (hb hby d3_1) rfl ((if0 _ _).trans (feq hc1).2) (by decide) (by decide) k) ?_
  refine own_go (B := s₁.setTop (mkF m 7 #[.val (.int (1 : Int32))] [(.int (1 : Int32))])) (fun _ k => XS.iloadN X0.here hx rfl (hb hby d3_6) rfl  k) ?_
  refine own_go (B := s₁.setTop (mkF m 8 #[.val (.int (1 : Int32))] [(.int (1 : Int32)), (.int (1 : Int32))])) (fun _ k => XS.iconst X0.here hx rfl (hb hby d3_7) k) ?_
  have hc2 : (1 : Int32) = (1 : Int32) := by decide
  refine own_go (B := s₁.setTop (mkF m 11 #[.val (.int (1 : Int32))] [])) (fun _ k => XS.icmpNo X0.here hx rfl (hb hby d3_8) rfl (teq hc2).2 k) ?_
  refine own_go (B := s₁.setTop (mkF m 12 #[.val (.int (1 : Int32))] [(.int (0 : Int32))])) (fun _ k => XS.iconst X0.here hx rfl (hb hby d3_11) k) ?_
  exact own_retN X0 hx Bd.notSynchronized (t := .boolean) (w := (0 : Int32)) Bd.returns (by simp) (hb hby d3_12) e0 rfl ⟨rfl, N0, rfl⟩ (by decide) (by decide)
abbrev R_own_pick2 : Room := { frames := 0, cells := 0, slots := 0, locals := 0 }
theorem d1_17 : decode method_2_code 17 = .ok (.iload_n 0, 1) := by decide +kernel
theorem d1_18 : decode method_2_code 18 = .ok (.iconst 2, 1) := by decide +kernel
theorem d1_19 : decode method_2_code 19 = .ok (.if_icmp .ne 7, 3) := by decide +kernel
theorem d1_22 : decode method_2_code 22 = .ok (.getstatic 16, 3) := by decide +kernel
theorem d1_25 : decode method_2_code 25 = .ok (.areturn, 1) := by decide +kernel
theorem ef_own_pick2 (m : MethodId)  : entryFrame m #[(.int (2 : Int32))] 1 = mkF m 0 #[.val (.int (2 : Int32))] [] := by first | (simp [entryFrame, mkF, argsToLocals, Value.category]; done) | rfl
def Q_own_pick2 (Z : State) (w_SUBMITTED : Addr) (h0 : Heap) (n0 : Nat) (v : Option Value) (h : Heap) (L : List Loc) : Prop := v = some (.ref w_SUBMITTED) ∧ Fr n0 L ∧ h = h0
set_option maxRecDepth 65536 in
set_option maxHeartbeats 400000000 in
theorem own_pick2 (l : Launch) (Z : State) (a0 : Array Value) (hw : ∀ d ∈ tables_1, d.before a0 Z = true) (ws : List Jvm.Cond) (w_SUBMITTED : Addr) (h0 : Heap) (n0 : Nat) (Z0 : n0 ≤ h0.size) (P_S_com_example_stackyard_stackyard_app_ApplicationState_SUBMITTED : Sta Z h0 "com/example/stackyard/stackyard/app/ApplicationState" "SUBMITTED" "Lcom/example/stackyard/stackyard/app/ApplicationState;" (.ref w_SUBMITTED)) :
    MetFree l (⟨"com/example/stackyard/stackyard/app/ApplicationStateIsFinalPinLaw", "pick", "(I)Lcom/example/stackyard/stackyard/app/ApplicationState;"⟩ : MethodName) (head1 (Jvm.Cond.code (⟨"com/example/stackyard/stackyard/app/ApplicationStateIsFinalPinLaw", "pick", "(I)Lcom/example/stackyard/stackyard/app/ApplicationState;"⟩ : MethodName) method_2_code 1 (some (.object "com/example/stackyard/stackyard/app/ApplicationState")) :: ws) R_own_pick2) (fun a U => a = #[(.int (2 : Int32))] ∧ Z.Warmed39 U.vm ∧ U.heap = h0) (fun _ _ _ _ _ => True) (fun _ U o U' => ∃ v L, o = .returned v ∧ Q_own_pick2 Z w_SUBMITTED h0 n0 v U'.heap L ∧ FrameEnd U o U' L R_own_pick2.cells R_own_pick2.slots) := by
  refine MetFree.of_bodySF (plainFor_of_name own_pn1) hisR ?_
  intro p e s m args below meth c s₁ Bd hml0 hP hK
  obtain ⟨rfl, hZ, hh⟩ := hP
  have hx := Bd.exec
  have hby := Bd.bytes
  have hml : c.maxLocals = 1 := hml0
  have hown : s.vm.findClass "com/example/stackyard/stackyard/app/ApplicationStateIsFinalPinLaw" = some m.cls := findClass_of_methodNamed Bd.named
  have hnm := (name_of_methodNamed Bd.named Bd.method).1
  have X0 : Stand p l e R_own_pick2 s m #[(.int (2 : Int32))] below meth c s₁ [] 0 0 := Stand.of_body Bd
  have e0 : s₁.heap = h0 := by rw [← hh, Bd.state]; rfl
  have N0 := Fr.nil n0
  have K0 : Keep h0 h0 [] := Keep.refl h0 []
  show own_Fin p e below s (Q_own_pick2 Z w_SUBMITTED h0 n0) R_own_pick2.cells R_own_pick2.slots (s₁.setTop (entryFrame m #[(.int (2 : Int32))] 1))
  refine own_go (fun _ k => castTop (ef_own_pick2 m ) k) ?_
  show own_Fin _ _ _ _ _ _ _ (s₁.setTop (mkF m 0 #[.val (.int (2 : Int32))] []))
  refine own_go (B := s₁.setTop (mkF m 1 #[.val (.int (2 : Int32))] [(.int (2 : Int32))])) (fun _ k => XS.iloadN X0.here hx rfl (hb hby d1_0) rfl  k) ?_
  have hc1 : ¬ ((2 : Int32) = (0 : Int32)) := by decide
  refine own_go (B := s₁.setTop (mkF m 8 #[.val (.int (2 : Int32))] [])) (fun _ k => XS.ifYes X0.here hx rfl (pc0 := 1) (pc' := 8) rfl (hb hby d1_1) rfl ((if0 _ _).trans (feq hc1).2) (by decide) (by decide) k) ?_
  refine own_go (B := s₁.setTop (mkF m 9 #[.val (.int (2 : Int32))] [(.int (2 : Int32))])) (fun _ k => XS.iloadN X0.here hx rfl (hb hby d1_8) rfl  k) ?_
  refine own_go (B := s₁.setTop (mkF m 10 #[.val (.int (2 : Int32))] [(.int (1 : Int32)), (.int (2 : Int32))])) (fun _ k => XS.iconst X0.here hx rfl (hb hby d1_9) k) ?_
  have hc2 : ¬ ((2 : Int32) = (1 : Int32)) := by decide
  refine own_go (B := s₁.setTop (mkF m 17 #[.val (.int (2 : Int32))] [])) (fun _ k => XS.icmpYes X0.here hx rfl (pc0 := 10) (pc' := 17) rfl (hb hby d1_10) rfl (feq hc2).2 (by decide) (by decide) k) ?_
  refine own_go (B := s₁.setTop (mkF m 18 #[.val (.int (2 : Int32))] [(.int (2 : Int32))])) (fun _ k => XS.iloadN X0.here hx rfl (hb hby d1_17) rfl  k) ?_
  refine own_go (B := s₁.setTop (mkF m 19 #[.val (.int (2 : Int32))] [(.int (2 : Int32)), (.int (2 : Int32))])) (fun _ k => XS.iconst X0.here hx rfl (hb hby d1_18) k) ?_
  have hc3 : (2 : Int32) = (2 : Int32) := by decide
  refine own_go (B := s₁.setTop (mkF m 22 #[.val (.int (2 : Int32))] [])) (fun _ k => XS.icmpNo X0.here hx rfl (hb hby d1_19) rfl (teq hc3).2 k) ?_
  obtain ⟨T4, X4, e4, st4⟩ := getS2 X0 hx hZ hown (host := "") (Or.inl (own_w hw 25 rfl)) Via.refl e0 P_S_com_example_stackyard_stackyard_app_ApplicationState_SUBMITTED (g := (mkF m 22 #[.val (.int (2 : Int32))] [])) rfl (hb hby d1_22)
  refine own_go (B := T4.setTop (mkF m 25 #[.val (.int (2 : Int32))] [(.ref w_SUBMITTED)])) st4 ?_
  exact own_retA X4 hx Bd.notSynchronized Bd.returns rfl rfl (hb hby d1_25) e4 ⟨rfl, N0, rfl⟩ (by decide) (by decide)
abbrev R_own_exp2 : Room := { frames := 0, cells := 0, slots := 0, locals := 0 }
theorem d3_13 : decode method_3_code 13 = .ok (.iload_n 0, 1) := by decide +kernel
theorem d3_14 : decode method_3_code 14 = .ok (.iconst 2, 1) := by decide +kernel
theorem d3_15 : decode method_3_code 15 = .ok (.if_icmp .ne 5, 3) := by decide +kernel
theorem d3_18 : decode method_3_code 18 = .ok (.iconst 0, 1) := by decide +kernel
theorem d3_19 : decode method_3_code 19 = .ok (.ireturn, 1) := by decide +kernel
theorem ef_own_exp2 (m : MethodId)  : entryFrame m #[(.int (2 : Int32))] 1 = mkF m 0 #[.val (.int (2 : Int32))] [] := by first | (simp [entryFrame, mkF, argsToLocals, Value.category]; done) | rfl
def Q_own_exp2 (Z : State)  (h0 : Heap) (n0 : Nat) (v : Option Value) (h : Heap) (L : List Loc) : Prop := v = some (.int (0 : Int32)) ∧ Fr n0 L ∧ h = h0
set_option maxRecDepth 65536 in
set_option maxHeartbeats 400000000 in
theorem own_exp2 (l : Launch) (Z : State) (a0 : Array Value) (hw : ∀ d ∈ tables_1, d.before a0 Z = true) (ws : List Jvm.Cond)  (h0 : Heap) (n0 : Nat) (Z0 : n0 ≤ h0.size)  :
    MetFree l (⟨"com/example/stackyard/stackyard/app/ApplicationStateIsFinalPinLaw", "expected", "(I)Z"⟩ : MethodName) (head1 (Jvm.Cond.code (⟨"com/example/stackyard/stackyard/app/ApplicationStateIsFinalPinLaw", "expected", "(I)Z"⟩ : MethodName) method_3_code 1 (some .boolean) :: ws) R_own_exp2) (fun a U => a = #[(.int (2 : Int32))] ∧ Z.Warmed39 U.vm ∧ U.heap = h0) (fun _ _ _ _ _ => True) (fun _ U o U' => ∃ v L, o = .returned v ∧ Q_own_exp2 Z  h0 n0 v U'.heap L ∧ FrameEnd U o U' L R_own_exp2.cells R_own_exp2.slots) := by
  refine MetFree.of_bodySF (plainFor_of_name own_pn1) hisR ?_
  intro p e s m args below meth c s₁ Bd hml0 hP hK
  obtain ⟨rfl, hZ, hh⟩ := hP
  have hx := Bd.exec
  have hby := Bd.bytes
  have hml : c.maxLocals = 1 := hml0
  have hown : s.vm.findClass "com/example/stackyard/stackyard/app/ApplicationStateIsFinalPinLaw" = some m.cls := findClass_of_methodNamed Bd.named
  have hnm := (name_of_methodNamed Bd.named Bd.method).1
  have X0 : Stand p l e R_own_exp2 s m #[(.int (2 : Int32))] below meth c s₁ [] 0 0 := Stand.of_body Bd
  have e0 : s₁.heap = h0 := by rw [← hh, Bd.state]; rfl
  have N0 := Fr.nil n0
  have K0 : Keep h0 h0 [] := Keep.refl h0 []
  show own_Fin p e below s (Q_own_exp2 Z  h0 n0) R_own_exp2.cells R_own_exp2.slots (s₁.setTop (entryFrame m #[(.int (2 : Int32))] 1))
  refine own_go (fun _ k => castTop (ef_own_exp2 m ) k) ?_
  show own_Fin _ _ _ _ _ _ _ (s₁.setTop (mkF m 0 #[.val (.int (2 : Int32))] []))
  refine own_go (B := s₁.setTop (mkF m 1 #[.val (.int (2 : Int32))] [(.int (2 : Int32))])) (fun _ k => XS.iloadN X0.here hx rfl (hb hby d3_0) rfl  k) ?_
  have hc1 : ¬ ((2 : Int32) = (0 : Int32)) := by decide
  refine own_go (B := s₁.setTop (mkF m 6 #[.val (.int (2 : Int32))] [])) (fun _ k => XS.ifYes X0.here hx rfl (pc0 := 1) (pc' := 6) rfl (hb hby d3_1) rfl ((if0 _ _).trans (feq hc1).2) (by decide) (by decide) k) ?_
  refine own_go (B := s₁.setTop (mkF m 7 #[.val (.int (2 : Int32))] [(.int (2 : Int32))])) (fun _ k => XS.iloadN X0.here hx rfl (hb hby d3_6) rfl  k) ?_
  refine own_go (B := s₁.setTop (mkF m 8 #[.val (.int (2 : Int32))] [(.int (1 : Int32)), (.int (2 : Int32))])) (fun _ k => XS.iconst X0.here hx rfl (hb hby d3_7) k) ?_
  have hc2 : ¬ ((2 : Int32) = (1 : Int32)) := by decide
  refine own_go (B := s₁.setTop (mkF m 13 #[.val (.int (2 : Int32))] [])) (fun _ k => XS.icmpYes X0.here hx rfl (pc0 := 8) (pc' := 13) rfl (hb hby d3_8) rfl (feq hc2).2 (by decide) (by decide) k) ?_
  refine own_go (B := s₁.setTop (mkF m 14 #[.val (.int (2 : Int32))] [(.int (2 : Int32))])) (fun _ k => XS.iloadN X0.here hx rfl (hb hby d3_13) rfl  k) ?_
  refine own_go (B := s₁.setTop (mkF m 15 #[.val (.int (2 : Int32))] [(.int (2 : Int32)), (.int (2 : Int32))])) (fun _ k => XS.iconst X0.here hx rfl (hb hby d3_14) k) ?_
  have hc3 : (2 : Int32) = (2 : Int32) := by decide
  refine own_go (B := s₁.setTop (mkF m 18 #[.val (.int (2 : Int32))] [])) (fun _ k => XS.icmpNo X0.here hx rfl (hb hby d3_15) rfl (teq hc3).2 k) ?_
  refine own_go (B := s₁.setTop (mkF m 19 #[.val (.int (2 : Int32))] [(.int (0 : Int32))])) (fun _ k => XS.iconst X0.here hx rfl (hb hby d3_18) k) ?_
  exact own_retN X0 hx Bd.notSynchronized (t := .boolean) (w := (0 : Int32)) Bd.returns (by simp) (hb hby d3_19) e0 rfl ⟨rfl, N0, rfl⟩ (by decide) (by decide)
abbrev R_own_pick3 : Room := { frames := 0, cells := 0, slots := 0, locals := 0 }
theorem d1_26 : decode method_2_code 26 = .ok (.iload_n 0, 1) := by decide +kernel
theorem d1_27 : decode method_2_code 27 = .ok (.iconst 3, 1) := by decide +kernel
theorem d1_28 : decode method_2_code 28 = .ok (.if_icmp .ne 7, 3) := by decide +kernel
theorem d1_31 : decode method_2_code 31 = .ok (.getstatic 19, 3) := by decide +kernel
theorem d1_34 : decode method_2_code 34 = .ok (.areturn, 1) := by decide +kernel
theorem ef_own_pick3 (m : MethodId)  : entryFrame m #[(.int (3 : Int32))] 1 = mkF m 0 #[.val (.int (3 : Int32))] [] := by first | (simp [entryFrame, mkF, argsToLocals, Value.category]; done) | rfl
def Q_own_pick3 (Z : State) (w_ACCEPTED : Addr) (h0 : Heap) (n0 : Nat) (v : Option Value) (h : Heap) (L : List Loc) : Prop := v = some (.ref w_ACCEPTED) ∧ Fr n0 L ∧ h = h0
set_option maxRecDepth 65536 in
set_option maxHeartbeats 400000000 in
theorem own_pick3 (l : Launch) (Z : State) (a0 : Array Value) (hw : ∀ d ∈ tables_1, d.before a0 Z = true) (ws : List Jvm.Cond) (w_ACCEPTED : Addr) (h0 : Heap) (n0 : Nat) (Z0 : n0 ≤ h0.size) (P_S_com_example_stackyard_stackyard_app_ApplicationState_ACCEPTED : Sta Z h0 "com/example/stackyard/stackyard/app/ApplicationState" "ACCEPTED" "Lcom/example/stackyard/stackyard/app/ApplicationState;" (.ref w_ACCEPTED)) :
    MetFree l (⟨"com/example/stackyard/stackyard/app/ApplicationStateIsFinalPinLaw", "pick", "(I)Lcom/example/stackyard/stackyard/app/ApplicationState;"⟩ : MethodName) (head1 (Jvm.Cond.code (⟨"com/example/stackyard/stackyard/app/ApplicationStateIsFinalPinLaw", "pick", "(I)Lcom/example/stackyard/stackyard/app/ApplicationState;"⟩ : MethodName) method_2_code 1 (some (.object "com/example/stackyard/stackyard/app/ApplicationState")) :: ws) R_own_pick3) (fun a U => a = #[(.int (3 : Int32))] ∧ Z.Warmed39 U.vm ∧ U.heap = h0) (fun _ _ _ _ _ => True) (fun _ U o U' => ∃ v L, o = .returned v ∧ Q_own_pick3 Z w_ACCEPTED h0 n0 v U'.heap L ∧ FrameEnd U o U' L R_own_pick3.cells R_own_pick3.slots) := by
  refine MetFree.of_bodySF (plainFor_of_name own_pn1) hisR ?_
  intro p e s m args below meth c s₁ Bd hml0 hP hK
  obtain ⟨rfl, hZ, hh⟩ := hP
  have hx := Bd.exec
  have hby := Bd.bytes
  have hml : c.maxLocals = 1 := hml0
  have hown : s.vm.findClass "com/example/stackyard/stackyard/app/ApplicationStateIsFinalPinLaw" = some m.cls := findClass_of_methodNamed Bd.named
  have hnm := (name_of_methodNamed Bd.named Bd.method).1
  have X0 : Stand p l e R_own_pick3 s m #[(.int (3 : Int32))] below meth c s₁ [] 0 0 := Stand.of_body Bd
  have e0 : s₁.heap = h0 := by rw [← hh, Bd.state]; rfl
  have N0 := Fr.nil n0
  have K0 : Keep h0 h0 [] := Keep.refl h0 []
  show own_Fin p e below s (Q_own_pick3 Z w_ACCEPTED h0 n0) R_own_pick3.cells R_own_pick3.slots (s₁.setTop (entryFrame m #[(.int (3 : Int32))] 1))
  refine own_go (fun _ k => castTop (ef_own_pick3 m ) k) ?_
  show own_Fin _ _ _ _ _ _ _ (s₁.setTop (mkF m 0 #[.val (.int (3 : Int32))] []))
  refine own_go (B := s₁.setTop (mkF m 1 #[.val (.int (3 : Int32))] [(.int (3 : Int32))])) (fun _ k => XS.iloadN X0.here hx rfl (hb hby d1_0) rfl  k) ?_
  have hc1 : ¬ ((3 : Int32) = (0 : Int32)) := by decide
  refine own_go (B := s₁.setTop (mkF m 8 #[.val (.int (3 : Int32))] [])) (fun _ k => XS.ifYes X0.here hx rfl (pc0 := 1) (pc' := 8) rfl (hb hby d1_1) rfl ((if0 _ _).trans (feq hc1).2) (by decide) (by decide) k) ?_
  refine own_go (B := s₁.setTop (mkF m 9 #[.val (.int (3 : Int32))] [(.int (3 : Int32))])) (fun _ k => XS.iloadN X0.here hx rfl (hb hby d1_8) rfl  k) ?_
  refine own_go (B := s₁.setTop (mkF m 10 #[.val (.int (3 : Int32))] [(.int (1 : Int32)), (.int (3 : Int32))])) (fun _ k => XS.iconst X0.here hx rfl (hb hby d1_9) k) ?_
  have hc2 : ¬ ((3 : Int32) = (1 : Int32)) := by decide
  refine own_go (B := s₁.setTop (mkF m 17 #[.val (.int (3 : Int32))] [])) (fun _ k => XS.icmpYes X0.here hx rfl (pc0 := 10) (pc' := 17) rfl (hb hby d1_10) rfl (feq hc2).2 (by decide) (by decide) k) ?_
  refine own_go (B := s₁.setTop (mkF m 18 #[.val (.int (3 : Int32))] [(.int (3 : Int32))])) (fun _ k => XS.iloadN X0.here hx rfl (hb hby d1_17) rfl  k) ?_
  refine own_go (B := s₁.setTop (mkF m 19 #[.val (.int (3 : Int32))] [(.int (2 : Int32)), (.int (3 : Int32))])) (fun _ k => XS.iconst X0.here hx rfl (hb hby d1_18) k) ?_
  have hc3 : ¬ ((3 : Int32) = (2 : Int32)) := by decide
  refine own_go (B := s₁.setTop (mkF m 26 #[.val (.int (3 : Int32))] [])) (fun _ k => XS.icmpYes X0.here hx rfl (pc0 := 19) (pc' := 26) rfl (hb hby d1_19) rfl (feq hc3).2 (by decide) (by decide) k) ?_
  refine own_go (B := s₁.setTop (mkF m 27 #[.val (.int (3 : Int32))] [(.int (3 : Int32))])) (fun _ k => XS.iloadN X0.here hx rfl (hb hby d1_26) rfl  k) ?_
  refine own_go (B := s₁.setTop (mkF m 28 #[.val (.int (3 : Int32))] [(.int (3 : Int32)), (.int (3 : Int32))])) (fun _ k => XS.iconst X0.here hx rfl (hb hby d1_27) k) ?_
  have hc4 : (3 : Int32) = (3 : Int32) := by decide
  refine own_go (B := s₁.setTop (mkF m 31 #[.val (.int (3 : Int32))] [])) (fun _ k => XS.icmpNo X0.here hx rfl (hb hby d1_28) rfl (teq hc4).2 k) ?_
  obtain ⟨T5, X5, e5, st5⟩ := getS2 X0 hx hZ hown (host := "") (Or.inl (own_w hw 21 rfl)) Via.refl e0 P_S_com_example_stackyard_stackyard_app_ApplicationState_ACCEPTED (g := (mkF m 31 #[.val (.int (3 : Int32))] [])) rfl (hb hby d1_31)
  refine own_go (B := T5.setTop (mkF m 34 #[.val (.int (3 : Int32))] [(.ref w_ACCEPTED)])) st5 ?_
  exact own_retA X5 hx Bd.notSynchronized Bd.returns rfl rfl (hb hby d1_34) e5 ⟨rfl, N0, rfl⟩ (by decide) (by decide)
abbrev R_own_exp3 : Room := { frames := 0, cells := 0, slots := 0, locals := 0 }
theorem d3_20 : decode method_3_code 20 = .ok (.iload_n 0, 1) := by decide +kernel
theorem d3_21 : decode method_3_code 21 = .ok (.iconst 3, 1) := by decide +kernel
theorem d3_22 : decode method_3_code 22 = .ok (.if_icmp .ne 5, 3) := by decide +kernel
theorem d3_25 : decode method_3_code 25 = .ok (.iconst 0, 1) := by decide +kernel
theorem d3_26 : decode method_3_code 26 = .ok (.ireturn, 1) := by decide +kernel
theorem ef_own_exp3 (m : MethodId)  : entryFrame m #[(.int (3 : Int32))] 1 = mkF m 0 #[.val (.int (3 : Int32))] [] := by first | (simp [entryFrame, mkF, argsToLocals, Value.category]; done) | rfl
def Q_own_exp3 (Z : State)  (h0 : Heap) (n0 : Nat) (v : Option Value) (h : Heap) (L : List Loc) : Prop := v = some (.int (0 : Int32)) ∧ Fr n0 L ∧ h = h0
set_option maxRecDepth 65536 in
set_option maxHeartbeats 400000000 in
theorem own_exp3 (l : Launch) (Z : State) (a0 : Array Value) (hw : ∀ d ∈ tables_1, d.before a0 Z = true) (ws : List Jvm.Cond)  (h0 : Heap) (n0 : Nat) (Z0 : n0 ≤ h0.size)  :
    MetFree l (⟨"com/example/stackyard/stackyard/app/ApplicationStateIsFinalPinLaw", "expected", "(I)Z"⟩ : MethodName) (head1 (Jvm.Cond.code (⟨"com/example/stackyard/stackyard/app/ApplicationStateIsFinalPinLaw", "expected", "(I)Z"⟩ : MethodName) method_3_code 1 (some .boolean) :: ws) R_own_exp3) (fun a U => a = #[(.int (3 : Int32))] ∧ Z.Warmed39 U.vm ∧ U.heap = h0) (fun _ _ _ _ _ => True) (fun _ U o U' => ∃ v L, o = .returned v ∧ Q_own_exp3 Z  h0 n0 v U'.heap L ∧ FrameEnd U o U' L R_own_exp3.cells R_own_exp3.slots) := by
  refine MetFree.of_bodySF (plainFor_of_name own_pn1) hisR ?_
  intro p e s m args below meth c s₁ Bd hml0 hP hK
  obtain ⟨rfl, hZ, hh⟩ := hP
  have hx := Bd.exec
  have hby := Bd.bytes
  have hml : c.maxLocals = 1 := hml0
  have hown : s.vm.findClass "com/example/stackyard/stackyard/app/ApplicationStateIsFinalPinLaw" = some m.cls := findClass_of_methodNamed Bd.named
  have hnm := (name_of_methodNamed Bd.named Bd.method).1
  have X0 : Stand p l e R_own_exp3 s m #[(.int (3 : Int32))] below meth c s₁ [] 0 0 := Stand.of_body Bd
  have e0 : s₁.heap = h0 := by rw [← hh, Bd.state]; rfl
  have N0 := Fr.nil n0
  have K0 : Keep h0 h0 [] := Keep.refl h0 []
  show own_Fin p e below s (Q_own_exp3 Z  h0 n0) R_own_exp3.cells R_own_exp3.slots (s₁.setTop (entryFrame m #[(.int (3 : Int32))] 1))
  refine own_go (fun _ k => castTop (ef_own_exp3 m ) k) ?_
  show own_Fin _ _ _ _ _ _ _ (s₁.setTop (mkF m 0 #[.val (.int (3 : Int32))] []))
  refine own_go (B := s₁.setTop (mkF m 1 #[.val (.int (3 : Int32))] [(.int (3 : Int32))])) (fun _ k => XS.iloadN X0.here hx rfl (hb hby d3_0) rfl  k) ?_
  have hc1 : ¬ ((3 : Int32) = (0 : Int32)) := by decide
  refine own_go (B := s₁.setTop (mkF m 6 #[.val (.int (3 : Int32))] [])) (fun _ k => XS.ifYes X0.here hx rfl (pc0 := 1) (pc' := 6) rfl (hb hby d3_1) rfl ((if0 _ _).trans (feq hc1).2) (by decide) (by decide) k) ?_
  refine own_go (B := s₁.setTop (mkF m 7 #[.val (.int (3 : Int32))] [(.int (3 : Int32))])) (fun _ k => XS.iloadN X0.here hx rfl (hb hby d3_6) rfl  k) ?_
  refine own_go (B := s₁.setTop (mkF m 8 #[.val (.int (3 : Int32))] [(.int (1 : Int32)), (.int (3 : Int32))])) (fun _ k => XS.iconst X0.here hx rfl (hb hby d3_7) k) ?_
  have hc2 : ¬ ((3 : Int32) = (1 : Int32)) := by decide
  refine own_go (B := s₁.setTop (mkF m 13 #[.val (.int (3 : Int32))] [])) (fun _ k => XS.icmpYes X0.here hx rfl (pc0 := 8) (pc' := 13) rfl (hb hby d3_8) rfl (feq hc2).2 (by decide) (by decide) k) ?_
  refine own_go (B := s₁.setTop (mkF m 14 #[.val (.int (3 : Int32))] [(.int (3 : Int32))])) (fun _ k => XS.iloadN X0.here hx rfl (hb hby d3_13) rfl  k) ?_
  refine own_go (B := s₁.setTop (mkF m 15 #[.val (.int (3 : Int32))] [(.int (2 : Int32)), (.int (3 : Int32))])) (fun _ k => XS.iconst X0.here hx rfl (hb hby d3_14) k) ?_
  have hc3 : ¬ ((3 : Int32) = (2 : Int32)) := by decide
  refine own_go (B := s₁.setTop (mkF m 20 #[.val (.int (3 : Int32))] [])) (fun _ k => XS.icmpYes X0.here hx rfl (pc0 := 15) (pc' := 20) rfl (hb hby d3_15) rfl (feq hc3).2 (by decide) (by decide) k) ?_
  refine own_go (B := s₁.setTop (mkF m 21 #[.val (.int (3 : Int32))] [(.int (3 : Int32))])) (fun _ k => XS.iloadN X0.here hx rfl (hb hby d3_20) rfl  k) ?_
  refine own_go (B := s₁.setTop (mkF m 22 #[.val (.int (3 : Int32))] [(.int (3 : Int32)), (.int (3 : Int32))])) (fun _ k => XS.iconst X0.here hx rfl (hb hby d3_21) k) ?_
  have hc4 : (3 : Int32) = (3 : Int32) := by decide
  refine own_go (B := s₁.setTop (mkF m 25 #[.val (.int (3 : Int32))] [])) (fun _ k => XS.icmpNo X0.here hx rfl (hb hby d3_22) rfl (teq hc4).2 k) ?_
  refine own_go (B := s₁.setTop (mkF m 26 #[.val (.int (3 : Int32))] [(.int (0 : Int32))])) (fun _ k => XS.iconst X0.here hx rfl (hb hby d3_25) k) ?_
  exact own_retN X0 hx Bd.notSynchronized (t := .boolean) (w := (0 : Int32)) Bd.returns (by simp) (hb hby d3_26) e0 rfl ⟨rfl, N0, rfl⟩ (by decide) (by decide)
abbrev R_own_pick4 : Room := { frames := 0, cells := 0, slots := 0, locals := 0 }
theorem d1_35 : decode method_2_code 35 = .ok (.iload_n 0, 1) := by decide +kernel
theorem d1_36 : decode method_2_code 36 = .ok (.iconst 4, 1) := by decide +kernel
theorem d1_37 : decode method_2_code 37 = .ok (.if_icmp .ne 7, 3) := by decide +kernel
theorem d1_40 : decode method_2_code 40 = .ok (.getstatic 22, 3) := by decide +kernel
theorem d1_43 : decode method_2_code 43 = .ok (.areturn, 1) := by decide +kernel
theorem ef_own_pick4 (m : MethodId)  : entryFrame m #[(.int (4 : Int32))] 1 = mkF m 0 #[.val (.int (4 : Int32))] [] := by first | (simp [entryFrame, mkF, argsToLocals, Value.category]; done) | rfl
def Q_own_pick4 (Z : State) (w_RUNNING : Addr) (h0 : Heap) (n0 : Nat) (v : Option Value) (h : Heap) (L : List Loc) : Prop := v = some (.ref w_RUNNING) ∧ Fr n0 L ∧ h = h0
set_option maxRecDepth 65536 in
set_option maxHeartbeats 400000000 in
theorem own_pick4 (l : Launch) (Z : State) (a0 : Array Value) (hw : ∀ d ∈ tables_1, d.before a0 Z = true) (ws : List Jvm.Cond) (w_RUNNING : Addr) (h0 : Heap) (n0 : Nat) (Z0 : n0 ≤ h0.size) (P_S_com_example_stackyard_stackyard_app_ApplicationState_RUNNING : Sta Z h0 "com/example/stackyard/stackyard/app/ApplicationState" "RUNNING" "Lcom/example/stackyard/stackyard/app/ApplicationState;" (.ref w_RUNNING)) :
    MetFree l (⟨"com/example/stackyard/stackyard/app/ApplicationStateIsFinalPinLaw", "pick", "(I)Lcom/example/stackyard/stackyard/app/ApplicationState;"⟩ : MethodName) (head1 (Jvm.Cond.code (⟨"com/example/stackyard/stackyard/app/ApplicationStateIsFinalPinLaw", "pick", "(I)Lcom/example/stackyard/stackyard/app/ApplicationState;"⟩ : MethodName) method_2_code 1 (some (.object "com/example/stackyard/stackyard/app/ApplicationState")) :: ws) R_own_pick4) (fun a U => a = #[(.int (4 : Int32))] ∧ Z.Warmed39 U.vm ∧ U.heap = h0) (fun _ _ _ _ _ => True) (fun _ U o U' => ∃ v L, o = .returned v ∧ Q_own_pick4 Z w_RUNNING h0 n0 v U'.heap L ∧ FrameEnd U o U' L R_own_pick4.cells R_own_pick4.slots) := by
  refine MetFree.of_bodySF (plainFor_of_name own_pn1) hisR ?_
  intro p e s m args below meth c s₁ Bd hml0 hP hK
  obtain ⟨rfl, hZ, hh⟩ := hP
  have hx := Bd.exec
  have hby := Bd.bytes
  have hml : c.maxLocals = 1 := hml0
  have hown : s.vm.findClass "com/example/stackyard/stackyard/app/ApplicationStateIsFinalPinLaw" = some m.cls := findClass_of_methodNamed Bd.named
  have hnm := (name_of_methodNamed Bd.named Bd.method).1
  have X0 : Stand p l e R_own_pick4 s m #[(.int (4 : Int32))] below meth c s₁ [] 0 0 := Stand.of_body Bd
  have e0 : s₁.heap = h0 := by rw [← hh, Bd.state]; rfl
  have N0 := Fr.nil n0
  have K0 : Keep h0 h0 [] := Keep.refl h0 []
  show own_Fin p e below s (Q_own_pick4 Z w_RUNNING h0 n0) R_own_pick4.cells R_own_pick4.slots (s₁.setTop (entryFrame m #[(.int (4 : Int32))] 1))
  refine own_go (fun _ k => castTop (ef_own_pick4 m ) k) ?_
  show own_Fin _ _ _ _ _ _ _ (s₁.setTop (mkF m 0 #[.val (.int (4 : Int32))] []))
  refine own_go (B := s₁.setTop (mkF m 1 #[.val (.int (4 : Int32))] [(.int (4 : Int32))])) (fun _ k => XS.iloadN X0.here hx rfl (hb hby d1_0) rfl  k) ?_
  have hc1 : ¬ ((4 : Int32) = (0 : Int32)) := by decide
  refine own_go (B := s₁.setTop (mkF m 8 #[.val (.int (4 : Int32))] [])) (fun _ k => XS.ifYes X0.here hx rfl (pc0 := 1) (pc' := 8) rfl (hb hby d1_1) rfl ((if0 _ _).trans (feq hc1).2) (by decide) (by decide) k) ?_
  refine own_go (B := s₁.setTop (mkF m 9 #[.val (.int (4 : Int32))] [(.int (4 : Int32))])) (fun _ k => XS.iloadN X0.here hx rfl (hb hby d1_8) rfl  k) ?_
  refine own_go (B := s₁.setTop (mkF m 10 #[.val (.int (4 : Int32))] [(.int (1 : Int32)), (.int (4 : Int32))])) (fun _ k => XS.iconst X0.here hx rfl (hb hby d1_9) k) ?_
  have hc2 : ¬ ((4 : Int32) = (1 : Int32)) := by decide
  refine own_go (B := s₁.setTop (mkF m 17 #[.val (.int (4 : Int32))] [])) (fun _ k => XS.icmpYes X0.here hx rfl (pc0 := 10) (pc' := 17) rfl (hb hby d1_10) rfl (feq hc2).2 (by decide) (by decide) k) ?_
  refine own_go (B := s₁.setTop (mkF m 18 #[.val (.int (4 : Int32))] [(.int (4 : Int32))])) (fun _ k => XS.iloadN X0.here hx rfl (hb hby d1_17) rfl  k) ?_
  refine own_go (B := s₁.setTop (mkF m 19 #[.val (.int (4 : Int32))] [(.int (2 : Int32)), (.int (4 : Int32))])) (fun _ k => XS.iconst X0.here hx rfl (hb hby d1_18) k) ?_
  have hc3 : ¬ ((4 : Int32) = (2 : Int32)) := by decide
  refine own_go (B := s₁.setTop (mkF m 26 #[.val (.int (4 : Int32))] [])) (fun _ k => XS.icmpYes X0.here hx rfl (pc0 := 19) (pc' := 26) rfl (hb hby d1_19) rfl (feq hc3).2 (by decide) (by decide) k) ?_
  refine own_go (B := s₁.setTop (mkF m 27 #[.val (.int (4 : Int32))] [(.int (4 : Int32))])) (fun _ k => XS.iloadN X0.here hx rfl (hb hby d1_26) rfl  k) ?_
  refine own_go (B := s₁.setTop (mkF m 28 #[.val (.int (4 : Int32))] [(.int (3 : Int32)), (.int (4 : Int32))])) (fun _ k => XS.iconst X0.here hx rfl (hb hby d1_27) k) ?_
  have hc4 : ¬ ((4 : Int32) = (3 : Int32)) := by decide
  refine own_go (B := s₁.setTop (mkF m 35 #[.val (.int (4 : Int32))] [])) (fun _ k => XS.icmpYes X0.here hx rfl (pc0 := 28) (pc' := 35) rfl (hb hby d1_28) rfl (feq hc4).2 (by decide) (by decide) k) ?_
  refine own_go (B := s₁.setTop (mkF m 36 #[.val (.int (4 : Int32))] [(.int (4 : Int32))])) (fun _ k => XS.iloadN X0.here hx rfl (hb hby d1_35) rfl  k) ?_
  refine own_go (B := s₁.setTop (mkF m 37 #[.val (.int (4 : Int32))] [(.int (4 : Int32)), (.int (4 : Int32))])) (fun _ k => XS.iconst X0.here hx rfl (hb hby d1_36) k) ?_
  have hc5 : (4 : Int32) = (4 : Int32) := by decide
  refine own_go (B := s₁.setTop (mkF m 40 #[.val (.int (4 : Int32))] [])) (fun _ k => XS.icmpNo X0.here hx rfl (hb hby d1_37) rfl (teq hc5).2 k) ?_
  obtain ⟨T6, X6, e6, st6⟩ := getS2 X0 hx hZ hown (host := "") (Or.inl (own_w hw 29 rfl)) Via.refl e0 P_S_com_example_stackyard_stackyard_app_ApplicationState_RUNNING (g := (mkF m 40 #[.val (.int (4 : Int32))] [])) rfl (hb hby d1_40)
  refine own_go (B := T6.setTop (mkF m 43 #[.val (.int (4 : Int32))] [(.ref w_RUNNING)])) st6 ?_
  exact own_retA X6 hx Bd.notSynchronized Bd.returns rfl rfl (hb hby d1_43) e6 ⟨rfl, N0, rfl⟩ (by decide) (by decide)
abbrev R_own_exp4 : Room := { frames := 0, cells := 0, slots := 0, locals := 0 }
theorem d3_27 : decode method_3_code 27 = .ok (.iload_n 0, 1) := by decide +kernel
theorem d3_28 : decode method_3_code 28 = .ok (.iconst 4, 1) := by decide +kernel
theorem d3_29 : decode method_3_code 29 = .ok (.if_icmp .ne 5, 3) := by decide +kernel
theorem d3_32 : decode method_3_code 32 = .ok (.iconst 0, 1) := by decide +kernel
theorem d3_33 : decode method_3_code 33 = .ok (.ireturn, 1) := by decide +kernel
theorem ef_own_exp4 (m : MethodId)  : entryFrame m #[(.int (4 : Int32))] 1 = mkF m 0 #[.val (.int (4 : Int32))] [] := by first | (simp [entryFrame, mkF, argsToLocals, Value.category]; done) | rfl
def Q_own_exp4 (Z : State)  (h0 : Heap) (n0 : Nat) (v : Option Value) (h : Heap) (L : List Loc) : Prop := v = some (.int (0 : Int32)) ∧ Fr n0 L ∧ h = h0
set_option maxRecDepth 65536 in
set_option maxHeartbeats 400000000 in
theorem own_exp4 (l : Launch) (Z : State) (a0 : Array Value) (hw : ∀ d ∈ tables_1, d.before a0 Z = true) (ws : List Jvm.Cond)  (h0 : Heap) (n0 : Nat) (Z0 : n0 ≤ h0.size)  :
    MetFree l (⟨"com/example/stackyard/stackyard/app/ApplicationStateIsFinalPinLaw", "expected", "(I)Z"⟩ : MethodName) (head1 (Jvm.Cond.code (⟨"com/example/stackyard/stackyard/app/ApplicationStateIsFinalPinLaw", "expected", "(I)Z"⟩ : MethodName) method_3_code 1 (some .boolean) :: ws) R_own_exp4) (fun a U => a = #[(.int (4 : Int32))] ∧ Z.Warmed39 U.vm ∧ U.heap = h0) (fun _ _ _ _ _ => True) (fun _ U o U' => ∃ v L, o = .returned v ∧ Q_own_exp4 Z  h0 n0 v U'.heap L ∧ FrameEnd U o U' L R_own_exp4.cells R_own_exp4.slots) := by
  refine MetFree.of_bodySF (plainFor_of_name own_pn1) hisR ?_
  intro p e s m args below meth c s₁ Bd hml0 hP hK
  obtain ⟨rfl, hZ, hh⟩ := hP
  have hx := Bd.exec
  have hby := Bd.bytes
  have hml : c.maxLocals = 1 := hml0
  have hown : s.vm.findClass "com/example/stackyard/stackyard/app/ApplicationStateIsFinalPinLaw" = some m.cls := findClass_of_methodNamed Bd.named
  have hnm := (name_of_methodNamed Bd.named Bd.method).1
  have X0 : Stand p l e R_own_exp4 s m #[(.int (4 : Int32))] below meth c s₁ [] 0 0 := Stand.of_body Bd
  have e0 : s₁.heap = h0 := by rw [← hh, Bd.state]; rfl
  have N0 := Fr.nil n0
  have K0 : Keep h0 h0 [] := Keep.refl h0 []
  show own_Fin p e below s (Q_own_exp4 Z  h0 n0) R_own_exp4.cells R_own_exp4.slots (s₁.setTop (entryFrame m #[(.int (4 : Int32))] 1))
  refine own_go (fun _ k => castTop (ef_own_exp4 m ) k) ?_
  show own_Fin _ _ _ _ _ _ _ (s₁.setTop (mkF m 0 #[.val (.int (4 : Int32))] []))
  refine own_go (B := s₁.setTop (mkF m 1 #[.val (.int (4 : Int32))] [(.int (4 : Int32))])) (fun _ k => XS.iloadN X0.here hx rfl (hb hby d3_0) rfl  k) ?_
  have hc1 : ¬ ((4 : Int32) = (0 : Int32)) := by decide
  refine own_go (B := s₁.setTop (mkF m 6 #[.val (.int (4 : Int32))] [])) (fun _ k => XS.ifYes X0.here hx rfl (pc0 := 1) (pc' := 6) rfl (hb hby d3_1) rfl ((if0 _ _).trans (feq hc1).2) (by decide) (by decide) k) ?_
  refine own_go (B := s₁.setTop (mkF m 7 #[.val (.int (4 : Int32))] [(.int (4 : Int32))])) (fun _ k => XS.iloadN X0.here hx rfl (hb hby d3_6) rfl  k) ?_
  refine own_go (B := s₁.setTop (mkF m 8 #[.val (.int (4 : Int32))] [(.int (1 : Int32)), (.int (4 : Int32))])) (fun _ k => XS.iconst X0.here hx rfl (hb hby d3_7) k) ?_
  have hc2 : ¬ ((4 : Int32) = (1 : Int32)) := by decide
  refine own_go (B := s₁.setTop (mkF m 13 #[.val (.int (4 : Int32))] [])) (fun _ k => XS.icmpYes X0.here hx rfl (pc0 := 8) (pc' := 13) rfl (hb hby d3_8) rfl (feq hc2).2 (by decide) (by decide) k) ?_
  refine own_go (B := s₁.setTop (mkF m 14 #[.val (.int (4 : Int32))] [(.int (4 : Int32))])) (fun _ k => XS.iloadN X0.here hx rfl (hb hby d3_13) rfl  k) ?_
  refine own_go (B := s₁.setTop (mkF m 15 #[.val (.int (4 : Int32))] [(.int (2 : Int32)), (.int (4 : Int32))])) (fun _ k => XS.iconst X0.here hx rfl (hb hby d3_14) k) ?_
  have hc3 : ¬ ((4 : Int32) = (2 : Int32)) := by decide
  refine own_go (B := s₁.setTop (mkF m 20 #[.val (.int (4 : Int32))] [])) (fun _ k => XS.icmpYes X0.here hx rfl (pc0 := 15) (pc' := 20) rfl (hb hby d3_15) rfl (feq hc3).2 (by decide) (by decide) k) ?_
  refine own_go (B := s₁.setTop (mkF m 21 #[.val (.int (4 : Int32))] [(.int (4 : Int32))])) (fun _ k => XS.iloadN X0.here hx rfl (hb hby d3_20) rfl  k) ?_
  refine own_go (B := s₁.setTop (mkF m 22 #[.val (.int (4 : Int32))] [(.int (3 : Int32)), (.int (4 : Int32))])) (fun _ k => XS.iconst X0.here hx rfl (hb hby d3_21) k) ?_
  have hc4 : ¬ ((4 : Int32) = (3 : Int32)) := by decide
  refine own_go (B := s₁.setTop (mkF m 27 #[.val (.int (4 : Int32))] [])) (fun _ k => XS.icmpYes X0.here hx rfl (pc0 := 22) (pc' := 27) rfl (hb hby d3_22) rfl (feq hc4).2 (by decide) (by decide) k) ?_
  refine own_go (B := s₁.setTop (mkF m 28 #[.val (.int (4 : Int32))] [(.int (4 : Int32))])) (fun _ k => XS.iloadN X0.here hx rfl (hb hby d3_27) rfl  k) ?_
  refine own_go (B := s₁.setTop (mkF m 29 #[.val (.int (4 : Int32))] [(.int (4 : Int32)), (.int (4 : Int32))])) (fun _ k => XS.iconst X0.here hx rfl (hb hby d3_28) k) ?_
  have hc5 : (4 : Int32) = (4 : Int32) := by decide
  refine own_go (B := s₁.setTop (mkF m 32 #[.val (.int (4 : Int32))] [])) (fun _ k => XS.icmpNo X0.here hx rfl (hb hby d3_29) rfl (teq hc5).2 k) ?_
  refine own_go (B := s₁.setTop (mkF m 33 #[.val (.int (4 : Int32))] [(.int (0 : Int32))])) (fun _ k => XS.iconst X0.here hx rfl (hb hby d3_32) k) ?_
  exact own_retN X0 hx Bd.notSynchronized (t := .boolean) (w := (0 : Int32)) Bd.returns (by simp) (hb hby d3_33) e0 rfl ⟨rfl, N0, rfl⟩ (by decide) (by decide)
abbrev R_own_pick5 : Room := { frames := 0, cells := 0, slots := 0, locals := 0 }
theorem d1_44 : decode method_2_code 44 = .ok (.iload_n 0, 1) := by decide +kernel
theorem d1_45 : decode method_2_code 45 = .ok (.iconst 5, 1) := by decide +kernel
theorem d1_46 : decode method_2_code 46 = .ok (.if_icmp .ne 7, 3) := by decide +kernel
theorem d1_49 : decode method_2_code 49 = .ok (.getstatic 25, 3) := by decide +kernel
theorem d1_52 : decode method_2_code 52 = .ok (.areturn, 1) := by decide +kernel
theorem ef_own_pick5 (m : MethodId)  : entryFrame m #[(.int (5 : Int32))] 1 = mkF m 0 #[.val (.int (5 : Int32))] [] := by first | (simp [entryFrame, mkF, argsToLocals, Value.category]; done) | rfl
def Q_own_pick5 (Z : State) (w_FINISHED : Addr) (h0 : Heap) (n0 : Nat) (v : Option Value) (h : Heap) (L : List Loc) : Prop := v = some (.ref w_FINISHED) ∧ Fr n0 L ∧ h = h0
set_option maxRecDepth 65536 in
set_option maxHeartbeats 400000000 in
theorem own_pick5 (l : Launch) (Z : State) (a0 : Array Value) (hw : ∀ d ∈ tables_1, d.before a0 Z = true) (ws : List Jvm.Cond) (w_FINISHED : Addr) (h0 : Heap) (n0 : Nat) (Z0 : n0 ≤ h0.size) (P_S_com_example_stackyard_stackyard_app_ApplicationState_FINISHED : Sta Z h0 "com/example/stackyard/stackyard/app/ApplicationState" "FINISHED" "Lcom/example/stackyard/stackyard/app/ApplicationState;" (.ref w_FINISHED)) :
    MetFree l (⟨"com/example/stackyard/stackyard/app/ApplicationStateIsFinalPinLaw", "pick", "(I)Lcom/example/stackyard/stackyard/app/ApplicationState;"⟩ : MethodName) (head1 (Jvm.Cond.code (⟨"com/example/stackyard/stackyard/app/ApplicationStateIsFinalPinLaw", "pick", "(I)Lcom/example/stackyard/stackyard/app/ApplicationState;"⟩ : MethodName) method_2_code 1 (some (.object "com/example/stackyard/stackyard/app/ApplicationState")) :: ws) R_own_pick5) (fun a U => a = #[(.int (5 : Int32))] ∧ Z.Warmed39 U.vm ∧ U.heap = h0) (fun _ _ _ _ _ => True) (fun _ U o U' => ∃ v L, o = .returned v ∧ Q_own_pick5 Z w_FINISHED h0 n0 v U'.heap L ∧ FrameEnd U o U' L R_own_pick5.cells R_own_pick5.slots) := by
  refine MetFree.of_bodySF (plainFor_of_name own_pn1) hisR ?_
  intro p e s m args below meth c s₁ Bd hml0 hP hK
  obtain ⟨rfl, hZ, hh⟩ := hP
  have hx := Bd.exec
  have hby := Bd.bytes
  have hml : c.maxLocals = 1 := hml0
  have hown : s.vm.findClass "com/example/stackyard/stackyard/app/ApplicationStateIsFinalPinLaw" = some m.cls := findClass_of_methodNamed Bd.named
  have hnm := (name_of_methodNamed Bd.named Bd.method).1
  have X0 : Stand p l e R_own_pick5 s m #[(.int (5 : Int32))] below meth c s₁ [] 0 0 := Stand.of_body Bd
  have e0 : s₁.heap = h0 := by rw [← hh, Bd.state]; rfl
  have N0 := Fr.nil n0
  have K0 : Keep h0 h0 [] := Keep.refl h0 []
  show own_Fin p e below s (Q_own_pick5 Z w_FINISHED h0 n0) R_own_pick5.cells R_own_pick5.slots (s₁.setTop (entryFrame m #[(.int (5 : Int32))] 1))
  refine own_go (fun _ k => castTop (ef_own_pick5 m ) k) ?_
  show own_Fin _ _ _ _ _ _ _ (s₁.setTop (mkF m 0 #[.val (.int (5 : Int32))] []))
  refine own_go (B := s₁.setTop (mkF m 1 #[.val (.int (5 : Int32))] [(.int (5 : Int32))])) (fun _ k => XS.iloadN X0.here hx rfl (hb hby d1_0) rfl  k) ?_
  have hc1 : ¬ ((5 : Int32) = (0 : Int32)) := by decide
  refine own_go (B := s₁.setTop (mkF m 8 #[.val (.int (5 : Int32))] [])) (fun _ k => XS.ifYes X0.here hx rfl (pc0 := 1) (pc' := 8) rfl (hb hby d1_1) rfl ((if0 _ _).trans (feq hc1).2) (by decide) (by decide) k) ?_
  refine own_go (B := s₁.setTop (mkF m 9 #[.val (.int (5 : Int32))] [(.int (5 : Int32))])) (fun _ k => XS.iloadN X0.here hx rfl (hb hby d1_8) rfl  k) ?_
  refine own_go (B := s₁.setTop (mkF m 10 #[.val (.int (5 : Int32))] [(.int (1 : Int32)), (.int (5 : Int32))])) (fun _ k => XS.iconst X0.here hx rfl (hb hby d1_9) k) ?_
  have hc2 : ¬ ((5 : Int32) = (1 : Int32)) := by decide
  refine own_go (B := s₁.setTop (mkF m 17 #[.val (.int (5 : Int32))] [])) (fun _ k => XS.icmpYes X0.here hx rfl (pc0 := 10) (pc' := 17) rfl (hb hby d1_10) rfl (feq hc2).2 (by decide) (by decide) k) ?_
  refine own_go (B := s₁.setTop (mkF m 18 #[.val (.int (5 : Int32))] [(.int (5 : Int32))])) (fun _ k => XS.iloadN X0.here hx rfl (hb hby d1_17) rfl  k) ?_
  refine own_go (B := s₁.setTop (mkF m 19 #[.val (.int (5 : Int32))] [(.int (2 : Int32)), (.int (5 : Int32))])) (fun _ k => XS.iconst X0.here hx rfl (hb hby d1_18) k) ?_
  have hc3 : ¬ ((5 : Int32) = (2 : Int32)) := by decide
  refine own_go (B := s₁.setTop (mkF m 26 #[.val (.int (5 : Int32))] [])) (fun _ k => XS.icmpYes X0.here hx rfl (pc0 := 19) (pc' := 26) rfl (hb hby d1_19) rfl (feq hc3).2 (by decide) (by decide) k) ?_
  refine own_go (B := s₁.setTop (mkF m 27 #[.val (.int (5 : Int32))] [(.int (5 : Int32))])) (fun _ k => XS.iloadN X0.here hx rfl (hb hby d1_26) rfl  k) ?_
  refine own_go (B := s₁.setTop (mkF m 28 #[.val (.int (5 : Int32))] [(.int (3 : Int32)), (.int (5 : Int32))])) (fun _ k => XS.iconst X0.here hx rfl (hb hby d1_27) k) ?_
  have hc4 : ¬ ((5 : Int32) = (3 : Int32)) := by decide
  refine own_go (B := s₁.setTop (mkF m 35 #[.val (.int (5 : Int32))] [])) (fun _ k => XS.icmpYes X0.here hx rfl (pc0 := 28) (pc' := 35) rfl (hb hby d1_28) rfl (feq hc4).2 (by decide) (by decide) k) ?_
  refine own_go (B := s₁.setTop (mkF m 36 #[.val (.int (5 : Int32))] [(.int (5 : Int32))])) (fun _ k => XS.iloadN X0.here hx rfl (hb hby d1_35) rfl  k) ?_
  refine own_go (B := s₁.setTop (mkF m 37 #[.val (.int (5 : Int32))] [(.int (4 : Int32)), (.int (5 : Int32))])) (fun _ k => XS.iconst X0.here hx rfl (hb hby d1_36) k) ?_
  have hc5 : ¬ ((5 : Int32) = (4 : Int32)) := by decide
  refine own_go (B := s₁.setTop (mkF m 44 #[.val (.int (5 : Int32))] [])) (fun _ k => XS.icmpYes X0.here hx rfl (pc0 := 37) (pc' := 44) rfl (hb hby d1_37) rfl (feq hc5).2 (by decide) (by decide) k) ?_
  refine own_go (B := s₁.setTop (mkF m 45 #[.val (.int (5 : Int32))] [(.int (5 : Int32))])) (fun _ k => XS.iloadN X0.here hx rfl (hb hby d1_44) rfl  k) ?_
  refine own_go (B := s₁.setTop (mkF m 46 #[.val (.int (5 : Int32))] [(.int (5 : Int32)), (.int (5 : Int32))])) (fun _ k => XS.iconst X0.here hx rfl (hb hby d1_45) k) ?_
  have hc6 : (5 : Int32) = (5 : Int32) := by decide
  refine own_go (B := s₁.setTop (mkF m 49 #[.val (.int (5 : Int32))] [])) (fun _ k => XS.icmpNo X0.here hx rfl (hb hby d1_46) rfl (teq hc6).2 k) ?_
  obtain ⟨T7, X7, e7, st7⟩ := getS2 X0 hx hZ hown (host := "") (Or.inl (own_w hw 31 rfl)) Via.refl e0 P_S_com_example_stackyard_stackyard_app_ApplicationState_FINISHED (g := (mkF m 49 #[.val (.int (5 : Int32))] [])) rfl (hb hby d1_49)
  refine own_go (B := T7.setTop (mkF m 52 #[.val (.int (5 : Int32))] [(.ref w_FINISHED)])) st7 ?_
  exact own_retA X7 hx Bd.notSynchronized Bd.returns rfl rfl (hb hby d1_52) e7 ⟨rfl, N0, rfl⟩ (by decide) (by decide)
abbrev R_own_exp5 : Room := { frames := 0, cells := 0, slots := 0, locals := 0 }
theorem d3_34 : decode method_3_code 34 = .ok (.iload_n 0, 1) := by decide +kernel
theorem d3_35 : decode method_3_code 35 = .ok (.iconst 5, 1) := by decide +kernel
theorem d3_36 : decode method_3_code 36 = .ok (.if_icmp .ne 5, 3) := by decide +kernel
theorem d3_39 : decode method_3_code 39 = .ok (.iconst 1, 1) := by decide +kernel
theorem d3_40 : decode method_3_code 40 = .ok (.ireturn, 1) := by decide +kernel
theorem ef_own_exp5 (m : MethodId)  : entryFrame m #[(.int (5 : Int32))] 1 = mkF m 0 #[.val (.int (5 : Int32))] [] := by first | (simp [entryFrame, mkF, argsToLocals, Value.category]; done) | rfl
def Q_own_exp5 (Z : State)  (h0 : Heap) (n0 : Nat) (v : Option Value) (h : Heap) (L : List Loc) : Prop := v = some (.int (1 : Int32)) ∧ Fr n0 L ∧ h = h0
set_option maxRecDepth 65536 in
set_option maxHeartbeats 400000000 in
theorem own_exp5 (l : Launch) (Z : State) (a0 : Array Value) (hw : ∀ d ∈ tables_1, d.before a0 Z = true) (ws : List Jvm.Cond)  (h0 : Heap) (n0 : Nat) (Z0 : n0 ≤ h0.size)  :
    MetFree l (⟨"com/example/stackyard/stackyard/app/ApplicationStateIsFinalPinLaw", "expected", "(I)Z"⟩ : MethodName) (head1 (Jvm.Cond.code (⟨"com/example/stackyard/stackyard/app/ApplicationStateIsFinalPinLaw", "expected", "(I)Z"⟩ : MethodName) method_3_code 1 (some .boolean) :: ws) R_own_exp5) (fun a U => a = #[(.int (5 : Int32))] ∧ Z.Warmed39 U.vm ∧ U.heap = h0) (fun _ _ _ _ _ => True) (fun _ U o U' => ∃ v L, o = .returned v ∧ Q_own_exp5 Z  h0 n0 v U'.heap L ∧ FrameEnd U o U' L R_own_exp5.cells R_own_exp5.slots) := by
  refine MetFree.of_bodySF (plainFor_of_name own_pn1) hisR ?_
  intro p e s m args below meth c s₁ Bd hml0 hP hK
  obtain ⟨rfl, hZ, hh⟩ := hP
  have hx := Bd.exec
  have hby := Bd.bytes
  have hml : c.maxLocals = 1 := hml0
  have hown : s.vm.findClass "com/example/stackyard/stackyard/app/ApplicationStateIsFinalPinLaw" = some m.cls := findClass_of_methodNamed Bd.named
  have hnm := (name_of_methodNamed Bd.named Bd.method).1
  have X0 : Stand p l e R_own_exp5 s m #[(.int (5 : Int32))] below meth c s₁ [] 0 0 := Stand.of_body Bd
  have e0 : s₁.heap = h0 := by rw [← hh, Bd.state]; rfl
  have N0 := Fr.nil n0
  have K0 : Keep h0 h0 [] := Keep.refl h0 []
  show own_Fin p e below s (Q_own_exp5 Z  h0 n0) R_own_exp5.cells R_own_exp5.slots (s₁.setTop (entryFrame m #[(.int (5 : Int32))] 1))
  refine own_go (fun _ k => castTop (ef_own_exp5 m ) k) ?_
  show own_Fin _ _ _ _ _ _ _ (s₁.setTop (mkF m 0 #[.val (.int (5 : Int32))] []))
  refine own_go (B := s₁.setTop (mkF m 1 #[.val (.int (5 : Int32))] [(.int (5 : Int32))])) (fun _ k => XS.iloadN X0.here hx rfl (hb hby d3_0) rfl  k) ?_
  have hc1 : ¬ ((5 : Int32) = (0 : Int32)) := by decide
  refine own_go (B := s₁.setTop (mkF m 6 #[.val (.int (5 : Int32))] [])) (fun _ k => XS.ifYes X0.here hx rfl (pc0 := 1) (pc' := 6) rfl (hb hby d3_1) rfl ((if0 _ _).trans (feq hc1).2) (by decide) (by decide) k) ?_
  refine own_go (B := s₁.setTop (mkF m 7 #[.val (.int (5 : Int32))] [(.int (5 : Int32))])) (fun _ k => XS.iloadN X0.here hx rfl (hb hby d3_6) rfl  k) ?_
  refine own_go (B := s₁.setTop (mkF m 8 #[.val (.int (5 : Int32))] [(.int (1 : Int32)), (.int (5 : Int32))])) (fun _ k => XS.iconst X0.here hx rfl (hb hby d3_7) k) ?_
  have hc2 : ¬ ((5 : Int32) = (1 : Int32)) := by decide
  refine own_go (B := s₁.setTop (mkF m 13 #[.val (.int (5 : Int32))] [])) (fun _ k => XS.icmpYes X0.here hx rfl (pc0 := 8) (pc' := 13) rfl (hb hby d3_8) rfl (feq hc2).2 (by decide) (by decide) k) ?_
  refine own_go (B := s₁.setTop (mkF m 14 #[.val (.int (5 : Int32))] [(.int (5 : Int32))])) (fun _ k => XS.iloadN X0.here hx rfl (hb hby d3_13) rfl  k) ?_
  refine own_go (B := s₁.setTop (mkF m 15 #[.val (.int (5 : Int32))] [(.int (2 : Int32)), (.int (5 : Int32))])) (fun _ k => XS.iconst X0.here hx rfl (hb hby d3_14) k) ?_
  have hc3 : ¬ ((5 : Int32) = (2 : Int32)) := by decide
  refine own_go (B := s₁.setTop (mkF m 20 #[.val (.int (5 : Int32))] [])) (fun _ k => XS.icmpYes X0.here hx rfl (pc0 := 15) (pc' := 20) rfl (hb hby d3_15) rfl (feq hc3).2 (by decide) (by decide) k) ?_
  refine own_go (B := s₁.setTop (mkF m 21 #[.val (.int (5 : Int32))] [(.int (5 : Int32))])) (fun _ k => XS.iloadN X0.here hx rfl (hb hby d3_20) rfl  k) ?_
  refine own_go (B := s₁.setTop (mkF m 22 #[.val (.int (5 : Int32))] [(.int (3 : Int32)), (.int (5 : Int32))])) (fun _ k => XS.iconst X0.here hx rfl (hb hby d3_21) k) ?_
  have hc4 : ¬ ((5 : Int32) = (3 : Int32)) := by decide
  refine own_go (B := s₁.setTop (mkF m 27 #[.val (.int (5 : Int32))] [])) (fun _ k => XS.icmpYes X0.here hx rfl (pc0 := 22) (pc' := 27) rfl (hb hby d3_22) rfl (feq hc4).2 (by decide) (by decide) k) ?_
  refine own_go (B := s₁.setTop (mkF m 28 #[.val (.int (5 : Int32))] [(.int (5 : Int32))])) (fun _ k => XS.iloadN X0.here hx rfl (hb hby d3_27) rfl  k) ?_
  refine own_go (B := s₁.setTop (mkF m 29 #[.val (.int (5 : Int32))] [(.int (4 : Int32)), (.int (5 : Int32))])) (fun _ k => XS.iconst X0.here hx rfl (hb hby d3_28) k) ?_
  have hc5 : ¬ ((5 : Int32) = (4 : Int32)) := by decide
  refine own_go (B := s₁.setTop (mkF m 34 #[.val (.int (5 : Int32))] [])) (fun _ k => XS.icmpYes X0.here hx rfl (pc0 := 29) (pc' := 34) rfl (hb hby d3_29) rfl (feq hc5).2 (by decide) (by decide) k) ?_
  refine own_go (B := s₁.setTop (mkF m 35 #[.val (.int (5 : Int32))] [(.int (5 : Int32))])) (fun _ k => XS.iloadN X0.here hx rfl (hb hby d3_34) rfl  k) ?_
  refine own_go (B := s₁.setTop (mkF m 36 #[.val (.int (5 : Int32))] [(.int (5 : Int32)), (.int (5 : Int32))])) (fun _ k => XS.iconst X0.here hx rfl (hb hby d3_35) k) ?_
  have hc6 : (5 : Int32) = (5 : Int32) := by decide
  refine own_go (B := s₁.setTop (mkF m 39 #[.val (.int (5 : Int32))] [])) (fun _ k => XS.icmpNo X0.here hx rfl (hb hby d3_36) rfl (teq hc6).2 k) ?_
  refine own_go (B := s₁.setTop (mkF m 40 #[.val (.int (5 : Int32))] [(.int (1 : Int32))])) (fun _ k => XS.iconst X0.here hx rfl (hb hby d3_39) k) ?_
  exact own_retN X0 hx Bd.notSynchronized (t := .boolean) (w := (1 : Int32)) Bd.returns (by simp) (hb hby d3_40) e0 rfl ⟨rfl, N0, rfl⟩ (by decide) (by decide)
abbrev R_own_pick6 : Room := { frames := 0, cells := 0, slots := 0, locals := 0 }
theorem d1_53 : decode method_2_code 53 = .ok (.iload_n 0, 1) := by decide +kernel
theorem d1_54 : decode method_2_code 54 = .ok (.bipush 6, 2) := by decide +kernel
theorem d1_56 : decode method_2_code 56 = .ok (.if_icmp .ne 7, 3) := by decide +kernel
theorem d1_59 : decode method_2_code 59 = .ok (.getstatic 28, 3) := by decide +kernel
theorem d1_62 : decode method_2_code 62 = .ok (.areturn, 1) := by decide +kernel
theorem ef_own_pick6 (m : MethodId)  : entryFrame m #[(.int (6 : Int32))] 1 = mkF m 0 #[.val (.int (6 : Int32))] [] := by first | (simp [entryFrame, mkF, argsToLocals, Value.category]; done) | rfl
def Q_own_pick6 (Z : State) (w_FAILED : Addr) (h0 : Heap) (n0 : Nat) (v : Option Value) (h : Heap) (L : List Loc) : Prop := v = some (.ref w_FAILED) ∧ Fr n0 L ∧ h = h0
set_option maxRecDepth 65536 in
set_option maxHeartbeats 400000000 in
theorem own_pick6 (l : Launch) (Z : State) (a0 : Array Value) (hw : ∀ d ∈ tables_1, d.before a0 Z = true) (ws : List Jvm.Cond) (w_FAILED : Addr) (h0 : Heap) (n0 : Nat) (Z0 : n0 ≤ h0.size) (P_S_com_example_stackyard_stackyard_app_ApplicationState_FAILED : Sta Z h0 "com/example/stackyard/stackyard/app/ApplicationState" "FAILED" "Lcom/example/stackyard/stackyard/app/ApplicationState;" (.ref w_FAILED)) :
    MetFree l (⟨"com/example/stackyard/stackyard/app/ApplicationStateIsFinalPinLaw", "pick", "(I)Lcom/example/stackyard/stackyard/app/ApplicationState;"⟩ : MethodName) (head1 (Jvm.Cond.code (⟨"com/example/stackyard/stackyard/app/ApplicationStateIsFinalPinLaw", "pick", "(I)Lcom/example/stackyard/stackyard/app/ApplicationState;"⟩ : MethodName) method_2_code 1 (some (.object "com/example/stackyard/stackyard/app/ApplicationState")) :: ws) R_own_pick6) (fun a U => a = #[(.int (6 : Int32))] ∧ Z.Warmed39 U.vm ∧ U.heap = h0) (fun _ _ _ _ _ => True) (fun _ U o U' => ∃ v L, o = .returned v ∧ Q_own_pick6 Z w_FAILED h0 n0 v U'.heap L ∧ FrameEnd U o U' L R_own_pick6.cells R_own_pick6.slots) := by
  refine MetFree.of_bodySF (plainFor_of_name own_pn1) hisR ?_
  intro p e s m args below meth c s₁ Bd hml0 hP hK
  obtain ⟨rfl, hZ, hh⟩ := hP
  have hx := Bd.exec
  have hby := Bd.bytes
  have hml : c.maxLocals = 1 := hml0
  have hown : s.vm.findClass "com/example/stackyard/stackyard/app/ApplicationStateIsFinalPinLaw" = some m.cls := findClass_of_methodNamed Bd.named
  have hnm := (name_of_methodNamed Bd.named Bd.method).1
  have X0 : Stand p l e R_own_pick6 s m #[(.int (6 : Int32))] below meth c s₁ [] 0 0 := Stand.of_body Bd
  have e0 : s₁.heap = h0 := by rw [← hh, Bd.state]; rfl
  have N0 := Fr.nil n0
  have K0 : Keep h0 h0 [] := Keep.refl h0 []
  show own_Fin p e below s (Q_own_pick6 Z w_FAILED h0 n0) R_own_pick6.cells R_own_pick6.slots (s₁.setTop (entryFrame m #[(.int (6 : Int32))] 1))
  refine own_go (fun _ k => castTop (ef_own_pick6 m ) k) ?_
  show own_Fin _ _ _ _ _ _ _ (s₁.setTop (mkF m 0 #[.val (.int (6 : Int32))] []))
  refine own_go (B := s₁.setTop (mkF m 1 #[.val (.int (6 : Int32))] [(.int (6 : Int32))])) (fun _ k => XS.iloadN X0.here hx rfl (hb hby d1_0) rfl  k) ?_
  have hc1 : ¬ ((6 : Int32) = (0 : Int32)) := by decide
  refine own_go (B := s₁.setTop (mkF m 8 #[.val (.int (6 : Int32))] [])) (fun _ k => XS.ifYes X0.here hx rfl (pc0 := 1) (pc' := 8) rfl (hb hby d1_1) rfl ((if0 _ _).trans (feq hc1).2) (by decide) (by decide) k) ?_
  refine own_go (B := s₁.setTop (mkF m 9 #[.val (.int (6 : Int32))] [(.int (6 : Int32))])) (fun _ k => XS.iloadN X0.here hx rfl (hb hby d1_8) rfl  k) ?_
  refine own_go (B := s₁.setTop (mkF m 10 #[.val (.int (6 : Int32))] [(.int (1 : Int32)), (.int (6 : Int32))])) (fun _ k => XS.iconst X0.here hx rfl (hb hby d1_9) k) ?_
  have hc2 : ¬ ((6 : Int32) = (1 : Int32)) := by decide
  refine own_go (B := s₁.setTop (mkF m 17 #[.val (.int (6 : Int32))] [])) (fun _ k => XS.icmpYes X0.here hx rfl (pc0 := 10) (pc' := 17) rfl (hb hby d1_10) rfl (feq hc2).2 (by decide) (by decide) k) ?_
  refine own_go (B := s₁.setTop (mkF m 18 #[.val (.int (6 : Int32))] [(.int (6 : Int32))])) (fun _ k => XS.iloadN X0.here hx rfl (hb hby d1_17) rfl  k) ?_
  refine own_go (B := s₁.setTop (mkF m 19 #[.val (.int (6 : Int32))] [(.int (2 : Int32)), (.int (6 : Int32))])) (fun _ k => XS.iconst X0.here hx rfl (hb hby d1_18) k) ?_
  have hc3 : ¬ ((6 : Int32) = (2 : Int32)) := by decide
  refine own_go (B := s₁.setTop (mkF m 26 #[.val (.int (6 : Int32))] [])) (fun _ k => XS.icmpYes X0.here hx rfl (pc0 := 19) (pc' := 26) rfl (hb hby d1_19) rfl (feq hc3).2 (by decide) (by decide) k) ?_
  refine own_go (B := s₁.setTop (mkF m 27 #[.val (.int (6 : Int32))] [(.int (6 : Int32))])) (fun _ k => XS.iloadN X0.here hx rfl (hb hby d1_26) rfl  k) ?_
  refine own_go (B := s₁.setTop (mkF m 28 #[.val (.int (6 : Int32))] [(.int (3 : Int32)), (.int (6 : Int32))])) (fun _ k => XS.iconst X0.here hx rfl (hb hby d1_27) k) ?_
  have hc4 : ¬ ((6 : Int32) = (3 : Int32)) := by decide
  refine own_go (B := s₁.setTop (mkF m 35 #[.val (.int (6 : Int32))] [])) (fun _ k => XS.icmpYes X0.here hx rfl (pc0 := 28) (pc' := 35) rfl (hb hby d1_28) rfl (feq hc4).2 (by decide) (by decide) k) ?_
  refine own_go (B := s₁.setTop (mkF m 36 #[.val (.int (6 : Int32))] [(.int (6 : Int32))])) (fun _ k => XS.iloadN X0.here hx rfl (hb hby d1_35) rfl  k) ?_
  refine own_go (B := s₁.setTop (mkF m 37 #[.val (.int (6 : Int32))] [(.int (4 : Int32)), (.int (6 : Int32))])) (fun _ k => XS.iconst X0.here hx rfl (hb hby d1_36) k) ?_
  have hc5 : ¬ ((6 : Int32) = (4 : Int32)) := by decide
  refine own_go (B := s₁.setTop (mkF m 44 #[.val (.int (6 : Int32))] [])) (fun _ k => XS.icmpYes X0.here hx rfl (pc0 := 37) (pc' := 44) rfl (hb hby d1_37) rfl (feq hc5).2 (by decide) (by decide) k) ?_
  refine own_go (B := s₁.setTop (mkF m 45 #[.val (.int (6 : Int32))] [(.int (6 : Int32))])) (fun _ k => XS.iloadN X0.here hx rfl (hb hby d1_44) rfl  k) ?_
  refine own_go (B := s₁.setTop (mkF m 46 #[.val (.int (6 : Int32))] [(.int (5 : Int32)), (.int (6 : Int32))])) (fun _ k => XS.iconst X0.here hx rfl (hb hby d1_45) k) ?_
  have hc6 : ¬ ((6 : Int32) = (5 : Int32)) := by decide
  refine own_go (B := s₁.setTop (mkF m 53 #[.val (.int (6 : Int32))] [])) (fun _ k => XS.icmpYes X0.here hx rfl (pc0 := 46) (pc' := 53) rfl (hb hby d1_46) rfl (feq hc6).2 (by decide) (by decide) k) ?_
  refine own_go (B := s₁.setTop (mkF m 54 #[.val (.int (6 : Int32))] [(.int (6 : Int32))])) (fun _ k => XS.iloadN X0.here hx rfl (hb hby d1_53) rfl  k) ?_
  refine own_go (B := s₁.setTop (mkF m 56 #[.val (.int (6 : Int32))] [(.int (6 : Int32)), (.int (6 : Int32))])) (fun _ k => XS.bipush X0.here hx rfl (hb hby d1_54) k) ?_
  have hc7 : (6 : Int32) = (6 : Int32) := by decide
  refine own_go (B := s₁.setTop (mkF m 59 #[.val (.int (6 : Int32))] [])) (fun _ k => XS.icmpNo X0.here hx rfl (hb hby d1_56) rfl (teq hc7).2 k) ?_
  obtain ⟨T8, X8, e8, st8⟩ := getS2 X0 hx hZ hown (host := "") (Or.inl (own_w hw 23 rfl)) Via.refl e0 P_S_com_example_stackyard_stackyard_app_ApplicationState_FAILED (g := (mkF m 59 #[.val (.int (6 : Int32))] [])) rfl (hb hby d1_59)
  refine own_go (B := T8.setTop (mkF m 62 #[.val (.int (6 : Int32))] [(.ref w_FAILED)])) st8 ?_
  exact own_retA X8 hx Bd.notSynchronized Bd.returns rfl rfl (hb hby d1_62) e8 ⟨rfl, N0, rfl⟩ (by decide) (by decide)
abbrev R_own_exp6 : Room := { frames := 0, cells := 0, slots := 0, locals := 0 }
theorem d3_41 : decode method_3_code 41 = .ok (.iload_n 0, 1) := by decide +kernel
theorem d3_42 : decode method_3_code 42 = .ok (.bipush 6, 2) := by decide +kernel
theorem d3_44 : decode method_3_code 44 = .ok (.if_icmp .ne 5, 3) := by decide +kernel
theorem d3_47 : decode method_3_code 47 = .ok (.iconst 1, 1) := by decide +kernel
theorem d3_48 : decode method_3_code 48 = .ok (.ireturn, 1) := by decide +kernel
theorem ef_own_exp6 (m : MethodId)  : entryFrame m #[(.int (6 : Int32))] 1 = mkF m 0 #[.val (.int (6 : Int32))] [] := by first | (simp [entryFrame, mkF, argsToLocals, Value.category]; done) | rfl
def Q_own_exp6 (Z : State)  (h0 : Heap) (n0 : Nat) (v : Option Value) (h : Heap) (L : List Loc) : Prop := v = some (.int (1 : Int32)) ∧ Fr n0 L ∧ h = h0
set_option maxRecDepth 65536 in
set_option maxHeartbeats 400000000 in
theorem own_exp6 (l : Launch) (Z : State) (a0 : Array Value) (hw : ∀ d ∈ tables_1, d.before a0 Z = true) (ws : List Jvm.Cond)  (h0 : Heap) (n0 : Nat) (Z0 : n0 ≤ h0.size)  :
    MetFree l (⟨"com/example/stackyard/stackyard/app/ApplicationStateIsFinalPinLaw", "expected", "(I)Z"⟩ : MethodName) (head1 (Jvm.Cond.code (⟨"com/example/stackyard/stackyard/app/ApplicationStateIsFinalPinLaw", "expected", "(I)Z"⟩ : MethodName) method_3_code 1 (some .boolean) :: ws) R_own_exp6) (fun a U => a = #[(.int (6 : Int32))] ∧ Z.Warmed39 U.vm ∧ U.heap = h0) (fun _ _ _ _ _ => True) (fun _ U o U' => ∃ v L, o = .returned v ∧ Q_own_exp6 Z  h0 n0 v U'.heap L ∧ FrameEnd U o U' L R_own_exp6.cells R_own_exp6.slots) := by
  refine MetFree.of_bodySF (plainFor_of_name own_pn1) hisR ?_
  intro p e s m args below meth c s₁ Bd hml0 hP hK
  obtain ⟨rfl, hZ, hh⟩ := hP
  have hx := Bd.exec
  have hby := Bd.bytes
  have hml : c.maxLocals = 1 := hml0
  have hown : s.vm.findClass "com/example/stackyard/stackyard/app/ApplicationStateIsFinalPinLaw" = some m.cls := findClass_of_methodNamed Bd.named
  have hnm := (name_of_methodNamed Bd.named Bd.method).1
  have X0 : Stand p l e R_own_exp6 s m #[(.int (6 : Int32))] below meth c s₁ [] 0 0 := Stand.of_body Bd
  have e0 : s₁.heap = h0 := by rw [← hh, Bd.state]; rfl
  have N0 := Fr.nil n0
  have K0 : Keep h0 h0 [] := Keep.refl h0 []
  show own_Fin p e below s (Q_own_exp6 Z  h0 n0) R_own_exp6.cells R_own_exp6.slots (s₁.setTop (entryFrame m #[(.int (6 : Int32))] 1))
  refine own_go (fun _ k => castTop (ef_own_exp6 m ) k) ?_
  show own_Fin _ _ _ _ _ _ _ (s₁.setTop (mkF m 0 #[.val (.int (6 : Int32))] []))
  refine own_go (B := s₁.setTop (mkF m 1 #[.val (.int (6 : Int32))] [(.int (6 : Int32))])) (fun _ k => XS.iloadN X0.here hx rfl (hb hby d3_0) rfl  k) ?_
  have hc1 : ¬ ((6 : Int32) = (0 : Int32)) := by decide
  refine own_go (B := s₁.setTop (mkF m 6 #[.val (.int (6 : Int32))] [])) (fun _ k => XS.ifYes X0.here hx rfl (pc0 := 1) (pc' := 6) rfl (hb hby d3_1) rfl ((if0 _ _).trans (feq hc1).2) (by decide) (by decide) k) ?_
  refine own_go (B := s₁.setTop (mkF m 7 #[.val (.int (6 : Int32))] [(.int (6 : Int32))])) (fun _ k => XS.iloadN X0.here hx rfl (hb hby d3_6) rfl  k) ?_
  refine own_go (B := s₁.setTop (mkF m 8 #[.val (.int (6 : Int32))] [(.int (1 : Int32)), (.int (6 : Int32))])) (fun _ k => XS.iconst X0.here hx rfl (hb hby d3_7) k) ?_
  have hc2 : ¬ ((6 : Int32) = (1 : Int32)) := by decide
  refine own_go (B := s₁.setTop (mkF m 13 #[.val (.int (6 : Int32))] [])) (fun _ k => XS.icmpYes X0.here hx rfl (pc0 := 8) (pc' := 13) rfl (hb hby d3_8) rfl (feq hc2).2 (by decide) (by decide) k) ?_
  refine own_go (B := s₁.setTop (mkF m 14 #[.val (.int (6 : Int32))] [(.int (6 : Int32))])) (fun _ k => XS.iloadN X0.here hx rfl (hb hby d3_13) rfl  k) ?_
  refine own_go (B := s₁.setTop (mkF m 15 #[.val (.int (6 : Int32))] [(.int (2 : Int32)), (.int (6 : Int32))])) (fun _ k => XS.iconst X0.here hx rfl (hb hby d3_14) k) ?_
  have hc3 : ¬ ((6 : Int32) = (2 : Int32)) := by decide
  refine own_go (B := s₁.setTop (mkF m 20 #[.val (.int (6 : Int32))] [])) (fun _ k => XS.icmpYes X0.here hx rfl (pc0 := 15) (pc' := 20) rfl (hb hby d3_15) rfl (feq hc3).2 (by decide) (by decide) k) ?_
  refine own_go (B := s₁.setTop (mkF m 21 #[.val (.int (6 : Int32))] [(.int (6 : Int32))])) (fun _ k => XS.iloadN X0.here hx rfl (hb hby d3_20) rfl  k) ?_
  refine own_go (B := s₁.setTop (mkF m 22 #[.val (.int (6 : Int32))] [(.int (3 : Int32)), (.int (6 : Int32))])) (fun _ k => XS.iconst X0.here hx rfl (hb hby d3_21) k) ?_
  have hc4 : ¬ ((6 : Int32) = (3 : Int32)) := by decide
  refine own_go (B := s₁.setTop (mkF m 27 #[.val (.int (6 : Int32))] [])) (fun _ k => XS.icmpYes X0.here hx rfl (pc0 := 22) (pc' := 27) rfl (hb hby d3_22) rfl (feq hc4).2 (by decide) (by decide) k) ?_
  refine own_go (B := s₁.setTop (mkF m 28 #[.val (.int (6 : Int32))] [(.int (6 : Int32))])) (fun _ k => XS.iloadN X0.here hx rfl (hb hby d3_27) rfl  k) ?_
  refine own_go (B := s₁.setTop (mkF m 29 #[.val (.int (6 : Int32))] [(.int (4 : Int32)), (.int (6 : Int32))])) (fun _ k => XS.iconst X0.here hx rfl (hb hby d3_28) k) ?_
  have hc5 : ¬ ((6 : Int32) = (4 : Int32)) := by decide
  refine own_go (B := s₁.setTop (mkF m 34 #[.val (.int (6 : Int32))] [])) (fun _ k => XS.icmpYes X0.here hx rfl (pc0 := 29) (pc' := 34) rfl (hb hby d3_29) rfl (feq hc5).2 (by decide) (by decide) k) ?_
  refine own_go (B := s₁.setTop (mkF m 35 #[.val (.int (6 : Int32))] [(.int (6 : Int32))])) (fun _ k => XS.iloadN X0.here hx rfl (hb hby d3_34) rfl  k) ?_
  refine own_go (B := s₁.setTop (mkF m 36 #[.val (.int (6 : Int32))] [(.int (5 : Int32)), (.int (6 : Int32))])) (fun _ k => XS.iconst X0.here hx rfl (hb hby d3_35) k) ?_
  have hc6 : ¬ ((6 : Int32) = (5 : Int32)) := by decide
  refine own_go (B := s₁.setTop (mkF m 41 #[.val (.int (6 : Int32))] [])) (fun _ k => XS.icmpYes X0.here hx rfl (pc0 := 36) (pc' := 41) rfl (hb hby d3_36) rfl (feq hc6).2 (by decide) (by decide) k) ?_
  refine own_go (B := s₁.setTop (mkF m 42 #[.val (.int (6 : Int32))] [(.int (6 : Int32))])) (fun _ k => XS.iloadN X0.here hx rfl (hb hby d3_41) rfl  k) ?_
  refine own_go (B := s₁.setTop (mkF m 44 #[.val (.int (6 : Int32))] [(.int (6 : Int32)), (.int (6 : Int32))])) (fun _ k => XS.bipush X0.here hx rfl (hb hby d3_42) k) ?_
  have hc7 : (6 : Int32) = (6 : Int32) := by decide
  refine own_go (B := s₁.setTop (mkF m 47 #[.val (.int (6 : Int32))] [])) (fun _ k => XS.icmpNo X0.here hx rfl (hb hby d3_44) rfl (teq hc7).2 k) ?_
  refine own_go (B := s₁.setTop (mkF m 48 #[.val (.int (6 : Int32))] [(.int (1 : Int32))])) (fun _ k => XS.iconst X0.here hx rfl (hb hby d3_47) k) ?_
  exact own_retN X0 hx Bd.notSynchronized (t := .boolean) (w := (1 : Int32)) Bd.returns (by simp) (hb hby d3_48) e0 rfl ⟨rfl, N0, rfl⟩ (by decide) (by decide)
abbrev R_own_pick7 : Room := { frames := 0, cells := 0, slots := 0, locals := 0 }
theorem d1_63 : decode method_2_code 63 = .ok (.getstatic 31, 3) := by decide +kernel
theorem d1_66 : decode method_2_code 66 = .ok (.areturn, 1) := by decide +kernel
theorem ef_own_pick7 (m : MethodId)  : entryFrame m #[(.int (7 : Int32))] 1 = mkF m 0 #[.val (.int (7 : Int32))] [] := by first | (simp [entryFrame, mkF, argsToLocals, Value.category]; done) | rfl
def Q_own_pick7 (Z : State) (w_KILLED : Addr) (h0 : Heap) (n0 : Nat) (v : Option Value) (h : Heap) (L : List Loc) : Prop := v = some (.ref w_KILLED) ∧ Fr n0 L ∧ h = h0
set_option maxRecDepth 65536 in
set_option maxHeartbeats 400000000 in
theorem own_pick7 (l : Launch) (Z : State) (a0 : Array Value) (hw : ∀ d ∈ tables_1, d.before a0 Z = true) (ws : List Jvm.Cond) (w_KILLED : Addr) (h0 : Heap) (n0 : Nat) (Z0 : n0 ≤ h0.size) (P_S_com_example_stackyard_stackyard_app_ApplicationState_KILLED : Sta Z h0 "com/example/stackyard/stackyard/app/ApplicationState" "KILLED" "Lcom/example/stackyard/stackyard/app/ApplicationState;" (.ref w_KILLED)) :
    MetFree l (⟨"com/example/stackyard/stackyard/app/ApplicationStateIsFinalPinLaw", "pick", "(I)Lcom/example/stackyard/stackyard/app/ApplicationState;"⟩ : MethodName) (head1 (Jvm.Cond.code (⟨"com/example/stackyard/stackyard/app/ApplicationStateIsFinalPinLaw", "pick", "(I)Lcom/example/stackyard/stackyard/app/ApplicationState;"⟩ : MethodName) method_2_code 1 (some (.object "com/example/stackyard/stackyard/app/ApplicationState")) :: ws) R_own_pick7) (fun a U => a = #[(.int (7 : Int32))] ∧ Z.Warmed39 U.vm ∧ U.heap = h0) (fun _ _ _ _ _ => True) (fun _ U o U' => ∃ v L, o = .returned v ∧ Q_own_pick7 Z w_KILLED h0 n0 v U'.heap L ∧ FrameEnd U o U' L R_own_pick7.cells R_own_pick7.slots) := by
  refine MetFree.of_bodySF (plainFor_of_name own_pn1) hisR ?_
  intro p e s m args below meth c s₁ Bd hml0 hP hK
  obtain ⟨rfl, hZ, hh⟩ := hP
  have hx := Bd.exec
  have hby := Bd.bytes
  have hml : c.maxLocals = 1 := hml0
  have hown : s.vm.findClass "com/example/stackyard/stackyard/app/ApplicationStateIsFinalPinLaw" = some m.cls := findClass_of_methodNamed Bd.named
  have hnm := (name_of_methodNamed Bd.named Bd.method).1
  have X0 : Stand p l e R_own_pick7 s m #[(.int (7 : Int32))] below meth c s₁ [] 0 0 := Stand.of_body Bd
  have e0 : s₁.heap = h0 := by rw [← hh, Bd.state]; rfl
  have N0 := Fr.nil n0
  have K0 : Keep h0 h0 [] := Keep.refl h0 []
  show own_Fin p e below s (Q_own_pick7 Z w_KILLED h0 n0) R_own_pick7.cells R_own_pick7.slots (s₁.setTop (entryFrame m #[(.int (7 : Int32))] 1))
  refine own_go (fun _ k => castTop (ef_own_pick7 m ) k) ?_
  show own_Fin _ _ _ _ _ _ _ (s₁.setTop (mkF m 0 #[.val (.int (7 : Int32))] []))
  refine own_go (B := s₁.setTop (mkF m 1 #[.val (.int (7 : Int32))] [(.int (7 : Int32))])) (fun _ k => XS.iloadN X0.here hx rfl (hb hby d1_0) rfl  k) ?_
  have hc1 : ¬ ((7 : Int32) = (0 : Int32)) := by decide
  refine own_go (B := s₁.setTop (mkF m 8 #[.val (.int (7 : Int32))] [])) (fun _ k => XS.ifYes X0.here hx rfl (pc0 := 1) (pc' := 8) rfl (hb hby d1_1) rfl ((if0 _ _).trans (feq hc1).2) (by decide) (by decide) k) ?_
  refine own_go (B := s₁.setTop (mkF m 9 #[.val (.int (7 : Int32))] [(.int (7 : Int32))])) (fun _ k => XS.iloadN X0.here hx rfl (hb hby d1_8) rfl  k) ?_
  refine own_go (B := s₁.setTop (mkF m 10 #[.val (.int (7 : Int32))] [(.int (1 : Int32)), (.int (7 : Int32))])) (fun _ k => XS.iconst X0.here hx rfl (hb hby d1_9) k) ?_
  have hc2 : ¬ ((7 : Int32) = (1 : Int32)) := by decide
  refine own_go (B := s₁.setTop (mkF m 17 #[.val (.int (7 : Int32))] [])) (fun _ k => XS.icmpYes X0.here hx rfl (pc0 := 10) (pc' := 17) rfl (hb hby d1_10) rfl (feq hc2).2 (by decide) (by decide) k) ?_
  refine own_go (B := s₁.setTop (mkF m 18 #[.val (.int (7 : Int32))] [(.int (7 : Int32))])) (fun _ k => XS.iloadN X0.here hx rfl (hb hby d1_17) rfl  k) ?_
  refine own_go (B := s₁.setTop (mkF m 19 #[.val (.int (7 : Int32))] [(.int (2 : Int32)), (.int (7 : Int32))])) (fun _ k => XS.iconst X0.here hx rfl (hb hby d1_18) k) ?_
  have hc3 : ¬ ((7 : Int32) = (2 : Int32)) := by decide
  refine own_go (B := s₁.setTop (mkF m 26 #[.val (.int (7 : Int32))] [])) (fun _ k => XS.icmpYes X0.here hx rfl (pc0 := 19) (pc' := 26) rfl (hb hby d1_19) rfl (feq hc3).2 (by decide) (by decide) k) ?_
  refine own_go (B := s₁.setTop (mkF m 27 #[.val (.int (7 : Int32))] [(.int (7 : Int32))])) (fun _ k => XS.iloadN X0.here hx rfl (hb hby d1_26) rfl  k) ?_
  refine own_go (B := s₁.setTop (mkF m 28 #[.val (.int (7 : Int32))] [(.int (3 : Int32)), (.int (7 : Int32))])) (fun _ k => XS.iconst X0.here hx rfl (hb hby d1_27) k) ?_
  have hc4 : ¬ ((7 : Int32) = (3 : Int32)) := by decide
  refine own_go (B := s₁.setTop (mkF m 35 #[.val (.int (7 : Int32))] [])) (fun _ k => XS.icmpYes X0.here hx rfl (pc0 := 28) (pc' := 35) rfl (hb hby d1_28) rfl (feq hc4).2 (by decide) (by decide) k) ?_
  refine own_go (B := s₁.setTop (mkF m 36 #[.val (.int (7 : Int32))] [(.int (7 : Int32))])) (fun _ k => XS.iloadN X0.here hx rfl (hb hby d1_35) rfl  k) ?_
  refine own_go (B := s₁.setTop (mkF m 37 #[.val (.int (7 : Int32))] [(.int (4 : Int32)), (.int (7 : Int32))])) (fun _ k => XS.iconst X0.here hx rfl (hb hby d1_36) k) ?_
  have hc5 : ¬ ((7 : Int32) = (4 : Int32)) := by decide
  refine own_go (B := s₁.setTop (mkF m 44 #[.val (.int (7 : Int32))] [])) (fun _ k => XS.icmpYes X0.here hx rfl (pc0 := 37) (pc' := 44) rfl (hb hby d1_37) rfl (feq hc5).2 (by decide) (by decide) k) ?_
  refine own_go (B := s₁.setTop (mkF m 45 #[.val (.int (7 : Int32))] [(.int (7 : Int32))])) (fun _ k => XS.iloadN X0.here hx rfl (hb hby d1_44) rfl  k) ?_
  refine own_go (B := s₁.setTop (mkF m 46 #[.val (.int (7 : Int32))] [(.int (5 : Int32)), (.int (7 : Int32))])) (fun _ k => XS.iconst X0.here hx rfl (hb hby d1_45) k) ?_
  have hc6 : ¬ ((7 : Int32) = (5 : Int32)) := by decide
  refine own_go (B := s₁.setTop (mkF m 53 #[.val (.int (7 : Int32))] [])) (fun _ k => XS.icmpYes X0.here hx rfl (pc0 := 46) (pc' := 53) rfl (hb hby d1_46) rfl (feq hc6).2 (by decide) (by decide) k) ?_
  refine own_go (B := s₁.setTop (mkF m 54 #[.val (.int (7 : Int32))] [(.int (7 : Int32))])) (fun _ k => XS.iloadN X0.here hx rfl (hb hby d1_53) rfl  k) ?_
  refine own_go (B := s₁.setTop (mkF m 56 #[.val (.int (7 : Int32))] [(.int (6 : Int32)), (.int (7 : Int32))])) (fun _ k => XS.bipush X0.here hx rfl (hb hby d1_54) k) ?_
  have hc7 : ¬ ((7 : Int32) = (6 : Int32)) := by decide
  refine own_go (B := s₁.setTop (mkF m 63 #[.val (.int (7 : Int32))] [])) (fun _ k => XS.icmpYes X0.here hx rfl (pc0 := 56) (pc' := 63) rfl (hb hby d1_56) rfl (feq hc7).2 (by decide) (by decide) k) ?_
  obtain ⟨T8, X8, e8, st8⟩ := getS2 X0 hx hZ hown (host := "") (Or.inl (own_w hw 24 rfl)) Via.refl e0 P_S_com_example_stackyard_stackyard_app_ApplicationState_KILLED (g := (mkF m 63 #[.val (.int (7 : Int32))] [])) rfl (hb hby d1_63)
  refine own_go (B := T8.setTop (mkF m 66 #[.val (.int (7 : Int32))] [(.ref w_KILLED)])) st8 ?_
  exact own_retA X8 hx Bd.notSynchronized Bd.returns rfl rfl (hb hby d1_66) e8 ⟨rfl, N0, rfl⟩ (by decide) (by decide)
abbrev R_own_exp7 : Room := { frames := 0, cells := 0, slots := 0, locals := 0 }
theorem d3_49 : decode method_3_code 49 = .ok (.iconst 1, 1) := by decide +kernel
theorem d3_50 : decode method_3_code 50 = .ok (.ireturn, 1) := by decide +kernel
theorem ef_own_exp7 (m : MethodId)  : entryFrame m #[(.int (7 : Int32))] 1 = mkF m 0 #[.val (.int (7 : Int32))] [] := by first | (simp [entryFrame, mkF, argsToLocals, Value.category]; done) | rfl
def Q_own_exp7 (Z : State)  (h0 : Heap) (n0 : Nat) (v : Option Value) (h : Heap) (L : List Loc) : Prop := v = some (.int (1 : Int32)) ∧ Fr n0 L ∧ h = h0
set_option maxRecDepth 65536 in
set_option maxHeartbeats 400000000 in
theorem own_exp7 (l : Launch) (Z : State) (a0 : Array Value) (hw : ∀ d ∈ tables_1, d.before a0 Z = true) (ws : List Jvm.Cond)  (h0 : Heap) (n0 : Nat) (Z0 : n0 ≤ h0.size)  :
    MetFree l (⟨"com/example/stackyard/stackyard/app/ApplicationStateIsFinalPinLaw", "expected", "(I)Z"⟩ : MethodName) (head1 (Jvm.Cond.code (⟨"com/example/stackyard/stackyard/app/ApplicationStateIsFinalPinLaw", "expected", "(I)Z"⟩ : MethodName) method_3_code 1 (some .boolean) :: ws) R_own_exp7) (fun a U => a = #[(.int (7 : Int32))] ∧ Z.Warmed39 U.vm ∧ U.heap = h0) (fun _ _ _ _ _ => True) (fun _ U o U' => ∃ v L, o = .returned v ∧ Q_own_exp7 Z  h0 n0 v U'.heap L ∧ FrameEnd U o U' L R_own_exp7.cells R_own_exp7.slots) := by
  refine MetFree.of_bodySF (plainFor_of_name own_pn1) hisR ?_
  intro p e s m args below meth c s₁ Bd hml0 hP hK
  obtain ⟨rfl, hZ, hh⟩ := hP
  have hx := Bd.exec
  have hby := Bd.bytes
  have hml : c.maxLocals = 1 := hml0
  have hown : s.vm.findClass "com/example/stackyard/stackyard/app/ApplicationStateIsFinalPinLaw" = some m.cls := findClass_of_methodNamed Bd.named
  have hnm := (name_of_methodNamed Bd.named Bd.method).1
  have X0 : Stand p l e R_own_exp7 s m #[(.int (7 : Int32))] below meth c s₁ [] 0 0 := Stand.of_body Bd
  have e0 : s₁.heap = h0 := by rw [← hh, Bd.state]; rfl
  have N0 := Fr.nil n0
  have K0 : Keep h0 h0 [] := Keep.refl h0 []
  show own_Fin p e below s (Q_own_exp7 Z  h0 n0) R_own_exp7.cells R_own_exp7.slots (s₁.setTop (entryFrame m #[(.int (7 : Int32))] 1))
  refine own_go (fun _ k => castTop (ef_own_exp7 m ) k) ?_
  show own_Fin _ _ _ _ _ _ _ (s₁.setTop (mkF m 0 #[.val (.int (7 : Int32))] []))
  refine own_go (B := s₁.setTop (mkF m 1 #[.val (.int (7 : Int32))] [(.int (7 : Int32))])) (fun _ k => XS.iloadN X0.here hx rfl (hb hby d3_0) rfl  k) ?_
  have hc1 : ¬ ((7 : Int32) = (0 : Int32)) := by decide
  refine own_go (B := s₁.setTop (mkF m 6 #[.val (.int (7 : Int32))] [])) (fun _ k => XS.ifYes X0.here hx rfl (pc0 := 1) (pc' := 6) rfl (hb hby d3_1) rfl ((if0 _ _).trans (feq hc1).2) (by decide) (by decide) k) ?_
  refine own_go (B := s₁.setTop (mkF m 7 #[.val (.int (7 : Int32))] [(.int (7 : Int32))])) (fun _ k => XS.iloadN X0.here hx rfl (hb hby d3_6) rfl  k) ?_
  refine own_go (B := s₁.setTop (mkF m 8 #[.val (.int (7 : Int32))] [(.int (1 : Int32)), (.int (7 : Int32))])) (fun _ k => XS.iconst X0.here hx rfl (hb hby d3_7) k) ?_
  have hc2 : ¬ ((7 : Int32) = (1 : Int32)) := by decide
  refine own_go (B := s₁.setTop (mkF m 13 #[.val (.int (7 : Int32))] [])) (fun _ k => XS.icmpYes X0.here hx rfl (pc0 := 8) (pc' := 13) rfl (hb hby d3_8) rfl (feq hc2).2 (by decide) (by decide) k) ?_
  refine own_go (B := s₁.setTop (mkF m 14 #[.val (.int (7 : Int32))] [(.int (7 : Int32))])) (fun _ k => XS.iloadN X0.here hx rfl (hb hby d3_13) rfl  k) ?_
  refine own_go (B := s₁.setTop (mkF m 15 #[.val (.int (7 : Int32))] [(.int (2 : Int32)), (.int (7 : Int32))])) (fun _ k => XS.iconst X0.here hx rfl (hb hby d3_14) k) ?_
  have hc3 : ¬ ((7 : Int32) = (2 : Int32)) := by decide
  refine own_go (B := s₁.setTop (mkF m 20 #[.val (.int (7 : Int32))] [])) (fun _ k => XS.icmpYes X0.here hx rfl (pc0 := 15) (pc' := 20) rfl (hb hby d3_15) rfl (feq hc3).2 (by decide) (by decide) k) ?_
  refine own_go (B := s₁.setTop (mkF m 21 #[.val (.int (7 : Int32))] [(.int (7 : Int32))])) (fun _ k => XS.iloadN X0.here hx rfl (hb hby d3_20) rfl  k) ?_
  refine own_go (B := s₁.setTop (mkF m 22 #[.val (.int (7 : Int32))] [(.int (3 : Int32)), (.int (7 : Int32))])) (fun _ k => XS.iconst X0.here hx rfl (hb hby d3_21) k) ?_
  have hc4 : ¬ ((7 : Int32) = (3 : Int32)) := by decide
  refine own_go (B := s₁.setTop (mkF m 27 #[.val (.int (7 : Int32))] [])) (fun _ k => XS.icmpYes X0.here hx rfl (pc0 := 22) (pc' := 27) rfl (hb hby d3_22) rfl (feq hc4).2 (by decide) (by decide) k) ?_
  refine own_go (B := s₁.setTop (mkF m 28 #[.val (.int (7 : Int32))] [(.int (7 : Int32))])) (fun _ k => XS.iloadN X0.here hx rfl (hb hby d3_27) rfl  k) ?_
  refine own_go (B := s₁.setTop (mkF m 29 #[.val (.int (7 : Int32))] [(.int (4 : Int32)), (.int (7 : Int32))])) (fun _ k => XS.iconst X0.here hx rfl (hb hby d3_28) k) ?_
  have hc5 : ¬ ((7 : Int32) = (4 : Int32)) := by decide
  refine own_go (B := s₁.setTop (mkF m 34 #[.val (.int (7 : Int32))] [])) (fun _ k => XS.icmpYes X0.here hx rfl (pc0 := 29) (pc' := 34) rfl (hb hby d3_29) rfl (feq hc5).2 (by decide) (by decide) k) ?_
  refine own_go (B := s₁.setTop (mkF m 35 #[.val (.int (7 : Int32))] [(.int (7 : Int32))])) (fun _ k => XS.iloadN X0.here hx rfl (hb hby d3_34) rfl  k) ?_
  refine own_go (B := s₁.setTop (mkF m 36 #[.val (.int (7 : Int32))] [(.int (5 : Int32)), (.int (7 : Int32))])) (fun _ k => XS.iconst X0.here hx rfl (hb hby d3_35) k) ?_
  have hc6 : ¬ ((7 : Int32) = (5 : Int32)) := by decide
  refine own_go (B := s₁.setTop (mkF m 41 #[.val (.int (7 : Int32))] [])) (fun _ k => XS.icmpYes X0.here hx rfl (pc0 := 36) (pc' := 41) rfl (hb hby d3_36) rfl (feq hc6).2 (by decide) (by decide) k) ?_
  refine own_go (B := s₁.setTop (mkF m 42 #[.val (.int (7 : Int32))] [(.int (7 : Int32))])) (fun _ k => XS.iloadN X0.here hx rfl (hb hby d3_41) rfl  k) ?_
  refine own_go (B := s₁.setTop (mkF m 44 #[.val (.int (7 : Int32))] [(.int (6 : Int32)), (.int (7 : Int32))])) (fun _ k => XS.bipush X0.here hx rfl (hb hby d3_42) k) ?_
  have hc7 : ¬ ((7 : Int32) = (6 : Int32)) := by decide
  refine own_go (B := s₁.setTop (mkF m 49 #[.val (.int (7 : Int32))] [])) (fun _ k => XS.icmpYes X0.here hx rfl (pc0 := 44) (pc' := 49) rfl (hb hby d3_44) rfl (feq hc7).2 (by decide) (by decide) k) ?_
  refine own_go (B := s₁.setTop (mkF m 50 #[.val (.int (7 : Int32))] [(.int (1 : Int32))])) (fun _ k => XS.iconst X0.here hx rfl (hb hby d3_49) k) ?_
  exact own_retN X0 hx Bd.notSynchronized (t := .boolean) (w := (1 : Int32)) Bd.returns (by simp) (hb hby d3_50) e0 rfl ⟨rfl, N0, rfl⟩ (by decide) (by decide)
theorem ef_own_rm0 (m : MethodId) (x0 : Int32) : entryFrame m #[(.int x0)] maxLocals = mkF m 0 #[.val (.int x0), .unset, .unset] [] := by first | (simp [entryFrame, mkF, argsToLocals, Value.category, maxLocals]; done) | rfl
set_option maxHeartbeats 2000000 in
theorem own_pl_rm0_1 (p1 : Int32) : (p1 &&& (7 : Int32)) = (0 : Int32) ∨ (p1 &&& (7 : Int32)) = (1 : Int32) ∨ (p1 &&& (7 : Int32)) = (2 : Int32) ∨ (p1 &&& (7 : Int32)) = (3 : Int32) ∨ (p1 &&& (7 : Int32)) = (4 : Int32) ∨ (p1 &&& (7 : Int32)) = (5 : Int32) ∨ (p1 &&& (7 : Int32)) = (6 : Int32) ∨ (p1 &&& (7 : Int32)) = (7 : Int32) := by
  have := rng32 p1
  have := rng32 (p1 &&& (7 : Int32))
  have := Jvm.Kit.i32_mask p1 (7 : Int32) (k := 3) (by decide) (by decide)
  try simp only [own_i32_0, own_i32_1, own_i32_2, own_i32_3, own_i32_4, own_i32_5, own_i32_6, own_i32_7] at *
  have := own_i32_0
  have := own_i32_1
  have := own_i32_2
  have := own_i32_3
  have := own_i32_4
  have := own_i32_5
  have := own_i32_6
  have := own_i32_7
  try simp only [Int32.lt_iff_toInt_lt, Int32.le_iff_toInt_le, Int64.lt_iff_toInt_lt, Int64.le_iff_toInt_le, ← Int32.toInt_inj, ← Int64.toInt_inj, true_and, and_true, true_or, or_true, false_or, or_false, not_true_eq_false, not_false_eq_true, false_and, and_false] at *
  all_goals first | omega | (simp; done)
def Q_own_rm0 (Z : State) (p1 : Int32) (w_NEW : Addr) (w_NEW_SAVING : Addr) (w_SUBMITTED : Addr) (w_ACCEPTED : Addr) (w_RUNNING : Addr) (w_FINISHED : Addr) (w_FAILED : Addr) (w_KILLED : Addr) (h0 : Heap) (n0 : Nat) (v : Option Value) (h : Heap) (L : List Loc) : Prop := v = some (.int (1 : Int32)) ∧ Fr n0 L ∧ h = h0
set_option maxRecDepth 65536 in
set_option maxHeartbeats 400000000 in
theorem own_rm0 (l : Launch) (Z : State) (a0 : Array Value) (hw : ∀ d ∈ tables_1, d.before a0 Z = true) (ws : List Jvm.Cond) (p1 : Int32) (w_NEW : Addr) (w_NEW_SAVING : Addr) (w_SUBMITTED : Addr) (w_ACCEPTED : Addr) (w_RUNNING : Addr) (w_FINISHED : Addr) (w_FAILED : Addr) (w_KILLED : Addr) (h0 : Heap) (n0 : Nat) (Z0 : n0 ≤ h0.size) (P_S_com_example_stackyard_stackyard_app_ApplicationState_NEW : Sta Z h0 "com/example/stackyard/stackyard/app/ApplicationState" "NEW" "Lcom/example/stackyard/stackyard/app/ApplicationState;" (.ref w_NEW)) (P_E_w_NEW : Exa Z h0 w_NEW "com/example/stackyard/stackyard/app/ApplicationState") (P_S_com_example_stackyard_stackyard_app_ApplicationState_NEW_SAVING : Sta Z h0 "com/example/stackyard/stackyard/app/ApplicationState" "NEW_SAVING" "Lcom/example/stackyard/stackyard/app/ApplicationState;" (.ref w_NEW_SAVING)) (P_E_w_NEW_SAVING : Exa Z h0 w_NEW_SAVING "com/example/stackyard/stackyard/app/ApplicationState") (P_S_com_example_stackyard_stackyard_app_ApplicationState_SUBMITTED : Sta Z h0 "com/example/stackyard/stackyard/app/ApplicationState" "SUBMITTED" "Lcom/example/stackyard/stackyard/app/ApplicationState;" (.ref w_SUBMITTED)) (P_E_w_SUBMITTED : Exa Z h0 w_SUBMITTED "com/example/stackyard/stackyard/app/ApplicationState") (P_S_com_example_stackyard_stackyard_app_ApplicationState_ACCEPTED : Sta Z h0 "com/example/stackyard/stackyard/app/ApplicationState" "ACCEPTED" "Lcom/example/stackyard/stackyard/app/ApplicationState;" (.ref w_ACCEPTED)) (P_E_w_ACCEPTED : Exa Z h0 w_ACCEPTED "com/example/stackyard/stackyard/app/ApplicationState") (P_S_com_example_stackyard_stackyard_app_ApplicationState_RUNNING : Sta Z h0 "com/example/stackyard/stackyard/app/ApplicationState" "RUNNING" "Lcom/example/stackyard/stackyard/app/ApplicationState;" (.ref w_RUNNING)) (P_E_w_RUNNING : Exa Z h0 w_RUNNING "com/example/stackyard/stackyard/app/ApplicationState") (P_S_com_example_stackyard_stackyard_app_ApplicationState_FINISHED : Sta Z h0 "com/example/stackyard/stackyard/app/ApplicationState" "FINISHED" "Lcom/example/stackyard/stackyard/app/ApplicationState;" (.ref w_FINISHED)) (P_E_w_FINISHED : Exa Z h0 w_FINISHED "com/example/stackyard/stackyard/app/ApplicationState") (P_S_com_example_stackyard_stackyard_app_ApplicationState_FAILED : Sta Z h0 "com/example/stackyard/stackyard/app/ApplicationState" "FAILED" "Lcom/example/stackyard/stackyard/app/ApplicationState;" (.ref w_FAILED)) (P_E_w_FAILED : Exa Z h0 w_FAILED "com/example/stackyard/stackyard/app/ApplicationState") (P_S_com_example_stackyard_stackyard_app_ApplicationState_KILLED : Sta Z h0 "com/example/stackyard/stackyard/app/ApplicationState" "KILLED" "Lcom/example/stackyard/stackyard/app/ApplicationState;" (.ref w_KILLED)) (P_E_w_KILLED : Exa Z h0 w_KILLED "com/example/stackyard/stackyard/app/ApplicationState") (ne_w_NEW_w_FINISHED : w_NEW ≠ w_FINISHED) (ne_w_NEW_SAVING_w_FINISHED : w_NEW_SAVING ≠ w_FINISHED) (ne_w_SUBMITTED_w_FINISHED : w_SUBMITTED ≠ w_FINISHED) (ne_w_ACCEPTED_w_FINISHED : w_ACCEPTED ≠ w_FINISHED) (ne_w_RUNNING_w_FINISHED : w_RUNNING ≠ w_FINISHED) (ne_w_NEW_w_FAILED : w_NEW ≠ w_FAILED) (ne_w_NEW_SAVING_w_FAILED : w_NEW_SAVING ≠ w_FAILED) (ne_w_SUBMITTED_w_FAILED : w_SUBMITTED ≠ w_FAILED) (ne_w_ACCEPTED_w_FAILED : w_ACCEPTED ≠ w_FAILED) (ne_w_RUNNING_w_FAILED : w_RUNNING ≠ w_FAILED) (ne_w_NEW_w_KILLED : w_NEW ≠ w_KILLED) (ne_w_NEW_SAVING_w_KILLED : w_NEW_SAVING ≠ w_KILLED) (ne_w_SUBMITTED_w_KILLED : w_SUBMITTED ≠ w_KILLED) (ne_w_ACCEPTED_w_KILLED : w_ACCEPTED ≠ w_KILLED) (ne_w_RUNNING_w_KILLED : w_RUNNING ≠ w_KILLED) (ne_w_FAILED_w_FINISHED : w_FAILED ≠ w_FINISHED) (ne_w_KILLED_w_FINISHED : w_KILLED ≠ w_FINISHED) (ne_w_KILLED_w_FAILED : w_KILLED ≠ w_FAILED) :
    MetFree l x (head1 (Jvm.Cond.code x code maxLocals ret :: ws) room_1) (fun a U => a = #[(.int p1)] ∧ Z.Warmed39 U.vm ∧ U.heap = h0) (fun _ _ _ _ _ => True) (fun _ U o U' => ∃ v L, o = .returned v ∧ Q_own_rm0 Z p1 w_NEW w_NEW_SAVING w_SUBMITTED w_ACCEPTED w_RUNNING w_FINISHED w_FAILED w_KILLED h0 n0 v U'.heap L ∧ FrameEnd U o U' L 0 0) := by
  refine MetFree.of_bodySF (plainFor_of_name own_pn1) hisR ?_
  intro p e s m args below meth c s₁ Bd hml0 hP hK
  obtain ⟨rfl, hZ, hh⟩ := hP
  have hx := Bd.exec
  have hby := Bd.bytes
  have hml : c.maxLocals = 3 := hml0
  have hown : s.vm.findClass "com/example/stackyard/stackyard/app/ApplicationStateIsFinalPinLaw" = some m.cls := findClass_of_methodNamed Bd.named
  have hnm := (name_of_methodNamed Bd.named Bd.method).1
  have X0 : Stand p l e room_1 s m #[(.int p1)] below meth c s₁ [] 0 0 := Stand.of_body Bd
  have e0 : s₁.heap = h0 := by rw [← hh, Bd.state]; rfl
  have N0 := Fr.nil n0
  have K0 : Keep h0 h0 [] := Keep.refl h0 []
  show own_Fin p e below s (Q_own_rm0 Z p1 w_NEW w_NEW_SAVING w_SUBMITTED w_ACCEPTED w_RUNNING w_FINISHED w_FAILED w_KILLED h0 n0) 0 0 (s₁.setTop (entryFrame m #[(.int p1)] maxLocals))
  refine own_go (fun _ k => castTop (ef_own_rm0 m p1) k) ?_
  show own_Fin _ _ _ _ _ _ _ (s₁.setTop (mkF m 0 #[.val (.int p1), .unset, .unset] []))
  refine own_go (B := s₁.setTop (mkF m 1 #[.val (.int p1), .unset, .unset] [(.int p1)])) (fun _ k => XS.iloadN X0.here hx rfl (hb hby at_0) rfl  k) ?_
  refine own_go (B := s₁.setTop (mkF m 3 #[.val (.int p1), .unset, .unset] [(.int (7 : Int32)), (.int p1)])) (fun _ k => XS.bipush X0.here hx rfl (hb hby at_1) k) ?_
  refine own_go (B := s₁.setTop (mkF m 4 #[.val (.int p1), .unset, .unset] [(.int (p1 &&& (7 : Int32)))])) (fun _ k => XS.iand X0.here hx rfl (hb hby at_3) rfl k) ?_
  refine own_go (B := s₁.setTop (mkF m 5 #[.val (.int p1), .val (.int (p1 &&& (7 : Int32))), .unset] [])) (fun _ k => XS.istoreN X0.here hx rfl (hb hby at_4) rfl (l' := #[.val (.int p1), .val (.int (p1 &&& (7 : Int32))), .unset]) rfl k) ?_
  rcases (own_pl_rm0_1 p1) with hv1 | hv1 | hv1 | hv1 | hv1 | hv1 | hv1 | hv1
  · skip
    rw [hv1]
    show own_Fin _ _ _ _ _ _ _ (s₁.setTop (mkF m 5 #[.val (.int p1), .val (.int (0 : Int32)), .unset] []))
    refine own_go (B := s₁.setTop (mkF m 6 #[.val (.int p1), .val (.int (0 : Int32)), .unset] [(.int (0 : Int32))])) (fun _ k => XS.iloadN X0.here hx rfl (hb hby at_5) rfl  k) ?_
    obtain ⟨_, _, ⟨T2, L2, k2, n2⟩, -, X2, ⟨Lc2, hQ2, l2, y2, z2⟩, st2⟩ := Jvm.LawKit.callS X0 hx (y := (⟨"com/example/stackyard/stackyard/app/ApplicationStateIsFinalPinLaw", "pick", "(I)Lcom/example/stackyard/stackyard/app/ApplicationState;"⟩ : MethodName)) hown (mvT hZ (own_w hw 0 rfl)) (mvT hZ (own_w hw 1 rfl)) (mvT hZ (own_w hw 2 rfl)) (mvT hZ (own_w hw 3 rfl)) (by decide) (backOf (W := 0) (own_pick0 l Z a0 hw [] w_NEW h0 n0 (Nat.le_trans Z0 K0.1) P_S_com_example_stackyard_stackyard_app_ApplicationState_NEW) hZ (own_w hw 3 rfl) (own_w hw 2 rfl) (by decide) (by decide)) (g := (mkF m 6 #[.val (.int p1), .val (.int (0 : Int32)), .unset] [(.int (0 : Int32))])) rfl (by rw [hml]; rfl) (argsL := [(.int (0 : Int32))]) (rest := []) (lenOf own_pd0 rfl) rfl (by show 2 * 0 + _ ≤ _; exact Nat.le_of_eq rfl) (hb hby at_6) (fun _ _ => ⟨rfl, e0, (by decide : 0 + 0 ≤ _), (by decide : 0 + 0 ≤ _)⟩)
    dsimp only [Pt.U, Pt.locs, Pt.cells, Pt.slots] at X2 l2 y2 z2 st2 hQ2
    subst l2 y2 z2
    obtain ⟨rfl, N2q, e2⟩ := hQ2
    have N2 := Fr.app N0 N2q
    refine own_go (B := T2.setTop (mkF m 9 #[.val (.int p1), .val (.int (0 : Int32)), .unset] [(.ref w_NEW)])) st2 ?_
    refine own_go (B := T2.setTop (mkF m 10 #[.val (.int p1), .val (.int (0 : Int32)), .val (.ref w_NEW)] [])) (fun _ k => XS.astoreN X2.here hx rfl (hb hby at_9) rfl rfl (l' := #[.val (.int p1), .val (.int (0 : Int32)), .val (.ref w_NEW)]) rfl k) ?_
    refine own_go (B := T2.setTop (mkF m 11 #[.val (.int p1), .val (.int (0 : Int32)), .val (.ref w_NEW)] [(.ref w_NEW)])) (fun _ k => XS.aloadN X2.here hx rfl (hb hby at_10) rfl rfl k) ?_
    obtain ⟨cq3, kq3, q3a, q3b, q3c⟩ := isOf hZ e2 P_E_w_NEW
    obtain ⟨_, _, ⟨T3, L3, k3, n3⟩, -, X3, ⟨Lc3, hQ3, l3, y3, z3⟩, st3⟩ := X2.virtualBack hx (y := (⟨"com/example/stackyard/stackyard/app/ApplicationState", "isFinal", "()Z"⟩ : MethodName)) (z := (⟨"com/example/stackyard/stackyard/app/ApplicationState", "isFinal", "()Z"⟩ : MethodName)) hown (mvT hZ (own_w hw 7 rfl)) (mvT hZ (own_w hw 8 rfl)) (notFace_of_selects (args := #[]) (mvT hZ (own_w hw 10 rfl))) (mvT hZ (own_w hw 10 rfl)) (mvT hZ (own_w hw 9 rfl)) (by decide) (backOf (W := 0) (own_f0 l Z a0 hw [] w_NEW w_FINISHED w_FAILED w_KILLED h0 n0 (Nat.le_trans Z0 K0.1) P_S_com_example_stackyard_stackyard_app_ApplicationState_FINISHED P_S_com_example_stackyard_stackyard_app_ApplicationState_FAILED P_S_com_example_stackyard_stackyard_app_ApplicationState_KILLED ne_w_NEW_w_FINISHED ne_w_NEW_w_FAILED ne_w_NEW_w_KILLED) hZ (own_w hw 11 rfl) (own_w hw 5 rfl) (by decide) (by decide)) q3a q3c (g := (mkF m 11 #[.val (.int p1), .val (.int (0 : Int32)), .val (.ref w_NEW)] [(.ref w_NEW)])) rfl (by rw [hml]; rfl) (Steps.refl _) (argsL := []) (rest := []) (lenOf own_pd1 rfl) rfl (by show 2 * 0 + _ ≤ _; exact Nat.le_of_eq rfl) (hb hby at_11) (fun _ _ => ⟨rfl, e2, (by decide : 0 + 0 ≤ _), (by decide : 0 + 0 ≤ _)⟩)
    dsimp only [Pt.U, Pt.locs, Pt.cells, Pt.slots] at X3 l3 y3 z3 st3 hQ3
    subst l3 y3 z3
    obtain ⟨rfl, N3q, e3⟩ := hQ3
    have N3 := Fr.app N2 N3q
    refine own_go (B := T3.setTop (mkF m 14 #[.val (.int p1), .val (.int (0 : Int32)), .val (.ref w_NEW)] [(.int (0 : Int32))])) (fun _ k => st3.trans k) ?_
    refine own_go (B := T3.setTop (mkF m 15 #[.val (.int p1), .val (.int (0 : Int32)), .val (.ref w_NEW)] [(.int (0 : Int32)), (.int (0 : Int32))])) (fun _ k => XS.iloadN X3.here hx rfl (hb hby at_14) rfl  k) ?_
    obtain ⟨_, _, ⟨T4, L4, k4, n4⟩, -, X4, ⟨Lc4, hQ4, l4, y4, z4⟩, st4⟩ := Jvm.LawKit.callS X3 hx (y := (⟨"com/example/stackyard/stackyard/app/ApplicationStateIsFinalPinLaw", "expected", "(I)Z"⟩ : MethodName)) hown (mvT hZ (own_w hw 18 rfl)) (mvT hZ (own_w hw 19 rfl)) (mvT hZ (own_w hw 2 rfl)) (mvT hZ (own_w hw 20 rfl)) (by decide) (backOf (W := 1) (own_exp0 l Z a0 hw []  h0 n0 (Nat.le_trans Z0 K0.1) ) hZ (own_w hw 20 rfl) (own_w hw 2 rfl) (by decide) (by decide)) (g := (mkF m 15 #[.val (.int p1), .val (.int (0 : Int32)), .val (.ref w_NEW)] [(.int (0 : Int32)), (.int (0 : Int32))])) rfl (by rw [hml]; rfl) (argsL := [(.int (0 : Int32))]) (rest := [(.int (0 : Int32))]) (lenOf own_pd2 rfl) rfl (by show 2 * 0 + _ ≤ _; exact Nat.le_of_eq rfl) (hb hby at_15) (fun _ _ => ⟨rfl, e3, (by decide : 0 + 0 ≤ _), (by decide : 0 + 0 ≤ _)⟩)
    dsimp only [Pt.U, Pt.locs, Pt.cells, Pt.slots] at X4 l4 y4 z4 st4 hQ4
    subst l4 y4 z4
    obtain ⟨rfl, N4q, e4⟩ := hQ4
    have N4 := Fr.app N3 N4q
    refine own_go (B := T4.setTop (mkF m 18 #[.val (.int p1), .val (.int (0 : Int32)), .val (.ref w_NEW)] [(.int (0 : Int32)), (.int (0 : Int32))])) st4 ?_
    have hc5 : (0 : Int32) = (0 : Int32) := by decide
    refine own_go (B := T4.setTop (mkF m 21 #[.val (.int p1), .val (.int (0 : Int32)), .val (.ref w_NEW)] [])) (fun _ k => XS.icmpNo X4.here hx rfl (hb hby at_18) rfl (teq hc5).2 k) ?_
    refine own_go (B := T4.setTop (mkF m 22 #[.val (.int p1), .val (.int (0 : Int32)), .val (.ref w_NEW)] [(.int (1 : Int32))])) (fun _ k => XS.iconst X4.here hx rfl (hb hby at_21) k) ?_
    refine own_go (B := T4.setTop (mkF m 26 #[.val (.int p1), .val (.int (0 : Int32)), .val (.ref w_NEW)] [(.int (1 : Int32))])) (fun _ k => XS.goto X4.here hx rfl (pc0 := 22) (pc' := 26) rfl (hb hby at_22) (by decide) (by decide) k) ?_
    exact own_retN X4 hx Bd.notSynchronized (t := .boolean) (w := (1 : Int32)) Bd.returns (by simp) (hb hby at_26) e4 rfl ⟨rfl, N4, rfl⟩ (by decide) (by decide)
  · skip
    rw [hv1]
    show own_Fin _ _ _ _ _ _ _ (s₁.setTop (mkF m 5 #[.val (.int p1), .val (.int (1 : Int32)), .unset] []))
    refine own_go (B := s₁.setTop (mkF m 6 #[.val (.int p1), .val (.int (1 : Int32)), .unset] [(.int (1 : Int32))])) (fun _ k => XS.iloadN X0.here hx rfl (hb hby at_5) rfl  k) ?_
    obtain ⟨_, _, ⟨T6, L6, k6, n6⟩, -, X6, ⟨Lc6, hQ6, l6, y6, z6⟩, st6⟩ := Jvm.LawKit.callS X0 hx (y := (⟨"com/example/stackyard/stackyard/app/ApplicationStateIsFinalPinLaw", "pick", "(I)Lcom/example/stackyard/stackyard/app/ApplicationState;"⟩ : MethodName)) hown (mvT hZ (own_w hw 0 rfl)) (mvT hZ (own_w hw 1 rfl)) (mvT hZ (own_w hw 2 rfl)) (mvT hZ (own_w hw 3 rfl)) (by decide) (backOf (W := 0) (own_pick1 l Z a0 hw [] w_NEW_SAVING h0 n0 (Nat.le_trans Z0 K0.1) P_S_com_example_stackyard_stackyard_app_ApplicationState_NEW_SAVING) hZ (own_w hw 3 rfl) (own_w hw 2 rfl) (by decide) (by decide)) (g := (mkF m 6 #[.val (.int p1), .val (.int (1 : Int32)), .unset] [(.int (1 : Int32))])) rfl (by rw [hml]; rfl) (argsL := [(.int (1 : Int32))]) (rest := []) (lenOf own_pd0 rfl) rfl (by show 2 * 0 + _ ≤ _; exact Nat.le_of_eq rfl) (hb hby at_6) (fun _ _ => ⟨rfl, e0, (by decide : 0 + 0 ≤ _), (by decide : 0 + 0 ≤ _)⟩)
    dsimp only [Pt.U, Pt.locs, Pt.cells, Pt.slots] at X6 l6 y6 z6 st6 hQ6
    subst l6 y6 z6
    obtain ⟨rfl, N6q, e6⟩ := hQ6
    have N6 := Fr.app N0 N6q
    refine own_go (B := T6.setTop (mkF m 9 #[.val (.int p1), .val (.int (1 : Int32)), .unset] [(.ref w_NEW_SAVING)])) st6 ?_
    refine own_go (B := T6.setTop (mkF m 10 #[.val (.int p1), .val (.int (1 : Int32)), .val (.ref w_NEW_SAVING)] [])) (fun _ k => XS.astoreN X6.here hx rfl (hb hby at_9) rfl rfl (l' := #[.val (.int p1), .val (.int (1 : Int32)), .val (.ref w_NEW_SAVING)]) rfl k) ?_
    refine own_go (B := T6.setTop (mkF m 11 #[.val (.int p1), .val (.int (1 : Int32)), .val (.ref w_NEW_SAVING)] [(.ref w_NEW_SAVING)])) (fun _ k => XS.aloadN X6.here hx rfl (hb hby at_10) rfl rfl k) ?_
    obtain ⟨cq7, kq7, q7a, q7b, q7c⟩ := isOf hZ e6 P_E_w_NEW_SAVING
    obtain ⟨_, _, ⟨T7, L7, k7, n7⟩, -, X7, ⟨Lc7, hQ7, l7, y7, z7⟩, st7⟩ := X6.virtualBack hx (y := (⟨"com/example/stackyard/stackyard/app/ApplicationState", "isFinal", "()Z"⟩ : MethodName)) (z := (⟨"com/example/stackyard/stackyard/app/ApplicationState", "isFinal", "()Z"⟩ : MethodName)) hown (mvT hZ (own_w hw 7 rfl)) (mvT hZ (own_w hw 8 rfl)) (notFace_of_selects (args := #[]) (mvT hZ (own_w hw 10 rfl))) (mvT hZ (own_w hw 10 rfl)) (mvT hZ (own_w hw 9 rfl)) (by decide) (backOf (W := 0) (own_f0 l Z a0 hw [] w_NEW_SAVING w_FINISHED w_FAILED w_KILLED h0 n0 (Nat.le_trans Z0 K0.1) P_S_com_example_stackyard_stackyard_app_ApplicationState_FINISHED P_S_com_example_stackyard_stackyard_app_ApplicationState_FAILED P_S_com_example_stackyard_stackyard_app_ApplicationState_KILLED ne_w_NEW_SAVING_w_FINISHED ne_w_NEW_SAVING_w_FAILED ne_w_NEW_SAVING_w_KILLED) hZ (own_w hw 11 rfl) (own_w hw 5 rfl) (by decide) (by decide)) q7a q7c (g := (mkF m 11 #[.val (.int p1), .val (.int (1 : Int32)), .val (.ref w_NEW_SAVING)] [(.ref w_NEW_SAVING)])) rfl (by rw [hml]; rfl) (Steps.refl _) (argsL := []) (rest := []) (lenOf own_pd1 rfl) rfl (by show 2 * 0 + _ ≤ _; exact Nat.le_of_eq rfl) (hb hby at_11) (fun _ _ => ⟨rfl, e6, (by decide : 0 + 0 ≤ _), (by decide : 0 + 0 ≤ _)⟩)
    dsimp only [Pt.U, Pt.locs, Pt.cells, Pt.slots] at X7 l7 y7 z7 st7 hQ7
    subst l7 y7 z7
    obtain ⟨rfl, N7q, e7⟩ := hQ7
    have N7 := Fr.app N6 N7q
    refine own_go (B := T7.setTop (mkF m 14 #[.val (.int p1), .val (.int (1 : Int32)), .val (.ref w_NEW_SAVING)] [(.int (0 : Int32))])) (fun _ k => st7.trans k) ?_
    refine own_go (B := T7.setTop (mkF m 15 #[.val (.int p1), .val (.int (1 : Int32)), .val (.ref w_NEW_SAVING)] [(.int (1 : Int32)), (.int (0 : Int32))])) (fun _ k => XS.iloadN X7.here hx rfl (hb hby at_14) rfl  k) ?_
    obtain ⟨_, _, ⟨T8, L8, k8, n8⟩, -, X8, ⟨Lc8, hQ8, l8, y8, z8⟩, st8⟩ := Jvm.LawKit.callS X7 hx (y := (⟨"com/example/stackyard/stackyard/app/ApplicationStateIsFinalPinLaw", "expected", "(I)Z"⟩ : MethodName)) hown (mvT hZ (own_w hw 18 rfl)) (mvT hZ (own_w hw 19 rfl)) (mvT hZ (own_w hw 2 rfl)) (mvT hZ (own_w hw 20 rfl)) (by decide) (backOf (W := 1) (own_exp1 l Z a0 hw []  h0 n0 (Nat.le_trans Z0 K0.1) ) hZ (own_w hw 20 rfl) (own_w hw 2 rfl) (by decide) (by decide)) (g := (mkF m 15 #[.val (.int p1), .val (.int (1 : Int32)), .val (.ref w_NEW_SAVING)] [(.int (1 : Int32)), (.int (0 : Int32))])) rfl (by rw [hml]; rfl) (argsL := [(.int (1 : Int32))]) (rest := [(.int (0 : Int32))]) (lenOf own_pd2 rfl) rfl (by show 2 * 0 + _ ≤ _; exact Nat.le_of_eq rfl) (hb hby at_15) (fun _ _ => ⟨rfl, e7, (by decide : 0 + 0 ≤ _), (by decide : 0 + 0 ≤ _)⟩)
    dsimp only [Pt.U, Pt.locs, Pt.cells, Pt.slots] at X8 l8 y8 z8 st8 hQ8
    subst l8 y8 z8
    obtain ⟨rfl, N8q, e8⟩ := hQ8
    have N8 := Fr.app N7 N8q
    refine own_go (B := T8.setTop (mkF m 18 #[.val (.int p1), .val (.int (1 : Int32)), .val (.ref w_NEW_SAVING)] [(.int (0 : Int32)), (.int (0 : Int32))])) st8 ?_
    have hc9 : (0 : Int32) = (0 : Int32) := by decide
    refine own_go (B := T8.setTop (mkF m 21 #[.val (.int p1), .val (.int (1 : Int32)), .val (.ref w_NEW_SAVING)] [])) (fun _ k => XS.icmpNo X8.here hx rfl (hb hby at_18) rfl (teq hc9).2 k) ?_
    refine own_go (B := T8.setTop (mkF m 22 #[.val (.int p1), .val (.int (1 : Int32)), .val (.ref w_NEW_SAVING)] [(.int (1 : Int32))])) (fun _ k => XS.iconst X8.here hx rfl (hb hby at_21) k) ?_
    refine own_go (B := T8.setTop (mkF m 26 #[.val (.int p1), .val (.int (1 : Int32)), .val (.ref w_NEW_SAVING)] [(.int (1 : Int32))])) (fun _ k => XS.goto X8.here hx rfl (pc0 := 22) (pc' := 26) rfl (hb hby at_22) (by decide) (by decide) k) ?_
    exact own_retN X8 hx Bd.notSynchronized (t := .boolean) (w := (1 : Int32)) Bd.returns (by simp) (hb hby at_26) e8 rfl ⟨rfl, N8, rfl⟩ (by decide) (by decide)
  · skip
    rw [hv1]
    show own_Fin _ _ _ _ _ _ _ (s₁.setTop (mkF m 5 #[.val (.int p1), .val (.int (2 : Int32)), .unset] []))
    refine own_go (B := s₁.setTop (mkF m 6 #[.val (.int p1), .val (.int (2 : Int32)), .unset] [(.int (2 : Int32))])) (fun _ k => XS.iloadN X0.here hx rfl (hb hby at_5) rfl  k) ?_
    obtain ⟨_, _, ⟨T10, L10, k10, n10⟩, -, X10, ⟨Lc10, hQ10, l10, y10, z10⟩, st10⟩ := Jvm.LawKit.callS X0 hx (y := (⟨"com/example/stackyard/stackyard/app/ApplicationStateIsFinalPinLaw", "pick", "(I)Lcom/example/stackyard/stackyard/app/ApplicationState;"⟩ : MethodName)) hown (mvT hZ (own_w hw 0 rfl)) (mvT hZ (own_w hw 1 rfl)) (mvT hZ (own_w hw 2 rfl)) (mvT hZ (own_w hw 3 rfl)) (by decide) (backOf (W := 0) (own_pick2 l Z a0 hw [] w_SUBMITTED h0 n0 (Nat.le_trans Z0 K0.1) P_S_com_example_stackyard_stackyard_app_ApplicationState_SUBMITTED) hZ (own_w hw 3 rfl) (own_w hw 2 rfl) (by decide) (by decide)) (g := (mkF m 6 #[.val (.int p1), .val (.int (2 : Int32)), .unset] [(.int (2 : Int32))])) rfl (by rw [hml]; rfl) (argsL := [(.int (2 : Int32))]) (rest := []) (lenOf own_pd0 rfl) rfl (by show 2 * 0 + _ ≤ _; exact Nat.le_of_eq rfl) (hb hby at_6) (fun _ _ => ⟨rfl, e0, (by decide : 0 + 0 ≤ _), (by decide : 0 + 0 ≤ _)⟩)
    dsimp only [Pt.U, Pt.locs, Pt.cells, Pt.slots] at X10 l10 y10 z10 st10 hQ10
    subst l10 y10 z10
    obtain ⟨rfl, N10q, e10⟩ := hQ10
    have N10 := Fr.app N0 N10q
    refine own_go (B := T10.setTop (mkF m 9 #[.val (.int p1), .val (.int (2 : Int32)), .unset] [(.ref w_SUBMITTED)])) st10 ?_
    refine own_go (B := T10.setTop (mkF m 10 #[.val (.int p1), .val (.int (2 : Int32)), .val (.ref w_SUBMITTED)] [])) (fun _ k => XS.astoreN X10.here hx rfl (hb hby at_9) rfl rfl (l' := #[.val (.int p1), .val (.int (2 : Int32)), .val (.ref w_SUBMITTED)]) rfl k) ?_
    refine own_go (B := T10.setTop (mkF m 11 #[.val (.int p1), .val (.int (2 : Int32)), .val (.ref w_SUBMITTED)] [(.ref w_SUBMITTED)])) (fun _ k => XS.aloadN X10.here hx rfl (hb hby at_10) rfl rfl k) ?_
    obtain ⟨cq11, kq11, q11a, q11b, q11c⟩ := isOf hZ e10 P_E_w_SUBMITTED
    obtain ⟨_, _, ⟨T11, L11, k11, n11⟩, -, X11, ⟨Lc11, hQ11, l11, y11, z11⟩, st11⟩ := X10.virtualBack hx (y := (⟨"com/example/stackyard/stackyard/app/ApplicationState", "isFinal", "()Z"⟩ : MethodName)) (z := (⟨"com/example/stackyard/stackyard/app/ApplicationState", "isFinal", "()Z"⟩ : MethodName)) hown (mvT hZ (own_w hw 7 rfl)) (mvT hZ (own_w hw 8 rfl)) (notFace_of_selects (args := #[]) (mvT hZ (own_w hw 10 rfl))) (mvT hZ (own_w hw 10 rfl)) (mvT hZ (own_w hw 9 rfl)) (by decide) (backOf (W := 0) (own_f0 l Z a0 hw [] w_SUBMITTED w_FINISHED w_FAILED w_KILLED h0 n0 (Nat.le_trans Z0 K0.1) P_S_com_example_stackyard_stackyard_app_ApplicationState_FINISHED P_S_com_example_stackyard_stackyard_app_ApplicationState_FAILED P_S_com_example_stackyard_stackyard_app_ApplicationState_KILLED ne_w_SUBMITTED_w_FINISHED ne_w_SUBMITTED_w_FAILED ne_w_SUBMITTED_w_KILLED) hZ (own_w hw 11 rfl) (own_w hw 5 rfl) (by decide) (by decide)) q11a q11c (g := (mkF m 11 #[.val (.int p1), .val (.int (2 : Int32)), .val (.ref w_SUBMITTED)] [(.ref w_SUBMITTED)])) rfl (by rw [hml]; rfl) (Steps.refl _) (argsL := []) (rest := []) (lenOf own_pd1 rfl) rfl (by show 2 * 0 + _ ≤ _; exact Nat.le_of_eq rfl) (hb hby at_11) (fun _ _ => ⟨rfl, e10, (by decide : 0 + 0 ≤ _), (by decide : 0 + 0 ≤ _)⟩)
    dsimp only [Pt.U, Pt.locs, Pt.cells, Pt.slots] at X11 l11 y11 z11 st11 hQ11
    subst l11 y11 z11
    obtain ⟨rfl, N11q, e11⟩ := hQ11
    have N11 := Fr.app N10 N11q
    refine own_go (B := T11.setTop (mkF m 14 #[.val (.int p1), .val (.int (2 : Int32)), .val (.ref w_SUBMITTED)] [(.int (0 : Int32))])) (fun _ k => st11.trans k) ?_
    refine own_go (B := T11.setTop (mkF m 15 #[.val (.int p1), .val (.int (2 : Int32)), .val (.ref w_SUBMITTED)] [(.int (2 : Int32)), (.int (0 : Int32))])) (fun _ k => XS.iloadN X11.here hx rfl (hb hby at_14) rfl  k) ?_
    obtain ⟨_, _, ⟨T12, L12, k12, n12⟩, -, X12, ⟨Lc12, hQ12, l12, y12, z12⟩, st12⟩ := Jvm.LawKit.callS X11 hx (y := (⟨"com/example/stackyard/stackyard/app/ApplicationStateIsFinalPinLaw", "expected", "(I)Z"⟩ : MethodName)) hown (mvT hZ (own_w hw 18 rfl)) (mvT hZ (own_w hw 19 rfl)) (mvT hZ (own_w hw 2 rfl)) (mvT hZ (own_w hw 20 rfl)) (by decide) (backOf (W := 1) (own_exp2 l Z a0 hw []  h0 n0 (Nat.le_trans Z0 K0.1) ) hZ (own_w hw 20 rfl) (own_w hw 2 rfl) (by decide) (by decide)) (g := (mkF m 15 #[.val (.int p1), .val (.int (2 : Int32)), .val (.ref w_SUBMITTED)] [(.int (2 : Int32)), (.int (0 : Int32))])) rfl (by rw [hml]; rfl) (argsL := [(.int (2 : Int32))]) (rest := [(.int (0 : Int32))]) (lenOf own_pd2 rfl) rfl (by show 2 * 0 + _ ≤ _; exact Nat.le_of_eq rfl) (hb hby at_15) (fun _ _ => ⟨rfl, e11, (by decide : 0 + 0 ≤ _), (by decide : 0 + 0 ≤ _)⟩)
    dsimp only [Pt.U, Pt.locs, Pt.cells, Pt.slots] at X12 l12 y12 z12 st12 hQ12
    subst l12 y12 z12
    obtain ⟨rfl, N12q, e12⟩ := hQ12
    have N12 := Fr.app N11 N12q
    refine own_go (B := T12.setTop (mkF m 18 #[.val (.int p1), .val (.int (2 : Int32)), .val (.ref w_SUBMITTED)] [(.int (0 : Int32)), (.int (0 : Int32))])) st12 ?_
    have hc13 : (0 : Int32) = (0 : Int32) := by decide
    refine own_go (B := T12.setTop (mkF m 21 #[.val (.int p1), .val (.int (2 : Int32)), .val (.ref w_SUBMITTED)] [])) (fun _ k => XS.icmpNo X12.here hx rfl (hb hby at_18) rfl (teq hc13).2 k) ?_
    refine own_go (B := T12.setTop (mkF m 22 #[.val (.int p1), .val (.int (2 : Int32)), .val (.ref w_SUBMITTED)] [(.int (1 : Int32))])) (fun _ k => XS.iconst X12.here hx rfl (hb hby at_21) k) ?_
    refine own_go (B := T12.setTop (mkF m 26 #[.val (.int p1), .val (.int (2 : Int32)), .val (.ref w_SUBMITTED)] [(.int (1 : Int32))])) (fun _ k => XS.goto X12.here hx rfl (pc0 := 22) (pc' := 26) rfl (hb hby at_22) (by decide) (by decide) k) ?_
    exact own_retN X12 hx Bd.notSynchronized (t := .boolean) (w := (1 : Int32)) Bd.returns (by simp) (hb hby at_26) e12 rfl ⟨rfl, N12, rfl⟩ (by decide) (by decide)
  · skip
    rw [hv1]
    show own_Fin _ _ _ _ _ _ _ (s₁.setTop (mkF m 5 #[.val (.int p1), .val (.int (3 : Int32)), .unset] []))
    refine own_go (B := s₁.setTop (mkF m 6 #[.val (.int p1), .val (.int (3 : Int32)), .unset] [(.int (3 : Int32))])) (fun _ k => XS.iloadN X0.here hx rfl (hb hby at_5) rfl  k) ?_
    obtain ⟨_, _, ⟨T14, L14, k14, n14⟩, -, X14, ⟨Lc14, hQ14, l14, y14, z14⟩, st14⟩ := Jvm.LawKit.callS X0 hx (y := (⟨"com/example/stackyard/stackyard/app/ApplicationStateIsFinalPinLaw", "pick", "(I)Lcom/example/stackyard/stackyard/app/ApplicationState;"⟩ : MethodName)) hown (mvT hZ (own_w hw 0 rfl)) (mvT hZ (own_w hw 1 rfl)) (mvT hZ (own_w hw 2 rfl)) (mvT hZ (own_w hw 3 rfl)) (by decide) (backOf (W := 0) (own_pick3 l Z a0 hw [] w_ACCEPTED h0 n0 (Nat.le_trans Z0 K0.1) P_S_com_example_stackyard_stackyard_app_ApplicationState_ACCEPTED) hZ (own_w hw 3 rfl) (own_w hw 2 rfl) (by decide) (by decide)) (g := (mkF m 6 #[.val (.int p1), .val (.int (3 : Int32)), .unset] [(.int (3 : Int32))])) rfl (by rw [hml]; rfl) (argsL := [(.int (3 : Int32))]) (rest := []) (lenOf own_pd0 rfl) rfl (by show 2 * 0 + _ ≤ _; exact Nat.le_of_eq rfl) (hb hby at_6) (fun _ _ => ⟨rfl, e0, (by decide : 0 + 0 ≤ _), (by decide : 0 + 0 ≤ _)⟩)
    dsimp only [Pt.U, Pt.locs, Pt.cells, Pt.slots] at X14 l14 y14 z14 st14 hQ14
    subst l14 y14 z14
    obtain ⟨rfl, N14q, e14⟩ := hQ14
    have N14 := Fr.app N0 N14q
    refine own_go (B := T14.setTop (mkF m 9 #[.val (.int p1), .val (.int (3 : Int32)), .unset] [(.ref w_ACCEPTED)])) st14 ?_
    refine own_go (B := T14.setTop (mkF m 10 #[.val (.int p1), .val (.int (3 : Int32)), .val (.ref w_ACCEPTED)] [])) (fun _ k => XS.astoreN X14.here hx rfl (hb hby at_9) rfl rfl (l' := #[.val (.int p1), .val (.int (3 : Int32)), .val (.ref w_ACCEPTED)]) rfl k) ?_
    refine own_go (B := T14.setTop (mkF m 11 #[.val (.int p1), .val (.int (3 : Int32)), .val (.ref w_ACCEPTED)] [(.ref w_ACCEPTED)])) (fun _ k => XS.aloadN X14.here hx rfl (hb hby at_10) rfl rfl k) ?_
    obtain ⟨cq15, kq15, q15a, q15b, q15c⟩ := isOf hZ e14 P_E_w_ACCEPTED
    obtain ⟨_, _, ⟨T15, L15, k15, n15⟩, -, X15, ⟨Lc15, hQ15, l15, y15, z15⟩, st15⟩ := X14.virtualBack hx (y := (⟨"com/example/stackyard/stackyard/app/ApplicationState", "isFinal", "()Z"⟩ : MethodName)) (z := (⟨"com/example/stackyard/stackyard/app/ApplicationState", "isFinal", "()Z"⟩ : MethodName)) hown (mvT hZ (own_w hw 7 rfl)) (mvT hZ (own_w hw 8 rfl)) (notFace_of_selects (args := #[]) (mvT hZ (own_w hw 10 rfl))) (mvT hZ (own_w hw 10 rfl)) (mvT hZ (own_w hw 9 rfl)) (by decide) (backOf (W := 0) (own_f0 l Z a0 hw [] w_ACCEPTED w_FINISHED w_FAILED w_KILLED h0 n0 (Nat.le_trans Z0 K0.1) P_S_com_example_stackyard_stackyard_app_ApplicationState_FINISHED P_S_com_example_stackyard_stackyard_app_ApplicationState_FAILED P_S_com_example_stackyard_stackyard_app_ApplicationState_KILLED ne_w_ACCEPTED_w_FINISHED ne_w_ACCEPTED_w_FAILED ne_w_ACCEPTED_w_KILLED) hZ (own_w hw 11 rfl) (own_w hw 5 rfl) (by decide) (by decide)) q15a q15c (g := (mkF m 11 #[.val (.int p1), .val (.int (3 : Int32)), .val (.ref w_ACCEPTED)] [(.ref w_ACCEPTED)])) rfl (by rw [hml]; rfl) (Steps.refl _) (argsL := []) (rest := []) (lenOf own_pd1 rfl) rfl (by show 2 * 0 + _ ≤ _; exact Nat.le_of_eq rfl) (hb hby at_11) (fun _ _ => ⟨rfl, e14, (by decide : 0 + 0 ≤ _), (by decide : 0 + 0 ≤ _)⟩)
    dsimp only [Pt.U, Pt.locs, Pt.cells, Pt.slots] at X15 l15 y15 z15 st15 hQ15
    subst l15 y15 z15
    obtain ⟨rfl, N15q, e15⟩ := hQ15
    have N15 := Fr.app N14 N15q
    refine own_go (B := T15.setTop (mkF m 14 #[.val (.int p1), .val (.int (3 : Int32)), .val (.ref w_ACCEPTED)] [(.int (0 : Int32))])) (fun _ k => st15.trans k) ?_
    refine own_go (B := T15.setTop (mkF m 15 #[.val (.int p1), .val (.int (3 : Int32)), .val (.ref w_ACCEPTED)] [(.int (3 : Int32)), (.int (0 : Int32))])) (fun _ k => XS.iloadN X15.here hx rfl (hb hby at_14) rfl  k) ?_
    obtain ⟨_, _, ⟨T16, L16, k16, n16⟩, -, X16, ⟨Lc16, hQ16, l16, y16, z16⟩, st16⟩ := Jvm.LawKit.callS X15 hx (y := (⟨"com/example/stackyard/stackyard/app/ApplicationStateIsFinalPinLaw", "expected", "(I)Z"⟩ : MethodName)) hown (mvT hZ (own_w hw 18 rfl)) (mvT hZ (own_w hw 19 rfl)) (mvT hZ (own_w hw 2 rfl)) (mvT hZ (own_w hw 20 rfl)) (by decide) (backOf (W := 1) (own_exp3 l Z a0 hw []  h0 n0 (Nat.le_trans Z0 K0.1) ) hZ (own_w hw 20 rfl) (own_w hw 2 rfl) (by decide) (by decide)) (g := (mkF m 15 #[.val (.int p1), .val (.int (3 : Int32)), .val (.ref w_ACCEPTED)] [(.int (3 : Int32)), (.int (0 : Int32))])) rfl (by rw [hml]; rfl) (argsL := [(.int (3 : Int32))]) (rest := [(.int (0 : Int32))]) (lenOf own_pd2 rfl) rfl (by show 2 * 0 + _ ≤ _; exact Nat.le_of_eq rfl) (hb hby at_15) (fun _ _ => ⟨rfl, e15, (by decide : 0 + 0 ≤ _), (by decide : 0 + 0 ≤ _)⟩)
    dsimp only [Pt.U, Pt.locs, Pt.cells, Pt.slots] at X16 l16 y16 z16 st16 hQ16
    subst l16 y16 z16
    obtain ⟨rfl, N16q, e16⟩ := hQ16
    have N16 := Fr.app N15 N16q
    refine own_go (B := T16.setTop (mkF m 18 #[.val (.int p1), .val (.int (3 : Int32)), .val (.ref w_ACCEPTED)] [(.int (0 : Int32)), (.int (0 : Int32))])) st16 ?_
    have hc17 : (0 : Int32) = (0 : Int32) := by decide
    refine own_go (B := T16.setTop (mkF m 21 #[.val (.int p1), .val (.int (3 : Int32)), .val (.ref w_ACCEPTED)] [])) (fun _ k => XS.icmpNo X16.here hx rfl (hb hby at_18) rfl (teq hc17).2 k) ?_
    refine own_go (B := T16.setTop (mkF m 22 #[.val (.int p1), .val (.int (3 : Int32)), .val (.ref w_ACCEPTED)] [(.int (1 : Int32))])) (fun _ k => XS.iconst X16.here hx rfl (hb hby at_21) k) ?_
    refine own_go (B := T16.setTop (mkF m 26 #[.val (.int p1), .val (.int (3 : Int32)), .val (.ref w_ACCEPTED)] [(.int (1 : Int32))])) (fun _ k => XS.goto X16.here hx rfl (pc0 := 22) (pc' := 26) rfl (hb hby at_22) (by decide) (by decide) k) ?_
    exact own_retN X16 hx Bd.notSynchronized (t := .boolean) (w := (1 : Int32)) Bd.returns (by simp) (hb hby at_26) e16 rfl ⟨rfl, N16, rfl⟩ (by decide) (by decide)
  · skip
    rw [hv1]
    show own_Fin _ _ _ _ _ _ _ (s₁.setTop (mkF m 5 #[.val (.int p1), .val (.int (4 : Int32)), .unset] []))
    refine own_go (B := s₁.setTop (mkF m 6 #[.val (.int p1), .val (.int (4 : Int32)), .unset] [(.int (4 : Int32))])) (fun _ k => XS.iloadN X0.here hx rfl (hb hby at_5) rfl  k) ?_
    obtain ⟨_, _, ⟨T18, L18, k18, n18⟩, -, X18, ⟨Lc18, hQ18, l18, y18, z18⟩, st18⟩ := Jvm.LawKit.callS X0 hx (y := (⟨"com/example/stackyard/stackyard/app/ApplicationStateIsFinalPinLaw", "pick", "(I)Lcom/example/stackyard/stackyard/app/ApplicationState;"⟩ : MethodName)) hown (mvT hZ (own_w hw 0 rfl)) (mvT hZ (own_w hw 1 rfl)) (mvT hZ (own_w hw 2 rfl)) (mvT hZ (own_w hw 3 rfl)) (by decide) (backOf (W := 0) (own_pick4 l Z a0 hw [] w_RUNNING h0 n0 (Nat.le_trans Z0 K0.1) P_S_com_example_stackyard_stackyard_app_ApplicationState_RUNNING) hZ (own_w hw 3 rfl) (own_w hw 2 rfl) (by decide) (by decide)) (g := (mkF m 6 #[.val (.int p1), .val (.int (4 : Int32)), .unset] [(.int (4 : Int32))])) rfl (by rw [hml]; rfl) (argsL := [(.int (4 : Int32))]) (rest := []) (lenOf own_pd0 rfl) rfl (by show 2 * 0 + _ ≤ _; exact Nat.le_of_eq rfl) (hb hby at_6) (fun _ _ => ⟨rfl, e0, (by decide : 0 + 0 ≤ _), (by decide : 0 + 0 ≤ _)⟩)
    dsimp only [Pt.U, Pt.locs, Pt.cells, Pt.slots] at X18 l18 y18 z18 st18 hQ18
    subst l18 y18 z18
    obtain ⟨rfl, N18q, e18⟩ := hQ18
    have N18 := Fr.app N0 N18q
    refine own_go (B := T18.setTop (mkF m 9 #[.val (.int p1), .val (.int (4 : Int32)), .unset] [(.ref w_RUNNING)])) st18 ?_
    refine own_go (B := T18.setTop (mkF m 10 #[.val (.int p1), .val (.int (4 : Int32)), .val (.ref w_RUNNING)] [])) (fun _ k => XS.astoreN X18.here hx rfl (hb hby at_9) rfl rfl (l' := #[.val (.int p1), .val (.int (4 : Int32)), .val (.ref w_RUNNING)]) rfl k) ?_
    refine own_go (B := T18.setTop (mkF m 11 #[.val (.int p1), .val (.int (4 : Int32)), .val (.ref w_RUNNING)] [(.ref w_RUNNING)])) (fun _ k => XS.aloadN X18.here hx rfl (hb hby at_10) rfl rfl k) ?_
    obtain ⟨cq19, kq19, q19a, q19b, q19c⟩ := isOf hZ e18 P_E_w_RUNNING
    obtain ⟨_, _, ⟨T19, L19, k19, n19⟩, -, X19, ⟨Lc19, hQ19, l19, y19, z19⟩, st19⟩ := X18.virtualBack hx (y := (⟨"com/example/stackyard/stackyard/app/ApplicationState", "isFinal", "()Z"⟩ : MethodName)) (z := (⟨"com/example/stackyard/stackyard/app/ApplicationState", "isFinal", "()Z"⟩ : MethodName)) hown (mvT hZ (own_w hw 7 rfl)) (mvT hZ (own_w hw 8 rfl)) (notFace_of_selects (args := #[]) (mvT hZ (own_w hw 10 rfl))) (mvT hZ (own_w hw 10 rfl)) (mvT hZ (own_w hw 9 rfl)) (by decide) (backOf (W := 0) (own_f0 l Z a0 hw [] w_RUNNING w_FINISHED w_FAILED w_KILLED h0 n0 (Nat.le_trans Z0 K0.1) P_S_com_example_stackyard_stackyard_app_ApplicationState_FINISHED P_S_com_example_stackyard_stackyard_app_ApplicationState_FAILED P_S_com_example_stackyard_stackyard_app_ApplicationState_KILLED ne_w_RUNNING_w_FINISHED ne_w_RUNNING_w_FAILED ne_w_RUNNING_w_KILLED) hZ (own_w hw 11 rfl) (own_w hw 5 rfl) (by decide) (by decide)) q19a q19c (g := (mkF m 11 #[.val (.int p1), .val (.int (4 : Int32)), .val (.ref w_RUNNING)] [(.ref w_RUNNING)])) rfl (by rw [hml]; rfl) (Steps.refl _) (argsL := []) (rest := []) (lenOf own_pd1 rfl) rfl (by show 2 * 0 + _ ≤ _; exact Nat.le_of_eq rfl) (hb hby at_11) (fun _ _ => ⟨rfl, e18, (by decide : 0 + 0 ≤ _), (by decide : 0 + 0 ≤ _)⟩)
    dsimp only [Pt.U, Pt.locs, Pt.cells, Pt.slots] at X19 l19 y19 z19 st19 hQ19
    subst l19 y19 z19
    obtain ⟨rfl, N19q, e19⟩ := hQ19
    have N19 := Fr.app N18 N19q
    refine own_go (B := T19.setTop (mkF m 14 #[.val (.int p1), .val (.int (4 : Int32)), .val (.ref w_RUNNING)] [(.int (0 : Int32))])) (fun _ k => st19.trans k) ?_
    refine own_go (B := T19.setTop (mkF m 15 #[.val (.int p1), .val (.int (4 : Int32)), .val (.ref w_RUNNING)] [(.int (4 : Int32)), (.int (0 : Int32))])) (fun _ k => XS.iloadN X19.here hx rfl (hb hby at_14) rfl  k) ?_
    obtain ⟨_, _, ⟨T20, L20, k20, n20⟩, -, X20, ⟨Lc20, hQ20, l20, y20, z20⟩, st20⟩ := Jvm.LawKit.callS X19 hx (y := (⟨"com/example/stackyard/stackyard/app/ApplicationStateIsFinalPinLaw", "expected", "(I)Z"⟩ : MethodName)) hown (mvT hZ (own_w hw 18 rfl)) (mvT hZ (own_w hw 19 rfl)) (mvT hZ (own_w hw 2 rfl)) (mvT hZ (own_w hw 20 rfl)) (by decide) (backOf (W := 1) (own_exp4 l Z a0 hw []  h0 n0 (Nat.le_trans Z0 K0.1) ) hZ (own_w hw 20 rfl) (own_w hw 2 rfl) (by decide) (by decide)) (g := (mkF m 15 #[.val (.int p1), .val (.int (4 : Int32)), .val (.ref w_RUNNING)] [(.int (4 : Int32)), (.int (0 : Int32))])) rfl (by rw [hml]; rfl) (argsL := [(.int (4 : Int32))]) (rest := [(.int (0 : Int32))]) (lenOf own_pd2 rfl) rfl (by show 2 * 0 + _ ≤ _; exact Nat.le_of_eq rfl) (hb hby at_15) (fun _ _ => ⟨rfl, e19, (by decide : 0 + 0 ≤ _), (by decide : 0 + 0 ≤ _)⟩)
    dsimp only [Pt.U, Pt.locs, Pt.cells, Pt.slots] at X20 l20 y20 z20 st20 hQ20
    subst l20 y20 z20
    obtain ⟨rfl, N20q, e20⟩ := hQ20
    have N20 := Fr.app N19 N20q
    refine own_go (B := T20.setTop (mkF m 18 #[.val (.int p1), .val (.int (4 : Int32)), .val (.ref w_RUNNING)] [(.int (0 : Int32)), (.int (0 : Int32))])) st20 ?_
    have hc21 : (0 : Int32) = (0 : Int32) := by decide
    refine own_go (B := T20.setTop (mkF m 21 #[.val (.int p1), .val (.int (4 : Int32)), .val (.ref w_RUNNING)] [])) (fun _ k => XS.icmpNo X20.here hx rfl (hb hby at_18) rfl (teq hc21).2 k) ?_
    refine own_go (B := T20.setTop (mkF m 22 #[.val (.int p1), .val (.int (4 : Int32)), .val (.ref w_RUNNING)] [(.int (1 : Int32))])) (fun _ k => XS.iconst X20.here hx rfl (hb hby at_21) k) ?_
    refine own_go (B := T20.setTop (mkF m 26 #[.val (.int p1), .val (.int (4 : Int32)), .val (.ref w_RUNNING)] [(.int (1 : Int32))])) (fun _ k => XS.goto X20.here hx rfl (pc0 := 22) (pc' := 26) rfl (hb hby at_22) (by decide) (by decide) k) ?_
    exact own_retN X20 hx Bd.notSynchronized (t := .boolean) (w := (1 : Int32)) Bd.returns (by simp) (hb hby at_26) e20 rfl ⟨rfl, N20, rfl⟩ (by decide) (by decide)
  · skip
    rw [hv1]
    show own_Fin _ _ _ _ _ _ _ (s₁.setTop (mkF m 5 #[.val (.int p1), .val (.int (5 : Int32)), .unset] []))
    refine own_go (B := s₁.setTop (mkF m 6 #[.val (.int p1), .val (.int (5 : Int32)), .unset] [(.int (5 : Int32))])) (fun _ k => XS.iloadN X0.here hx rfl (hb hby at_5) rfl  k) ?_
    obtain ⟨_, _, ⟨T22, L22, k22, n22⟩, -, X22, ⟨Lc22, hQ22, l22, y22, z22⟩, st22⟩ := Jvm.LawKit.callS X0 hx (y := (⟨"com/example/stackyard/stackyard/app/ApplicationStateIsFinalPinLaw", "pick", "(I)Lcom/example/stackyard/stackyard/app/ApplicationState;"⟩ : MethodName)) hown (mvT hZ (own_w hw 0 rfl)) (mvT hZ (own_w hw 1 rfl)) (mvT hZ (own_w hw 2 rfl)) (mvT hZ (own_w hw 3 rfl)) (by decide) (backOf (W := 0) (own_pick5 l Z a0 hw [] w_FINISHED h0 n0 (Nat.le_trans Z0 K0.1) P_S_com_example_stackyard_stackyard_app_ApplicationState_FINISHED) hZ (own_w hw 3 rfl) (own_w hw 2 rfl) (by decide) (by decide)) (g := (mkF m 6 #[.val (.int p1), .val (.int (5 : Int32)), .unset] [(.int (5 : Int32))])) rfl (by rw [hml]; rfl) (argsL := [(.int (5 : Int32))]) (rest := []) (lenOf own_pd0 rfl) rfl (by show 2 * 0 + _ ≤ _; exact Nat.le_of_eq rfl) (hb hby at_6) (fun _ _ => ⟨rfl, e0, (by decide : 0 + 0 ≤ _), (by decide : 0 + 0 ≤ _)⟩)
    dsimp only [Pt.U, Pt.locs, Pt.cells, Pt.slots] at X22 l22 y22 z22 st22 hQ22
    subst l22 y22 z22
    obtain ⟨rfl, N22q, e22⟩ := hQ22
    have N22 := Fr.app N0 N22q
    refine own_go (B := T22.setTop (mkF m 9 #[.val (.int p1), .val (.int (5 : Int32)), .unset] [(.ref w_FINISHED)])) st22 ?_
    refine own_go (B := T22.setTop (mkF m 10 #[.val (.int p1), .val (.int (5 : Int32)), .val (.ref w_FINISHED)] [])) (fun _ k => XS.astoreN X22.here hx rfl (hb hby at_9) rfl rfl (l' := #[.val (.int p1), .val (.int (5 : Int32)), .val (.ref w_FINISHED)]) rfl k) ?_
    refine own_go (B := T22.setTop (mkF m 11 #[.val (.int p1), .val (.int (5 : Int32)), .val (.ref w_FINISHED)] [(.ref w_FINISHED)])) (fun _ k => XS.aloadN X22.here hx rfl (hb hby at_10) rfl rfl k) ?_
    obtain ⟨cq23, kq23, q23a, q23b, q23c⟩ := isOf hZ e22 P_E_w_FINISHED
    obtain ⟨_, _, ⟨T23, L23, k23, n23⟩, -, X23, ⟨Lc23, hQ23, l23, y23, z23⟩, st23⟩ := X22.virtualBack hx (y := (⟨"com/example/stackyard/stackyard/app/ApplicationState", "isFinal", "()Z"⟩ : MethodName)) (z := (⟨"com/example/stackyard/stackyard/app/ApplicationState", "isFinal", "()Z"⟩ : MethodName)) hown (mvT hZ (own_w hw 7 rfl)) (mvT hZ (own_w hw 8 rfl)) (notFace_of_selects (args := #[]) (mvT hZ (own_w hw 10 rfl))) (mvT hZ (own_w hw 10 rfl)) (mvT hZ (own_w hw 9 rfl)) (by decide) (backOf (W := 0) (own_f_FINISHED l Z a0 hw [] w_FINISHED h0 n0 (Nat.le_trans Z0 K0.1) P_S_com_example_stackyard_stackyard_app_ApplicationState_FINISHED) hZ (own_w hw 11 rfl) (own_w hw 5 rfl) (by decide) (by decide)) q23a q23c (g := (mkF m 11 #[.val (.int p1), .val (.int (5 : Int32)), .val (.ref w_FINISHED)] [(.ref w_FINISHED)])) rfl (by rw [hml]; rfl) (Steps.refl _) (argsL := []) (rest := []) (lenOf own_pd1 rfl) rfl (by show 2 * 0 + _ ≤ _; exact Nat.le_of_eq rfl) (hb hby at_11) (fun _ _ => ⟨rfl, e22, (by decide : 0 + 0 ≤ _), (by decide : 0 + 0 ≤ _)⟩)
    dsimp only [Pt.U, Pt.locs, Pt.cells, Pt.slots] at X23 l23 y23 z23 st23 hQ23
    subst l23 y23 z23
    obtain ⟨rfl, N23q, e23⟩ := hQ23
    have N23 := Fr.app N22 N23q
    refine own_go (B := T23.setTop (mkF m 14 #[.val (.int p1), .val (.int (5 : Int32)), .val (.ref w_FINISHED)] [(.int (1 : Int32))])) (fun _ k => st23.trans k) ?_
    refine own_go (B := T23.setTop (mkF m 15 #[.val (.int p1), .val (.int (5 : Int32)), .val (.ref w_FINISHED)] [(.int (5 : Int32)), (.int (1 : Int32))])) (fun _ k => XS.iloadN X23.here hx rfl (hb hby at_14) rfl  k) ?_
    obtain ⟨_, _, ⟨T24, L24, k24, n24⟩, -, X24, ⟨Lc24, hQ24, l24, y24, z24⟩, st24⟩ := Jvm.LawKit.callS X23 hx (y := (⟨"com/example/stackyard/stackyard/app/ApplicationStateIsFinalPinLaw", "expected", "(I)Z"⟩ : MethodName)) hown (mvT hZ (own_w hw 18 rfl)) (mvT hZ (own_w hw 19 rfl)) (mvT hZ (own_w hw 2 rfl)) (mvT hZ (own_w hw 20 rfl)) (by decide) (backOf (W := 1) (own_exp5 l Z a0 hw []  h0 n0 (Nat.le_trans Z0 K0.1) ) hZ (own_w hw 20 rfl) (own_w hw 2 rfl) (by decide) (by decide)) (g := (mkF m 15 #[.val (.int p1), .val (.int (5 : Int32)), .val (.ref w_FINISHED)] [(.int (5 : Int32)), (.int (1 : Int32))])) rfl (by rw [hml]; rfl) (argsL := [(.int (5 : Int32))]) (rest := [(.int (1 : Int32))]) (lenOf own_pd2 rfl) rfl (by show 2 * 0 + _ ≤ _; exact Nat.le_of_eq rfl) (hb hby at_15) (fun _ _ => ⟨rfl, e23, (by decide : 0 + 0 ≤ _), (by decide : 0 + 0 ≤ _)⟩)
    dsimp only [Pt.U, Pt.locs, Pt.cells, Pt.slots] at X24 l24 y24 z24 st24 hQ24
    subst l24 y24 z24
    obtain ⟨rfl, N24q, e24⟩ := hQ24
    have N24 := Fr.app N23 N24q
    refine own_go (B := T24.setTop (mkF m 18 #[.val (.int p1), .val (.int (5 : Int32)), .val (.ref w_FINISHED)] [(.int (1 : Int32)), (.int (1 : Int32))])) st24 ?_
    have hc25 : (1 : Int32) = (1 : Int32) := by decide
    refine own_go (B := T24.setTop (mkF m 21 #[.val (.int p1), .val (.int (5 : Int32)), .val (.ref w_FINISHED)] [])) (fun _ k => XS.icmpNo X24.here hx rfl (hb hby at_18) rfl (teq hc25).2 k) ?_
    refine own_go (B := T24.setTop (mkF m 22 #[.val (.int p1), .val (.int (5 : Int32)), .val (.ref w_FINISHED)] [(.int (1 : Int32))])) (fun _ k => XS.iconst X24.here hx rfl (hb hby at_21) k) ?_
    refine own_go (B := T24.setTop (mkF m 26 #[.val (.int p1), .val (.int (5 : Int32)), .val (.ref w_FINISHED)] [(.int (1 : Int32))])) (fun _ k => XS.goto X24.here hx rfl (pc0 := 22) (pc' := 26) rfl (hb hby at_22) (by decide) (by decide) k) ?_
    exact own_retN X24 hx Bd.notSynchronized (t := .boolean) (w := (1 : Int32)) Bd.returns (by simp) (hb hby at_26) e24 rfl ⟨rfl, N24, rfl⟩ (by decide) (by decide)
  · skip
    rw [hv1]
    show own_Fin _ _ _ _ _ _ _ (s₁.setTop (mkF m 5 #[.val (.int p1), .val (.int (6 : Int32)), .unset] []))
    refine own_go (B := s₁.setTop (mkF m 6 #[.val (.int p1), .val (.int (6 : Int32)), .unset] [(.int (6 : Int32))])) (fun _ k => XS.iloadN X0.here hx rfl (hb hby at_5) rfl  k) ?_
    obtain ⟨_, _, ⟨T26, L26, k26, n26⟩, -, X26, ⟨Lc26, hQ26, l26, y26, z26⟩, st26⟩ := Jvm.LawKit.callS X0 hx (y := (⟨"com/example/stackyard/stackyard/app/ApplicationStateIsFinalPinLaw", "pick", "(I)Lcom/example/stackyard/stackyard/app/ApplicationState;"⟩ : MethodName)) hown (mvT hZ (own_w hw 0 rfl)) (mvT hZ (own_w hw 1 rfl)) (mvT hZ (own_w hw 2 rfl)) (mvT hZ (own_w hw 3 rfl)) (by decide) (backOf (W := 0) (own_pick6 l Z a0 hw [] w_FAILED h0 n0 (Nat.le_trans Z0 K0.1) P_S_com_example_stackyard_stackyard_app_ApplicationState_FAILED) hZ (own_w hw 3 rfl) (own_w hw 2 rfl) (by decide) (by decide)) (g := (mkF m 6 #[.val (.int p1), .val (.int (6 : Int32)), .unset] [(.int (6 : Int32))])) rfl (by rw [hml]; rfl) (argsL := [(.int (6 : Int32))]) (rest := []) (lenOf own_pd0 rfl) rfl (by show 2 * 0 + _ ≤ _; exact Nat.le_of_eq rfl) (hb hby at_6) (fun _ _ => ⟨rfl, e0, (by decide : 0 + 0 ≤ _), (by decide : 0 + 0 ≤ _)⟩)
    dsimp only [Pt.U, Pt.locs, Pt.cells, Pt.slots] at X26 l26 y26 z26 st26 hQ26
    subst l26 y26 z26
    obtain ⟨rfl, N26q, e26⟩ := hQ26
    have N26 := Fr.app N0 N26q
    refine own_go (B := T26.setTop (mkF m 9 #[.val (.int p1), .val (.int (6 : Int32)), .unset] [(.ref w_FAILED)])) st26 ?_
    refine own_go (B := T26.setTop (mkF m 10 #[.val (.int p1), .val (.int (6 : Int32)), .val (.ref w_FAILED)] [])) (fun _ k => XS.astoreN X26.here hx rfl (hb hby at_9) rfl rfl (l' := #[.val (.int p1), .val (.int (6 : Int32)), .val (.ref w_FAILED)]) rfl k) ?_
    refine own_go (B := T26.setTop (mkF m 11 #[.val (.int p1), .val (.int (6 : Int32)), .val (.ref w_FAILED)] [(.ref w_FAILED)])) (fun _ k => XS.aloadN X26.here hx rfl (hb hby at_10) rfl rfl k) ?_
    obtain ⟨cq27, kq27, q27a, q27b, q27c⟩ := isOf hZ e26 P_E_w_FAILED
    obtain ⟨_, _, ⟨T27, L27, k27, n27⟩, -, X27, ⟨Lc27, hQ27, l27, y27, z27⟩, st27⟩ := X26.virtualBack hx (y := (⟨"com/example/stackyard/stackyard/app/ApplicationState", "isFinal", "()Z"⟩ : MethodName)) (z := (⟨"com/example/stackyard/stackyard/app/ApplicationState", "isFinal", "()Z"⟩ : MethodName)) hown (mvT hZ (own_w hw 7 rfl)) (mvT hZ (own_w hw 8 rfl)) (notFace_of_selects (args := #[]) (mvT hZ (own_w hw 10 rfl))) (mvT hZ (own_w hw 10 rfl)) (mvT hZ (own_w hw 9 rfl)) (by decide) (backOf (W := 0) (own_f_FAILED l Z a0 hw [] w_FINISHED w_FAILED h0 n0 (Nat.le_trans Z0 K0.1) P_S_com_example_stackyard_stackyard_app_ApplicationState_FINISHED P_S_com_example_stackyard_stackyard_app_ApplicationState_FAILED ne_w_FAILED_w_FINISHED) hZ (own_w hw 11 rfl) (own_w hw 5 rfl) (by decide) (by decide)) q27a q27c (g := (mkF m 11 #[.val (.int p1), .val (.int (6 : Int32)), .val (.ref w_FAILED)] [(.ref w_FAILED)])) rfl (by rw [hml]; rfl) (Steps.refl _) (argsL := []) (rest := []) (lenOf own_pd1 rfl) rfl (by show 2 * 0 + _ ≤ _; exact Nat.le_of_eq rfl) (hb hby at_11) (fun _ _ => ⟨rfl, e26, (by decide : 0 + 0 ≤ _), (by decide : 0 + 0 ≤ _)⟩)
    dsimp only [Pt.U, Pt.locs, Pt.cells, Pt.slots] at X27 l27 y27 z27 st27 hQ27
    subst l27 y27 z27
    obtain ⟨rfl, N27q, e27⟩ := hQ27
    have N27 := Fr.app N26 N27q
    refine own_go (B := T27.setTop (mkF m 14 #[.val (.int p1), .val (.int (6 : Int32)), .val (.ref w_FAILED)] [(.int (1 : Int32))])) (fun _ k => st27.trans k) ?_
    refine own_go (B := T27.setTop (mkF m 15 #[.val (.int p1), .val (.int (6 : Int32)), .val (.ref w_FAILED)] [(.int (6 : Int32)), (.int (1 : Int32))])) (fun _ k => XS.iloadN X27.here hx rfl (hb hby at_14) rfl  k) ?_
    obtain ⟨_, _, ⟨T28, L28, k28, n28⟩, -, X28, ⟨Lc28, hQ28, l28, y28, z28⟩, st28⟩ := Jvm.LawKit.callS X27 hx (y := (⟨"com/example/stackyard/stackyard/app/ApplicationStateIsFinalPinLaw", "expected", "(I)Z"⟩ : MethodName)) hown (mvT hZ (own_w hw 18 rfl)) (mvT hZ (own_w hw 19 rfl)) (mvT hZ (own_w hw 2 rfl)) (mvT hZ (own_w hw 20 rfl)) (by decide) (backOf (W := 1) (own_exp6 l Z a0 hw []  h0 n0 (Nat.le_trans Z0 K0.1) ) hZ (own_w hw 20 rfl) (own_w hw 2 rfl) (by decide) (by decide)) (g := (mkF m 15 #[.val (.int p1), .val (.int (6 : Int32)), .val (.ref w_FAILED)] [(.int (6 : Int32)), (.int (1 : Int32))])) rfl (by rw [hml]; rfl) (argsL := [(.int (6 : Int32))]) (rest := [(.int (1 : Int32))]) (lenOf own_pd2 rfl) rfl (by show 2 * 0 + _ ≤ _; exact Nat.le_of_eq rfl) (hb hby at_15) (fun _ _ => ⟨rfl, e27, (by decide : 0 + 0 ≤ _), (by decide : 0 + 0 ≤ _)⟩)
    dsimp only [Pt.U, Pt.locs, Pt.cells, Pt.slots] at X28 l28 y28 z28 st28 hQ28
    subst l28 y28 z28
    obtain ⟨rfl, N28q, e28⟩ := hQ28
    have N28 := Fr.app N27 N28q
    refine own_go (B := T28.setTop (mkF m 18 #[.val (.int p1), .val (.int (6 : Int32)), .val (.ref w_FAILED)] [(.int (1 : Int32)), (.int (1 : Int32))])) st28 ?_
    have hc29 : (1 : Int32) = (1 : Int32) := by decide
    refine own_go (B := T28.setTop (mkF m 21 #[.val (.int p1), .val (.int (6 : Int32)), .val (.ref w_FAILED)] [])) (fun _ k => XS.icmpNo X28.here hx rfl (hb hby at_18) rfl (teq hc29).2 k) ?_
    refine own_go (B := T28.setTop (mkF m 22 #[.val (.int p1), .val (.int (6 : Int32)), .val (.ref w_FAILED)] [(.int (1 : Int32))])) (fun _ k => XS.iconst X28.here hx rfl (hb hby at_21) k) ?_
    refine own_go (B := T28.setTop (mkF m 26 #[.val (.int p1), .val (.int (6 : Int32)), .val (.ref w_FAILED)] [(.int (1 : Int32))])) (fun _ k => XS.goto X28.here hx rfl (pc0 := 22) (pc' := 26) rfl (hb hby at_22) (by decide) (by decide) k) ?_
    exact own_retN X28 hx Bd.notSynchronized (t := .boolean) (w := (1 : Int32)) Bd.returns (by simp) (hb hby at_26) e28 rfl ⟨rfl, N28, rfl⟩ (by decide) (by decide)
  · skip
    rw [hv1]
    show own_Fin _ _ _ _ _ _ _ (s₁.setTop (mkF m 5 #[.val (.int p1), .val (.int (7 : Int32)), .unset] []))
    refine own_go (B := s₁.setTop (mkF m 6 #[.val (.int p1), .val (.int (7 : Int32)), .unset] [(.int (7 : Int32))])) (fun _ k => XS.iloadN X0.here hx rfl (hb hby at_5) rfl  k) ?_
    obtain ⟨_, _, ⟨T30, L30, k30, n30⟩, -, X30, ⟨Lc30, hQ30, l30, y30, z30⟩, st30⟩ := Jvm.LawKit.callS X0 hx (y := (⟨"com/example/stackyard/stackyard/app/ApplicationStateIsFinalPinLaw", "pick", "(I)Lcom/example/stackyard/stackyard/app/ApplicationState;"⟩ : MethodName)) hown (mvT hZ (own_w hw 0 rfl)) (mvT hZ (own_w hw 1 rfl)) (mvT hZ (own_w hw 2 rfl)) (mvT hZ (own_w hw 3 rfl)) (by decide) (backOf (W := 0) (own_pick7 l Z a0 hw [] w_KILLED h0 n0 (Nat.le_trans Z0 K0.1) P_S_com_example_stackyard_stackyard_app_ApplicationState_KILLED) hZ (own_w hw 3 rfl) (own_w hw 2 rfl) (by decide) (by decide)) (g := (mkF m 6 #[.val (.int p1), .val (.int (7 : Int32)), .unset] [(.int (7 : Int32))])) rfl (by rw [hml]; rfl) (argsL := [(.int (7 : Int32))]) (rest := []) (lenOf own_pd0 rfl) rfl (by show 2 * 0 + _ ≤ _; exact Nat.le_of_eq rfl) (hb hby at_6) (fun _ _ => ⟨rfl, e0, (by decide : 0 + 0 ≤ _), (by decide : 0 + 0 ≤ _)⟩)
    dsimp only [Pt.U, Pt.locs, Pt.cells, Pt.slots] at X30 l30 y30 z30 st30 hQ30
    subst l30 y30 z30
    obtain ⟨rfl, N30q, e30⟩ := hQ30
    have N30 := Fr.app N0 N30q
    refine own_go (B := T30.setTop (mkF m 9 #[.val (.int p1), .val (.int (7 : Int32)), .unset] [(.ref w_KILLED)])) st30 ?_
    refine own_go (B := T30.setTop (mkF m 10 #[.val (.int p1), .val (.int (7 : Int32)), .val (.ref w_KILLED)] [])) (fun _ k => XS.astoreN X30.here hx rfl (hb hby at_9) rfl rfl (l' := #[.val (.int p1), .val (.int (7 : Int32)), .val (.ref w_KILLED)]) rfl k) ?_
    refine own_go (B := T30.setTop (mkF m 11 #[.val (.int p1), .val (.int (7 : Int32)), .val (.ref w_KILLED)] [(.ref w_KILLED)])) (fun _ k => XS.aloadN X30.here hx rfl (hb hby at_10) rfl rfl k) ?_
    obtain ⟨cq31, kq31, q31a, q31b, q31c⟩ := isOf hZ e30 P_E_w_KILLED
    obtain ⟨_, _, ⟨T31, L31, k31, n31⟩, -, X31, ⟨Lc31, hQ31, l31, y31, z31⟩, st31⟩ := X30.virtualBack hx (y := (⟨"com/example/stackyard/stackyard/app/ApplicationState", "isFinal", "()Z"⟩ : MethodName)) (z := (⟨"com/example/stackyard/stackyard/app/ApplicationState", "isFinal", "()Z"⟩ : MethodName)) hown (mvT hZ (own_w hw 7 rfl)) (mvT hZ (own_w hw 8 rfl)) (notFace_of_selects (args := #[]) (mvT hZ (own_w hw 10 rfl))) (mvT hZ (own_w hw 10 rfl)) (mvT hZ (own_w hw 9 rfl)) (by decide) (backOf (W := 0) (own_f_KILLED l Z a0 hw [] w_FINISHED w_FAILED w_KILLED h0 n0 (Nat.le_trans Z0 K0.1) P_S_com_example_stackyard_stackyard_app_ApplicationState_FINISHED P_S_com_example_stackyard_stackyard_app_ApplicationState_FAILED P_S_com_example_stackyard_stackyard_app_ApplicationState_KILLED ne_w_KILLED_w_FINISHED ne_w_KILLED_w_FAILED) hZ (own_w hw 11 rfl) (own_w hw 5 rfl) (by decide) (by decide)) q31a q31c (g := (mkF m 11 #[.val (.int p1), .val (.int (7 : Int32)), .val (.ref w_KILLED)] [(.ref w_KILLED)])) rfl (by rw [hml]; rfl) (Steps.refl _) (argsL := []) (rest := []) (lenOf own_pd1 rfl) rfl (by show 2 * 0 + _ ≤ _; exact Nat.le_of_eq rfl) (hb hby at_11) (fun _ _ => ⟨rfl, e30, (by decide : 0 + 0 ≤ _), (by decide : 0 + 0 ≤ _)⟩)
    dsimp only [Pt.U, Pt.locs, Pt.cells, Pt.slots] at X31 l31 y31 z31 st31 hQ31
    subst l31 y31 z31
    obtain ⟨rfl, N31q, e31⟩ := hQ31
    have N31 := Fr.app N30 N31q
    refine own_go (B := T31.setTop (mkF m 14 #[.val (.int p1), .val (.int (7 : Int32)), .val (.ref w_KILLED)] [(.int (1 : Int32))])) (fun _ k => st31.trans k) ?_
    refine own_go (B := T31.setTop (mkF m 15 #[.val (.int p1), .val (.int (7 : Int32)), .val (.ref w_KILLED)] [(.int (7 : Int32)), (.int (1 : Int32))])) (fun _ k => XS.iloadN X31.here hx rfl (hb hby at_14) rfl  k) ?_
    obtain ⟨_, _, ⟨T32, L32, k32, n32⟩, -, X32, ⟨Lc32, hQ32, l32, y32, z32⟩, st32⟩ := Jvm.LawKit.callS X31 hx (y := (⟨"com/example/stackyard/stackyard/app/ApplicationStateIsFinalPinLaw", "expected", "(I)Z"⟩ : MethodName)) hown (mvT hZ (own_w hw 18 rfl)) (mvT hZ (own_w hw 19 rfl)) (mvT hZ (own_w hw 2 rfl)) (mvT hZ (own_w hw 20 rfl)) (by decide) (backOf (W := 1) (own_exp7 l Z a0 hw []  h0 n0 (Nat.le_trans Z0 K0.1) ) hZ (own_w hw 20 rfl) (own_w hw 2 rfl) (by decide) (by decide)) (g := (mkF m 15 #[.val (.int p1), .val (.int (7 : Int32)), .val (.ref w_KILLED)] [(.int (7 : Int32)), (.int (1 : Int32))])) rfl (by rw [hml]; rfl) (argsL := [(.int (7 : Int32))]) (rest := [(.int (1 : Int32))]) (lenOf own_pd2 rfl) rfl (by show 2 * 0 + _ ≤ _; exact Nat.le_of_eq rfl) (hb hby at_15) (fun _ _ => ⟨rfl, e31, (by decide : 0 + 0 ≤ _), (by decide : 0 + 0 ≤ _)⟩)
    dsimp only [Pt.U, Pt.locs, Pt.cells, Pt.slots] at X32 l32 y32 z32 st32 hQ32
    subst l32 y32 z32
    obtain ⟨rfl, N32q, e32⟩ := hQ32
    have N32 := Fr.app N31 N32q
    refine own_go (B := T32.setTop (mkF m 18 #[.val (.int p1), .val (.int (7 : Int32)), .val (.ref w_KILLED)] [(.int (1 : Int32)), (.int (1 : Int32))])) st32 ?_
    have hc33 : (1 : Int32) = (1 : Int32) := by decide
    refine own_go (B := T32.setTop (mkF m 21 #[.val (.int p1), .val (.int (7 : Int32)), .val (.ref w_KILLED)] [])) (fun _ k => XS.icmpNo X32.here hx rfl (hb hby at_18) rfl (teq hc33).2 k) ?_
    refine own_go (B := T32.setTop (mkF m 22 #[.val (.int p1), .val (.int (7 : Int32)), .val (.ref w_KILLED)] [(.int (1 : Int32))])) (fun _ k => XS.iconst X32.here hx rfl (hb hby at_21) k) ?_
    refine own_go (B := T32.setTop (mkF m 26 #[.val (.int p1), .val (.int (7 : Int32)), .val (.ref w_KILLED)] [(.int (1 : Int32))])) (fun _ k => XS.goto X32.here hx rfl (pc0 := 22) (pc' := 26) rfl (hb hby at_22) (by decide) (by decide) k) ?_
    exact own_retN X32 hx Bd.notSynchronized (t := .boolean) (w := (1 : Int32)) Bd.returns (by simp) (hb hby at_26) e32 rfl ⟨rfl, N32, rfl⟩ (by decide) (by decide)
set_option maxRecDepth 65536 in
set_option maxHeartbeats 40000000 in
theorem comes_1 {Post : Tables → Env → Array Value → State → Outcome → State → Prop} (hpost : ∀ tb e args s v u, (limb_1_1.after args s (.returned v) u = true ∧ limb_1_2.after args s (.returned v) u = true ∧ True) → FrameEnd s (.returned v) u (Jvm.fieldLocs frame_1_writes args s ++ Jvm.arrayLocs frame_1_arrays args s ++ Jvm.staticLocs frame_1_statics s) 0 0 → Post tb e args s (.returned v) u) :
    ArmFor flags0 classFile x code maxLocals ret World_1 tables_1 room_1 Calls_1 rest_1 Pre_1 Post := by
  intro l hfl _ _ p e ha hc hk s m args below hf hA hF happ hP
  obtain ⟨hcalls, hrest, hpre⟩ := hP
  obtain ⟨-, -, -, hnamed, -, -, -, hat⟩ := (Spec.applies_iff hf).mp happ
  obtain ⟨hg, hn⟩ := and_e (Cond.before_iff.mp (show (Jvm.Cond.and given_1 narrow_1).before args s = true from hpre))
  obtain ⟨gg1, gg2⟩ := and_e hg
  obtain ⟨w0, rfl⟩ : ∃ w0 : Value, args = #[w0] := by
    have hs : args.size = 1 := by simpa [Cond.value, given_1] using gg1
    obtain ⟨L⟩ := args
    match L, hs with
    | [w0], _ => exact ⟨w0, rfl⟩
  have hw := fun d (hd : d ∈ tables_1) => atoms_spec (ws := Jvm.Cond.code x code maxLocals ret :: tables_1) hat d (List.mem_cons_of_mem _ hd)
  have hfit : Fit s := fun {y c} hc i hi => by
    obtain ⟨ha, rfl⟩ := Array.getElem?_eq_some_iff.mp hc
    have q := List.all_eq_true.mp ((Array.all_eq_true_iff_forall_mem.mp hF) _ (Array.getElem_mem ha)) i (List.mem_range.mpr hi)
    simpa [Array.getElem?_eq_getElem hi] using q
  obtain ⟨i0, ei0⟩ := is_v gg2
  obtain rfl : w0 = (.int i0) := Option.some.inj ei0
  obtain ⟨nn1, nn2⟩ := and_e hn
  obtain ⟨nn3, nn4⟩ := and_e nn2
  obtain ⟨nn5, nn6⟩ := and_e nn4
  obtain ⟨nn7, nn8⟩ := and_e nn6
  obtain ⟨nn9, nn10⟩ := and_e nn8
  obtain ⟨nn11, nn12⟩ := and_e nn10
  obtain ⟨nn13, nn14⟩ := and_e nn12
  obtain ⟨nn15, nn16⟩ := and_e nn14
  obtain ⟨nn17, nn18⟩ := and_e nn16
  obtain ⟨nn19, nn20⟩ := and_e nn18
  obtain ⟨nn21, nn22⟩ := and_e nn20
  obtain ⟨nn23, nn24⟩ := and_e nn22
  obtain ⟨nn25, nn26⟩ := and_e nn24
  obtain ⟨nn27, nn28⟩ := and_e nn26
  obtain ⟨nn29, nn30⟩ := and_e nn28
  obtain ⟨w_NEW, S_NEW, E_NEW, O_NEW⟩ := own_enum nn1 nn5 (own_w hw 5 rfl) (own_w hw 6 rfl)
  obtain ⟨w_NEW_SAVING, S_NEW_SAVING, E_NEW_SAVING, O_NEW_SAVING⟩ := own_enum nn25 nn27 (own_w hw 5 rfl) (own_w hw 28 rfl)
  obtain ⟨w_SUBMITTED, S_SUBMITTED, E_SUBMITTED, O_SUBMITTED⟩ := own_enum nn21 nn23 (own_w hw 5 rfl) (own_w hw 26 rfl)
  obtain ⟨w_ACCEPTED, S_ACCEPTED, E_ACCEPTED, O_ACCEPTED⟩ := own_enum nn17 nn19 (own_w hw 5 rfl) (own_w hw 22 rfl)
  obtain ⟨w_RUNNING, S_RUNNING, E_RUNNING, O_RUNNING⟩ := own_enum nn29 nn30 (own_w hw 5 rfl) (own_w hw 30 rfl)
  obtain ⟨w_FINISHED, S_FINISHED, E_FINISHED, O_FINISHED⟩ := own_enum nn3 nn7 (own_w hw 5 rfl) (own_w hw 13 rfl)
  obtain ⟨w_FAILED, S_FAILED, E_FAILED, O_FAILED⟩ := own_enum nn9 nn11 (own_w hw 5 rfl) (own_w hw 15 rfl)
  obtain ⟨w_KILLED, S_KILLED, E_KILLED, O_KILLED⟩ := own_enum nn13 nn15 (own_w hw 5 rfl) (own_w hw 17 rfl)
  obtain ⟨n, o, h1, h2, h3, _, L, rfl, ⟨rfl, N, _⟩, hq⟩ := own_rm0 l s _ hw tables_1 i0 w_NEW w_NEW_SAVING w_SUBMITTED w_ACCEPTED w_RUNNING w_FINISHED w_FAILED w_KILLED s.heap s.heap.size (Nat.le_refl _) S_NEW E_NEW S_NEW_SAVING E_NEW_SAVING S_SUBMITTED E_SUBMITTED S_ACCEPTED E_ACCEPTED S_RUNNING E_RUNNING S_FINISHED E_FINISHED S_FAILED E_FAILED S_KILLED E_KILLED (O_NEW.ne O_FINISHED (fun q => absurd (Value.int.inj q) (by decide))) (O_NEW_SAVING.ne O_FINISHED (fun q => absurd (Value.int.inj q) (by decide))) (O_SUBMITTED.ne O_FINISHED (fun q => absurd (Value.int.inj q) (by decide))) (O_ACCEPTED.ne O_FINISHED (fun q => absurd (Value.int.inj q) (by decide))) (O_RUNNING.ne O_FINISHED (fun q => absurd (Value.int.inj q) (by decide))) (O_NEW.ne O_FAILED (fun q => absurd (Value.int.inj q) (by decide))) (O_NEW_SAVING.ne O_FAILED (fun q => absurd (Value.int.inj q) (by decide))) (O_SUBMITTED.ne O_FAILED (fun q => absurd (Value.int.inj q) (by decide))) (O_ACCEPTED.ne O_FAILED (fun q => absurd (Value.int.inj q) (by decide))) (O_RUNNING.ne O_FAILED (fun q => absurd (Value.int.inj q) (by decide))) (O_NEW.ne O_KILLED (fun q => absurd (Value.int.inj q) (by decide))) (O_NEW_SAVING.ne O_KILLED (fun q => absurd (Value.int.inj q) (by decide))) (O_SUBMITTED.ne O_KILLED (fun q => absurd (Value.int.inj q) (by decide))) (O_ACCEPTED.ne O_KILLED (fun q => absurd (Value.int.inj q) (by decide))) (O_RUNNING.ne O_KILLED (fun q => absurd (Value.int.inj q) (by decide))) (O_FAILED.ne O_FINISHED (fun q => absurd (Value.int.inj q) (by decide))) (O_KILLED.ne O_FINISHED (fun q => absurd (Value.int.inj q) (by decide))) (O_KILLED.ne O_FAILED (fun q => absurd (Value.int.inj q) (by decide))) p e ha hc hk s m _ below hf ((Spec.applies_iff_loose hf).mp happ).1 ⟨rfl, State.Warmed39.refl s, rfl⟩ trivial
  refine ⟨n, _, h1, h2, h3, hpost _ _ _ _ _ _ ⟨Cond.after_iff.mpr rfl, Cond.after_iff.mpr (eq_i res_at (Term.int_eval (1)) rfl), trivial⟩ ⟨hq.1, hq.2.1, (hq.2.2.sift fun y hy => Or.inr (N y hy)).mono (by decide) (by decide)⟩⟩
theorem main_1_1 : Claimed_1_1 := comes_1 fun _ _ _ _ _ _ h hF => ⟨h.1, hF⟩
theorem main_1_2 : Claimed_1_2 := comes_1 fun _ _ _ _ _ _ h hF => ⟨h.2.1, hF⟩
end Jvm.Pilot.@@N@@
namespace Jvm.Pilot.@@N@@
open Jvm Jvm.ClassFile Sem Op Lib Jvm.Free Jvm.Stand Jvm.Pilot.@@N@@.Jvm.D
/-! MADE BY PROGRAM (witnessworld.py) out of the Statement's table words and the real class files: 12 classes; the members and pool entries that the words name. The judged class is class 1, her method 3. -/
namespace start1
open Jvm.ClassFile
def u (s : String) : CpInfo := .utf8 (stringToUtf16 s)
/-- a pool by its gaps: so many unusable entries, then the entry; so many at the end -/
def gap : Nat → List CpInfo → List CpInfo
  | 0, r => r
  | n + 1, r => .unusable :: gap n r
def poolList (es : List (Nat × CpInfo)) (last : Nat) : List CpInfo := es.foldr (fun e r => gap e.1 (e.2 :: r)) (gap last [])
def pool (es : List (Nat × CpInfo)) (last : Nat) : Array CpInfo := ⟨poolList es last⟩
def fileOf (pool : Array CpInfo) (this : Nat) (attrs : Array Attribute := #[]) (ms : Array MethodInfo := #[]) (fl : Nat := 33) (sup : Nat := 0) (ifs : Array Nat := #[]) (fds : Array FieldInfo := #[]) : ClassFile where
  minorVersion := 0
  majorVersion := 65
  constantPool := pool
  accessFlags := fl
  thisClass := this
  superClass := sup
  interfaces := ifs
  fields := fds
  methods := ms
  attributes := attrs
def plain (name : String) (sup : Option ClassId) : Class where
  name := name
  kind := .ordinary
  loader := none
  accessFlags := 33
  super := sup
  interfaces := #[]
  cf := none
  fields := #[]
  methods := #[]
  instanceTypes := #[]
  staticTypes := #[]
  resolved := #[]
  callSites := []
  init := .initialized
  statics := none
  mirror := none

def pool0 : Array CpInfo := pool [(5, u "<init>"), (0, u "()V"), (1, .class_ 10), (1, u "java/lang/Object")] 113

def k0m0 : Method := { name := "<init>", desc := "()V", sig := { parameters := [], returnType := none }, accessFlags := 1, code := none }
/-- java/lang/Object -/
def k0 : Class := { plain "java/lang/Object" none with
  accessFlags := 33
  interfaces := #[]
  cf := some (fileOf pool0 8 #[] #[{ accessFlags := 1, nameIndex := 5, descriptorIndex := 6, attributes := #[] }] 33 0 #[] #[])
  fields := #[]
  methods := #[k0m0]
  instanceTypes := #[]
  staticTypes := #[]
  resolved := Array.replicate 124 none
  statics := none }

def pool1 : Array CpInfo := pool [(2, .class_ 4), (1, u "java/lang/Object"), (0, u "<init>"), (0, u "()V"), (0, .fieldref 8 9), (0, .class_ 10), (0, .nameAndType 11 12), (0, u "com/example/stackyard/stackyard/app/ApplicationState"), (0, u "NEW"), (0, u "Lcom/example/stackyard/stackyard/app/ApplicationState;"), (0, .fieldref 8 14), (0, .nameAndType 15 12), (0, u "NEW_SAVING"), (0, .fieldref 8 17), (0, .nameAndType 18 12), (0, u "SUBMITTED"), (0, .fieldref 8 20), (0, .nameAndType 21 12), (0, u "ACCEPTED"), (0, .fieldref 8 23), (0, .nameAndType 24 12), (0, u "RUNNING"), (0, .fieldref 8 26), (0, .nameAndType 27 12), (0, u "FINISHED"), (0, .fieldref 8 29), (0, .nameAndType 30 12), (0, u "FAILED"), (0, .fieldref 8 32), (0, .nameAndType 33 12), (0, u "KILLED"), (0, .methodref 35 36), (0, .class_ 37), (0, .nameAndType 38 39), (0, u "com/example/stackyard/stackyard/app/ApplicationStateIsFinalPinLaw"), (0, u "pick"), (0, u "(I)Lcom/example/stackyard/stackyard/app/ApplicationState;"), (0, .methodref 8 41), (0, .nameAndType 42 43), (0, u "isFinal"), (0, u "()Z"), (0, .methodref 35 45), (0, .nameAndType 46 47), (0, u "expected"), (0, u "(I)Z"), (3, u "law")] 2

def k1m0 : Method := { name := "<init>", desc := "()V", sig := { parameters := [], returnType := none }, accessFlags := 1, code := none }
def k1c1 : Code := { maxStack := 2, maxLocals := 1, code := method_2_code, exceptionTable := #[], attributes := #[] }
def k1m1 : Method := { name := "pick", desc := "(I)Lcom/example/stackyard/stackyard/app/ApplicationState;", sig := { parameters := [.int], returnType := some (.object "com/example/stackyard/stackyard/app/ApplicationState") }, accessFlags := 10, code := some k1c1 }
def k1c2 : Code := { maxStack := 2, maxLocals := 1, code := method_3_code, exceptionTable := #[], attributes := #[] }
def k1m2 : Method := { name := "expected", desc := "(I)Z", sig := { parameters := [.int], returnType := some .boolean }, accessFlags := 10, code := some k1c2 }
def k1c3 : Code := { maxStack := 2, maxLocals := 3, code := code, exceptionTable := #[], attributes := #[] }
def k1m3 : Method := { name := "law", desc := "(I)Z", sig := { parameters := [.int], returnType := some .boolean }, accessFlags := 9, code := some k1c3 }
/-- com/example/stackyard/stackyard/app/ApplicationStateIsFinalPinLaw -/
def k1 : Class := { plain "com/example/stackyard/stackyard/app/ApplicationStateIsFinalPinLaw" (some 0) with
  accessFlags := 49
  interfaces := #[]
  cf := some (fileOf pool1 35 #[] #[{ accessFlags := 1, nameIndex := 5, descriptorIndex := 6, attributes := #[] }, { accessFlags := 10, nameIndex := 38, descriptorIndex := 39, attributes := #[] }, { accessFlags := 10, nameIndex := 46, descriptorIndex := 47, attributes := #[] }, { accessFlags := 9, nameIndex := 51, descriptorIndex := 47, attributes := #[] }] 49 2 #[] #[])
  fields := #[]
  methods := #[k1m0, k1m1, k1m2, k1m3]
  instanceTypes := #[]
  staticTypes := #[]
  resolved := Array.replicate 54 none
  statics := none }

def pool2 : Array CpInfo := pool [(1, .class_ 2), (0, u "java/lang/constant/Constable"), (0, .class_ 4), (0, u "java/lang/Object")] 6

/-- java/lang/constant/Constable -/
def k2 : Class := { plain "java/lang/constant/Constable" (some 0) with
  accessFlags := 1537
  interfaces := #[]
  cf := some (fileOf pool2 1 #[] #[] 1537 3 #[] #[])
  fields := #[]
  methods := #[]
  instanceTypes := #[]
  staticTypes := #[]
  resolved := Array.replicate 11 none
  statics := none }

def pool3 : Array CpInfo := pool [(1, .class_ 2), (0, u "java/lang/Comparable"), (0, .class_ 4), (0, u "java/lang/Object")] 7

/-- java/lang/Comparable -/
def k3 : Class := { plain "java/lang/Comparable" (some 0) with
  accessFlags := 1537
  interfaces := #[]
  cf := some (fileOf pool3 1 #[] #[] 1537 3 #[] #[])
  fields := #[]
  methods := #[]
  instanceTypes := #[]
  staticTypes := #[]
  resolved := Array.replicate 12 none
  statics := none }

def pool4 : Array CpInfo := pool [(1, .class_ 2), (0, u "java/io/Serializable"), (0, .class_ 4), (0, u "java/lang/Object")] 2

/-- java/io/Serializable -/
def k4 : Class := { plain "java/io/Serializable" (some 0) with
  accessFlags := 1537
  interfaces := #[]
  cf := some (fileOf pool4 1 #[] #[] 1537 3 #[] #[])
  fields := #[]
  methods := #[]
  instanceTypes := #[]
  staticTypes := #[]
  resolved := Array.replicate 7 none
  statics := none }

def pool5 : Array CpInfo := pool [(2, .class_ 4), (1, u "java/lang/Enum"), (0, u "name"), (0, u "Ljava/lang/String;"), (2, u "ordinal"), (0, u "I"), (1, .class_ 14), (1, u "java/lang/Object"), (4, u "hash"), (86, .class_ 108), (1, u "java/lang/Enum$EnumDesc"), (2, .class_ 112), (0, u "java/lang/constant/Constable"), (0, .class_ 114), (0, u "java/lang/Comparable"), (0, .class_ 116), (0, u "java/io/Serializable")] 87

/-- java/lang/Enum -/
def k5 : Class := { plain "java/lang/Enum" (some 0) with
  accessFlags := 1057
  interfaces := #[2, 3, 4]
  cf := some (fileOf pool5 2 #[.nestMembers #[106]] #[] 1057 12 #[111, 113, 115] #[{ accessFlags := 18, nameIndex := 5, descriptorIndex := 6, attributes := #[] }, { accessFlags := 18, nameIndex := 9, descriptorIndex := 10, attributes := #[] }, { accessFlags := 2, nameIndex := 19, descriptorIndex := 10, attributes := #[] }])
  fields := #[{ name := "name", type := (.object "java/lang/String"), accessFlags := 18, slot := 0, constantValue := 0 }, { name := "ordinal", type := .int, accessFlags := 18, slot := 1, constantValue := 0 }, { name := "hash", type := .int, accessFlags := 2, slot := 2, constantValue := 0 }]
  methods := #[]
  instanceTypes := #[(.object "java/lang/String"), .int, .int]
  staticTypes := #[]
  resolved := Array.replicate 204 none
  statics := none }

def pool6 : Array CpInfo := pool [(1, .class_ 2), (0, u "com/example/stackyard/stackyard/app/ApplicationState"), (2, u "NEW"), (0, u "Lcom/example/stackyard/stackyard/app/ApplicationState;"), (2, u "NEW_SAVING"), (2, u "SUBMITTED"), (2, u "ACCEPTED"), (2, u "RUNNING"), (0, .fieldref 1 20), (0, .nameAndType 21 6), (0, u "FINISHED"), (0, .fieldref 1 23), (0, .nameAndType 24 6), (0, u "FAILED"), (0, .fieldref 1 26), (0, .nameAndType 27 6), (0, u "KILLED"), (2, u "$VALUES"), (0, u "[Lcom/example/stackyard/stackyard/app/ApplicationState;"), (6, .class_ 40), (1, u "java/lang/Enum"), (26, u "isFinal"), (0, u "()Z")] 5

def k6c0 : Code := { maxStack := 2, maxLocals := 1, code := prog_17_method_4_code, exceptionTable := #[], attributes := #[] }
def k6m0 : Method := { name := "isFinal", desc := "()Z", sig := { parameters := [], returnType := some .boolean }, accessFlags := 1, code := some k6c0 }
/-- com/example/stackyard/stackyard/app/ApplicationState -/
def k6 : Class := { plain "com/example/stackyard/stackyard/app/ApplicationState" (some 5) with
  accessFlags := 16433
  interfaces := #[]
  cf := some (fileOf pool6 1 #[] #[{ accessFlags := 1, nameIndex := 67, descriptorIndex := 68, attributes := #[] }] 16433 38 #[] #[{ accessFlags := 16409, nameIndex := 5, descriptorIndex := 6, attributes := #[] }, { accessFlags := 16409, nameIndex := 9, descriptorIndex := 6, attributes := #[] }, { accessFlags := 16409, nameIndex := 12, descriptorIndex := 6, attributes := #[] }, { accessFlags := 16409, nameIndex := 15, descriptorIndex := 6, attributes := #[] }, { accessFlags := 16409, nameIndex := 18, descriptorIndex := 6, attributes := #[] }, { accessFlags := 16409, nameIndex := 21, descriptorIndex := 6, attributes := #[] }, { accessFlags := 16409, nameIndex := 24, descriptorIndex := 6, attributes := #[] }, { accessFlags := 16409, nameIndex := 27, descriptorIndex := 6, attributes := #[] }, { accessFlags := 4122, nameIndex := 30, descriptorIndex := 31, attributes := #[] }])
  fields := #[{ name := "NEW", type := (.object "com/example/stackyard/stackyard/app/ApplicationState"), accessFlags := 16409, slot := 0, constantValue := 0 }, { name := "NEW_SAVING", type := (.object "com/example/stackyard/stackyard/app/ApplicationState"), accessFlags := 16409, slot := 1, constantValue := 0 }, { name := "SUBMITTED", type := (.object "com/example/stackyard/stackyard/app/ApplicationState"), accessFlags := 16409, slot := 2, constantValue := 0 }, { name := "ACCEPTED", type := (.object "com/example/stackyard/stackyard/app/ApplicationState"), accessFlags := 16409, slot := 3, constantValue := 0 }, { name := "RUNNING", type := (.object "com/example/stackyard/stackyard/app/ApplicationState"), accessFlags := 16409, slot := 4, constantValue := 0 }, { name := "FINISHED", type := (.object "com/example/stackyard/stackyard/app/ApplicationState"), accessFlags := 16409, slot := 5, constantValue := 0 }, { name := "FAILED", type := (.object "com/example/stackyard/stackyard/app/ApplicationState"), accessFlags := 16409, slot := 6, constantValue := 0 }, { name := "KILLED", type := (.object "com/example/stackyard/stackyard/app/ApplicationState"), accessFlags := 16409, slot := 7, constantValue := 0 }, { name := "$VALUES", type := (.array (.object "com/example/stackyard/stackyard/app/ApplicationState")), accessFlags := 4122, slot := 8, constantValue := 0 }]
  methods := #[k6m0]
  instanceTypes := #[(.object "java/lang/String"), .int, .int]
  staticTypes := #[(.object "com/example/stackyard/stackyard/app/ApplicationState"), (.object "com/example/stackyard/stackyard/app/ApplicationState"), (.object "com/example/stackyard/stackyard/app/ApplicationState"), (.object "com/example/stackyard/stackyard/app/ApplicationState"), (.object "com/example/stackyard/stackyard/app/ApplicationState"), (.object "com/example/stackyard/stackyard/app/ApplicationState"), (.object "com/example/stackyard/stackyard/app/ApplicationState"), (.object "com/example/stackyard/stackyard/app/ApplicationState"), (.array (.object "com/example/stackyard/stackyard/app/ApplicationState"))]
  resolved := Array.replicate 74 none
  statics := some 0 }

def pool7 : Array CpInfo := pool [(1, u "java/lang/Cloneable"), (0, .class_ 1), (0, u "java/lang/Object"), (0, .class_ 3)] 3

/-- java/lang/Cloneable -/
def k7 : Class := { plain "java/lang/Cloneable" (some 0) with
  accessFlags := 1537
  interfaces := #[]
  cf := some (fileOf pool7 2 #[] #[] 1537 4 #[] #[])
  fields := #[]
  methods := #[]
  instanceTypes := #[]
  staticTypes := #[]
  resolved := Array.replicate 8 none
  statics := none }

/-- the primitive byte -/
def k8 : Class := { plain "byte" none with kind := .primitive 'B', accessFlags := 0x411 }
/-- [B -/
def k9 : Class := { plain "[B" (some 0) with kind := .array 8 .byte, interfaces := #[7, 4], accessFlags := 1041 }

/-- the primitive int -/
def k10 : Class := { plain "int" none with kind := .primitive 'I', accessFlags := 0x411 }
/-- [I -/
def k11 : Class := { plain "[I" (some 0) with kind := .array 10 .int, interfaces := #[7, 4], accessFlags := 1041 }

def heap : Heap := #[{ cls := 6, slots := #[.ref 1, .ref 7, .ref 6, .ref 5, .ref 8, .ref 2, .ref 3, .ref 4, .null], vm := .statics 6 },
  { cls := 6, slots := #[.null, .int 0, .int 0], vm := .none },
  { cls := 6, slots := #[.null, .int 5, .int 0], vm := .none },
  { cls := 6, slots := #[.null, .int 6, .int 0], vm := .none },
  { cls := 6, slots := #[.null, .int 7, .int 0], vm := .none },
  { cls := 6, slots := #[.null, .int 3, .int 0], vm := .none },
  { cls := 6, slots := #[.null, .int 2, .int 0], vm := .none },
  { cls := 6, slots := #[.null, .int 1, .int 0], vm := .none },
  { cls := 6, slots := #[.null, .int 4, .int 0], vm := .none }]
def classes : Array Class := #[k0, k1, k2, k3, k4, k5, k6, k7, k8, k9, k10, k11]
def interned : List (Array UInt16 × Addr) := []
def slotsUsed : Nat := 33
def theMethod : MethodId := ⟨1, 3⟩
def args0 : Array Value := #[.int 5]
def aboutOver (below : List Frame) : State where
  vm := { classes := classes, interned := interned.toArray }
  heap := heap
  slotsUsed := slotsUsed
  threads := #[{ frames := .invoking theMethod args0 :: below }]
def below0 : List Frame := [.native { method := ⟨0, 0⟩, args := #[] }]
def about1 : State := aboutOver below0
def p0 : Program := .bare "" "" ""
def e0 : Env := launch0.env 0 0 0
theorem w_frames : about1.frames = Frame.invoking theMethod args0 :: below0 := rfl
set_option maxRecDepth 65536 in
theorem w_args : argsFit about1.vm theMethod args0 = true := by decide +kernel
set_option maxRecDepth 65536 in
theorem w_heap : heapFits about1 = true := by decide +kernel
set_option maxRecDepth 65536 in
theorem w_runnable : about1.curStatus? = some .runnable := by decide +kernel
set_option maxRecDepth 65536 in
theorem w_alone : about1.alone = true := by decide +kernel
set_option maxRecDepth 65536 in
theorem w_named : about1.methodNamed? x = some theMethod := by decide +kernel
set_option maxRecDepth 65536 in
theorem w_hears : about1.hears theMethod below0 = true := by decide +kernel
set_option maxRecDepth 65536 in
theorem w_ripe : about1.ripe theMethod args0 below0 = true := by decide +kernel
theorem w_running : about1.status = .running := rfl
set_option maxRecDepth 65536 in
theorem w_room : about1.hasRoom e0.platform room_1 = true :=
  launch0.hasRoom_least _ room_1 (by decide +kernel) (by decide +kernel) (by decide +kernel) (by decide +kernel) (by decide +kernel) (by decide +kernel)
theorem allAtoms_all (ts : List Jvm.Cond) (a : Array Jvm.Value) (st : Jvm.State) : (allAtoms ts).before a st = ts.all (fun c => c.before a st) := by
  induction ts with
  | nil => rfl
  | cons c t ih =>
    show (Jvm.Cond.and c (allAtoms t)).before a st = _
    rw [Jvm.Cond.before_and, ih, List.all_cons]
def words1 : List Jvm.Cond := Jvm.Cond.code x code maxLocals ret :: tables_1
/-- a 'code' word, met by the world's own term for the bytes: nothing is compared byte by byte -/
theorem code_word {y : MethodName} {bytes : ByteArray} {mx : Nat} {rt : Option FieldType} {a : Array Value} {s : State} {m : MethodId} {meth : Method} {c : Code} (h1 : s.methodNamed? y = some m) (h2 : s.vm.method? m = some meth) (h3 : meth.code = some c) (h4 : c.code = bytes)
    (h5 : (c.maxLocals == mx && c.exceptionTable.isEmpty && decide (c.maxStack ≤ mostOperands) && decide (meth.sig.returnType = rt) && !meth.locks && decide (parseMethodDescriptor y.desc = some meth.sig)) = true) : (Jvm.Cond.code y bytes mx rt).before a s = true := by
  simp only [Bool.and_eq_true, beq_iff_eq, Bool.not_eq_true', decide_eq_true_eq] at h5
  obtain ⟨⟨⟨⟨⟨g1, g2⟩, g3⟩, g4⟩, g5⟩, g6⟩ := h5
  simp [Cond.before, Cond.holds, Cond.value, h1, h2, h3, h4, g1, g2, g3, g4, g5, g6]
def isCode : Jvm.Cond → Bool
  | .code _ _ _ _ => true
  | _ => false
theorem all_split {L : List Jvm.Cond} {P : Jvm.Cond → Bool} (h1 : L.all (fun c => isCode c || P c) = true) (h2 : ∀ c ∈ L.filter isCode, P c = true) : L.all P = true := by
  refine List.all_eq_true.mpr fun c hc => ?_
  have h := List.all_eq_true.mp h1 c hc
  rcases Bool.eq_false_or_eq_true (isCode c) with hi | hi
  · exact h2 c (List.mem_filter.mpr ⟨hc, hi⟩)
  · simpa [hi] using h
set_option maxRecDepth 65536 in
theorem w_c0 : (Jvm.Cond.code x code maxLocals ret).before args0 about1 = true := code_word (m := ⟨1, 3⟩) (meth := k1m3) (c := k1c3) (by decide +kernel) rfl rfl rfl (by decide +kernel)
set_option maxRecDepth 65536 in
theorem w_c1 : (Jvm.Cond.code ({ cls := "com/example/stackyard/stackyard/app/ApplicationStateIsFinalPinLaw", name := "pick", desc := "(I)Lcom/example/stackyard/stackyard/app/ApplicationState;" } : Jvm.MethodName) method_2_code (1 : Nat) (Option.some (Jvm.ClassFile.FieldType.object "com/example/stackyard/stackyard/app/ApplicationState"))).before args0 about1 = true := code_word (m := ⟨1, 1⟩) (meth := k1m1) (c := k1c1) (by decide +kernel) rfl rfl rfl (by decide +kernel)
set_option maxRecDepth 65536 in
theorem w_c2 : (Jvm.Cond.code ({ cls := "com/example/stackyard/stackyard/app/ApplicationState", name := "isFinal", desc := "()Z" } : Jvm.MethodName) prog_17_method_4_code (1 : Nat) (Option.some Jvm.ClassFile.FieldType.boolean)).before args0 about1 = true := code_word (m := ⟨6, 0⟩) (meth := k6m0) (c := k6c0) (by decide +kernel) rfl rfl rfl (by decide +kernel)
set_option maxRecDepth 65536 in
theorem w_c3 : (Jvm.Cond.code ({ cls := "com/example/stackyard/stackyard/app/ApplicationStateIsFinalPinLaw", name := "expected", desc := "(I)Z" } : Jvm.MethodName) method_3_code (1 : Nat) (Option.some Jvm.ClassFile.FieldType.boolean)).before args0 about1 = true := code_word (m := ⟨1, 2⟩) (meth := k1m2) (c := k1c2) (by decide +kernel) rfl rfl rfl (by decide +kernel)
def codes1 : List Jvm.Cond := [Jvm.Cond.code x code maxLocals ret, Jvm.Cond.code ({ cls := "com/example/stackyard/stackyard/app/ApplicationStateIsFinalPinLaw", name := "pick", desc := "(I)Lcom/example/stackyard/stackyard/app/ApplicationState;" } : Jvm.MethodName) method_2_code (1 : Nat) (Option.some (Jvm.ClassFile.FieldType.object "com/example/stackyard/stackyard/app/ApplicationState")), Jvm.Cond.code ({ cls := "com/example/stackyard/stackyard/app/ApplicationState", name := "isFinal", desc := "()Z" } : Jvm.MethodName) prog_17_method_4_code (1 : Nat) (Option.some Jvm.ClassFile.FieldType.boolean), Jvm.Cond.code ({ cls := "com/example/stackyard/stackyard/app/ApplicationStateIsFinalPinLaw", name := "expected", desc := "(I)Z" } : Jvm.MethodName) method_3_code (1 : Nat) (Option.some Jvm.ClassFile.FieldType.boolean)]
set_option maxRecDepth 65536 in
theorem codes_eq : words1.filter isCode = codes1 := rfl
theorem w_codes : ∀ c ∈ words1.filter isCode, c.before args0 about1 = true := by
  rw [codes_eq]
  intro c hc
  simp only [codes1, List.mem_cons, List.not_mem_nil, or_false] at hc
  rcases hc with rfl | rfl | rfl | rfl
  · exact w_c0
  · exact w_c1
  · exact w_c2
  · exact w_c3
set_option maxRecDepth 65536 in
theorem w_t1 : (words1.take 24).all (fun c => isCode c || c.before args0 about1) = true := by decide +kernel
set_option maxRecDepth 65536 in
theorem w_t2 : (words1.drop 24).all (fun c => isCode c || c.before args0 about1) = true := by decide +kernel
theorem w_tables : (allAtoms (Jvm.Cond.code x code maxLocals ret :: tables_1)).before args0 about1 = true := by
  rw [allAtoms_all]
  show words1.all (fun c => c.before args0 about1) = true
  refine all_split ?_ w_codes
  rw [← List.take_append_drop 24 words1, List.all_append, w_t1, w_t2]
  rfl
set_option maxRecDepth 65536 in
theorem w_case : (Jvm.Cond.and given_1 narrow_1).before args0 about1 = true := by decide +kernel
theorem w_applies : (headSpec (Jvm.Cond.code x code maxLocals ret :: tables_1) room_1).applies x e0.platform about1 = true :=
  (Spec.applies_iff w_frames).mpr ⟨w_running, w_runnable, w_alone, w_named, w_hears, w_ripe, w_room, w_tables⟩
theorem atStart : AtStart classFile x code maxLocals ret World_1 tables_1 room_1 Calls_1 rest_1 Pre_1 launch0 p0 e0 about1 theMethod args0 below0 :=
  ⟨lists_1, trivial, launch0.admits_env _ _ _, launch0.least_env, fairChoices_fair.cas, fairChoices_fair.clock, w_frames, w_args, w_heap, w_applies, trivial, trivial, w_case⟩
end start1
theorem witness_1 : WitnessClaimed_1 := ⟨start1.p0, start1.e0, start1.about1, start1.theMethod, start1.args0, start1.below0, start1.atStart⟩
end Jvm.Pilot.@@N@@
