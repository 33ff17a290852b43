import JvmDerived
import JvmDerived.Pilot.@@N@@Statement
import JvmDerived.Pilot.@@N@@Code
set_option linter.unusedVariables false
set_option linter.unusedSimpArgs false
@@BLOCK:NumsL.lean.txt@@
namespace Jvm.Pilot.@@N@@
open Jvm Jvm.ClassFile Sem Op Lib Jvm.Free Jvm.Stand Jvm.LawKit Jvm.RoadKit Bundle Jvm.Pilot.@@N@@.Jvm.D
section OwnKit
theorem own_w {Z : State} {a0 : Array Value} (hw : ∀ d ∈ tables_1, d.before a0 Z = true) {d : Jvm.Cond} (i : Nat) (h : tables_1[i]? = some d) : d.before a0 Z = true := hw d (List.mem_of_getElem? h)
theorem own_narb (x : Int32) : nar .byte (x.toInt8.toInt32) = x.toInt8.toInt32 := by
  show (x.toInt8.toInt32).toInt8.toInt32 = x.toInt8.toInt32
  rw [Int8.toInt8_toInt32]
theorem own_narc (x : Int32) : nar .char (x.toUInt32.toUInt16.toUInt32.toInt32) = x.toUInt32.toUInt16.toUInt32.toInt32 := by
  show (x.toUInt32.toUInt16.toUInt32.toInt32).toUInt32.toUInt16.toUInt32.toInt32 = _
  have : (x.toUInt32.toUInt16.toUInt32.toInt32).toUInt32 = x.toUInt32.toUInt16.toUInt32 := rfl
  rw [this]
  have : x.toUInt32.toUInt16.toUInt32.toUInt16 = x.toUInt32.toUInt16 := by rw [← UInt16.toNat_inj]; simp
  rw [this]
theorem own_plain {Z : State} {h : Heap} {a : Addr} {C : String} (F : Exa Z h a C) : ∃ c : Cell, h[a]? = some c ∧ c.vm.isStatics = false := by
  obtain ⟨c, _, h1, -, -, h4, -⟩ := F; exact ⟨c, h1, h4⟩
theorem own_plainV {Z : State} {h : Heap} {a : Addr} {k : ClassId} {ty : FieldType} {z : Int32} {vs : List Value} {d : Value} (F : Arv Z h a k ty z vs d) : ∃ c : Cell, h[a]? = some c ∧ c.vm.isStatics = false := by
  obtain ⟨c, A, -⟩ := F; exact ⟨c, A.1, A.plain⟩
theorem own_Sta_keep {Z : State} {h h' : Heap} {C n d : String} {v : Value} {ws : List Addr} (F : Sta Z h C n d v) (K : Keep h h' ws) (q : ∀ a ∈ ws, ∃ c : Cell, h[a]? = some c ∧ c.vm.isStatics = false) : Sta Z h' C n d v := by
  obtain ⟨cf, i, k, f, st, cell, h1, h2, h3, h4, h5, h6, h7⟩ := F
  have ne : st ∉ ws := fun hm => by
    obtain ⟨c, g1, g2⟩ := q st hm
    cases h5.symm.trans g1
    rw [h6] at g2; cases g2
  exact ⟨cf, i, k, f, st, cell, h1, h2, h3, h4, K.2.1 _ _ h5 ne, h6, h7⟩
theorem own_NSroot {Z : State} {a0 : Array Value} {O K : String} {j : Nat} (w : (Cond.noSuperclass O).before a0 Z = true) (wk : (Cond.instantiable K j).before a0 Z = true) (hn : O ≠ K) : NS Z O K := by
  obtain ⟨c, k, h1, h2, h3, -⟩ := Cond.noSuperclass_spec w
  obtain ⟨t, kt, g1, -⟩ := Cond.instantiable_spec wk
  refine ⟨c, t, h1, g1, fun fuel => ?_⟩
  cases fuel with
  | zero => rfl
  | succ f => simp [Vm.isSubclassAux, ids_ne h1 g1 hn, h2, h3]
theorem own_NSno {Z : State} {a0 : Array Value} {C S K : String} {j : Nat} (w : (Cond.superclass C S).before a0 Z = true) (wk : (Cond.instantiable K j).before a0 Z = true) (q : NS Z C K) (hn : C ≠ K) : ∃ c t, Z.vm.findClass C = some c ∧ Z.vm.findClass K = some t ∧ Z.vm.assignable c t = false := by
  obtain ⟨c, t, h0, g0, n3⟩ := q
  obtain ⟨_, k, _, _, h2, _, _, h5, -⟩ := Cond.superclass_spec h0 w
  obtain ⟨t', kt, g1, g2, g5, g7, -⟩ := Cond.instantiable_spec wk
  cases g0.symm.trans g1
  have g8 : kt.isInterface = false := by simpa using (Bool.or_eq_false_iff.mp g7).1
  refine ⟨c, t, h0, g0, ?_⟩
  show Z.vm.assignableAux (255 + 1) c t = false
  simp [Vm.assignableAux, ids_ne h0 g0 hn, h2, g2, h5, g5, g8, Vm.isSubclass, n3]
theorem own_hc {T : State} {h : Heap} {a : Addr} {c : Cell} (e : T.heap = h) (q : h[a]? = some c) : T.heap[a]? = some c := by subst e; exact q
def own_b (P : Prop) [Decidable P] : Int32 := if P then 1 else 0
theorem own_b1 {P : Prop} [Decidable P] (h : P) : own_b P = 1 := if_pos h
theorem own_b0 {P : Prop} [Decidable P] (h : ¬ P) : own_b P = 0 := if_neg h
variable {p : Program} {l : Launch} {e : Env} {R : Room} {s : State} {m : MethodId} {args : Array Value} {below : List Frame} {meth : Method} {c : Code} {T : State} {locs : List Loc} {cells slots : Nat}
def own_Fin (p : Program) (e : Env) (below : List Frame) (s : State) (Q : Option Value → Heap → List Loc → Prop) (k n : Nat) (A : State) : Prop := ∃ s₂ o, Steps p.tables e below A s₂ ∧ s₂.status = .running ∧ Ended s₂ below o ∧ ∃ v L, o = .returned v ∧ Q v s₂.heap L ∧ FrameEnd s o s₂ L k n
theorem own_go {Q : Option Value → Heap → List Loc → Prop} {k n : Nat} {A B : State} (h : ∀ t, Steps p.tables e below B t → Steps p.tables e below A t) (q : own_Fin p e below s Q k n B) : own_Fin p e below s Q k n A := by
  obtain ⟨s₂, o, h1, h2⟩ := q
  exact ⟨s₂, o, h _ h1, h2⟩
theorem own_retN {Q : Option Value → Heap → List Loc → Prop} {k n : Nat} (X : Stand p l e R s m args below meth c T locs cells slots) (hx : p.tables.exec = Jvm.exec) (hlk : meth.locks = false) {pc : Nat} {Ls : Array Slot} {z w : Int32} {t : FieldType} {rest : List Value} (hret : meth.sig.returnType = some t) (ht : t = .boolean ∨ t = .byte ∨ t = .char ∨ t = .short)
    (hd : decode c.code pc = .ok (.ireturn, 1)) {h : Heap} (eT : T.heap = h) (hz : nar t z = w) (hQ : Q (some (.int w)) h locs) (hk : cells ≤ k) (hn : slots ≤ n) : own_Fin p e below s Q k n (T.setTop (mkF m pc Ls (.int z :: rest))) := by
  subst hz eT
  obtain ⟨fs, hr, hrun, hended, hW, hsame⟩ := X.leave (v := some (.int (nar t z))) (fun h => by rw [hret] at h; cases h) hlk
  exact ⟨_, _, retN X hx hret ht hd hr, hrun, hended, _, _, rfl, hQ, ⟨_, rfl⟩, hW, hsame.mono hk hn⟩
theorem own_retI {Q : Option Value → Heap → List Loc → Prop} {k n : Nat} (X : Stand p l e R s m args below meth c T locs cells slots) (hx : p.tables.exec = Jvm.exec) (hlk : meth.locks = false) {pc : Nat} {Ls : Array Slot} {z : Int32} {rest : List Value} (hret : meth.sig.returnType = some .int)
    (hd : decode c.code pc = .ok (.ireturn, 1)) {h : Heap} (eT : T.heap = h) (hQ : Q (some (.int z)) h locs) (hk : cells ≤ k) (hn : slots ≤ n) : own_Fin p e below s Q k n (T.setTop (mkF m pc Ls (.int z :: rest))) := by
  subst eT
  obtain ⟨fs, hr, hrun, hended, hW, hsame⟩ := X.leave (v := some (.int z)) (fun h => by rw [hret] at h; cases h) hlk
  exact ⟨_, _, retOut X hx hret rfl (Or.inl ⟨rfl, Or.inl rfl, z, rfl⟩) hd hr, hrun, hended, _, _, rfl, hQ, ⟨_, rfl⟩, hW, hsame.mono hk hn⟩
theorem own_retJ {Q : Option Value → Heap → List Loc → Prop} {k n : Nat} (X : Stand p l e R s m args below meth c T locs cells slots) (hx : p.tables.exec = Jvm.exec) (hlk : meth.locks = false) {pc : Nat} {Ls : Array Slot} {z : Int64} {rest : List Value} (hret : meth.sig.returnType = some .long)
    (hd : decode c.code pc = .ok (.lreturn, 1)) {h : Heap} (eT : T.heap = h) (hQ : Q (some (.long z)) h locs) (hk : cells ≤ k) (hn : slots ≤ n) : own_Fin p e below s Q k n (T.setTop (mkF m pc Ls (.long z :: rest))) := by
  subst eT
  obtain ⟨fs, hr, hrun, hended, hW, hsame⟩ := X.leave (v := some (.long z)) (fun h => by rw [hret] at h; cases h) hlk
  exact ⟨_, _, retOut X hx hret rfl (Or.inr (Or.inl ⟨rfl, rfl, z, rfl⟩)) hd hr, hrun, hended, _, _, rfl, hQ, ⟨_, rfl⟩, hW, hsame.mono hk hn⟩
theorem own_retD {Q : Option Value → Heap → List Loc → Prop} {k n : Nat} (X : Stand p l e R s m args below meth c T locs cells slots) (hx : p.tables.exec = Jvm.exec) (hlk : meth.locks = false) {pc : Nat} {Ls : Array Slot} {z : UInt64} {rest : List Value} (hret : meth.sig.returnType = some .double)
    (hd : decode c.code pc = .ok (.dreturn, 1)) {h : Heap} (eT : T.heap = h) (hQ : Q (some (.double z)) h locs) (hk : cells ≤ k) (hn : slots ≤ n) : own_Fin p e below s Q k n (T.setTop (mkF m pc Ls (.double z :: rest))) := by
  subst eT
  obtain ⟨fs, hr, hrun, hended, hW, hsame⟩ := X.leave (v := some (.double z)) (fun h => by rw [hret] at h; cases h) hlk
  exact ⟨_, _, retOut X hx hret rfl (Or.inr (Or.inr (Or.inl ⟨rfl, rfl, z, rfl⟩))) hd hr, hrun, hended, _, _, rfl, hQ, ⟨_, rfl⟩, hW, hsame.mono hk hn⟩
theorem own_retA {Q : Option Value → Heap → List Loc → Prop} {k n : Nat} (X : Stand p l e R s m args below meth c T locs cells slots) (hx : p.tables.exec = Jvm.exec) (hlk : meth.locks = false) {pc : Nat} {Ls : Array Slot} {w : Value} {t : FieldType} {rest : List Value} (hret : meth.sig.returnType = some t) (ht : t.isReference = true) (hw : w.isRef = true)
    (hd : decode c.code pc = .ok (.areturn, 1)) {h : Heap} (eT : T.heap = h) (hQ : Q (some w) h locs) (hk : cells ≤ k) (hn : slots ≤ n) : own_Fin p e below s Q k n (T.setTop (mkF m pc Ls (w :: rest))) := by
  subst eT
  obtain ⟨fs, hr, hrun, hended, hW, hsame⟩ := X.leave (v := some w) (fun h => by rw [hret] at h; cases h) hlk
  have hnw : narrow t w = w := by
    rcases ref_cases hw with rfl | ⟨z, rfl⟩ <;> cases t <;> first | rfl | (cases ht; done)
  exact ⟨_, _, retOut X hx hret hnw (Or.inr (Or.inr (Or.inr (Or.inr ⟨rfl, ht, hw⟩)))) hd hr, hrun, hended, _, _, rfl, hQ, ⟨_, rfl⟩, hW, hsame.mono hk hn⟩
theorem own_retV {Q : Option Value → Heap → List Loc → Prop} {k n : Nat} (X : Stand p l e R s m args below meth c T locs cells slots) (hx : p.tables.exec = Jvm.exec) (hlk : meth.locks = false) {pc : Nat} {Ls : Array Slot} (hret : meth.sig.returnType = none)
    (hd : decode c.code pc = .ok (.return_, 1)) {h : Heap} (eT : T.heap = h) (hQ : Q none h locs) (hk : cells ≤ k) (hn : slots ≤ n) : own_Fin p e below s Q k n (T.setTop (mkF m pc Ls [])) := by
  subst eT
  obtain ⟨fs, hr, hrun, hended, hW, hsame⟩ := X.leave (v := none) (fun _ => rfl) hlk
  exact ⟨_, _, X.returnOut hx hret hd hr, hrun, hended, _, _, rfl, hQ, ⟨_, rfl⟩, hW, hsame.mono hk hn⟩
end OwnKit
section OwnNums
theorem own_iushr (x : Int32) {n : UInt32} {k : Nat} (hn : n.toNat = k) (h0 : 0 < k) (hk : k < 32) : ((x.toUInt32 >>> n).toInt32).toInt = (x.toInt % 4294967296) / 2 ^ k := by
  have e2 : ((x.toUInt32 >>> n).toInt32).toBitVec.toNat = x.toBitVec.toNat / 2 ^ k := by
    simp only [UInt32.toBitVec_toInt32, UInt32.toBitVec_shiftRight, Int32.toBitVec_toUInt32]
    simp [BitVec.toNat_ushiftRight, Nat.shiftRight_eq_div_pow, hn, Nat.mod_eq_of_lt hk]
  have hb := x.toBitVec.isLt
  have hp : 2 ^ 1 ≤ 2 ^ k := Nat.pow_le_pow_right (by decide) h0
  have hle : x.toBitVec.toNat / 2 ^ k ≤ x.toBitVec.toNat / 2 ^ 1 := Nat.div_le_div_left hp (by decide)
  have e3 : ((x.toUInt32 >>> n).toInt32).toInt = ((x.toBitVec.toNat / 2 ^ k : Nat) : Int) := by
    have : ((x.toUInt32 >>> n).toInt32).toInt = ((x.toUInt32 >>> n).toInt32).toBitVec.toInt := rfl
    rw [this, BitVec.toInt_eq_toNat_cond, e2, if_pos (by omega)]
  have e4 : x.toInt % 4294967296 = (x.toBitVec.toNat : Int) := by
    have : x.toInt = x.toBitVec.toInt := rfl
    rw [this, BitVec.toInt_eq_toNat_cond]
    split <;> omega
  rw [e3, e4, Int.natCast_ediv, Int.natCast_pow]
  rfl
theorem own_lushr (x : Int64) {n : UInt64} {k : Nat} (hn : n.toNat = k) (h0 : 0 < k) (hk : k < 64) : ((x.toUInt64 >>> n).toInt64).toInt = (x.toInt % 18446744073709551616) / 2 ^ k := by
  have e2 : ((x.toUInt64 >>> n).toInt64).toBitVec.toNat = x.toBitVec.toNat / 2 ^ k := by
    simp only [UInt64.toBitVec_toInt64, UInt64.toBitVec_shiftRight, Int64.toBitVec_toUInt64]
    simp [BitVec.toNat_ushiftRight, Nat.shiftRight_eq_div_pow, hn, Nat.mod_eq_of_lt hk]
  have hb := x.toBitVec.isLt
  have hp : 2 ^ 1 ≤ 2 ^ k := Nat.pow_le_pow_right (by decide) h0
  have hle : x.toBitVec.toNat / 2 ^ k ≤ x.toBitVec.toNat / 2 ^ 1 := Nat.div_le_div_left hp (by decide)
  have e3 : ((x.toUInt64 >>> n).toInt64).toInt = ((x.toBitVec.toNat / 2 ^ k : Nat) : Int) := by
    have : ((x.toUInt64 >>> n).toInt64).toInt = ((x.toUInt64 >>> n).toInt64).toBitVec.toInt := rfl
    rw [this, BitVec.toInt_eq_toNat_cond, e2, if_pos (by omega)]
  have e4 : x.toInt % 18446744073709551616 = (x.toBitVec.toNat : Int) := by
    have : x.toInt = x.toBitVec.toInt := rfl
    rw [this, BitVec.toInt_eq_toNat_cond]
    split <;> omega
  rw [e3, e4, Int.natCast_ediv, Int.natCast_pow]
  rfl
theorem own_l2i (x : Int64) : (x.toInt32.toInt - x.toInt) % 4294967296 = 0 := by rw [Int64.toInt_toInt32]; exact bm32 _
theorem own_div32 {x y : Int32} (hx : 0 ≤ x.toInt) (hy : 0 < y.toInt) : (x / y).toInt = x.toInt / y.toInt := by
  rw [Jvm.Kit.i32_div (by omega), Int.tdiv_eq_ediv_of_nonneg hx]
theorem own_div64 {x y : Int64} (hx : 0 ≤ x.toInt) (hy : 0 < y.toInt) : (x / y).toInt = x.toInt / y.toInt := by
  rw [Jvm.Kit.i64_div (by omega), Int.tdiv_eq_ediv_of_nonneg hx]
theorem own_i2c (x : Int32) : (x.toUInt32.toUInt16.toUInt32.toInt32).toInt = x.toInt % 65536 := by
  have e2 : (x.toUInt32.toUInt16.toUInt32.toInt32).toBitVec.toNat = x.toBitVec.toNat % 65536 := by
    show (x.toUInt32.toUInt16.toUInt32).toNat = _
    simp
    rfl
  have hb := x.toBitVec.isLt
  have e3 : (x.toUInt32.toUInt16.toUInt32.toInt32).toInt = (x.toUInt32.toUInt16.toUInt32.toInt32).toBitVec.toInt := rfl
  have e4 : x.toInt = x.toBitVec.toInt := rfl
  rw [e3, e4, BitVec.toInt_eq_toNat_cond, BitVec.toInt_eq_toNat_cond, e2]
  split <;> split <;> omega
theorem own_i2b (x : Int32) : ((x.toInt8.toInt32).toInt - x.toInt) % 256 = 0 ∧ -128 ≤ (x.toInt8.toInt32).toInt ∧ (x.toInt8.toInt32).toInt < 128 := by
  have h1 : (x.toInt8.toInt32).toInt = x.toInt8.toInt := Int8.toInt_toInt32 _
  have h2 := x.toInt8.toInt_lt; have h3 := x.toInt8.le_toInt
  have h4 : x.toInt8.toInt = x.toInt.bmod 256 := Int32.toInt_toInt8 x
  have h5 := Int.bmod_emod (x := x.toInt) (m := 256)
  rw [h1]; omega
end OwnNums
theorem own_pd0 : parseMethodDescriptor "()Z" = some ⟨[], some .boolean⟩ := by decide +kernel
theorem own_enum {args : Array Value} {s : State} {C f d K : String} {n : Int32} (hex : (Cond.exactly (Term.static C f d) K).value args s none s [] = some true) (hord : (Cond.eq (Term.field (Term.static C f d) "java/lang/Enum" "ordinal" "I") (Term.int n)).value args s none s [] = some true)
    (hi : (Cond.initialized C).before args s = true) (hl : (Cond.laysStatic C f d).before args s = true) : ∃ a, Sta s s.heap C f d (.ref a) ∧ Exa s s.heap a K ∧ Fld s s.heap a "java/lang/Enum" "ordinal" "I" (.int n) := by
  obtain ⟨a, c, cell, k, e1, -⟩ := Cond.exactly_spec (Cond.before_iff.mpr hex)
  refine ⟨a, Sta.start e1 (Or.inr ⟨hi, hl⟩), Exa.start e1 hex, Fld.start ?_⟩
  have e2 : (Term.field (Term.static C f d) "java/lang/Enum" "ordinal" "I").eval args s none [] s = s.fieldOf? a "java/lang/Enum" "ordinal" "I" := by
    show (do let v ← (Term.static C f d).eval args s none [] s; _) = _
    rw [e1]; rfl
  simp only [Cond.value, e2] at hord
  cases hq : s.fieldOf? a "java/lang/Enum" "ordinal" "I" with
  | none => rw [hq] at hord; cases hord
  | some v =>
    rw [hq] at hord
    cases v <;> simp [Term.eval] at hord
    rw [hord]
abbrev R_own_f0 : Room := { frames := 0, cells := 0, slots := 0, locals := 0 }
theorem d1_0 : decode prog_18_method_4_code 0 = .ok (.aload_n 0, 1) := by decide +kernel
theorem d1_1 : decode prog_18_method_4_code 1 = .ok (.getstatic 16, 3) := by decide +kernel
theorem d1_4 : decode prog_18_method_4_code 4 = .ok (.if_acmp .eq 17, 3) := by decide +kernel
theorem d1_7 : decode prog_18_method_4_code 7 = .ok (.aload_n 0, 1) := by decide +kernel
theorem d1_8 : decode prog_18_method_4_code 8 = .ok (.getstatic 19, 3) := by decide +kernel
theorem d1_11 : decode prog_18_method_4_code 11 = .ok (.if_acmp .eq 10, 3) := by decide +kernel
theorem d1_14 : decode prog_18_method_4_code 14 = .ok (.aload_n 0, 1) := by decide +kernel
theorem d1_15 : decode prog_18_method_4_code 15 = .ok (.getstatic 22, 3) := by decide +kernel
theorem d1_18 : decode prog_18_method_4_code 18 = .ok (.if_acmp .ne 7, 3) := by decide +kernel
theorem d1_25 : decode prog_18_method_4_code 25 = .ok (.iconst 0, 1) := by decide +kernel
theorem d1_26 : decode prog_18_method_4_code 26 = .ok (.ireturn, 1) := by decide +kernel
theorem own_pn0 : plainName "com/example/stackyard/stackyard/app/AttemptState" = true := by first | (simp [plainName, overriddenIn]; done) | decide +kernel
theorem ef_own_f0 (m : MethodId) (x0 : Addr) : entryFrame m #[(.ref x0)] 1 = mkF m 0 #[.val (.ref x0)] [] := by first | (simp [entryFrame, mkF, argsToLocals, Value.category]; done) | rfl
def Q_own_f0 (Z : State) (a1 : Addr) (w_FINISHED : Addr) (w_FAILED : Addr) (w_KILLED : Addr) (h0 : Heap) (n0 : Nat) (v : Option Value) (h : Heap) (L : List Loc) : Prop := v = some (.int (0 : Int32)) ∧ Fr n0 L ∧ h = h0
set_option maxRecDepth 65536 in
set_option maxHeartbeats 400000000 in
theorem own_f0 (l : Launch) (Z : State) (a0 : Array Value) (hw : ∀ d ∈ tables_1, d.before a0 Z = true) (ws : List Jvm.Cond) (a1 : Addr) (w_FINISHED : Addr) (w_FAILED : Addr) (w_KILLED : Addr) (h0 : Heap) (n0 : Nat) (Z0 : n0 ≤ h0.size) (P_S_com_example_stackyard_stackyard_app_AttemptState_FINISHED : Sta Z h0 "com/example/stackyard/stackyard/app/AttemptState" "FINISHED" "Lcom/example/stackyard/stackyard/app/AttemptState;" (.ref w_FINISHED)) (P_S_com_example_stackyard_stackyard_app_AttemptState_FAILED : Sta Z h0 "com/example/stackyard/stackyard/app/AttemptState" "FAILED" "Lcom/example/stackyard/stackyard/app/AttemptState;" (.ref w_FAILED)) (P_S_com_example_stackyard_stackyard_app_AttemptState_KILLED : Sta Z h0 "com/example/stackyard/stackyard/app/AttemptState" "KILLED" "Lcom/example/stackyard/stackyard/app/AttemptState;" (.ref w_KILLED)) (ne_a1_w_FINISHED : a1 ≠ w_FINISHED) (ne_a1_w_FAILED : a1 ≠ w_FAILED) (ne_a1_w_KILLED : a1 ≠ w_KILLED) :
    MetFree l (⟨"com/example/stackyard/stackyard/app/AttemptState", "isFinal", "()Z"⟩ : MethodName) (head1 (Jvm.Cond.code (⟨"com/example/stackyard/stackyard/app/AttemptState", "isFinal", "()Z"⟩ : MethodName) prog_18_method_4_code 1 (some .boolean) :: ws) R_own_f0) (fun a U => a = #[(.ref a1)] ∧ Z.Warmed39 U.vm ∧ U.heap = h0) (fun _ _ _ _ _ => True) (fun _ U o U' => ∃ v L, o = .returned v ∧ Q_own_f0 Z a1 w_FINISHED w_FAILED w_KILLED h0 n0 v U'.heap L ∧ FrameEnd U o U' L R_own_f0.cells R_own_f0.slots) := by
  refine MetFree.of_bodySF (plainFor_of_name own_pn0) hisR ?_
  intro p e s m args below meth c s₁ Bd hml0 hP hK
  obtain ⟨rfl, hZ, hh⟩ := hP
  have hx := Bd.exec
  have hby := Bd.bytes
  have hml : c.maxLocals = 1 := hml0
  have hown : s.vm.findClass "com/example/stackyard/stackyard/app/AttemptState" = some m.cls := findClass_of_methodNamed Bd.named
  have hnm := (name_of_methodNamed Bd.named Bd.method).1
  have X0 : Stand p l e R_own_f0 s m #[(.ref a1)] below meth c s₁ [] 0 0 := Stand.of_body Bd
  have e0 : s₁.heap = h0 := by rw [← hh, Bd.state]; rfl
  have N0 := Fr.nil n0
  have K0 : Keep h0 h0 [] := Keep.refl h0 []
  show own_Fin p e below s (Q_own_f0 Z a1 w_FINISHED w_FAILED w_KILLED h0 n0) R_own_f0.cells R_own_f0.slots (s₁.setTop (entryFrame m #[(.ref a1)] 1))
  refine own_go (fun _ k => castTop (ef_own_f0 m a1) k) ?_
  show own_Fin _ _ _ _ _ _ _ (s₁.setTop (mkF m 0 #[.val (.ref a1)] []))
  refine own_go (B := s₁.setTop (mkF m 1 #[.val (.ref a1)] [(.ref a1)])) (fun _ k => XS.aloadN X0.here hx rfl (hb hby d1_0) rfl rfl k) ?_
  obtain ⟨T1, X1, e1, st1⟩ := getS2 X0 hx hZ hown (host := "") (Or.inl (own_w hw 9 rfl)) Via.refl e0 P_S_com_example_stackyard_stackyard_app_AttemptState_FINISHED (g := (mkF m 1 #[.val (.ref a1)] [(.ref a1)])) rfl (hb hby d1_1)
  refine own_go (B := T1.setTop (mkF m 4 #[.val (.ref a1)] [(.ref w_FINISHED), (.ref a1)])) st1 ?_
  refine own_go (B := T1.setTop (mkF m 7 #[.val (.ref a1)] [])) (fun _ k => Jvm.RoadKit.acmp (g := (mkF m 4 #[.val (.ref a1)] [(.ref w_FINISHED), (.ref a1)])) X1 hx rfl rfl rfl (pc0 := 4) (pc' := 7) (same := false) rfl (hb hby d1_4) rfl (decide_eq_false fun q => ne_a1_w_FINISHED (Value.ref.inj q)) (by decide) (by decide) k) ?_
  refine own_go (B := T1.setTop (mkF m 8 #[.val (.ref a1)] [(.ref a1)])) (fun _ k => XS.aloadN X1.here hx rfl (hb hby d1_7) rfl rfl k) ?_
  obtain ⟨T2, X2, e2, st2⟩ := getS2 X1 hx hZ hown (host := "") (Or.inl (own_w hw 11 rfl)) Via.refl e1 P_S_com_example_stackyard_stackyard_app_AttemptState_FAILED (g := (mkF m 8 #[.val (.ref a1)] [(.ref a1)])) rfl (hb hby d1_8)
  refine own_go (B := T2.setTop (mkF m 11 #[.val (.ref a1)] [(.ref w_FAILED), (.ref a1)])) st2 ?_
  refine own_go (B := T2.setTop (mkF m 14 #[.val (.ref a1)] [])) (fun _ k => Jvm.RoadKit.acmp (g := (mkF m 11 #[.val (.ref a1)] [(.ref w_FAILED), (.ref a1)])) X2 hx rfl rfl rfl (pc0 := 11) (pc' := 14) (same := false) rfl (hb hby d1_11) rfl (decide_eq_false fun q => ne_a1_w_FAILED (Value.ref.inj q)) (by decide) (by decide) k) ?_
  refine own_go (B := T2.setTop (mkF m 15 #[.val (.ref a1)] [(.ref a1)])) (fun _ k => XS.aloadN X2.here hx rfl (hb hby d1_14) rfl rfl k) ?_
  obtain ⟨T3, X3, e3, st3⟩ := getS2 X2 hx hZ hown (host := "") (Or.inl (own_w hw 13 rfl)) Via.refl e2 P_S_com_example_stackyard_stackyard_app_AttemptState_KILLED (g := (mkF m 15 #[.val (.ref a1)] [(.ref a1)])) rfl (hb hby d1_15)
  refine own_go (B := T3.setTop (mkF m 18 #[.val (.ref a1)] [(.ref w_KILLED), (.ref a1)])) st3 ?_
  refine own_go (B := T3.setTop (mkF m 25 #[.val (.ref a1)] [])) (fun _ k => Jvm.RoadKit.acmp (g := (mkF m 18 #[.val (.ref a1)] [(.ref w_KILLED), (.ref a1)])) X3 hx rfl rfl rfl (pc0 := 18) (pc' := 25) (same := false) rfl (hb hby d1_18) rfl (decide_eq_false fun q => ne_a1_w_KILLED (Value.ref.inj q)) (by decide) (by decide) k) ?_
  refine own_go (B := T3.setTop (mkF m 26 #[.val (.ref a1)] [(.int (0 : Int32))])) (fun _ k => XS.iconst X3.here hx rfl (hb hby d1_25) k) ?_
  exact own_retN X3 hx Bd.notSynchronized (t := .boolean) (w := (0 : Int32)) Bd.returns (by simp) (hb hby d1_26) e3 rfl ⟨rfl, N0, rfl⟩ (by decide) (by decide)
abbrev R_own_f_FINISHED : Room := { frames := 0, cells := 0, slots := 0, locals := 0 }
theorem d1_21 : decode prog_18_method_4_code 21 = .ok (.iconst 1, 1) := by decide +kernel
theorem d1_22 : decode prog_18_method_4_code 22 = .ok (.goto 4, 3) := by decide +kernel
theorem ef_own_f_FINISHED (m : MethodId) (x0 : Addr) : entryFrame m #[(.ref x0)] 1 = mkF m 0 #[.val (.ref x0)] [] := by first | (simp [entryFrame, mkF, argsToLocals, Value.category]; done) | rfl
def Q_own_f_FINISHED (Z : State) (w_FINISHED : Addr) (h0 : Heap) (n0 : Nat) (v : Option Value) (h : Heap) (L : List Loc) : Prop := v = some (.int (1 : Int32)) ∧ Fr n0 L ∧ h = h0
set_option maxRecDepth 65536 in
set_option maxHeartbeats 400000000 in
theorem own_f_FINISHED (l : Launch) (Z : State) (a0 : Array Value) (hw : ∀ d ∈ tables_1, d.before a0 Z = true) (ws : List Jvm.Cond) (w_FINISHED : Addr) (h0 : Heap) (n0 : Nat) (Z0 : n0 ≤ h0.size) (P_S_com_example_stackyard_stackyard_app_AttemptState_FINISHED : Sta Z h0 "com/example/stackyard/stackyard/app/AttemptState" "FINISHED" "Lcom/example/stackyard/stackyard/app/AttemptState;" (.ref w_FINISHED)) :
    MetFree l (⟨"com/example/stackyard/stackyard/app/AttemptState", "isFinal", "()Z"⟩ : MethodName) (head1 (Jvm.Cond.code (⟨"com/example/stackyard/stackyard/app/AttemptState", "isFinal", "()Z"⟩ : MethodName) prog_18_method_4_code 1 (some .boolean) :: ws) R_own_f_FINISHED) (fun a U => a = #[(.ref w_FINISHED)] ∧ Z.Warmed39 U.vm ∧ U.heap = h0) (fun _ _ _ _ _ => True) (fun _ U o U' => ∃ v L, o = .returned v ∧ Q_own_f_FINISHED Z w_FINISHED h0 n0 v U'.heap L ∧ FrameEnd U o U' L R_own_f_FINISHED.cells R_own_f_FINISHED.slots) := by
  refine MetFree.of_bodySF (plainFor_of_name own_pn0) hisR ?_
  intro p e s m args below meth c s₁ Bd hml0 hP hK
  obtain ⟨rfl, hZ, hh⟩ := hP
  have hx := Bd.exec
  have hby := Bd.bytes
  have hml : c.maxLocals = 1 := hml0
  have hown : s.vm.findClass "com/example/stackyard/stackyard/app/AttemptState" = some m.cls := findClass_of_methodNamed Bd.named
  have hnm := (name_of_methodNamed Bd.named Bd.method).1
  have X0 : Stand p l e R_own_f_FINISHED s m #[(.ref w_FINISHED)] below meth c s₁ [] 0 0 := Stand.of_body Bd
  have e0 : s₁.heap = h0 := by rw [← hh, Bd.state]; rfl
  have N0 := Fr.nil n0
  have K0 : Keep h0 h0 [] := Keep.refl h0 []
  show own_Fin p e below s (Q_own_f_FINISHED Z w_FINISHED h0 n0) R_own_f_FINISHED.cells R_own_f_FINISHED.slots (s₁.setTop (entryFrame m #[(.ref w_FINISHED)] 1))
  refine own_go (fun _ k => castTop (ef_own_f_FINISHED m w_FINISHED) k) ?_
  show own_Fin _ _ _ _ _ _ _ (s₁.setTop (mkF m 0 #[.val (.ref w_FINISHED)] []))
  refine own_go (B := s₁.setTop (mkF m 1 #[.val (.ref w_FINISHED)] [(.ref w_FINISHED)])) (fun _ k => XS.aloadN X0.here hx rfl (hb hby d1_0) rfl rfl k) ?_
  obtain ⟨T1, X1, e1, st1⟩ := getS2 X0 hx hZ hown (host := "") (Or.inl (own_w hw 9 rfl)) Via.refl e0 P_S_com_example_stackyard_stackyard_app_AttemptState_FINISHED (g := (mkF m 1 #[.val (.ref w_FINISHED)] [(.ref w_FINISHED)])) rfl (hb hby d1_1)
  refine own_go (B := T1.setTop (mkF m 4 #[.val (.ref w_FINISHED)] [(.ref w_FINISHED), (.ref w_FINISHED)])) st1 ?_
  refine own_go (B := T1.setTop (mkF m 21 #[.val (.ref w_FINISHED)] [])) (fun _ k => Jvm.RoadKit.acmp (g := (mkF m 4 #[.val (.ref w_FINISHED)] [(.ref w_FINISHED), (.ref w_FINISHED)])) X1 hx rfl rfl rfl (pc0 := 4) (pc' := 21) (same := true) rfl (hb hby d1_4) rfl (decide_eq_true rfl) (by decide) (by decide) k) ?_
  refine own_go (B := T1.setTop (mkF m 22 #[.val (.ref w_FINISHED)] [(.int (1 : Int32))])) (fun _ k => XS.iconst X1.here hx rfl (hb hby d1_21) k) ?_
  refine own_go (B := T1.setTop (mkF m 26 #[.val (.ref w_FINISHED)] [(.int (1 : Int32))])) (fun _ k => XS.goto X1.here hx rfl (pc0 := 22) (pc' := 26) rfl (hb hby d1_22) (by decide) (by decide) k) ?_
  exact own_retN X1 hx Bd.notSynchronized (t := .boolean) (w := (1 : Int32)) Bd.returns (by simp) (hb hby d1_26) e1 rfl ⟨rfl, N0, rfl⟩ (by decide) (by decide)
abbrev R_own_f_FAILED : Room := { frames := 0, cells := 0, slots := 0, locals := 0 }
theorem ef_own_f_FAILED (m : MethodId) (x0 : Addr) : entryFrame m #[(.ref x0)] 1 = mkF m 0 #[.val (.ref x0)] [] := by first | (simp [entryFrame, mkF, argsToLocals, Value.category]; done) | rfl
def Q_own_f_FAILED (Z : State) (w_FINISHED : Addr) (w_FAILED : Addr) (h0 : Heap) (n0 : Nat) (v : Option Value) (h : Heap) (L : List Loc) : Prop := v = some (.int (1 : Int32)) ∧ Fr n0 L ∧ h = h0
set_option maxRecDepth 65536 in
set_option maxHeartbeats 400000000 in
theorem own_f_FAILED (l : Launch) (Z : State) (a0 : Array Value) (hw : ∀ d ∈ tables_1, d.before a0 Z = true) (ws : List Jvm.Cond) (w_FINISHED : Addr) (w_FAILED : Addr) (h0 : Heap) (n0 : Nat) (Z0 : n0 ≤ h0.size) (P_S_com_example_stackyard_stackyard_app_AttemptState_FINISHED : Sta Z h0 "com/example/stackyard/stackyard/app/AttemptState" "FINISHED" "Lcom/example/stackyard/stackyard/app/AttemptState;" (.ref w_FINISHED)) (P_S_com_example_stackyard_stackyard_app_AttemptState_FAILED : Sta Z h0 "com/example/stackyard/stackyard/app/AttemptState" "FAILED" "Lcom/example/stackyard/stackyard/app/AttemptState;" (.ref w_FAILED)) (ne_w_FAILED_w_FINISHED : w_FAILED ≠ w_FINISHED) :
    MetFree l (⟨"com/example/stackyard/stackyard/app/AttemptState", "isFinal", "()Z"⟩ : MethodName) (head1 (Jvm.Cond.code (⟨"com/example/stackyard/stackyard/app/AttemptState", "isFinal", "()Z"⟩ : MethodName) prog_18_method_4_code 1 (some .boolean) :: ws) R_own_f_FAILED) (fun a U => a = #[(.ref w_FAILED)] ∧ Z.Warmed39 U.vm ∧ U.heap = h0) (fun _ _ _ _ _ => True) (fun _ U o U' => ∃ v L, o = .returned v ∧ Q_own_f_FAILED Z w_FINISHED w_FAILED h0 n0 v U'.heap L ∧ FrameEnd U o U' L R_own_f_FAILED.cells R_own_f_FAILED.slots) := by
  refine MetFree.of_bodySF (plainFor_of_name own_pn0) hisR ?_
  intro p e s m args below meth c s₁ Bd hml0 hP hK
  obtain ⟨rfl, hZ, hh⟩ := hP
  have hx := Bd.exec
  have hby := Bd.bytes
  have hml : c.maxLocals = 1 := hml0
  have hown : s.vm.findClass "com/example/stackyard/stackyard/app/AttemptState" = some m.cls := findClass_of_methodNamed Bd.named
  have hnm := (name_of_methodNamed Bd.named Bd.method).1
  have X0 : Stand p l e R_own_f_FAILED s m #[(.ref w_FAILED)] below meth c s₁ [] 0 0 := Stand.of_body Bd
  have e0 : s₁.heap = h0 := by rw [← hh, Bd.state]; rfl
  have N0 := Fr.nil n0
  have K0 : Keep h0 h0 [] := Keep.refl h0 []
  show own_Fin p e below s (Q_own_f_FAILED Z w_FINISHED w_FAILED h0 n0) R_own_f_FAILED.cells R_own_f_FAILED.slots (s₁.setTop (entryFrame m #[(.ref w_FAILED)] 1))
  refine own_go (fun _ k => castTop (ef_own_f_FAILED m w_FAILED) k) ?_
  show own_Fin _ _ _ _ _ _ _ (s₁.setTop (mkF m 0 #[.val (.ref w_FAILED)] []))
  refine own_go (B := s₁.setTop (mkF m 1 #[.val (.ref w_FAILED)] [(.ref w_FAILED)])) (fun _ k => XS.aloadN X0.here hx rfl (hb hby d1_0) rfl rfl k) ?_
  obtain ⟨T1, X1, e1, st1⟩ := getS2 X0 hx hZ hown (host := "") (Or.inl (own_w hw 9 rfl)) Via.refl e0 P_S_com_example_stackyard_stackyard_app_AttemptState_FINISHED (g := (mkF m 1 #[.val (.ref w_FAILED)] [(.ref w_FAILED)])) rfl (hb hby d1_1)
  refine own_go (B := T1.setTop (mkF m 4 #[.val (.ref w_FAILED)] [(.ref w_FINISHED), (.ref w_FAILED)])) st1 ?_
  refine own_go (B := T1.setTop (mkF m 7 #[.val (.ref w_FAILED)] [])) (fun _ k => Jvm.RoadKit.acmp (g := (mkF m 4 #[.val (.ref w_FAILED)] [(.ref w_FINISHED), (.ref w_FAILED)])) X1 hx rfl rfl rfl (pc0 := 4) (pc' := 7) (same := false) rfl (hb hby d1_4) rfl (decide_eq_false fun q => ne_w_FAILED_w_FINISHED (Value.ref.inj q)) (by decide) (by decide) k) ?_
  refine own_go (B := T1.setTop (mkF m 8 #[.val (.ref w_FAILED)] [(.ref w_FAILED)])) (fun _ k => XS.aloadN X1.here hx rfl (hb hby d1_7) rfl rfl k) ?_
  obtain ⟨T2, X2, e2, st2⟩ := getS2 X1 hx hZ hown (host := "") (Or.inl (own_w hw 11 rfl)) Via.refl e1 P_S_com_example_stackyard_stackyard_app_AttemptState_FAILED (g := (mkF m 8 #[.val (.ref w_FAILED)] [(.ref w_FAILED)])) rfl (hb hby d1_8)
  refine own_go (B := T2.setTop (mkF m 11 #[.val (.ref w_FAILED)] [(.ref w_FAILED), (.ref w_FAILED)])) st2 ?_
  refine own_go (B := T2.setTop (mkF m 21 #[.val (.ref w_FAILED)] [])) (fun _ k => Jvm.RoadKit.acmp (g := (mkF m 11 #[.val (.ref w_FAILED)] [(.ref w_FAILED), (.ref w_FAILED)])) X2 hx rfl rfl rfl (pc0 := 11) (pc' := 21) (same := true) rfl (hb hby d1_11) rfl (decide_eq_true rfl) (by decide) (by decide) k) ?_
  refine own_go (B := T2.setTop (mkF m 22 #[.val (.ref w_FAILED)] [(.int (1 : Int32))])) (fun _ k => XS.iconst X2.here hx rfl (hb hby d1_21) k) ?_
  refine own_go (B := T2.setTop (mkF m 26 #[.val (.ref w_FAILED)] [(.int (1 : Int32))])) (fun _ k => XS.goto X2.here hx rfl (pc0 := 22) (pc' := 26) rfl (hb hby d1_22) (by decide) (by decide) k) ?_
  exact own_retN X2 hx Bd.notSynchronized (t := .boolean) (w := (1 : Int32)) Bd.returns (by simp) (hb hby d1_26) e2 rfl ⟨rfl, N0, rfl⟩ (by decide) (by decide)
abbrev R_own_f_KILLED : Room := { frames := 0, cells := 0, slots := 0, locals := 0 }
theorem ef_own_f_KILLED (m : MethodId) (x0 : Addr) : entryFrame m #[(.ref x0)] 1 = mkF m 0 #[.val (.ref x0)] [] := by first | (simp [entryFrame, mkF, argsToLocals, Value.category]; done) | rfl
def Q_own_f_KILLED (Z : State) (w_FINISHED : Addr) (w_FAILED : Addr) (w_KILLED : Addr) (h0 : Heap) (n0 : Nat) (v : Option Value) (h : Heap) (L : List Loc) : Prop := v = some (.int (1 : Int32)) ∧ Fr n0 L ∧ h = h0
set_option maxRecDepth 65536 in
set_option maxHeartbeats 400000000 in
theorem own_f_KILLED (l : Launch) (Z : State) (a0 : Array Value) (hw : ∀ d ∈ tables_1, d.before a0 Z = true) (ws : List Jvm.Cond) (w_FINISHED : Addr) (w_FAILED : Addr) (w_KILLED : Addr) (h0 : Heap) (n0 : Nat) (Z0 : n0 ≤ h0.size) (P_S_com_example_stackyard_stackyard_app_AttemptState_FINISHED : Sta Z h0 "com/example/stackyard/stackyard/app/AttemptState" "FINISHED" "Lcom/example/stackyard/stackyard/app/AttemptState;" (.ref w_FINISHED)) (P_S_com_example_stackyard_stackyard_app_AttemptState_FAILED : Sta Z h0 "com/example/stackyard/stackyard/app/AttemptState" "FAILED" "Lcom/example/stackyard/stackyard/app/AttemptState;" (.ref w_FAILED)) (P_S_com_example_stackyard_stackyard_app_AttemptState_KILLED : Sta Z h0 "com/example/stackyard/stackyard/app/AttemptState" "KILLED" "Lcom/example/stackyard/stackyard/app/AttemptState;" (.ref w_KILLED)) (ne_w_KILLED_w_FINISHED : w_KILLED ≠ w_FINISHED) (ne_w_KILLED_w_FAILED : w_KILLED ≠ w_FAILED) :
    MetFree l (⟨"com/example/stackyard/stackyard/app/AttemptState", "isFinal", "()Z"⟩ : MethodName) (head1 (Jvm.Cond.code (⟨"com/example/stackyard/stackyard/app/AttemptState", "isFinal", "()Z"⟩ : MethodName) prog_18_method_4_code 1 (some .boolean) :: ws) R_own_f_KILLED) (fun a U => a = #[(.ref w_KILLED)] ∧ Z.Warmed39 U.vm ∧ U.heap = h0) (fun _ _ _ _ _ => True) (fun _ U o U' => ∃ v L, o = .returned v ∧ Q_own_f_KILLED Z w_FINISHED w_FAILED w_KILLED h0 n0 v U'.heap L ∧ FrameEnd U o U' L R_own_f_KILLED.cells R_own_f_KILLED.slots) := by
  refine MetFree.of_bodySF (plainFor_of_name own_pn0) hisR ?_
  intro p e s m args below meth c s₁ Bd hml0 hP hK
  obtain ⟨rfl, hZ, hh⟩ := hP
  have hx := Bd.exec
  have hby := Bd.bytes
  have hml : c.maxLocals = 1 := hml0
  have hown : s.vm.findClass "com/example/stackyard/stackyard/app/AttemptState" = some m.cls := findClass_of_methodNamed Bd.named
  have hnm := (name_of_methodNamed Bd.named Bd.method).1
  have X0 : Stand p l e R_own_f_KILLED s m #[(.ref w_KILLED)] below meth c s₁ [] 0 0 := Stand.of_body Bd
  have e0 : s₁.heap = h0 := by rw [← hh, Bd.state]; rfl
  have N0 := Fr.nil n0
  have K0 : Keep h0 h0 [] := Keep.refl h0 []
  show own_Fin p e below s (Q_own_f_KILLED Z w_FINISHED w_FAILED w_KILLED h0 n0) R_own_f_KILLED.cells R_own_f_KILLED.slots (s₁.setTop (entryFrame m #[(.ref w_KILLED)] 1))
  refine own_go (fun _ k => castTop (ef_own_f_KILLED m w_KILLED) k) ?_
  show own_Fin _ _ _ _ _ _ _ (s₁.setTop (mkF m 0 #[.val (.ref w_KILLED)] []))
  refine own_go (B := s₁.setTop (mkF m 1 #[.val (.ref w_KILLED)] [(.ref w_KILLED)])) (fun _ k => XS.aloadN X0.here hx rfl (hb hby d1_0) rfl rfl k) ?_
  obtain ⟨T1, X1, e1, st1⟩ := getS2 X0 hx hZ hown (host := "") (Or.inl (own_w hw 9 rfl)) Via.refl e0 P_S_com_example_stackyard_stackyard_app_AttemptState_FINISHED (g := (mkF m 1 #[.val (.ref w_KILLED)] [(.ref w_KILLED)])) rfl (hb hby d1_1)
  refine own_go (B := T1.setTop (mkF m 4 #[.val (.ref w_KILLED)] [(.ref w_FINISHED), (.ref w_KILLED)])) st1 ?_
  refine own_go (B := T1.setTop (mkF m 7 #[.val (.ref w_KILLED)] [])) (fun _ k => Jvm.RoadKit.acmp (g := (mkF m 4 #[.val (.ref w_KILLED)] [(.ref w_FINISHED), (.ref w_KILLED)])) X1 hx rfl rfl rfl (pc0 := 4) (pc' := 7) (same := false) rfl (hb hby d1_4) rfl (decide_eq_false fun q => ne_w_KILLED_w_FINISHED (Value.ref.inj q)) (by decide) (by decide) k) ?_
  refine own_go (B := T1.setTop (mkF m 8 #[.val (.ref w_KILLED)] [(.ref w_KILLED)])) (fun _ k => XS.aloadN X1.here hx rfl (hb hby d1_7) rfl rfl k) ?_
  obtain ⟨T2, X2, e2, st2⟩ := getS2 X1 hx hZ hown (host := "") (Or.inl (own_w hw 11 rfl)) Via.refl e1 P_S_com_example_stackyard_stackyard_app_AttemptState_FAILED (g := (mkF m 8 #[.val (.ref w_KILLED)] [(.ref w_KILLED)])) rfl (hb hby d1_8)
  refine own_go (B := T2.setTop (mkF m 11 #[.val (.ref w_KILLED)] [(.ref w_FAILED), (.ref w_KILLED)])) st2 ?_
  refine own_go (B := T2.setTop (mkF m 14 #[.val (.ref w_KILLED)] [])) (fun _ k => Jvm.RoadKit.acmp (g := (mkF m 11 #[.val (.ref w_KILLED)] [(.ref w_FAILED), (.ref w_KILLED)])) X2 hx rfl rfl rfl (pc0 := 11) (pc' := 14) (same := false) rfl (hb hby d1_11) rfl (decide_eq_false fun q => ne_w_KILLED_w_FAILED (Value.ref.inj q)) (by decide) (by decide) k) ?_
  refine own_go (B := T2.setTop (mkF m 15 #[.val (.ref w_KILLED)] [(.ref w_KILLED)])) (fun _ k => XS.aloadN X2.here hx rfl (hb hby d1_14) rfl rfl k) ?_
  obtain ⟨T3, X3, e3, st3⟩ := getS2 X2 hx hZ hown (host := "") (Or.inl (own_w hw 13 rfl)) Via.refl e2 P_S_com_example_stackyard_stackyard_app_AttemptState_KILLED (g := (mkF m 15 #[.val (.ref w_KILLED)] [(.ref w_KILLED)])) rfl (hb hby d1_15)
  refine own_go (B := T3.setTop (mkF m 18 #[.val (.ref w_KILLED)] [(.ref w_KILLED), (.ref w_KILLED)])) st3 ?_
  refine own_go (B := T3.setTop (mkF m 21 #[.val (.ref w_KILLED)] [])) (fun _ k => Jvm.RoadKit.acmp (g := (mkF m 18 #[.val (.ref w_KILLED)] [(.ref w_KILLED), (.ref w_KILLED)])) X3 hx rfl rfl rfl (pc0 := 18) (pc' := 21) (same := true) rfl (hb hby d1_18) rfl (decide_eq_true rfl) (by decide) (by decide) k) ?_
  refine own_go (B := T3.setTop (mkF m 22 #[.val (.ref w_KILLED)] [(.int (1 : Int32))])) (fun _ k => XS.iconst X3.here hx rfl (hb hby d1_21) k) ?_
  refine own_go (B := T3.setTop (mkF m 26 #[.val (.ref w_KILLED)] [(.int (1 : Int32))])) (fun _ k => XS.goto X3.here hx rfl (pc0 := 22) (pc' := 26) rfl (hb hby d1_22) (by decide) (by decide) k) ?_
  exact own_retN X3 hx Bd.notSynchronized (t := .boolean) (w := (1 : Int32)) Bd.returns (by simp) (hb hby d1_26) e3 rfl ⟨rfl, N0, rfl⟩ (by decide) (by decide)
theorem own_pn1 : plainName "com/example/stackyard/stackyard/app/AttemptStateIsFinalPinLaw" = true := by first | (simp [plainName, overriddenIn]; done) | decide +kernel
theorem ef_own_rm0 (m : MethodId) (x0 : Int32) : entryFrame m #[(.int x0)] maxLocals = mkF m 0 #[.val (.int x0), .unset, .unset, .unset] [] := by first | (simp [entryFrame, mkF, argsToLocals, Value.category, maxLocals]; done) | rfl
def Q_own_rm0 (Z : State) (p1 : Int32) (w_SCHEDULED : Addr) (w_ALLOCATED : Addr) (w_LAUNCHED : Addr) (w_RUNNING : Addr) (w_FINISHED : Addr) (w_FAILED : Addr) (w_KILLED : Addr) (h0 : Heap) (n0 : Nat) (v : Option Value) (h : Heap) (L : List Loc) : Prop := v = some (.int (1 : Int32)) ∧ Fr n0 L ∧ h = h0
set_option maxRecDepth 65536 in
set_option maxHeartbeats 400000000 in
theorem own_rm0 (l : Launch) (Z : State) (a0 : Array Value) (hw : ∀ d ∈ tables_1, d.before a0 Z = true) (ws : List Jvm.Cond) (p1 : Int32) (w_SCHEDULED : Addr) (w_ALLOCATED : Addr) (w_LAUNCHED : Addr) (w_RUNNING : Addr) (w_FINISHED : Addr) (w_FAILED : Addr) (w_KILLED : Addr) (h0 : Heap) (n0 : Nat) (Z0 : n0 ≤ h0.size) (P_S_com_example_stackyard_stackyard_app_AttemptState_SCHEDULED : Sta Z h0 "com/example/stackyard/stackyard/app/AttemptState" "SCHEDULED" "Lcom/example/stackyard/stackyard/app/AttemptState;" (.ref w_SCHEDULED)) (P_E_w_SCHEDULED : Exa Z h0 w_SCHEDULED "com/example/stackyard/stackyard/app/AttemptState") (P_S_com_example_stackyard_stackyard_app_AttemptState_ALLOCATED : Sta Z h0 "com/example/stackyard/stackyard/app/AttemptState" "ALLOCATED" "Lcom/example/stackyard/stackyard/app/AttemptState;" (.ref w_ALLOCATED)) (P_E_w_ALLOCATED : Exa Z h0 w_ALLOCATED "com/example/stackyard/stackyard/app/AttemptState") (P_S_com_example_stackyard_stackyard_app_AttemptState_LAUNCHED : Sta Z h0 "com/example/stackyard/stackyard/app/AttemptState" "LAUNCHED" "Lcom/example/stackyard/stackyard/app/AttemptState;" (.ref w_LAUNCHED)) (P_E_w_LAUNCHED : Exa Z h0 w_LAUNCHED "com/example/stackyard/stackyard/app/AttemptState") (P_S_com_example_stackyard_stackyard_app_AttemptState_RUNNING : Sta Z h0 "com/example/stackyard/stackyard/app/AttemptState" "RUNNING" "Lcom/example/stackyard/stackyard/app/AttemptState;" (.ref w_RUNNING)) (P_E_w_RUNNING : Exa Z h0 w_RUNNING "com/example/stackyard/stackyard/app/AttemptState") (P_S_com_example_stackyard_stackyard_app_AttemptState_FINISHED : Sta Z h0 "com/example/stackyard/stackyard/app/AttemptState" "FINISHED" "Lcom/example/stackyard/stackyard/app/AttemptState;" (.ref w_FINISHED)) (P_E_w_FINISHED : Exa Z h0 w_FINISHED "com/example/stackyard/stackyard/app/AttemptState") (P_S_com_example_stackyard_stackyard_app_AttemptState_FAILED : Sta Z h0 "com/example/stackyard/stackyard/app/AttemptState" "FAILED" "Lcom/example/stackyard/stackyard/app/AttemptState;" (.ref w_FAILED)) (P_E_w_FAILED : Exa Z h0 w_FAILED "com/example/stackyard/stackyard/app/AttemptState") (P_S_com_example_stackyard_stackyard_app_AttemptState_KILLED : Sta Z h0 "com/example/stackyard/stackyard/app/AttemptState" "KILLED" "Lcom/example/stackyard/stackyard/app/AttemptState;" (.ref w_KILLED)) (P_E_w_KILLED : Exa Z h0 w_KILLED "com/example/stackyard/stackyard/app/AttemptState") (ne_w_SCHEDULED_w_FINISHED : w_SCHEDULED ≠ w_FINISHED) (ne_w_ALLOCATED_w_FINISHED : w_ALLOCATED ≠ w_FINISHED) (ne_w_LAUNCHED_w_FINISHED : w_LAUNCHED ≠ w_FINISHED) (ne_w_RUNNING_w_FINISHED : w_RUNNING ≠ w_FINISHED) (ne_w_SCHEDULED_w_FAILED : w_SCHEDULED ≠ w_FAILED) (ne_w_ALLOCATED_w_FAILED : w_ALLOCATED ≠ w_FAILED) (ne_w_LAUNCHED_w_FAILED : w_LAUNCHED ≠ w_FAILED) (ne_w_RUNNING_w_FAILED : w_RUNNING ≠ w_FAILED) (ne_w_SCHEDULED_w_KILLED : w_SCHEDULED ≠ w_KILLED) (ne_w_ALLOCATED_w_KILLED : w_ALLOCATED ≠ w_KILLED) (ne_w_LAUNCHED_w_KILLED : w_LAUNCHED ≠ w_KILLED) (ne_w_RUNNING_w_KILLED : w_RUNNING ≠ w_KILLED) (ne_w_FAILED_w_FINISHED : w_FAILED ≠ w_FINISHED) (ne_w_KILLED_w_FINISHED : w_KILLED ≠ w_FINISHED) (ne_w_KILLED_w_FAILED : w_KILLED ≠ w_FAILED) :
    MetFree l x (head1 (Jvm.Cond.code x code maxLocals ret :: ws) room_1) (fun a U => a = #[(.int p1)] ∧ Z.Warmed39 U.vm ∧ U.heap = h0) (fun _ _ _ _ _ => True) (fun _ U o U' => ∃ v L, o = .returned v ∧ Q_own_rm0 Z p1 w_SCHEDULED w_ALLOCATED w_LAUNCHED w_RUNNING w_FINISHED w_FAILED w_KILLED h0 n0 v U'.heap L ∧ FrameEnd U o U' L 0 0) := by
  refine MetFree.of_bodySF (plainFor_of_name own_pn1) hisR ?_
  intro p e s m args below meth c s₁ Bd hml0 hP hK
  obtain ⟨rfl, hZ, hh⟩ := hP
  have hx := Bd.exec
  have hby := Bd.bytes
  have hml : c.maxLocals = 4 := hml0
  have hown : s.vm.findClass "com/example/stackyard/stackyard/app/AttemptStateIsFinalPinLaw" = some m.cls := findClass_of_methodNamed Bd.named
  have hnm := (name_of_methodNamed Bd.named Bd.method).1
  have X0 : Stand p l e room_1 s m #[(.int p1)] below meth c s₁ [] 0 0 := Stand.of_body Bd
  have e0 : s₁.heap = h0 := by rw [← hh, Bd.state]; rfl
  have N0 := Fr.nil n0
  have K0 : Keep h0 h0 [] := Keep.refl h0 []
  show own_Fin p e below s (Q_own_rm0 Z p1 w_SCHEDULED w_ALLOCATED w_LAUNCHED w_RUNNING w_FINISHED w_FAILED w_KILLED h0 n0) 0 0 (s₁.setTop (entryFrame m #[(.int p1)] maxLocals))
  refine own_go (fun _ k => castTop (ef_own_rm0 m p1) k) ?_
  show own_Fin _ _ _ _ _ _ _ (s₁.setTop (mkF m 0 #[.val (.int p1), .unset, .unset, .unset] []))
  refine own_go (B := s₁.setTop (mkF m 1 #[.val (.int p1), .unset, .unset, .unset] [(.int p1)])) (fun _ k => XS.iloadN X0.here hx rfl (hb hby at_0) rfl  k) ?_
  refine own_go (B := s₁.setTop (mkF m 3 #[.val (.int p1), .unset, .unset, .unset] [(.int (2147483647 : Int32)), (.int p1)])) (fun _ k => X0.ldcInt hx hown (mvT hZ (own_w hw 0 rfl)) (g := (mkF m 1 #[.val (.int p1), .unset, .unset, .unset] [(.int p1)])) rfl (hb hby at_1) _ k) ?_
  refine own_go (B := s₁.setTop (mkF m 4 #[.val (.int p1), .unset, .unset, .unset] [(.int (p1 &&& (2147483647 : Int32)))])) (fun _ k => XS.iand X0.here hx rfl (hb hby at_3) rfl k) ?_
  refine own_go (B := s₁.setTop (mkF m 6 #[.val (.int p1), .unset, .unset, .unset] [(.int (7 : Int32)), (.int (p1 &&& (2147483647 : Int32)))])) (fun _ k => XS.bipush X0.here hx rfl (hb hby at_4) k) ?_
  have hnz1 : (7 : Int32) ≠ (0 : Int32) := by decide
  refine own_go (B := s₁.setTop (mkF m 7 #[.val (.int p1), .unset, .unset, .unset] [(.int ((p1 &&& (2147483647 : Int32)) % (7 : Int32)))])) (fun _ k => iremM X0 hx rfl (hb hby at_6) rfl hnz1 k) ?_
  refine own_go (B := s₁.setTop (mkF m 8 #[.val (.int p1), .val (.int ((p1 &&& (2147483647 : Int32)) % (7 : Int32))), .unset, .unset] [])) (fun _ k => XS.istoreN X0.here hx rfl (hb hby at_7) rfl (l' := #[.val (.int p1), .val (.int ((p1 &&& (2147483647 : Int32)) % (7 : Int32))), .unset, .unset]) rfl k) ?_
  refine own_go (B := s₁.setTop (mkF m 9 #[.val (.int p1), .val (.int ((p1 &&& (2147483647 : Int32)) % (7 : Int32))), .unset, .unset] [(.int ((p1 &&& (2147483647 : Int32)) % (7 : Int32)))])) (fun _ k => XS.iloadN X0.here hx rfl (hb hby at_8) rfl  k) ?_
  by_cases hc2 : ((p1 &&& (2147483647 : Int32)) % (7 : Int32)) = (0 : Int32)
  · skip
    refine own_go (B := s₁.setTop (mkF m 12 #[.val (.int p1), .val (.int ((p1 &&& (2147483647 : Int32)) % (7 : Int32))), .unset, .unset] [])) (fun _ k => XS.ifNo X0.here hx rfl (hb hby at_9) rfl ((if0 _ _).trans (teq hc2).2) k) ?_
    obtain ⟨T3, X3, e3, st3⟩ := getS2 X0 hx hZ hown (host := "") (Or.inl (own_w hw 1 rfl)) Via.refl e0 P_S_com_example_stackyard_stackyard_app_AttemptState_SCHEDULED (g := (mkF m 12 #[.val (.int p1), .val (.int ((p1 &&& (2147483647 : Int32)) % (7 : Int32))), .unset, .unset] [])) rfl (hb hby at_12)
    refine own_go (B := T3.setTop (mkF m 15 #[.val (.int p1), .val (.int ((p1 &&& (2147483647 : Int32)) % (7 : Int32))), .unset, .unset] [(.ref w_SCHEDULED)])) st3 ?_
    refine own_go (B := T3.setTop (mkF m 16 #[.val (.int p1), .val (.int ((p1 &&& (2147483647 : Int32)) % (7 : Int32))), .val (.ref w_SCHEDULED), .unset] [])) (fun _ k => XS.astoreN X3.here hx rfl (hb hby at_15) rfl rfl (l' := #[.val (.int p1), .val (.int ((p1 &&& (2147483647 : Int32)) % (7 : Int32))), .val (.ref w_SCHEDULED), .unset]) rfl k) ?_
    refine own_go (B := T3.setTop (mkF m 17 #[.val (.int p1), .val (.int ((p1 &&& (2147483647 : Int32)) % (7 : Int32))), .val (.ref w_SCHEDULED), .unset] [(.int (0 : Int32))])) (fun _ k => XS.iconst X3.here hx rfl (hb hby at_16) k) ?_
    refine own_go (B := T3.setTop (mkF m 18 #[.val (.int p1), .val (.int ((p1 &&& (2147483647 : Int32)) % (7 : Int32))), .val (.ref w_SCHEDULED), .val (.int (0 : Int32))] [])) (fun _ k => XS.istoreN X3.here hx rfl (hb hby at_17) rfl (l' := #[.val (.int p1), .val (.int ((p1 &&& (2147483647 : Int32)) % (7 : Int32))), .val (.ref w_SCHEDULED), .val (.int (0 : Int32))]) rfl k) ?_
    refine own_go (B := T3.setTop (mkF m 97 #[.val (.int p1), .val (.int ((p1 &&& (2147483647 : Int32)) % (7 : Int32))), .val (.ref w_SCHEDULED), .val (.int (0 : Int32))] [])) (fun _ k => XS.goto X3.here hx rfl (pc0 := 18) (pc' := 97) rfl (hb hby at_18) (by decide) (by decide) k) ?_
    refine own_go (B := T3.setTop (mkF m 98 #[.val (.int p1), .val (.int ((p1 &&& (2147483647 : Int32)) % (7 : Int32))), .val (.ref w_SCHEDULED), .val (.int (0 : Int32))] [(.ref w_SCHEDULED)])) (fun _ k => XS.aloadN X3.here hx rfl (hb hby at_97) rfl rfl k) ?_
    obtain ⟨cq4, kq4, q4a, q4b, q4c⟩ := isOf hZ e3 P_E_w_SCHEDULED
    obtain ⟨_, _, ⟨T4, L4, k4, n4⟩, -, X4, ⟨Lc4, hQ4, l4, y4, z4⟩, st4⟩ := X3.virtualBack hx (y := (⟨"com/example/stackyard/stackyard/app/AttemptState", "isFinal", "()Z"⟩ : MethodName)) (z := (⟨"com/example/stackyard/stackyard/app/AttemptState", "isFinal", "()Z"⟩ : MethodName)) hown (mvT hZ (own_w hw 4 rfl)) (mvT hZ (own_w hw 5 rfl)) (notFace_of_selects (args := #[]) (mvT hZ (own_w hw 7 rfl))) (mvT hZ (own_w hw 7 rfl)) (mvT hZ (own_w hw 6 rfl)) (by decide) (backOf (W := 0) (own_f0 l Z a0 hw [] w_SCHEDULED w_FINISHED w_FAILED w_KILLED h0 n0 (Nat.le_trans Z0 K0.1) P_S_com_example_stackyard_stackyard_app_AttemptState_FINISHED P_S_com_example_stackyard_stackyard_app_AttemptState_FAILED P_S_com_example_stackyard_stackyard_app_AttemptState_KILLED ne_w_SCHEDULED_w_FINISHED ne_w_SCHEDULED_w_FAILED ne_w_SCHEDULED_w_KILLED) hZ (own_w hw 8 rfl) (own_w hw 2 rfl) (by decide) (by decide)) q4a q4c (g := (mkF m 98 #[.val (.int p1), .val (.int ((p1 &&& (2147483647 : Int32)) % (7 : Int32))), .val (.ref w_SCHEDULED), .val (.int (0 : Int32))] [(.ref w_SCHEDULED)])) rfl (by rw [hml]; rfl) (Steps.refl _) (argsL := []) (rest := []) (lenOf own_pd0 rfl) rfl (by show 2 * 0 + _ ≤ _; exact Nat.le_of_eq rfl) (hb hby at_98) (fun _ _ => ⟨rfl, e3, (by decide : 0 + 0 ≤ _), (by decide : 0 + 0 ≤ _)⟩)
    dsimp only [Pt.U, Pt.locs, Pt.cells, Pt.slots] at X4 l4 y4 z4 st4 hQ4
    subst l4 y4 z4
    obtain ⟨rfl, N4q, e4⟩ := hQ4
    have N4 := Fr.app N0 N4q
    refine own_go (B := T4.setTop (mkF m 101 #[.val (.int p1), .val (.int ((p1 &&& (2147483647 : Int32)) % (7 : Int32))), .val (.ref w_SCHEDULED), .val (.int (0 : Int32))] [(.int (0 : Int32))])) (fun _ k => st4.trans k) ?_
    refine own_go (B := T4.setTop (mkF m 102 #[.val (.int p1), .val (.int ((p1 &&& (2147483647 : Int32)) % (7 : Int32))), .val (.ref w_SCHEDULED), .val (.int (0 : Int32))] [(.int (0 : Int32)), (.int (0 : Int32))])) (fun _ k => XS.iloadN X4.here hx rfl (hb hby at_101) rfl  k) ?_
    have hc5 : (0 : Int32) = (0 : Int32) := by decide
    refine own_go (B := T4.setTop (mkF m 105 #[.val (.int p1), .val (.int ((p1 &&& (2147483647 : Int32)) % (7 : Int32))), .val (.ref w_SCHEDULED), .val (.int (0 : Int32))] [])) (fun _ k => XS.icmpNo X4.here hx rfl (hb hby at_102) rfl (teq hc5).2 k) ?_
    refine own_go (B := T4.setTop (mkF m 106 #[.val (.int p1), .val (.int ((p1 &&& (2147483647 : Int32)) % (7 : Int32))), .val (.ref w_SCHEDULED), .val (.int (0 : Int32))] [(.int (1 : Int32))])) (fun _ k => XS.iconst X4.here hx rfl (hb hby at_105) k) ?_
    refine own_go (B := T4.setTop (mkF m 110 #[.val (.int p1), .val (.int ((p1 &&& (2147483647 : Int32)) % (7 : Int32))), .val (.ref w_SCHEDULED), .val (.int (0 : Int32))] [(.int (1 : Int32))])) (fun _ k => XS.goto X4.here hx rfl (pc0 := 106) (pc' := 110) rfl (hb hby at_106) (by decide) (by decide) k) ?_
    exact own_retN X4 hx Bd.notSynchronized (t := .boolean) (w := (1 : Int32)) Bd.returns (by simp) (hb hby at_110) e4 rfl ⟨rfl, N4, rfl⟩ (by decide) (by decide)
  · skip
    refine own_go (B := s₁.setTop (mkF m 21 #[.val (.int p1), .val (.int ((p1 &&& (2147483647 : Int32)) % (7 : Int32))), .unset, .unset] [])) (fun _ k => XS.ifYes X0.here hx rfl (pc0 := 9) (pc' := 21) rfl (hb hby at_9) rfl ((if0 _ _).trans (feq hc2).2) (by decide) (by decide) k) ?_
    refine own_go (B := s₁.setTop (mkF m 22 #[.val (.int p1), .val (.int ((p1 &&& (2147483647 : Int32)) % (7 : Int32))), .unset, .unset] [(.int ((p1 &&& (2147483647 : Int32)) % (7 : Int32)))])) (fun _ k => XS.iloadN X0.here hx rfl (hb hby at_21) rfl  k) ?_
    refine own_go (B := s₁.setTop (mkF m 23 #[.val (.int p1), .val (.int ((p1 &&& (2147483647 : Int32)) % (7 : Int32))), .unset, .unset] [(.int (1 : Int32)), (.int ((p1 &&& (2147483647 : Int32)) % (7 : Int32)))])) (fun _ k => XS.iconst X0.here hx rfl (hb hby at_22) k) ?_
    by_cases hc6 : ((p1 &&& (2147483647 : Int32)) % (7 : Int32)) = (1 : Int32)
    · skip
      refine own_go (B := s₁.setTop (mkF m 26 #[.val (.int p1), .val (.int ((p1 &&& (2147483647 : Int32)) % (7 : Int32))), .unset, .unset] [])) (fun _ k => XS.icmpNo X0.here hx rfl (hb hby at_23) rfl (teq hc6).2 k) ?_
      obtain ⟨T7, X7, e7, st7⟩ := getS2 X0 hx hZ hown (host := "") (Or.inl (own_w hw 22 rfl)) Via.refl e0 P_S_com_example_stackyard_stackyard_app_AttemptState_ALLOCATED (g := (mkF m 26 #[.val (.int p1), .val (.int ((p1 &&& (2147483647 : Int32)) % (7 : Int32))), .unset, .unset] [])) rfl (hb hby at_26)
      refine own_go (B := T7.setTop (mkF m 29 #[.val (.int p1), .val (.int ((p1 &&& (2147483647 : Int32)) % (7 : Int32))), .unset, .unset] [(.ref w_ALLOCATED)])) st7 ?_
      refine own_go (B := T7.setTop (mkF m 30 #[.val (.int p1), .val (.int ((p1 &&& (2147483647 : Int32)) % (7 : Int32))), .val (.ref w_ALLOCATED), .unset] [])) (fun _ k => XS.astoreN X7.here hx rfl (hb hby at_29) rfl rfl (l' := #[.val (.int p1), .val (.int ((p1 &&& (2147483647 : Int32)) % (7 : Int32))), .val (.ref w_ALLOCATED), .unset]) rfl k) ?_
      refine own_go (B := T7.setTop (mkF m 31 #[.val (.int p1), .val (.int ((p1 &&& (2147483647 : Int32)) % (7 : Int32))), .val (.ref w_ALLOCATED), .unset] [(.int (0 : Int32))])) (fun _ k => XS.iconst X7.here hx rfl (hb hby at_30) k) ?_
      refine own_go (B := T7.setTop (mkF m 32 #[.val (.int p1), .val (.int ((p1 &&& (2147483647 : Int32)) % (7 : Int32))), .val (.ref w_ALLOCATED), .val (.int (0 : Int32))] [])) (fun _ k => XS.istoreN X7.here hx rfl (hb hby at_31) rfl (l' := #[.val (.int p1), .val (.int ((p1 &&& (2147483647 : Int32)) % (7 : Int32))), .val (.ref w_ALLOCATED), .val (.int (0 : Int32))]) rfl k) ?_
      refine own_go (B := T7.setTop (mkF m 97 #[.val (.int p1), .val (.int ((p1 &&& (2147483647 : Int32)) % (7 : Int32))), .val (.ref w_ALLOCATED), .val (.int (0 : Int32))] [])) (fun _ k => XS.goto X7.here hx rfl (pc0 := 32) (pc' := 97) rfl (hb hby at_32) (by decide) (by decide) k) ?_
      refine own_go (B := T7.setTop (mkF m 98 #[.val (.int p1), .val (.int ((p1 &&& (2147483647 : Int32)) % (7 : Int32))), .val (.ref w_ALLOCATED), .val (.int (0 : Int32))] [(.ref w_ALLOCATED)])) (fun _ k => XS.aloadN X7.here hx rfl (hb hby at_97) rfl rfl k) ?_
      obtain ⟨cq8, kq8, q8a, q8b, q8c⟩ := isOf hZ e7 P_E_w_ALLOCATED
      obtain ⟨_, _, ⟨T8, L8, k8, n8⟩, -, X8, ⟨Lc8, hQ8, l8, y8, z8⟩, st8⟩ := X7.virtualBack hx (y := (⟨"com/example/stackyard/stackyard/app/AttemptState", "isFinal", "()Z"⟩ : MethodName)) (z := (⟨"com/example/stackyard/stackyard/app/AttemptState", "isFinal", "()Z"⟩ : MethodName)) hown (mvT hZ (own_w hw 4 rfl)) (mvT hZ (own_w hw 5 rfl)) (notFace_of_selects (args := #[]) (mvT hZ (own_w hw 7 rfl))) (mvT hZ (own_w hw 7 rfl)) (mvT hZ (own_w hw 6 rfl)) (by decide) (backOf (W := 0) (own_f0 l Z a0 hw [] w_ALLOCATED w_FINISHED w_FAILED w_KILLED h0 n0 (Nat.le_trans Z0 K0.1) P_S_com_example_stackyard_stackyard_app_AttemptState_FINISHED P_S_com_example_stackyard_stackyard_app_AttemptState_FAILED P_S_com_example_stackyard_stackyard_app_AttemptState_KILLED ne_w_ALLOCATED_w_FINISHED ne_w_ALLOCATED_w_FAILED ne_w_ALLOCATED_w_KILLED) hZ (own_w hw 8 rfl) (own_w hw 2 rfl) (by decide) (by decide)) q8a q8c (g := (mkF m 98 #[.val (.int p1), .val (.int ((p1 &&& (2147483647 : Int32)) % (7 : Int32))), .val (.ref w_ALLOCATED), .val (.int (0 : Int32))] [(.ref w_ALLOCATED)])) rfl (by rw [hml]; rfl) (Steps.refl _) (argsL := []) (rest := []) (lenOf own_pd0 rfl) rfl (by show 2 * 0 + _ ≤ _; exact Nat.le_of_eq rfl) (hb hby at_98) (fun _ _ => ⟨rfl, e7, (by decide : 0 + 0 ≤ _), (by decide : 0 + 0 ≤ _)⟩)
      dsimp only [Pt.U, Pt.locs, Pt.cells, Pt.slots] at X8 l8 y8 z8 st8 hQ8
      subst l8 y8 z8
      obtain ⟨rfl, N8q, e8⟩ := hQ8
      have N8 := Fr.app N0 N8q
      refine own_go (B := T8.setTop (mkF m 101 #[.val (.int p1), .val (.int ((p1 &&& (2147483647 : Int32)) % (7 : Int32))), .val (.ref w_ALLOCATED), .val (.int (0 : Int32))] [(.int (0 : Int32))])) (fun _ k => st8.trans k) ?_
      refine own_go (B := T8.setTop (mkF m 102 #[.val (.int p1), .val (.int ((p1 &&& (2147483647 : Int32)) % (7 : Int32))), .val (.ref w_ALLOCATED), .val (.int (0 : Int32))] [(.int (0 : Int32)), (.int (0 : Int32))])) (fun _ k => XS.iloadN X8.here hx rfl (hb hby at_101) rfl  k) ?_
      have hc9 : (0 : Int32) = (0 : Int32) := by decide
      refine own_go (B := T8.setTop (mkF m 105 #[.val (.int p1), .val (.int ((p1 &&& (2147483647 : Int32)) % (7 : Int32))), .val (.ref w_ALLOCATED), .val (.int (0 : Int32))] [])) (fun _ k => XS.icmpNo X8.here hx rfl (hb hby at_102) rfl (teq hc9).2 k) ?_
      refine own_go (B := T8.setTop (mkF m 106 #[.val (.int p1), .val (.int ((p1 &&& (2147483647 : Int32)) % (7 : Int32))), .val (.ref w_ALLOCATED), .val (.int (0 : Int32))] [(.int (1 : Int32))])) (fun _ k => XS.iconst X8.here hx rfl (hb hby at_105) k) ?_
      refine own_go (B := T8.setTop (mkF m 110 #[.val (.int p1), .val (.int ((p1 &&& (2147483647 : Int32)) % (7 : Int32))), .val (.ref w_ALLOCATED), .val (.int (0 : Int32))] [(.int (1 : Int32))])) (fun _ k => XS.goto X8.here hx rfl (pc0 := 106) (pc' := 110) rfl (hb hby at_106) (by decide) (by decide) k) ?_
      exact own_retN X8 hx Bd.notSynchronized (t := .boolean) (w := (1 : Int32)) Bd.returns (by simp) (hb hby at_110) e8 rfl ⟨rfl, N8, rfl⟩ (by decide) (by decide)
    · skip
      refine own_go (B := s₁.setTop (mkF m 35 #[.val (.int p1), .val (.int ((p1 &&& (2147483647 : Int32)) % (7 : Int32))), .unset, .unset] [])) (fun _ k => XS.icmpYes X0.here hx rfl (pc0 := 23) (pc' := 35) rfl (hb hby at_23) rfl (feq hc6).2 (by decide) (by decide) k) ?_
      refine own_go (B := s₁.setTop (mkF m 36 #[.val (.int p1), .val (.int ((p1 &&& (2147483647 : Int32)) % (7 : Int32))), .unset, .unset] [(.int ((p1 &&& (2147483647 : Int32)) % (7 : Int32)))])) (fun _ k => XS.iloadN X0.here hx rfl (hb hby at_35) rfl  k) ?_
      refine own_go (B := s₁.setTop (mkF m 37 #[.val (.int p1), .val (.int ((p1 &&& (2147483647 : Int32)) % (7 : Int32))), .unset, .unset] [(.int (2 : Int32)), (.int ((p1 &&& (2147483647 : Int32)) % (7 : Int32)))])) (fun _ k => XS.iconst X0.here hx rfl (hb hby at_36) k) ?_
      by_cases hc10 : ((p1 &&& (2147483647 : Int32)) % (7 : Int32)) = (2 : Int32)
      · skip
        refine own_go (B := s₁.setTop (mkF m 40 #[.val (.int p1), .val (.int ((p1 &&& (2147483647 : Int32)) % (7 : Int32))), .unset, .unset] [])) (fun _ k => XS.icmpNo X0.here hx rfl (hb hby at_37) rfl (teq hc10).2 k) ?_
        obtain ⟨T11, X11, e11, st11⟩ := getS2 X0 hx hZ hown (host := "") (Or.inl (own_w hw 20 rfl)) Via.refl e0 P_S_com_example_stackyard_stackyard_app_AttemptState_LAUNCHED (g := (mkF m 40 #[.val (.int p1), .val (.int ((p1 &&& (2147483647 : Int32)) % (7 : Int32))), .unset, .unset] [])) rfl (hb hby at_40)
        refine own_go (B := T11.setTop (mkF m 43 #[.val (.int p1), .val (.int ((p1 &&& (2147483647 : Int32)) % (7 : Int32))), .unset, .unset] [(.ref w_LAUNCHED)])) st11 ?_
        refine own_go (B := T11.setTop (mkF m 44 #[.val (.int p1), .val (.int ((p1 &&& (2147483647 : Int32)) % (7 : Int32))), .val (.ref w_LAUNCHED), .unset] [])) (fun _ k => XS.astoreN X11.here hx rfl (hb hby at_43) rfl rfl (l' := #[.val (.int p1), .val (.int ((p1 &&& (2147483647 : Int32)) % (7 : Int32))), .val (.ref w_LAUNCHED), .unset]) rfl k) ?_
        refine own_go (B := T11.setTop (mkF m 45 #[.val (.int p1), .val (.int ((p1 &&& (2147483647 : Int32)) % (7 : Int32))), .val (.ref w_LAUNCHED), .unset] [(.int (0 : Int32))])) (fun _ k => XS.iconst X11.here hx rfl (hb hby at_44) k) ?_
        refine own_go (B := T11.setTop (mkF m 46 #[.val (.int p1), .val (.int ((p1 &&& (2147483647 : Int32)) % (7 : Int32))), .val (.ref w_LAUNCHED), .val (.int (0 : Int32))] [])) (fun _ k => XS.istoreN X11.here hx rfl (hb hby at_45) rfl (l' := #[.val (.int p1), .val (.int ((p1 &&& (2147483647 : Int32)) % (7 : Int32))), .val (.ref w_LAUNCHED), .val (.int (0 : Int32))]) rfl k) ?_
        refine own_go (B := T11.setTop (mkF m 97 #[.val (.int p1), .val (.int ((p1 &&& (2147483647 : Int32)) % (7 : Int32))), .val (.ref w_LAUNCHED), .val (.int (0 : Int32))] [])) (fun _ k => XS.goto X11.here hx rfl (pc0 := 46) (pc' := 97) rfl (hb hby at_46) (by decide) (by decide) k) ?_
        refine own_go (B := T11.setTop (mkF m 98 #[.val (.int p1), .val (.int ((p1 &&& (2147483647 : Int32)) % (7 : Int32))), .val (.ref w_LAUNCHED), .val (.int (0 : Int32))] [(.ref w_LAUNCHED)])) (fun _ k => XS.aloadN X11.here hx rfl (hb hby at_97) rfl rfl k) ?_
        obtain ⟨cq12, kq12, q12a, q12b, q12c⟩ := isOf hZ e11 P_E_w_LAUNCHED
        obtain ⟨_, _, ⟨T12, L12, k12, n12⟩, -, X12, ⟨Lc12, hQ12, l12, y12, z12⟩, st12⟩ := X11.virtualBack hx (y := (⟨"com/example/stackyard/stackyard/app/AttemptState", "isFinal", "()Z"⟩ : MethodName)) (z := (⟨"com/example/stackyard/stackyard/app/AttemptState", "isFinal", "()Z"⟩ : MethodName)) hown (mvT hZ (own_w hw 4 rfl)) (mvT hZ (own_w hw 5 rfl)) (notFace_of_selects (args := #[]) (mvT hZ (own_w hw 7 rfl))) (mvT hZ (own_w hw 7 rfl)) (mvT hZ (own_w hw 6 rfl)) (by decide) (backOf (W := 0) (own_f0 l Z a0 hw [] w_LAUNCHED w_FINISHED w_FAILED w_KILLED h0 n0 (Nat.le_trans Z0 K0.1) P_S_com_example_stackyard_stackyard_app_AttemptState_FINISHED P_S_com_example_stackyard_stackyard_app_AttemptState_FAILED P_S_com_example_stackyard_stackyard_app_AttemptState_KILLED ne_w_LAUNCHED_w_FINISHED ne_w_LAUNCHED_w_FAILED ne_w_LAUNCHED_w_KILLED) hZ (own_w hw 8 rfl) (own_w hw 2 rfl) (by decide) (by decide)) q12a q12c (g := (mkF m 98 #[.val (.int p1), .val (.int ((p1 &&& (2147483647 : Int32)) % (7 : Int32))), .val (.ref w_LAUNCHED), .val (.int (0 : Int32))] [(.ref w_LAUNCHED)])) rfl (by rw [hml]; rfl) (Steps.refl _) (argsL := []) (rest := []) (lenOf own_pd0 rfl) rfl (by show 2 * 0 + _ ≤ _; exact Nat.le_of_eq rfl) (hb hby at_98) (fun _ _ => ⟨rfl, e11, (by decide : 0 + 0 ≤ _), (by decide : 0 + 0 ≤ _)⟩)
        dsimp only [Pt.U, Pt.locs, Pt.cells, Pt.slots] at X12 l12 y12 z12 st12 hQ12
        subst l12 y12 z12
        obtain ⟨rfl, N12q, e12⟩ := hQ12
        have N12 := Fr.app N0 N12q
        refine own_go (B := T12.setTop (mkF m 101 #[.val (.int p1), .val (.int ((p1 &&& (2147483647 : Int32)) % (7 : Int32))), .val (.ref w_LAUNCHED), .val (.int (0 : Int32))] [(.int (0 : Int32))])) (fun _ k => st12.trans k) ?_
        refine own_go (B := T12.setTop (mkF m 102 #[.val (.int p1), .val (.int ((p1 &&& (2147483647 : Int32)) % (7 : Int32))), .val (.ref w_LAUNCHED), .val (.int (0 : Int32))] [(.int (0 : Int32)), (.int (0 : Int32))])) (fun _ k => XS.iloadN X12.here hx rfl (hb hby at_101) rfl  k) ?_
        have hc13 : (0 : Int32) = (0 : Int32) := by decide
        refine own_go (B := T12.setTop (mkF m 105 #[.val (.int p1), .val (.int ((p1 &&& (2147483647 : Int32)) % (7 : Int32))), .val (.ref w_LAUNCHED), .val (.int (0 : Int32))] [])) (fun _ k => XS.icmpNo X12.here hx rfl (hb hby at_102) rfl (teq hc13).2 k) ?_
        refine own_go (B := T12.setTop (mkF m 106 #[.val (.int p1), .val (.int ((p1 &&& (2147483647 : Int32)) % (7 : Int32))), .val (.ref w_LAUNCHED), .val (.int (0 : Int32))] [(.int (1 : Int32))])) (fun _ k => XS.iconst X12.here hx rfl (hb hby at_105) k) ?_
        refine own_go (B := T12.setTop (mkF m 110 #[.val (.int p1), .val (.int ((p1 &&& (2147483647 : Int32)) % (7 : Int32))), .val (.ref w_LAUNCHED), .val (.int (0 : Int32))] [(.int (1 : Int32))])) (fun _ k => XS.goto X12.here hx rfl (pc0 := 106) (pc' := 110) rfl (hb hby at_106) (by decide) (by decide) k) ?_
        exact own_retN X12 hx Bd.notSynchronized (t := .boolean) (w := (1 : Int32)) Bd.returns (by simp) (hb hby at_110) e12 rfl ⟨rfl, N12, rfl⟩ (by decide) (by decide)
      · skip
        refine own_go (B := s₁.setTop (mkF m 49 #[.val (.int p1), .val (.int ((p1 &&& (2147483647 : Int32)) % (7 : Int32))), .unset, .unset] [])) (fun _ k => XS.icmpYes X0.here hx rfl (pc0 := 37) (pc' := 49) rfl (hb hby at_37) rfl (feq hc10).2 (by decide) (by decide) k) ?_
        refine own_go (B := s₁.setTop (mkF m 50 #[.val (.int p1), .val (.int ((p1 &&& (2147483647 : Int32)) % (7 : Int32))), .unset, .unset] [(.int ((p1 &&& (2147483647 : Int32)) % (7 : Int32)))])) (fun _ k => XS.iloadN X0.here hx rfl (hb hby at_49) rfl  k) ?_
        refine own_go (B := s₁.setTop (mkF m 51 #[.val (.int p1), .val (.int ((p1 &&& (2147483647 : Int32)) % (7 : Int32))), .unset, .unset] [(.int (3 : Int32)), (.int ((p1 &&& (2147483647 : Int32)) % (7 : Int32)))])) (fun _ k => XS.iconst X0.here hx rfl (hb hby at_50) k) ?_
        by_cases hc14 : ((p1 &&& (2147483647 : Int32)) % (7 : Int32)) = (3 : Int32)
        · skip
          refine own_go (B := s₁.setTop (mkF m 54 #[.val (.int p1), .val (.int ((p1 &&& (2147483647 : Int32)) % (7 : Int32))), .unset, .unset] [])) (fun _ k => XS.icmpNo X0.here hx rfl (hb hby at_51) rfl (teq hc14).2 k) ?_
          obtain ⟨T15, X15, e15, st15⟩ := getS2 X0 hx hZ hown (host := "") (Or.inl (own_w hw 15 rfl)) Via.refl e0 P_S_com_example_stackyard_stackyard_app_AttemptState_RUNNING (g := (mkF m 54 #[.val (.int p1), .val (.int ((p1 &&& (2147483647 : Int32)) % (7 : Int32))), .unset, .unset] [])) rfl (hb hby at_54)
          refine own_go (B := T15.setTop (mkF m 57 #[.val (.int p1), .val (.int ((p1 &&& (2147483647 : Int32)) % (7 : Int32))), .unset, .unset] [(.ref w_RUNNING)])) st15 ?_
          refine own_go (B := T15.setTop (mkF m 58 #[.val (.int p1), .val (.int ((p1 &&& (2147483647 : Int32)) % (7 : Int32))), .val (.ref w_RUNNING), .unset] [])) (fun _ k => XS.astoreN X15.here hx rfl (hb hby at_57) rfl rfl (l' := #[.val (.int p1), .val (.int ((p1 &&& (2147483647 : Int32)) % (7 : Int32))), .val (.ref w_RUNNING), .unset]) rfl k) ?_
          refine own_go (B := T15.setTop (mkF m 59 #[.val (.int p1), .val (.int ((p1 &&& (2147483647 : Int32)) % (7 : Int32))), .val (.ref w_RUNNING), .unset] [(.int (0 : Int32))])) (fun _ k => XS.iconst X15.here hx rfl (hb hby at_58) k) ?_
          refine own_go (B := T15.setTop (mkF m 60 #[.val (.int p1), .val (.int ((p1 &&& (2147483647 : Int32)) % (7 : Int32))), .val (.ref w_RUNNING), .val (.int (0 : Int32))] [])) (fun _ k => XS.istoreN X15.here hx rfl (hb hby at_59) rfl (l' := #[.val (.int p1), .val (.int ((p1 &&& (2147483647 : Int32)) % (7 : Int32))), .val (.ref w_RUNNING), .val (.int (0 : Int32))]) rfl k) ?_
          refine own_go (B := T15.setTop (mkF m 97 #[.val (.int p1), .val (.int ((p1 &&& (2147483647 : Int32)) % (7 : Int32))), .val (.ref w_RUNNING), .val (.int (0 : Int32))] [])) (fun _ k => XS.goto X15.here hx rfl (pc0 := 60) (pc' := 97) rfl (hb hby at_60) (by decide) (by decide) k) ?_
          refine own_go (B := T15.setTop (mkF m 98 #[.val (.int p1), .val (.int ((p1 &&& (2147483647 : Int32)) % (7 : Int32))), .val (.ref w_RUNNING), .val (.int (0 : Int32))] [(.ref w_RUNNING)])) (fun _ k => XS.aloadN X15.here hx rfl (hb hby at_97) rfl rfl k) ?_
          obtain ⟨cq16, kq16, q16a, q16b, q16c⟩ := isOf hZ e15 P_E_w_RUNNING
          obtain ⟨_, _, ⟨T16, L16, k16, n16⟩, -, X16, ⟨Lc16, hQ16, l16, y16, z16⟩, st16⟩ := X15.virtualBack hx (y := (⟨"com/example/stackyard/stackyard/app/AttemptState", "isFinal", "()Z"⟩ : MethodName)) (z := (⟨"com/example/stackyard/stackyard/app/AttemptState", "isFinal", "()Z"⟩ : MethodName)) hown (mvT hZ (own_w hw 4 rfl)) (mvT hZ (own_w hw 5 rfl)) (notFace_of_selects (args := #[]) (mvT hZ (own_w hw 7 rfl))) (mvT hZ (own_w hw 7 rfl)) (mvT hZ (own_w hw 6 rfl)) (by decide) (backOf (W := 0) (own_f0 l Z a0 hw [] w_RUNNING w_FINISHED w_FAILED w_KILLED h0 n0 (Nat.le_trans Z0 K0.1) P_S_com_example_stackyard_stackyard_app_AttemptState_FINISHED P_S_com_example_stackyard_stackyard_app_AttemptState_FAILED P_S_com_example_stackyard_stackyard_app_AttemptState_KILLED ne_w_RUNNING_w_FINISHED ne_w_RUNNING_w_FAILED ne_w_RUNNING_w_KILLED) hZ (own_w hw 8 rfl) (own_w hw 2 rfl) (by decide) (by decide)) q16a q16c (g := (mkF m 98 #[.val (.int p1), .val (.int ((p1 &&& (2147483647 : Int32)) % (7 : Int32))), .val (.ref w_RUNNING), .val (.int (0 : Int32))] [(.ref w_RUNNING)])) rfl (by rw [hml]; rfl) (Steps.refl _) (argsL := []) (rest := []) (lenOf own_pd0 rfl) rfl (by show 2 * 0 + _ ≤ _; exact Nat.le_of_eq rfl) (hb hby at_98) (fun _ _ => ⟨rfl, e15, (by decide : 0 + 0 ≤ _), (by decide : 0 + 0 ≤ _)⟩)
          dsimp only [Pt.U, Pt.locs, Pt.cells, Pt.slots] at X16 l16 y16 z16 st16 hQ16
          subst l16 y16 z16
          obtain ⟨rfl, N16q, e16⟩ := hQ16
          have N16 := Fr.app N0 N16q
          refine own_go (B := T16.setTop (mkF m 101 #[.val (.int p1), .val (.int ((p1 &&& (2147483647 : Int32)) % (7 : Int32))), .val (.ref w_RUNNING), .val (.int (0 : Int32))] [(.int (0 : Int32))])) (fun _ k => st16.trans k) ?_
          refine own_go (B := T16.setTop (mkF m 102 #[.val (.int p1), .val (.int ((p1 &&& (2147483647 : Int32)) % (7 : Int32))), .val (.ref w_RUNNING), .val (.int (0 : Int32))] [(.int (0 : Int32)), (.int (0 : Int32))])) (fun _ k => XS.iloadN X16.here hx rfl (hb hby at_101) rfl  k) ?_
          have hc17 : (0 : Int32) = (0 : Int32) := by decide
          refine own_go (B := T16.setTop (mkF m 105 #[.val (.int p1), .val (.int ((p1 &&& (2147483647 : Int32)) % (7 : Int32))), .val (.ref w_RUNNING), .val (.int (0 : Int32))] [])) (fun _ k => XS.icmpNo X16.here hx rfl (hb hby at_102) rfl (teq hc17).2 k) ?_
          refine own_go (B := T16.setTop (mkF m 106 #[.val (.int p1), .val (.int ((p1 &&& (2147483647 : Int32)) % (7 : Int32))), .val (.ref w_RUNNING), .val (.int (0 : Int32))] [(.int (1 : Int32))])) (fun _ k => XS.iconst X16.here hx rfl (hb hby at_105) k) ?_
          refine own_go (B := T16.setTop (mkF m 110 #[.val (.int p1), .val (.int ((p1 &&& (2147483647 : Int32)) % (7 : Int32))), .val (.ref w_RUNNING), .val (.int (0 : Int32))] [(.int (1 : Int32))])) (fun _ k => XS.goto X16.here hx rfl (pc0 := 106) (pc' := 110) rfl (hb hby at_106) (by decide) (by decide) k) ?_
          exact own_retN X16 hx Bd.notSynchronized (t := .boolean) (w := (1 : Int32)) Bd.returns (by simp) (hb hby at_110) e16 rfl ⟨rfl, N16, rfl⟩ (by decide) (by decide)
        · skip
          refine own_go (B := s₁.setTop (mkF m 63 #[.val (.int p1), .val (.int ((p1 &&& (2147483647 : Int32)) % (7 : Int32))), .unset, .unset] [])) (fun _ k => XS.icmpYes X0.here hx rfl (pc0 := 51) (pc' := 63) rfl (hb hby at_51) rfl (feq hc14).2 (by decide) (by decide) k) ?_
          refine own_go (B := s₁.setTop (mkF m 64 #[.val (.int p1), .val (.int ((p1 &&& (2147483647 : Int32)) % (7 : Int32))), .unset, .unset] [(.int ((p1 &&& (2147483647 : Int32)) % (7 : Int32)))])) (fun _ k => XS.iloadN X0.here hx rfl (hb hby at_63) rfl  k) ?_
          refine own_go (B := s₁.setTop (mkF m 65 #[.val (.int p1), .val (.int ((p1 &&& (2147483647 : Int32)) % (7 : Int32))), .unset, .unset] [(.int (4 : Int32)), (.int ((p1 &&& (2147483647 : Int32)) % (7 : Int32)))])) (fun _ k => XS.iconst X0.here hx rfl (hb hby at_64) k) ?_
          by_cases hc18 : ((p1 &&& (2147483647 : Int32)) % (7 : Int32)) = (4 : Int32)
          · skip
            refine own_go (B := s₁.setTop (mkF m 68 #[.val (.int p1), .val (.int ((p1 &&& (2147483647 : Int32)) % (7 : Int32))), .unset, .unset] [])) (fun _ k => XS.icmpNo X0.here hx rfl (hb hby at_65) rfl (teq hc18).2 k) ?_
            obtain ⟨T19, X19, e19, st19⟩ := getS2 X0 hx hZ hown (host := "") (Or.inl (own_w hw 19 rfl)) Via.refl e0 P_S_com_example_stackyard_stackyard_app_AttemptState_FINISHED (g := (mkF m 68 #[.val (.int p1), .val (.int ((p1 &&& (2147483647 : Int32)) % (7 : Int32))), .unset, .unset] [])) rfl (hb hby at_68)
            refine own_go (B := T19.setTop (mkF m 71 #[.val (.int p1), .val (.int ((p1 &&& (2147483647 : Int32)) % (7 : Int32))), .unset, .unset] [(.ref w_FINISHED)])) st19 ?_
            refine own_go (B := T19.setTop (mkF m 72 #[.val (.int p1), .val (.int ((p1 &&& (2147483647 : Int32)) % (7 : Int32))), .val (.ref w_FINISHED), .unset] [])) (fun _ k => XS.astoreN X19.here hx rfl (hb hby at_71) rfl rfl (l' := #[.val (.int p1), .val (.int ((p1 &&& (2147483647 : Int32)) % (7 : Int32))), .val (.ref w_FINISHED), .unset]) rfl k) ?_
            refine own_go (B := T19.setTop (mkF m 73 #[.val (.int p1), .val (.int ((p1 &&& (2147483647 : Int32)) % (7 : Int32))), .val (.ref w_FINISHED), .unset] [(.int (1 : Int32))])) (fun _ k => XS.iconst X19.here hx rfl (hb hby at_72) k) ?_
            refine own_go (B := T19.setTop (mkF m 74 #[.val (.int p1), .val (.int ((p1 &&& (2147483647 : Int32)) % (7 : Int32))), .val (.ref w_FINISHED), .val (.int (1 : Int32))] [])) (fun _ k => XS.istoreN X19.here hx rfl (hb hby at_73) rfl (l' := #[.val (.int p1), .val (.int ((p1 &&& (2147483647 : Int32)) % (7 : Int32))), .val (.ref w_FINISHED), .val (.int (1 : Int32))]) rfl k) ?_
            refine own_go (B := T19.setTop (mkF m 97 #[.val (.int p1), .val (.int ((p1 &&& (2147483647 : Int32)) % (7 : Int32))), .val (.ref w_FINISHED), .val (.int (1 : Int32))] [])) (fun _ k => XS.goto X19.here hx rfl (pc0 := 74) (pc' := 97) rfl (hb hby at_74) (by decide) (by decide) k) ?_
            refine own_go (B := T19.setTop (mkF m 98 #[.val (.int p1), .val (.int ((p1 &&& (2147483647 : Int32)) % (7 : Int32))), .val (.ref w_FINISHED), .val (.int (1 : Int32))] [(.ref w_FINISHED)])) (fun _ k => XS.aloadN X19.here hx rfl (hb hby at_97) rfl rfl k) ?_
            obtain ⟨cq20, kq20, q20a, q20b, q20c⟩ := isOf hZ e19 P_E_w_FINISHED
            obtain ⟨_, _, ⟨T20, L20, k20, n20⟩, -, X20, ⟨Lc20, hQ20, l20, y20, z20⟩, st20⟩ := X19.virtualBack hx (y := (⟨"com/example/stackyard/stackyard/app/AttemptState", "isFinal", "()Z"⟩ : MethodName)) (z := (⟨"com/example/stackyard/stackyard/app/AttemptState", "isFinal", "()Z"⟩ : MethodName)) hown (mvT hZ (own_w hw 4 rfl)) (mvT hZ (own_w hw 5 rfl)) (notFace_of_selects (args := #[]) (mvT hZ (own_w hw 7 rfl))) (mvT hZ (own_w hw 7 rfl)) (mvT hZ (own_w hw 6 rfl)) (by decide) (backOf (W := 0) (own_f_FINISHED l Z a0 hw [] w_FINISHED h0 n0 (Nat.le_trans Z0 K0.1) P_S_com_example_stackyard_stackyard_app_AttemptState_FINISHED) hZ (own_w hw 8 rfl) (own_w hw 2 rfl) (by decide) (by decide)) q20a q20c (g := (mkF m 98 #[.val (.int p1), .val (.int ((p1 &&& (2147483647 : Int32)) % (7 : Int32))), .val (.ref w_FINISHED), .val (.int (1 : Int32))] [(.ref w_FINISHED)])) rfl (by rw [hml]; rfl) (Steps.refl _) (argsL := []) (rest := []) (lenOf own_pd0 rfl) rfl (by show 2 * 0 + _ ≤ _; exact Nat.le_of_eq rfl) (hb hby at_98) (fun _ _ => ⟨rfl, e19, (by decide : 0 + 0 ≤ _), (by decide : 0 + 0 ≤ _)⟩)
            dsimp only [Pt.U, Pt.locs, Pt.cells, Pt.slots] at X20 l20 y20 z20 st20 hQ20
            subst l20 y20 z20
            obtain ⟨rfl, N20q, e20⟩ := hQ20
            have N20 := Fr.app N0 N20q
            refine own_go (B := T20.setTop (mkF m 101 #[.val (.int p1), .val (.int ((p1 &&& (2147483647 : Int32)) % (7 : Int32))), .val (.ref w_FINISHED), .val (.int (1 : Int32))] [(.int (1 : Int32))])) (fun _ k => st20.trans k) ?_
            refine own_go (B := T20.setTop (mkF m 102 #[.val (.int p1), .val (.int ((p1 &&& (2147483647 : Int32)) % (7 : Int32))), .val (.ref w_FINISHED), .val (.int (1 : Int32))] [(.int (1 : Int32)), (.int (1 : Int32))])) (fun _ k => XS.iloadN X20.here hx rfl (hb hby at_101) rfl  k) ?_
            have hc21 : (1 : Int32) = (1 : Int32) := by decide
            refine own_go (B := T20.setTop (mkF m 105 #[.val (.int p1), .val (.int ((p1 &&& (2147483647 : Int32)) % (7 : Int32))), .val (.ref w_FINISHED), .val (.int (1 : Int32))] [])) (fun _ k => XS.icmpNo X20.here hx rfl (hb hby at_102) rfl (teq hc21).2 k) ?_
            refine own_go (B := T20.setTop (mkF m 106 #[.val (.int p1), .val (.int ((p1 &&& (2147483647 : Int32)) % (7 : Int32))), .val (.ref w_FINISHED), .val (.int (1 : Int32))] [(.int (1 : Int32))])) (fun _ k => XS.iconst X20.here hx rfl (hb hby at_105) k) ?_
            refine own_go (B := T20.setTop (mkF m 110 #[.val (.int p1), .val (.int ((p1 &&& (2147483647 : Int32)) % (7 : Int32))), .val (.ref w_FINISHED), .val (.int (1 : Int32))] [(.int (1 : Int32))])) (fun _ k => XS.goto X20.here hx rfl (pc0 := 106) (pc' := 110) rfl (hb hby at_106) (by decide) (by decide) k) ?_
            exact own_retN X20 hx Bd.notSynchronized (t := .boolean) (w := (1 : Int32)) Bd.returns (by simp) (hb hby at_110) e20 rfl ⟨rfl, N20, rfl⟩ (by decide) (by decide)
          · skip
            refine own_go (B := s₁.setTop (mkF m 77 #[.val (.int p1), .val (.int ((p1 &&& (2147483647 : Int32)) % (7 : Int32))), .unset, .unset] [])) (fun _ k => XS.icmpYes X0.here hx rfl (pc0 := 65) (pc' := 77) rfl (hb hby at_65) rfl (feq hc18).2 (by decide) (by decide) k) ?_
            refine own_go (B := s₁.setTop (mkF m 78 #[.val (.int p1), .val (.int ((p1 &&& (2147483647 : Int32)) % (7 : Int32))), .unset, .unset] [(.int ((p1 &&& (2147483647 : Int32)) % (7 : Int32)))])) (fun _ k => XS.iloadN X0.here hx rfl (hb hby at_77) rfl  k) ?_
            refine own_go (B := s₁.setTop (mkF m 79 #[.val (.int p1), .val (.int ((p1 &&& (2147483647 : Int32)) % (7 : Int32))), .unset, .unset] [(.int (5 : Int32)), (.int ((p1 &&& (2147483647 : Int32)) % (7 : Int32)))])) (fun _ k => XS.iconst X0.here hx rfl (hb hby at_78) k) ?_
            by_cases hc22 : ((p1 &&& (2147483647 : Int32)) % (7 : Int32)) = (5 : Int32)
            · skip
              refine own_go (B := s₁.setTop (mkF m 82 #[.val (.int p1), .val (.int ((p1 &&& (2147483647 : Int32)) % (7 : Int32))), .unset, .unset] [])) (fun _ k => XS.icmpNo X0.here hx rfl (hb hby at_79) rfl (teq hc22).2 k) ?_
              obtain ⟨T23, X23, e23, st23⟩ := getS2 X0 hx hZ hown (host := "") (Or.inl (own_w hw 17 rfl)) Via.refl e0 P_S_com_example_stackyard_stackyard_app_AttemptState_FAILED (g := (mkF m 82 #[.val (.int p1), .val (.int ((p1 &&& (2147483647 : Int32)) % (7 : Int32))), .unset, .unset] [])) rfl (hb hby at_82)
              refine own_go (B := T23.setTop (mkF m 85 #[.val (.int p1), .val (.int ((p1 &&& (2147483647 : Int32)) % (7 : Int32))), .unset, .unset] [(.ref w_FAILED)])) st23 ?_
              refine own_go (B := T23.setTop (mkF m 86 #[.val (.int p1), .val (.int ((p1 &&& (2147483647 : Int32)) % (7 : Int32))), .val (.ref w_FAILED), .unset] [])) (fun _ k => XS.astoreN X23.here hx rfl (hb hby at_85) rfl rfl (l' := #[.val (.int p1), .val (.int ((p1 &&& (2147483647 : Int32)) % (7 : Int32))), .val (.ref w_FAILED), .unset]) rfl k) ?_
              refine own_go (B := T23.setTop (mkF m 87 #[.val (.int p1), .val (.int ((p1 &&& (2147483647 : Int32)) % (7 : Int32))), .val (.ref w_FAILED), .unset] [(.int (1 : Int32))])) (fun _ k => XS.iconst X23.here hx rfl (hb hby at_86) k) ?_
              refine own_go (B := T23.setTop (mkF m 88 #[.val (.int p1), .val (.int ((p1 &&& (2147483647 : Int32)) % (7 : Int32))), .val (.ref w_FAILED), .val (.int (1 : Int32))] [])) (fun _ k => XS.istoreN X23.here hx rfl (hb hby at_87) rfl (l' := #[.val (.int p1), .val (.int ((p1 &&& (2147483647 : Int32)) % (7 : Int32))), .val (.ref w_FAILED), .val (.int (1 : Int32))]) rfl k) ?_
              refine own_go (B := T23.setTop (mkF m 97 #[.val (.int p1), .val (.int ((p1 &&& (2147483647 : Int32)) % (7 : Int32))), .val (.ref w_FAILED), .val (.int (1 : Int32))] [])) (fun _ k => XS.goto X23.here hx rfl (pc0 := 88) (pc' := 97) rfl (hb hby at_88) (by decide) (by decide) k) ?_
              refine own_go (B := T23.setTop (mkF m 98 #[.val (.int p1), .val (.int ((p1 &&& (2147483647 : Int32)) % (7 : Int32))), .val (.ref w_FAILED), .val (.int (1 : Int32))] [(.ref w_FAILED)])) (fun _ k => XS.aloadN X23.here hx rfl (hb hby at_97) rfl rfl k) ?_
              obtain ⟨cq24, kq24, q24a, q24b, q24c⟩ := isOf hZ e23 P_E_w_FAILED
              obtain ⟨_, _, ⟨T24, L24, k24, n24⟩, -, X24, ⟨Lc24, hQ24, l24, y24, z24⟩, st24⟩ := X23.virtualBack hx (y := (⟨"com/example/stackyard/stackyard/app/AttemptState", "isFinal", "()Z"⟩ : MethodName)) (z := (⟨"com/example/stackyard/stackyard/app/AttemptState", "isFinal", "()Z"⟩ : MethodName)) hown (mvT hZ (own_w hw 4 rfl)) (mvT hZ (own_w hw 5 rfl)) (notFace_of_selects (args := #[]) (mvT hZ (own_w hw 7 rfl))) (mvT hZ (own_w hw 7 rfl)) (mvT hZ (own_w hw 6 rfl)) (by decide) (backOf (W := 0) (own_f_FAILED l Z a0 hw [] w_FINISHED w_FAILED h0 n0 (Nat.le_trans Z0 K0.1) P_S_com_example_stackyard_stackyard_app_AttemptState_FINISHED P_S_com_example_stackyard_stackyard_app_AttemptState_FAILED ne_w_FAILED_w_FINISHED) hZ (own_w hw 8 rfl) (own_w hw 2 rfl) (by decide) (by decide)) q24a q24c (g := (mkF m 98 #[.val (.int p1), .val (.int ((p1 &&& (2147483647 : Int32)) % (7 : Int32))), .val (.ref w_FAILED), .val (.int (1 : Int32))] [(.ref w_FAILED)])) rfl (by rw [hml]; rfl) (Steps.refl _) (argsL := []) (rest := []) (lenOf own_pd0 rfl) rfl (by show 2 * 0 + _ ≤ _; exact Nat.le_of_eq rfl) (hb hby at_98) (fun _ _ => ⟨rfl, e23, (by decide : 0 + 0 ≤ _), (by decide : 0 + 0 ≤ _)⟩)
              dsimp only [Pt.U, Pt.locs, Pt.cells, Pt.slots] at X24 l24 y24 z24 st24 hQ24
              subst l24 y24 z24
              obtain ⟨rfl, N24q, e24⟩ := hQ24
              have N24 := Fr.app N0 N24q
              refine own_go (B := T24.setTop (mkF m 101 #[.val (.int p1), .val (.int ((p1 &&& (2147483647 : Int32)) % (7 : Int32))), .val (.ref w_FAILED), .val (.int (1 : Int32))] [(.int (1 : Int32))])) (fun _ k => st24.trans k) ?_
              refine own_go (B := T24.setTop (mkF m 102 #[.val (.int p1), .val (.int ((p1 &&& (2147483647 : Int32)) % (7 : Int32))), .val (.ref w_FAILED), .val (.int (1 : Int32))] [(.int (1 : Int32)), (.int (1 : Int32))])) (fun _ k => XS.iloadN X24.here hx rfl (hb hby at_101) rfl  k) ?_
              have hc25 : (1 : Int32) = (1 : Int32) := by decide
              refine own_go (B := T24.setTop (mkF m 105 #[.val (.int p1), .val (.int ((p1 &&& (2147483647 : Int32)) % (7 : Int32))), .val (.ref w_FAILED), .val (.int (1 : Int32))] [])) (fun _ k => XS.icmpNo X24.here hx rfl (hb hby at_102) rfl (teq hc25).2 k) ?_
              refine own_go (B := T24.setTop (mkF m 106 #[.val (.int p1), .val (.int ((p1 &&& (2147483647 : Int32)) % (7 : Int32))), .val (.ref w_FAILED), .val (.int (1 : Int32))] [(.int (1 : Int32))])) (fun _ k => XS.iconst X24.here hx rfl (hb hby at_105) k) ?_
              refine own_go (B := T24.setTop (mkF m 110 #[.val (.int p1), .val (.int ((p1 &&& (2147483647 : Int32)) % (7 : Int32))), .val (.ref w_FAILED), .val (.int (1 : Int32))] [(.int (1 : Int32))])) (fun _ k => XS.goto X24.here hx rfl (pc0 := 106) (pc' := 110) rfl (hb hby at_106) (by decide) (by decide) k) ?_
              exact own_retN X24 hx Bd.notSynchronized (t := .boolean) (w := (1 : Int32)) Bd.returns (by simp) (hb hby at_110) e24 rfl ⟨rfl, N24, rfl⟩ (by decide) (by decide)
            · skip
              refine own_go (B := s₁.setTop (mkF m 91 #[.val (.int p1), .val (.int ((p1 &&& (2147483647 : Int32)) % (7 : Int32))), .unset, .unset] [])) (fun _ k => XS.icmpYes X0.here hx rfl (pc0 := 79) (pc' := 91) rfl (hb hby at_79) rfl (feq hc22).2 (by decide) (by decide) k) ?_
              obtain ⟨T26, X26, e26, st26⟩ := getS2 X0 hx hZ hown (host := "") (Or.inl (own_w hw 18 rfl)) Via.refl e0 P_S_com_example_stackyard_stackyard_app_AttemptState_KILLED (g := (mkF m 91 #[.val (.int p1), .val (.int ((p1 &&& (2147483647 : Int32)) % (7 : Int32))), .unset, .unset] [])) rfl (hb hby at_91)
              refine own_go (B := T26.setTop (mkF m 94 #[.val (.int p1), .val (.int ((p1 &&& (2147483647 : Int32)) % (7 : Int32))), .unset, .unset] [(.ref w_KILLED)])) st26 ?_
              refine own_go (B := T26.setTop (mkF m 95 #[.val (.int p1), .val (.int ((p1 &&& (2147483647 : Int32)) % (7 : Int32))), .val (.ref w_KILLED), .unset] [])) (fun _ k => XS.astoreN X26.here hx rfl (hb hby at_94) rfl rfl (l' := #[.val (.int p1), .val (.int ((p1 &&& (2147483647 : Int32)) % (7 : Int32))), .val (.ref w_KILLED), .unset]) rfl k) ?_
              refine own_go (B := T26.setTop (mkF m 96 #[.val (.int p1), .val (.int ((p1 &&& (2147483647 : Int32)) % (7 : Int32))), .val (.ref w_KILLED), .unset] [(.int (1 : Int32))])) (fun _ k => XS.iconst X26.here hx rfl (hb hby at_95) k) ?_
              refine own_go (B := T26.setTop (mkF m 97 #[.val (.int p1), .val (.int ((p1 &&& (2147483647 : Int32)) % (7 : Int32))), .val (.ref w_KILLED), .val (.int (1 : Int32))] [])) (fun _ k => XS.istoreN X26.here hx rfl (hb hby at_96) rfl (l' := #[.val (.int p1), .val (.int ((p1 &&& (2147483647 : Int32)) % (7 : Int32))), .val (.ref w_KILLED), .val (.int (1 : Int32))]) rfl k) ?_
              refine own_go (B := T26.setTop (mkF m 98 #[.val (.int p1), .val (.int ((p1 &&& (2147483647 : Int32)) % (7 : Int32))), .val (.ref w_KILLED), .val (.int (1 : Int32))] [(.ref w_KILLED)])) (fun _ k => XS.aloadN X26.here hx rfl (hb hby at_97) rfl rfl k) ?_
              obtain ⟨cq27, kq27, q27a, q27b, q27c⟩ := isOf hZ e26 P_E_w_KILLED
              obtain ⟨_, _, ⟨T27, L27, k27, n27⟩, -, X27, ⟨Lc27, hQ27, l27, y27, z27⟩, st27⟩ := X26.virtualBack hx (y := (⟨"com/example/stackyard/stackyard/app/AttemptState", "isFinal", "()Z"⟩ : MethodName)) (z := (⟨"com/example/stackyard/stackyard/app/AttemptState", "isFinal", "()Z"⟩ : MethodName)) hown (mvT hZ (own_w hw 4 rfl)) (mvT hZ (own_w hw 5 rfl)) (notFace_of_selects (args := #[]) (mvT hZ (own_w hw 7 rfl))) (mvT hZ (own_w hw 7 rfl)) (mvT hZ (own_w hw 6 rfl)) (by decide) (backOf (W := 0) (own_f_KILLED l Z a0 hw [] w_FINISHED w_FAILED w_KILLED h0 n0 (Nat.le_trans Z0 K0.1) P_S_com_example_stackyard_stackyard_app_AttemptState_FINISHED P_S_com_example_stackyard_stackyard_app_AttemptState_FAILED P_S_com_example_stackyard_stackyard_app_AttemptState_KILLED ne_w_KILLED_w_FINISHED ne_w_KILLED_w_FAILED) hZ (own_w hw 8 rfl) (own_w hw 2 rfl) (by decide) (by decide)) q27a q27c (g := (mkF m 98 #[.val (.int p1), .val (.int ((p1 &&& (2147483647 : Int32)) % (7 : Int32))), .val (.ref w_KILLED), .val (.int (1 : Int32))] [(.ref w_KILLED)])) rfl (by rw [hml]; rfl) (Steps.refl _) (argsL := []) (rest := []) (lenOf own_pd0 rfl) rfl (by show 2 * 0 + _ ≤ _; exact Nat.le_of_eq rfl) (hb hby at_98) (fun _ _ => ⟨rfl, e26, (by decide : 0 + 0 ≤ _), (by decide : 0 + 0 ≤ _)⟩)
              dsimp only [Pt.U, Pt.locs, Pt.cells, Pt.slots] at X27 l27 y27 z27 st27 hQ27
              subst l27 y27 z27
              obtain ⟨rfl, N27q, e27⟩ := hQ27
              have N27 := Fr.app N0 N27q
              refine own_go (B := T27.setTop (mkF m 101 #[.val (.int p1), .val (.int ((p1 &&& (2147483647 : Int32)) % (7 : Int32))), .val (.ref w_KILLED), .val (.int (1 : Int32))] [(.int (1 : Int32))])) (fun _ k => st27.trans k) ?_
              refine own_go (B := T27.setTop (mkF m 102 #[.val (.int p1), .val (.int ((p1 &&& (2147483647 : Int32)) % (7 : Int32))), .val (.ref w_KILLED), .val (.int (1 : Int32))] [(.int (1 : Int32)), (.int (1 : Int32))])) (fun _ k => XS.iloadN X27.here hx rfl (hb hby at_101) rfl  k) ?_
              have hc28 : (1 : Int32) = (1 : Int32) := by decide
              refine own_go (B := T27.setTop (mkF m 105 #[.val (.int p1), .val (.int ((p1 &&& (2147483647 : Int32)) % (7 : Int32))), .val (.ref w_KILLED), .val (.int (1 : Int32))] [])) (fun _ k => XS.icmpNo X27.here hx rfl (hb hby at_102) rfl (teq hc28).2 k) ?_
              refine own_go (B := T27.setTop (mkF m 106 #[.val (.int p1), .val (.int ((p1 &&& (2147483647 : Int32)) % (7 : Int32))), .val (.ref w_KILLED), .val (.int (1 : Int32))] [(.int (1 : Int32))])) (fun _ k => XS.iconst X27.here hx rfl (hb hby at_105) k) ?_
              refine own_go (B := T27.setTop (mkF m 110 #[.val (.int p1), .val (.int ((p1 &&& (2147483647 : Int32)) % (7 : Int32))), .val (.ref w_KILLED), .val (.int (1 : Int32))] [(.int (1 : Int32))])) (fun _ k => XS.goto X27.here hx rfl (pc0 := 106) (pc' := 110) rfl (hb hby at_106) (by decide) (by decide) k) ?_
              exact own_retN X27 hx Bd.notSynchronized (t := .boolean) (w := (1 : Int32)) Bd.returns (by simp) (hb hby at_110) e27 rfl ⟨rfl, N27, rfl⟩ (by decide) (by decide)
set_option maxRecDepth 65536 in
set_option maxHeartbeats 40000000 in
theorem comes_1 {Post : Tables → Env → Array Value → State → Outcome → State → Prop} (hpost : ∀ tb e args s v u, (limb_1_1.after args s (.returned v) u = true ∧ limb_1_2.after args s (.returned v) u = true ∧ True) → FrameEnd s (.returned v) u (Jvm.fieldLocs frame_1_writes args s ++ Jvm.arrayLocs frame_1_arrays args s ++ Jvm.staticLocs frame_1_statics s) 0 0 → Post tb e args s (.returned v) u) :
    ArmFor flags0 classFile x code maxLocals ret World_1 tables_1 room_1 Calls_1 rest_1 Pre_1 Post := by
  intro l hfl _ _ p e ha hc hk s m args below hf hA hF happ hP
  obtain ⟨hcalls, hrest, hpre⟩ := hP
  obtain ⟨-, -, -, hnamed, -, -, -, hat⟩ := (Spec.applies_iff hf).mp happ
  obtain ⟨hg, hn⟩ := and_e (Cond.before_iff.mp (show (Jvm.Cond.and given_1 narrow_1).before args s = true from hpre))
  obtain ⟨gg1, gg2⟩ := and_e hg
  obtain ⟨w0, rfl⟩ : ∃ w0 : Value, args = #[w0] := by
    have hs : args.size = 1 := by simpa [Cond.value, given_1] using gg1
    obtain ⟨L⟩ := args
    match L, hs with
    | [w0], _ => exact ⟨w0, rfl⟩
  have hw := fun d (hd : d ∈ tables_1) => atoms_spec (ws := Jvm.Cond.code x code maxLocals ret :: tables_1) hat d (List.mem_cons_of_mem _ hd)
  have hfit : Fit s := fun {y c} hc i hi => by
    obtain ⟨ha, rfl⟩ := Array.getElem?_eq_some_iff.mp hc
    have q := List.all_eq_true.mp ((Array.all_eq_true_iff_forall_mem.mp hF) _ (Array.getElem_mem ha)) i (List.mem_range.mpr hi)
    simpa [Array.getElem?_eq_getElem hi] using q
  obtain ⟨i0, ei0⟩ := is_v gg2
  obtain rfl : w0 = (.int i0) := Option.some.inj ei0
  obtain ⟨nn1, nn2⟩ := and_e hn
  obtain ⟨nn3, nn4⟩ := and_e nn2
  obtain ⟨nn5, nn6⟩ := and_e nn4
  obtain ⟨nn7, nn8⟩ := and_e nn6
  obtain ⟨nn9, nn10⟩ := and_e nn8
  obtain ⟨nn11, nn12⟩ := and_e nn10
  obtain ⟨nn13, nn14⟩ := and_e nn12
  obtain ⟨nn15, nn16⟩ := and_e nn14
  obtain ⟨nn17, nn18⟩ := and_e nn16
  obtain ⟨nn19, nn20⟩ := and_e nn18
  obtain ⟨nn21, nn22⟩ := and_e nn20
  obtain ⟨nn23, nn24⟩ := and_e nn22
  obtain ⟨nn25, nn26⟩ := and_e nn24
  obtain ⟨w_SCHEDULED, S_SCHEDULED, E_SCHEDULED, O_SCHEDULED⟩ := own_enum nn1 nn5 (own_w hw 2 rfl) (own_w hw 3 rfl)
  obtain ⟨w_ALLOCATED, S_ALLOCATED, E_ALLOCATED, O_ALLOCATED⟩ := own_enum nn25 nn26 (own_w hw 2 rfl) (own_w hw 23 rfl)
  obtain ⟨w_LAUNCHED, S_LAUNCHED, E_LAUNCHED, O_LAUNCHED⟩ := own_enum nn21 nn23 (own_w hw 2 rfl) (own_w hw 21 rfl)
  obtain ⟨w_RUNNING, S_RUNNING, E_RUNNING, O_RUNNING⟩ := own_enum nn17 nn19 (own_w hw 2 rfl) (own_w hw 16 rfl)
  obtain ⟨w_FINISHED, S_FINISHED, E_FINISHED, O_FINISHED⟩ := own_enum nn3 nn7 (own_w hw 2 rfl) (own_w hw 10 rfl)
  obtain ⟨w_FAILED, S_FAILED, E_FAILED, O_FAILED⟩ := own_enum nn9 nn11 (own_w hw 2 rfl) (own_w hw 12 rfl)
  obtain ⟨w_KILLED, S_KILLED, E_KILLED, O_KILLED⟩ := own_enum nn13 nn15 (own_w hw 2 rfl) (own_w hw 14 rfl)
  obtain ⟨n, o, h1, h2, h3, _, L, rfl, ⟨rfl, N, _⟩, hq⟩ := own_rm0 l s _ hw tables_1 i0 w_SCHEDULED w_ALLOCATED w_LAUNCHED w_RUNNING w_FINISHED w_FAILED w_KILLED s.heap s.heap.size (Nat.le_refl _) S_SCHEDULED E_SCHEDULED S_ALLOCATED E_ALLOCATED S_LAUNCHED E_LAUNCHED S_RUNNING E_RUNNING S_FINISHED E_FINISHED S_FAILED E_FAILED S_KILLED E_KILLED (O_SCHEDULED.ne O_FINISHED (fun q => absurd (Value.int.inj q) (by decide))) (O_ALLOCATED.ne O_FINISHED (fun q => absurd (Value.int.inj q) (by decide))) (O_LAUNCHED.ne O_FINISHED (fun q => absurd (Value.int.inj q) (by decide))) (O_RUNNING.ne O_FINISHED (fun q => absurd (Value.int.inj q) (by decide))) (O_SCHEDULED.ne O_FAILED (fun q => absurd (Value.int.inj q) (by decide))) (O_ALLOCATED.ne O_FAILED (fun q => absurd (Value.int.inj q) (by decide))) (O_LAUNCHED.ne O_FAILED (fun q => absurd (Value.int.inj q) (by decide))) (O_RUNNING.ne O_FAILED (fun q => absurd (Value.int.inj q) (by decide))) (O_SCHEDULED.ne O_KILLED (fun q => absurd (Value.int.inj q) (by decide))) (O_ALLOCATED.ne O_KILLED (fun q => absurd (Value.int.inj q) (by decide))) (O_LAUNCHED.ne O_KILLED (fun q => absurd (Value.int.inj q) (by decide))) (O_RUNNING.ne O_KILLED (fun q => absurd (Value.int.inj q) (by decide))) (O_FAILED.ne O_FINISHED (fun q => absurd (Value.int.inj q) (by decide))) (O_KILLED.ne O_FINISHED (fun q => absurd (Value.int.inj q) (by decide))) (O_KILLED.ne O_FAILED (fun q => absurd (Value.int.inj q) (by decide))) p e ha hc hk s m _ below hf ((Spec.applies_iff_loose hf).mp happ).1 ⟨rfl, State.Warmed39.refl s, rfl⟩ trivial
  refine ⟨n, _, h1, h2, h3, hpost _ _ _ _ _ _ ⟨Cond.after_iff.mpr rfl, Cond.after_iff.mpr (eq_i res_at (Term.int_eval (1)) rfl), trivial⟩ ⟨hq.1, hq.2.1, (hq.2.2.sift fun y hy => Or.inr (N y hy)).mono (by decide) (by decide)⟩⟩
theorem main_1_1 : Claimed_1_1 := comes_1 fun _ _ _ _ _ _ h hF => ⟨h.1, hF⟩
theorem main_1_2 : Claimed_1_2 := comes_1 fun _ _ _ _ _ _ h hF => ⟨h.2.1, hF⟩
end Jvm.Pilot.@@N@@
namespace Jvm.Pilot.@@N@@
open Jvm Jvm.ClassFile Sem Op Lib Jvm.Free Jvm.Stand Jvm.Pilot.@@N@@.Jvm.D
/-! MADE BY PROGRAM (witnessworld.py) out of the Statement's table words and the real class files: 12 classes; the members and pool entries that the words name. The judged class is class 1, her method 1. -/
namespace start1
open Jvm.ClassFile
def u (s : String) : CpInfo := .utf8 (stringToUtf16 s)
/-- a pool by its gaps: so many unusable entries, then the entry; so many at the end -/
def gap : Nat → List CpInfo → List CpInfo
  | 0, r => r
  | n + 1, r => .unusable :: gap n r
def poolList (es : List (Nat × CpInfo)) (last : Nat) : List CpInfo := es.foldr (fun e r => gap e.1 (e.2 :: r)) (gap last [])
def pool (es : List (Nat × CpInfo)) (last : Nat) : Array CpInfo := ⟨poolList es last⟩
def fileOf (pool : Array CpInfo) (this : Nat) (attrs : Array Attribute := #[]) (ms : Array MethodInfo := #[]) (fl : Nat := 33) (sup : Nat := 0) (ifs : Array Nat := #[]) (fds : Array FieldInfo := #[]) : ClassFile where
  minorVersion := 0
  majorVersion := 65
  constantPool := pool
  accessFlags := fl
  thisClass := this
  superClass := sup
  interfaces := ifs
  fields := fds
  methods := ms
  attributes := attrs
def plain (name : String) (sup : Option ClassId) : Class where
  name := name
  kind := .ordinary
  loader := none
  accessFlags := 33
  super := sup
  interfaces := #[]
  cf := none
  fields := #[]
  methods := #[]
  instanceTypes := #[]
  staticTypes := #[]
  resolved := #[]
  callSites := []
  init := .initialized
  statics := none
  mirror := none

def pool0 : Array CpInfo := pool [(5, u "<init>"), (0, u "()V"), (1, .class_ 10), (1, u "java/lang/Object")] 113

def k0m0 : Method := { name := "<init>", desc := "()V", sig := { parameters := [], returnType := none }, accessFlags := 1, code := none }
/-- java/lang/Object -/
def k0 : Class := { plain "java/lang/Object" none with
  accessFlags := 33
  interfaces := #[]
  cf := some (fileOf pool0 8 #[] #[{ accessFlags := 1, nameIndex := 5, descriptorIndex := 6, attributes := #[] }] 33 0 #[] #[])
  fields := #[]
  methods := #[k0m0]
  instanceTypes := #[]
  staticTypes := #[]
  resolved := Array.replicate 124 none
  statics := none }

def pool1 : Array CpInfo := pool [(2, .class_ 4), (1, u "java/lang/Object"), (0, u "<init>"), (0, u "()V"), (0, .integer 2147483647), (0, .fieldref 9 10), (0, .class_ 11), (0, .nameAndType 12 13), (0, u "com/example/stackyard/stackyard/app/AttemptState"), (0, u "SCHEDULED"), (0, u "Lcom/example/stackyard/stackyard/app/AttemptState;"), (0, .fieldref 9 15), (0, .nameAndType 16 13), (0, u "ALLOCATED"), (0, .fieldref 9 18), (0, .nameAndType 19 13), (0, u "LAUNCHED"), (0, .fieldref 9 21), (0, .nameAndType 22 13), (0, u "RUNNING"), (0, .fieldref 9 24), (0, .nameAndType 25 13), (0, u "FINISHED"), (0, .fieldref 9 27), (0, .nameAndType 28 13), (0, u "FAILED"), (0, .fieldref 9 30), (0, .nameAndType 31 13), (0, u "KILLED"), (0, .methodref 9 33), (0, .nameAndType 34 35), (0, u "isFinal"), (0, u "()Z"), (0, .class_ 37), (0, u "com/example/stackyard/stackyard/app/AttemptStateIsFinalPinLaw"), (2, u "law"), (0, u "(I)Z")] 3

def k1m0 : Method := { name := "<init>", desc := "()V", sig := { parameters := [], returnType := none }, accessFlags := 1, code := none }
def k1c1 : Code := { maxStack := 2, maxLocals := 4, code := code, exceptionTable := #[], attributes := #[] }
def k1m1 : Method := { name := "law", desc := "(I)Z", sig := { parameters := [.int], returnType := some .boolean }, accessFlags := 9, code := some k1c1 }
/-- com/example/stackyard/stackyard/app/AttemptStateIsFinalPinLaw -/
def k1 : Class := { plain "com/example/stackyard/stackyard/app/AttemptStateIsFinalPinLaw" (some 0) with
  accessFlags := 49
  interfaces := #[]
  cf := some (fileOf pool1 36 #[] #[{ accessFlags := 1, nameIndex := 5, descriptorIndex := 6, attributes := #[] }, { accessFlags := 9, nameIndex := 40, descriptorIndex := 41, attributes := #[] }] 49 2 #[] #[])
  fields := #[]
  methods := #[k1m0, k1m1]
  instanceTypes := #[]
  staticTypes := #[]
  resolved := Array.replicate 45 none
  statics := none }

def pool2 : Array CpInfo := pool [(1, .class_ 2), (0, u "java/lang/constant/Constable"), (0, .class_ 4), (0, u "java/lang/Object")] 6

/-- java/lang/constant/Constable -/
def k2 : Class := { plain "java/lang/constant/Constable" (some 0) with
  accessFlags := 1537
  interfaces := #[]
  cf := some (fileOf pool2 1 #[] #[] 1537 3 #[] #[])
  fields := #[]
  methods := #[]
  instanceTypes := #[]
  staticTypes := #[]
  resolved := Array.replicate 11 none
  statics := none }

def pool3 : Array CpInfo := pool [(1, .class_ 2), (0, u "java/lang/Comparable"), (0, .class_ 4), (0, u "java/lang/Object")] 7

/-- java/lang/Comparable -/
def k3 : Class := { plain "java/lang/Comparable" (some 0) with
  accessFlags := 1537
  interfaces := #[]
  cf := some (fileOf pool3 1 #[] #[] 1537 3 #[] #[])
  fields := #[]
  methods := #[]
  instanceTypes := #[]
  staticTypes := #[]
  resolved := Array.replicate 12 none
  statics := none }

def pool4 : Array CpInfo := pool [(1, .class_ 2), (0, u "java/io/Serializable"), (0, .class_ 4), (0, u "java/lang/Object")] 2

/-- java/io/Serializable -/
def k4 : Class := { plain "java/io/Serializable" (some 0) with
  accessFlags := 1537
  interfaces := #[]
  cf := some (fileOf pool4 1 #[] #[] 1537 3 #[] #[])
  fields := #[]
  methods := #[]
  instanceTypes := #[]
  staticTypes := #[]
  resolved := Array.replicate 7 none
  statics := none }

def pool5 : Array CpInfo := pool [(2, .class_ 4), (1, u "java/lang/Enum"), (0, u "name"), (0, u "Ljava/lang/String;"), (2, u "ordinal"), (0, u "I"), (1, .class_ 14), (1, u "java/lang/Object"), (4, u "hash"), (86, .class_ 108), (1, u "java/lang/Enum$EnumDesc"), (2, .class_ 112), (0, u "java/lang/constant/Constable"), (0, .class_ 114), (0, u "java/lang/Comparable"), (0, .class_ 116), (0, u "java/io/Serializable")] 87

/-- java/lang/Enum -/
def k5 : Class := { plain "java/lang/Enum" (some 0) with
  accessFlags := 1057
  interfaces := #[2, 3, 4]
  cf := some (fileOf pool5 2 #[.nestMembers #[106]] #[] 1057 12 #[111, 113, 115] #[{ accessFlags := 18, nameIndex := 5, descriptorIndex := 6, attributes := #[] }, { accessFlags := 18, nameIndex := 9, descriptorIndex := 10, attributes := #[] }, { accessFlags := 2, nameIndex := 19, descriptorIndex := 10, attributes := #[] }])
  fields := #[{ name := "name", type := (.object "java/lang/String"), accessFlags := 18, slot := 0, constantValue := 0 }, { name := "ordinal", type := .int, accessFlags := 18, slot := 1, constantValue := 0 }, { name := "hash", type := .int, accessFlags := 2, slot := 2, constantValue := 0 }]
  methods := #[]
  instanceTypes := #[(.object "java/lang/String"), .int, .int]
  staticTypes := #[]
  resolved := Array.replicate 204 none
  statics := none }

def pool6 : Array CpInfo := pool [(1, .class_ 2), (0, u "com/example/stackyard/stackyard/app/AttemptState"), (2, u "SCHEDULED"), (0, u "Lcom/example/stackyard/stackyard/app/AttemptState;"), (2, u "ALLOCATED"), (2, u "LAUNCHED"), (2, u "RUNNING"), (0, .fieldref 1 17), (0, .nameAndType 18 6), (0, u "FINISHED"), (0, .fieldref 1 20), (0, .nameAndType 21 6), (0, u "FAILED"), (0, .fieldref 1 23), (0, .nameAndType 24 6), (0, u "KILLED"), (2, u "$VALUES"), (0, u "[Lcom/example/stackyard/stackyard/app/AttemptState;"), (6, .class_ 37), (1, u "java/lang/Enum"), (25, u "isFinal"), (0, u "()Z")] 5

def k6c0 : Code := { maxStack := 2, maxLocals := 1, code := prog_18_method_4_code, exceptionTable := #[], attributes := #[] }
def k6m0 : Method := { name := "isFinal", desc := "()Z", sig := { parameters := [], returnType := some .boolean }, accessFlags := 1, code := some k6c0 }
/-- com/example/stackyard/stackyard/app/AttemptState -/
def k6 : Class := { plain "com/example/stackyard/stackyard/app/AttemptState" (some 5) with
  accessFlags := 16433
  interfaces := #[]
  cf := some (fileOf pool6 1 #[] #[{ accessFlags := 1, nameIndex := 63, descriptorIndex := 64, attributes := #[] }] 16433 35 #[] #[{ accessFlags := 16409, nameIndex := 5, descriptorIndex := 6, attributes := #[] }, { accessFlags := 16409, nameIndex := 9, descriptorIndex := 6, attributes := #[] }, { accessFlags := 16409, nameIndex := 12, descriptorIndex := 6, attributes := #[] }, { accessFlags := 16409, nameIndex := 15, descriptorIndex := 6, attributes := #[] }, { accessFlags := 16409, nameIndex := 18, descriptorIndex := 6, attributes := #[] }, { accessFlags := 16409, nameIndex := 21, descriptorIndex := 6, attributes := #[] }, { accessFlags := 16409, nameIndex := 24, descriptorIndex := 6, attributes := #[] }, { accessFlags := 4122, nameIndex := 27, descriptorIndex := 28, attributes := #[] }])
  fields := #[{ name := "SCHEDULED", type := (.object "com/example/stackyard/stackyard/app/AttemptState"), accessFlags := 16409, slot := 0, constantValue := 0 }, { name := "ALLOCATED", type := (.object "com/example/stackyard/stackyard/app/AttemptState"), accessFlags := 16409, slot := 1, constantValue := 0 }, { name := "LAUNCHED", type := (.object "com/example/stackyard/stackyard/app/AttemptState"), accessFlags := 16409, slot := 2, constantValue := 0 }, { name := "RUNNING", type := (.object "com/example/stackyard/stackyard/app/AttemptState"), accessFlags := 16409, slot := 3, constantValue := 0 }, { name := "FINISHED", type := (.object "com/example/stackyard/stackyard/app/AttemptState"), accessFlags := 16409, slot := 4, constantValue := 0 }, { name := "FAILED", type := (.object "com/example/stackyard/stackyard/app/AttemptState"), accessFlags := 16409, slot := 5, constantValue := 0 }, { name := "KILLED", type := (.object "com/example/stackyard/stackyard/app/AttemptState"), accessFlags := 16409, slot := 6, constantValue := 0 }, { name := "$VALUES", type := (.array (.object "com/example/stackyard/stackyard/app/AttemptState")), accessFlags := 4122, slot := 7, constantValue := 0 }]
  methods := #[k6m0]
  instanceTypes := #[(.object "java/lang/String"), .int, .int]
  staticTypes := #[(.object "com/example/stackyard/stackyard/app/AttemptState"), (.object "com/example/stackyard/stackyard/app/AttemptState"), (.object "com/example/stackyard/stackyard/app/AttemptState"), (.object "com/example/stackyard/stackyard/app/AttemptState"), (.object "com/example/stackyard/stackyard/app/AttemptState"), (.object "com/example/stackyard/stackyard/app/AttemptState"), (.object "com/example/stackyard/stackyard/app/AttemptState"), (.array (.object "com/example/stackyard/stackyard/app/AttemptState"))]
  resolved := Array.replicate 70 none
  statics := some 0 }

def pool7 : Array CpInfo := pool [(1, u "java/lang/Cloneable"), (0, .class_ 1), (0, u "java/lang/Object"), (0, .class_ 3)] 3

/-- java/lang/Cloneable -/
def k7 : Class := { plain "java/lang/Cloneable" (some 0) with
  accessFlags := 1537
  interfaces := #[]
  cf := some (fileOf pool7 2 #[] #[] 1537 4 #[] #[])
  fields := #[]
  methods := #[]
  instanceTypes := #[]
  staticTypes := #[]
  resolved := Array.replicate 8 none
  statics := none }

/-- the primitive byte -/
def k8 : Class := { plain "byte" none with kind := .primitive 'B', accessFlags := 0x411 }
/-- [B -/
def k9 : Class := { plain "[B" (some 0) with kind := .array 8 .byte, interfaces := #[7, 4], accessFlags := 1041 }

/-- the primitive int -/
def k10 : Class := { plain "int" none with kind := .primitive 'I', accessFlags := 0x411 }
/-- [I -/
def k11 : Class := { plain "[I" (some 0) with kind := .array 10 .int, interfaces := #[7, 4], accessFlags := 1041 }

def heap : Heap := #[{ cls := 6, slots := #[.ref 1, .ref 7, .ref 6, .ref 5, .ref 2, .ref 3, .ref 4, .null], vm := .statics 6 },
  { cls := 6, slots := #[.null, .int 0, .int 0], vm := .none },
  { cls := 6, slots := #[.null, .int 4, .int 0], vm := .none },
  { cls := 6, slots := #[.null, .int 5, .int 0], vm := .none },
  { cls := 6, slots := #[.null, .int 6, .int 0], vm := .none },
  { cls := 6, slots := #[.null, .int 3, .int 0], vm := .none },
  { cls := 6, slots := #[.null, .int 2, .int 0], vm := .none },
  { cls := 6, slots := #[.null, .int 1, .int 0], vm := .none }]
def classes : Array Class := #[k0, k1, k2, k3, k4, k5, k6, k7, k8, k9, k10, k11]
def interned : List (Array UInt16 × Addr) := []
def slotsUsed : Nat := 29
def theMethod : MethodId := ⟨1, 1⟩
def args0 : Array Value := #[.int 5]
def aboutOver (below : List Frame) : State where
  vm := { classes := classes, interned := interned.toArray }
  heap := heap
  slotsUsed := slotsUsed
  threads := #[{ frames := .invoking theMethod args0 :: below }]
def below0 : List Frame := [.native { method := ⟨0, 0⟩, args := #[] }]
def about1 : State := aboutOver below0
def p0 : Program := .bare "" "" ""
def e0 : Env := launch0.env 0 0 0
theorem w_frames : about1.frames = Frame.invoking theMethod args0 :: below0 := rfl
set_option maxRecDepth 65536 in
theorem w_args : argsFit about1.vm theMethod args0 = true := by decide +kernel
set_option maxRecDepth 65536 in
theorem w_heap : heapFits about1 = true := by decide +kernel
set_option maxRecDepth 65536 in
theorem w_runnable : about1.curStatus? = some .runnable := by decide +kernel
set_option maxRecDepth 65536 in
theorem w_alone : about1.alone = true := by decide +kernel
set_option maxRecDepth 65536 in
theorem w_named : about1.methodNamed? x = some theMethod := by decide +kernel
set_option maxRecDepth 65536 in
theorem w_hears : about1.hears theMethod below0 = true := by decide +kernel
set_option maxRecDepth 65536 in
theorem w_ripe : about1.ripe theMethod args0 below0 = true := by decide +kernel
theorem w_running : about1.status = .running := rfl
set_option maxRecDepth 65536 in
theorem w_room : about1.hasRoom e0.platform room_1 = true :=
  launch0.hasRoom_least _ room_1 (by decide +kernel) (by decide +kernel) (by decide +kernel) (by decide +kernel) (by decide +kernel) (by decide +kernel)
theorem allAtoms_all (ts : List Jvm.Cond) (a : Array Jvm.Value) (st : Jvm.State) : (allAtoms ts).before a st = ts.all (fun c => c.before a st) := by
  induction ts with
  | nil => rfl
  | cons c t ih =>
    show (Jvm.Cond.and c (allAtoms t)).before a st = _
    rw [Jvm.Cond.before_and, ih, List.all_cons]
def words1 : List Jvm.Cond := Jvm.Cond.code x code maxLocals ret :: tables_1
/-- a 'code' word, met by the world's own term for the bytes: nothing is compared byte by byte -/
theorem code_word {y : MethodName} {bytes : ByteArray} {mx : Nat} {rt : Option FieldType} {a : Array Value} {s : State} {m : MethodId} {meth : Method} {c : Code} (h1 : s.methodNamed? y = some m) (h2 : s.vm.method? m = some meth) (h3 : meth.code = some c) (h4 : c.code = bytes)
    (h5 : (c.maxLocals == mx && c.exceptionTable.isEmpty && decide (c.maxStack ≤ mostOperands) && decide (meth.sig.returnType = rt) && !meth.locks && decide (parseMethodDescriptor y.desc = some meth.sig)) = true) : (Jvm.Cond.code y bytes mx rt).before a s = true := by
  simp only [Bool.and_eq_true, beq_iff_eq, Bool.not_eq_true', decide_eq_true_eq] at h5
  obtain ⟨⟨⟨⟨⟨g1, g2⟩, g3⟩, g4⟩, g5⟩, g6⟩ := h5
  simp [Cond.before, Cond.holds, Cond.value, h1, h2, h3, h4, g1, g2, g3, g4, g5, g6]
def isCode : Jvm.Cond → Bool
  | .code _ _ _ _ => true
  | _ => false
theorem all_split {L : List Jvm.Cond} {P : Jvm.Cond → Bool} (h1 : L.all (fun c => isCode c || P c) = true) (h2 : ∀ c ∈ L.filter isCode, P c = true) : L.all P = true := by
  refine List.all_eq_true.mpr fun c hc => ?_
  have h := List.all_eq_true.mp h1 c hc
  rcases Bool.eq_false_or_eq_true (isCode c) with hi | hi
  · exact h2 c (List.mem_filter.mpr ⟨hc, hi⟩)
  · simpa [hi] using h
set_option maxRecDepth 65536 in
theorem w_c0 : (Jvm.Cond.code x code maxLocals ret).before args0 about1 = true := code_word (m := ⟨1, 1⟩) (meth := k1m1) (c := k1c1) (by decide +kernel) rfl rfl rfl (by decide +kernel)
set_option maxRecDepth 65536 in
theorem w_c1 : (Jvm.Cond.code ({ cls := "com/example/stackyard/stackyard/app/AttemptState", name := "isFinal", desc := "()Z" } : Jvm.MethodName) prog_18_method_4_code (1 : Nat) (Option.some Jvm.ClassFile.FieldType.boolean)).before args0 about1 = true := code_word (m := ⟨6, 0⟩) (meth := k6m0) (c := k6c0) (by decide +kernel) rfl rfl rfl (by decide +kernel)
def codes1 : List Jvm.Cond := [Jvm.Cond.code x code maxLocals ret, Jvm.Cond.code ({ cls := "com/example/stackyard/stackyard/app/AttemptState", name := "isFinal", desc := "()Z" } : Jvm.MethodName) prog_18_method_4_code (1 : Nat) (Option.some Jvm.ClassFile.FieldType.boolean)]
set_option maxRecDepth 65536 in
theorem codes_eq : words1.filter isCode = codes1 := rfl
theorem w_codes : ∀ c ∈ words1.filter isCode, c.before args0 about1 = true := by
  rw [codes_eq]
  intro c hc
  simp only [codes1, List.mem_cons, List.not_mem_nil, or_false] at hc
  rcases hc with rfl | rfl
  · exact w_c0
  · exact w_c1
set_option maxRecDepth 65536 in
theorem w_t1 : (words1.take 24).all (fun c => isCode c || c.before args0 about1) = true := by decide +kernel
set_option maxRecDepth 65536 in
theorem w_t2 : (words1.drop 24).all (fun c => isCode c || c.before args0 about1) = true := by decide +kernel
theorem w_tables : (allAtoms (Jvm.Cond.code x code maxLocals ret :: tables_1)).before args0 about1 = true := by
  rw [allAtoms_all]
  show words1.all (fun c => c.before args0 about1) = true
  refine all_split ?_ w_codes
  rw [← List.take_append_drop 24 words1, List.all_append, w_t1, w_t2]
  rfl
set_option maxRecDepth 65536 in
theorem w_case : (Jvm.Cond.and given_1 narrow_1).before args0 about1 = true := by decide +kernel
theorem w_applies : (headSpec (Jvm.Cond.code x code maxLocals ret :: tables_1) room_1).applies x e0.platform about1 = true :=
  (Spec.applies_iff w_frames).mpr ⟨w_running, w_runnable, w_alone, w_named, w_hears, w_ripe, w_room, w_tables⟩
theorem atStart : AtStart classFile x code maxLocals ret World_1 tables_1 room_1 Calls_1 rest_1 Pre_1 launch0 p0 e0 about1 theMethod args0 below0 :=
  ⟨lists_1, trivial, launch0.admits_env _ _ _, launch0.least_env, fairChoices_fair.cas, fairChoices_fair.clock, w_frames, w_args, w_heap, w_applies, trivial, trivial, w_case⟩
end start1
theorem witness_1 : WitnessClaimed_1 := ⟨start1.p0, start1.e0, start1.about1, start1.theMethod, start1.args0, start1.below0, start1.atStart⟩
end Jvm.Pilot.@@N@@
