import JvmDerived
import JvmDerived.Pilot.@@N@@Statement
import JvmDerived.Pilot.@@N@@Code
set_option linter.unusedVariables false
set_option linter.unusedSimpArgs false
@@BLOCK:NumsL.lean.txt@@
namespace Jvm.Pilot.@@N@@
open Jvm Jvm.ClassFile Sem Op Lib Jvm.Free Jvm.Stand Jvm.LawKit Jvm.RoadKit Bundle Jvm.Pilot.@@N@@.Jvm.D
section OwnKit
theorem own_w {Z : State} {a0 : Array Value} (hw : ∀ d ∈ tables_1, d.before a0 Z = true) {d : Jvm.Cond} (i : Nat) (h : tables_1[i]? = some d) : d.before a0 Z = true := hw d (List.mem_of_getElem? h)
theorem own_narb (x : Int32) : nar .byte (x.toInt8.toInt32) = x.toInt8.toInt32 := by
  show (x.toInt8.toInt32).toInt8.toInt32 = x.toInt8.toInt32
  rw [Int8.toInt8_toInt32]
theorem own_narc (x : Int32) : nar .char (x.toUInt32.toUInt16.toUInt32.toInt32) = x.toUInt32.toUInt16.toUInt32.toInt32 := by
  show (x.toUInt32.toUInt16.toUInt32.toInt32).toUInt32.toUInt16.toUInt32.toInt32 = _
  have : (x.toUInt32.toUInt16.toUInt32.toInt32).toUInt32 = x.toUInt32.toUInt16.toUInt32 := rfl
  rw [this]
  have : x.toUInt32.toUInt16.toUInt32.toUInt16 = x.toUInt32.toUInt16 := by rw [← UInt16.toNat_inj]; simp
  rw [this]
theorem own_plain {Z : State} {h : Heap} {a : Addr} {C : String} (F : Exa Z h a C) : ∃ c : Cell, h[a]? = some c ∧ c.vm.isStatics = false := by
  obtain ⟨c, _, h1, -, -, h4, -⟩ := F; exact ⟨c, h1, h4⟩
theorem own_plainV {Z : State} {h : Heap} {a : Addr} {k : ClassId} {ty : FieldType} {z : Int32} {vs : List Value} {d : Value} (F : Arv Z h a k ty z vs d) : ∃ c : Cell, h[a]? = some c ∧ c.vm.isStatics = false := by
  obtain ⟨c, A, -⟩ := F; exact ⟨c, A.1, A.plain⟩
theorem own_Sta_keep {Z : State} {h h' : Heap} {C n d : String} {v : Value} {ws : List Addr} (F : Sta Z h C n d v) (K : Keep h h' ws) (q : ∀ a ∈ ws, ∃ c : Cell, h[a]? = some c ∧ c.vm.isStatics = false) : Sta Z h' C n d v := by
  obtain ⟨cf, i, k, f, st, cell, h1, h2, h3, h4, h5, h6, h7⟩ := F
  have ne : st ∉ ws := fun hm => by
    obtain ⟨c, g1, g2⟩ := q st hm
    cases h5.symm.trans g1
    rw [h6] at g2; cases g2
  exact ⟨cf, i, k, f, st, cell, h1, h2, h3, h4, K.2.1 _ _ h5 ne, h6, h7⟩
theorem own_NSroot {Z : State} {a0 : Array Value} {O K : String} {j : Nat} (w : (Cond.noSuperclass O).before a0 Z = true) (wk : (Cond.instantiable K j).before a0 Z = true) (hn : O ≠ K) : NS Z O K := by
  obtain ⟨c, k, h1, h2, h3, -⟩ := Cond.noSuperclass_spec w
  obtain ⟨t, kt, g1, -⟩ := Cond.instantiable_spec wk
  refine ⟨c, t, h1, g1, fun fuel => ?_⟩
  cases fuel with
  | zero => rfl
  | succ f => simp [Vm.isSubclassAux, ids_ne h1 g1 hn, h2, h3]
theorem own_NSno {Z : State} {a0 : Array Value} {C S K : String} {j : Nat} (w : (Cond.superclass C S).before a0 Z = true) (wk : (Cond.instantiable K j).before a0 Z = true) (q : NS Z C K) (hn : C ≠ K) : ∃ c t, Z.vm.findClass C = some c ∧ Z.vm.findClass K = some t ∧ Z.vm.assignable c t = false := by
  obtain ⟨c, t, h0, g0, n3⟩ := q
  obtain ⟨_, k, _, _, h2, _, _, h5, -⟩ := Cond.superclass_spec h0 w
  obtain ⟨t', kt, g1, g2, g5, g7, -⟩ := Cond.instantiable_spec wk
  cases g0.symm.trans g1
  have g8 : kt.isInterface = false := by simpa using (Bool.or_eq_false_iff.mp g7).1
  refine ⟨c, t, h0, g0, ?_⟩
  show Z.vm.assignableAux (255 + 1) c t = false
  simp [Vm.assignableAux, ids_ne h0 g0 hn, h2, g2, h5, g5, g8, Vm.isSubclass, n3]
def own_b (P : Prop) [Decidable P] : Int32 := if P then 1 else 0
theorem own_b1 {P : Prop} [Decidable P] (h : P) : own_b P = 1 := if_pos h
theorem own_b0 {P : Prop} [Decidable P] (h : ¬ P) : own_b P = 0 := if_neg h
variable {p : Program} {l : Launch} {e : Env} {R : Room} {s : State} {m : MethodId} {args : Array Value} {below : List Frame} {meth : Method} {c : Code} {T : State} {locs : List Loc} {cells slots : Nat}
def own_Fin (p : Program) (e : Env) (below : List Frame) (s : State) (Q : Option Value → Heap → List Loc → Prop) (k n : Nat) (A : State) : Prop := ∃ s₂ o, Steps p.tables e below A s₂ ∧ s₂.status = .running ∧ Ended s₂ below o ∧ ∃ v L, o = .returned v ∧ Q v s₂.heap L ∧ FrameEnd s o s₂ L k n
theorem own_go {Q : Option Value → Heap → List Loc → Prop} {k n : Nat} {A B : State} (h : ∀ t, Steps p.tables e below B t → Steps p.tables e below A t) (q : own_Fin p e below s Q k n B) : own_Fin p e below s Q k n A := by
  obtain ⟨s₂, o, h1, h2⟩ := q
  exact ⟨s₂, o, h _ h1, h2⟩
theorem own_retN {Q : Option Value → Heap → List Loc → Prop} {k n : Nat} (X : Stand p l e R s m args below meth c T locs cells slots) (hx : p.tables.exec = Jvm.exec) (hlk : meth.locks = false) {pc : Nat} {Ls : Array Slot} {z w : Int32} {t : FieldType} {rest : List Value} (hret : meth.sig.returnType = some t) (ht : t = .boolean ∨ t = .byte ∨ t = .char ∨ t = .short)
    (hd : decode c.code pc = .ok (.ireturn, 1)) {h : Heap} (eT : T.heap = h) (hz : nar t z = w) (hQ : Q (some (.int w)) h locs) (hk : cells ≤ k) (hn : slots ≤ n) : own_Fin p e below s Q k n (T.setTop (mkF m pc Ls (.int z :: rest))) := by
  subst hz eT
  obtain ⟨fs, hr, hrun, hended, hW, hsame⟩ := X.leave (v := some (.int (nar t z))) (fun h => by rw [hret] at h; cases h) hlk
  exact ⟨_, _, retN X hx hret ht hd hr, hrun, hended, _, _, rfl, hQ, ⟨_, rfl⟩, hW, hsame.mono hk hn⟩
theorem own_retI {Q : Option Value → Heap → List Loc → Prop} {k n : Nat} (X : Stand p l e R s m args below meth c T locs cells slots) (hx : p.tables.exec = Jvm.exec) (hlk : meth.locks = false) {pc : Nat} {Ls : Array Slot} {z : Int32} {rest : List Value} (hret : meth.sig.returnType = some .int)
    (hd : decode c.code pc = .ok (.ireturn, 1)) {h : Heap} (eT : T.heap = h) (hQ : Q (some (.int z)) h locs) (hk : cells ≤ k) (hn : slots ≤ n) : own_Fin p e below s Q k n (T.setTop (mkF m pc Ls (.int z :: rest))) := by
  subst eT
  obtain ⟨fs, hr, hrun, hended, hW, hsame⟩ := X.leave (v := some (.int z)) (fun h => by rw [hret] at h; cases h) hlk
  exact ⟨_, _, retOut X hx hret rfl (Or.inl ⟨rfl, Or.inl rfl, z, rfl⟩) hd hr, hrun, hended, _, _, rfl, hQ, ⟨_, rfl⟩, hW, hsame.mono hk hn⟩
theorem own_retJ {Q : Option Value → Heap → List Loc → Prop} {k n : Nat} (X : Stand p l e R s m args below meth c T locs cells slots) (hx : p.tables.exec = Jvm.exec) (hlk : meth.locks = false) {pc : Nat} {Ls : Array Slot} {z : Int64} {rest : List Value} (hret : meth.sig.returnType = some .long)
    (hd : decode c.code pc = .ok (.lreturn, 1)) {h : Heap} (eT : T.heap = h) (hQ : Q (some (.long z)) h locs) (hk : cells ≤ k) (hn : slots ≤ n) : own_Fin p e below s Q k n (T.setTop (mkF m pc Ls (.long z :: rest))) := by
  subst eT
  obtain ⟨fs, hr, hrun, hended, hW, hsame⟩ := X.leave (v := some (.long z)) (fun h => by rw [hret] at h; cases h) hlk
  exact ⟨_, _, retOut X hx hret rfl (Or.inr (Or.inl ⟨rfl, rfl, z, rfl⟩)) hd hr, hrun, hended, _, _, rfl, hQ, ⟨_, rfl⟩, hW, hsame.mono hk hn⟩
theorem own_retD {Q : Option Value → Heap → List Loc → Prop} {k n : Nat} (X : Stand p l e R s m args below meth c T locs cells slots) (hx : p.tables.exec = Jvm.exec) (hlk : meth.locks = false) {pc : Nat} {Ls : Array Slot} {z : UInt64} {rest : List Value} (hret : meth.sig.returnType = some .double)
    (hd : decode c.code pc = .ok (.dreturn, 1)) {h : Heap} (eT : T.heap = h) (hQ : Q (some (.double z)) h locs) (hk : cells ≤ k) (hn : slots ≤ n) : own_Fin p e below s Q k n (T.setTop (mkF m pc Ls (.double z :: rest))) := by
  subst eT
  obtain ⟨fs, hr, hrun, hended, hW, hsame⟩ := X.leave (v := some (.double z)) (fun h => by rw [hret] at h; cases h) hlk
  exact ⟨_, _, retOut X hx hret rfl (Or.inr (Or.inr (Or.inl ⟨rfl, rfl, z, rfl⟩))) hd hr, hrun, hended, _, _, rfl, hQ, ⟨_, rfl⟩, hW, hsame.mono hk hn⟩
theorem own_retA {Q : Option Value → Heap → List Loc → Prop} {k n : Nat} (X : Stand p l e R s m args below meth c T locs cells slots) (hx : p.tables.exec = Jvm.exec) (hlk : meth.locks = false) {pc : Nat} {Ls : Array Slot} {w : Value} {t : FieldType} {rest : List Value} (hret : meth.sig.returnType = some t) (ht : t.isReference = true) (hw : w.isRef = true)
    (hd : decode c.code pc = .ok (.areturn, 1)) {h : Heap} (eT : T.heap = h) (hQ : Q (some w) h locs) (hk : cells ≤ k) (hn : slots ≤ n) : own_Fin p e below s Q k n (T.setTop (mkF m pc Ls (w :: rest))) := by
  subst eT
  obtain ⟨fs, hr, hrun, hended, hW, hsame⟩ := X.leave (v := some w) (fun h => by rw [hret] at h; cases h) hlk
  have hnw : narrow t w = w := by
    rcases ref_cases hw with rfl | ⟨z, rfl⟩ <;> cases t <;> first | rfl | (cases ht; done)
  exact ⟨_, _, retOut X hx hret hnw (Or.inr (Or.inr (Or.inr (Or.inr ⟨rfl, ht, hw⟩)))) hd hr, hrun, hended, _, _, rfl, hQ, ⟨_, rfl⟩, hW, hsame.mono hk hn⟩
theorem own_retV {Q : Option Value → Heap → List Loc → Prop} {k n : Nat} (X : Stand p l e R s m args below meth c T locs cells slots) (hx : p.tables.exec = Jvm.exec) (hlk : meth.locks = false) {pc : Nat} {Ls : Array Slot} (hret : meth.sig.returnType = none)
    (hd : decode c.code pc = .ok (.return_, 1)) {h : Heap} (eT : T.heap = h) (hQ : Q none h locs) (hk : cells ≤ k) (hn : slots ≤ n) : own_Fin p e below s Q k n (T.setTop (mkF m pc Ls [])) := by
  subst eT
  obtain ⟨fs, hr, hrun, hended, hW, hsame⟩ := X.leave (v := none) (fun _ => rfl) hlk
  exact ⟨_, _, X.returnOut hx hret hd hr, hrun, hended, _, _, rfl, hQ, ⟨_, rfl⟩, hW, hsame.mono hk hn⟩
end OwnKit
section OwnNums
theorem own_iushr (x : Int32) {n : UInt32} {k : Nat} (hn : n.toNat = k) (h0 : 0 < k) (hk : k < 32) : ((x.toUInt32 >>> n).toInt32).toInt = (x.toInt % 4294967296) / 2 ^ k := by
  have e2 : ((x.toUInt32 >>> n).toInt32).toBitVec.toNat = x.toBitVec.toNat / 2 ^ k := by
    simp only [UInt32.toBitVec_toInt32, UInt32.toBitVec_shiftRight, Int32.toBitVec_toUInt32]
    simp [BitVec.toNat_ushiftRight, Nat.shiftRight_eq_div_pow, hn, Nat.mod_eq_of_lt hk]
  have hb := x.toBitVec.isLt
  have hp : 2 ^ 1 ≤ 2 ^ k := Nat.pow_le_pow_right (by decide) h0
  have hle : x.toBitVec.toNat / 2 ^ k ≤ x.toBitVec.toNat / 2 ^ 1 := Nat.div_le_div_left hp (by decide)
  have e3 : ((x.toUInt32 >>> n).toInt32).toInt = ((x.toBitVec.toNat / 2 ^ k : Nat) : Int) := by
    have : ((x.toUInt32 >>> n).toInt32).toInt = ((x.toUInt32 >>> n).toInt32).toBitVec.toInt := rfl
    rw [this, BitVec.toInt_eq_toNat_cond, e2, if_pos (by omega)]
  have e4 : x.toInt % 4294967296 = (x.toBitVec.toNat : Int) := by
    have : x.toInt = x.toBitVec.toInt := rfl
    rw [this, BitVec.toInt_eq_toNat_cond]
    split <;> omega
  rw [e3, e4, Int.natCast_ediv, Int.natCast_pow]
  rfl
theorem own_lushr (x : Int64) {n : UInt64} {k : Nat} (hn : n.toNat = k) (h0 : 0 < k) (hk : k < 64) : ((x.toUInt64 >>> n).toInt64).toInt = (x.toInt % 18446744073709551616) / 2 ^ k := by
  have e2 : ((x.toUInt64 >>> n).toInt64).toBitVec.toNat = x.toBitVec.toNat / 2 ^ k := by
    simp only [UInt64.toBitVec_toInt64, UInt64.toBitVec_shiftRight, Int64.toBitVec_toUInt64]
    simp [BitVec.toNat_ushiftRight, Nat.shiftRight_eq_div_pow, hn, Nat.mod_eq_of_lt hk]
  have hb := x.toBitVec.isLt
  have hp : 2 ^ 1 ≤ 2 ^ k := Nat.pow_le_pow_right (by decide) h0
  have hle : x.toBitVec.toNat / 2 ^ k ≤ x.toBitVec.toNat / 2 ^ 1 := Nat.div_le_div_left hp (by decide)
  have e3 : ((x.toUInt64 >>> n).toInt64).toInt = ((x.toBitVec.toNat / 2 ^ k : Nat) : Int) := by
    have : ((x.toUInt64 >>> n).toInt64).toInt = ((x.toUInt64 >>> n).toInt64).toBitVec.toInt := rfl
    rw [this, BitVec.toInt_eq_toNat_cond, e2, if_pos (by omega)]
  have e4 : x.toInt % 18446744073709551616 = (x.toBitVec.toNat : Int) := by
    have : x.toInt = x.toBitVec.toInt := rfl
    rw [this, BitVec.toInt_eq_toNat_cond]
    split <;> omega
  rw [e3, e4, Int.natCast_ediv, Int.natCast_pow]
  rfl
theorem own_l2i (x : Int64) : (x.toInt32.toInt - x.toInt) % 4294967296 = 0 := by rw [Int64.toInt_toInt32]; exact bm32 _
theorem own_div32 {x y : Int32} (hx : 0 ≤ x.toInt) (hy : 0 < y.toInt) : (x / y).toInt = x.toInt / y.toInt := by
  rw [Jvm.Kit.i32_div (by omega), Int.tdiv_eq_ediv_of_nonneg hx]
theorem own_div64 {x y : Int64} (hx : 0 ≤ x.toInt) (hy : 0 < y.toInt) : (x / y).toInt = x.toInt / y.toInt := by
  rw [Jvm.Kit.i64_div (by omega), Int.tdiv_eq_ediv_of_nonneg hx]
theorem own_i2c (x : Int32) : (x.toUInt32.toUInt16.toUInt32.toInt32).toInt = x.toInt % 65536 := by
  have e2 : (x.toUInt32.toUInt16.toUInt32.toInt32).toBitVec.toNat = x.toBitVec.toNat % 65536 := by
    show (x.toUInt32.toUInt16.toUInt32).toNat = _
    simp
    rfl
  have hb := x.toBitVec.isLt
  have e3 : (x.toUInt32.toUInt16.toUInt32.toInt32).toInt = (x.toUInt32.toUInt16.toUInt32.toInt32).toBitVec.toInt := rfl
  have e4 : x.toInt = x.toBitVec.toInt := rfl
  rw [e3, e4, BitVec.toInt_eq_toNat_cond, BitVec.toInt_eq_toNat_cond, e2]
  split <;> split <;> omega
theorem own_i2b (x : Int32) : ((x.toInt8.toInt32).toInt - x.toInt) % 256 = 0 ∧ -128 ≤ (x.toInt8.toInt32).toInt ∧ (x.toInt8.toInt32).toInt < 128 := by
  have h1 : (x.toInt8.toInt32).toInt = x.toInt8.toInt := Int8.toInt_toInt32 _
  have h2 := x.toInt8.toInt_lt; have h3 := x.toInt8.le_toInt
  have h4 : x.toInt8.toInt = x.toInt.bmod 256 := Int32.toInt_toInt8 x
  have h5 := Int.bmod_emod (x := x.toInt) (m := 256)
  rw [h1]; omega
end OwnNums
theorem own_pd0 : parseMethodDescriptor "(II)V" = some ⟨[.int, .int], none⟩ := by decide +kernel
theorem own_pd1 : parseMethodDescriptor "(II)Z" = some ⟨[.int, .int], some .boolean⟩ := by decide +kernel
abbrev R_own_rm1 : Room := { frames := 1, cells := 0, slots := 0, locals := 12 }
theorem d1_0 : decode prog_13_method_1_code 0 = .ok (.aload_n 0, 1) := by decide +kernel
theorem d1_1 : decode prog_13_method_1_code 1 = .ok (.invokespecial 1, 3) := by decide +kernel
theorem d1_4 : decode prog_13_method_1_code 4 = .ok (.aload_n 0, 1) := by decide +kernel
theorem d1_5 : decode prog_13_method_1_code 5 = .ok (.iload_n 1, 1) := by decide +kernel
theorem d1_6 : decode prog_13_method_1_code 6 = .ok (.putfield 7, 3) := by decide +kernel
theorem d1_9 : decode prog_13_method_1_code 9 = .ok (.aload_n 0, 1) := by decide +kernel
theorem d1_10 : decode prog_13_method_1_code 10 = .ok (.iload_n 2, 1) := by decide +kernel
theorem d1_11 : decode prog_13_method_1_code 11 = .ok (.putfield 13, 3) := by decide +kernel
theorem d1_14 : decode prog_13_method_1_code 14 = .ok (.return_, 1) := by decide +kernel
theorem own_pn0 : plainName "com/example/carillon/carillon/Period" = true := by first | (simp [plainName, overriddenIn]; done) | decide +kernel
theorem ef_own_rm1 (m : MethodId) (x0 : Addr) (x1 : Int32) (x2 : Int32) : entryFrame m #[(.ref x0), (.int x1), (.int x2)] 3 = mkF m 0 #[.val (.ref x0), .val (.int x1), .val (.int x2)] [] := by first | (simp [entryFrame, mkF, argsToLocals, Value.category]; done) | rfl
def Q_own_rm1 (Z : State) (a1 : Addr) (p2 : Int32) (p3 : Int32) (h0 : Heap) (n0 : Nat) (v : Option Value) (h : Heap) (L : List Loc) : Prop := v = none ∧ Fr n0 L ∧ Keep h0 h [a1] ∧ Exa Z h a1 "com/example/carillon/carillon/Period" ∧ Fld Z h a1 "com/example/carillon/carillon/Period" "day" "I" (.int p2) ∧ Fld Z h a1 "com/example/carillon/carillon/Period" "periodOfDay" "I" (.int p3)
set_option maxRecDepth 65536 in
set_option maxHeartbeats 400000000 in
theorem own_rm1 (l : Launch) (Z : State) (a0 : Array Value) (hw : ∀ d ∈ tables_1, d.before a0 Z = true) (ws : List Jvm.Cond) (a1 : Addr) (p2 : Int32) (p3 : Int32) (h0 : Heap) (n0 : Nat) (Z0 : n0 ≤ h0.size) (P_E_a1 : Exa Z h0 a1 "com/example/carillon/carillon/Period") (P_F_a1_day : Fld Z h0 a1 "com/example/carillon/carillon/Period" "day" "I" (.int (0 : Int32))) (P_F_a1_periodOfDay : Fld Z h0 a1 "com/example/carillon/carillon/Period" "periodOfDay" "I" (.int (0 : Int32))) (g_a1 : n0 ≤ a1) :
    MetFree l (⟨"com/example/carillon/carillon/Period", "<init>", "(II)V"⟩ : MethodName) (head1 (Jvm.Cond.code (⟨"com/example/carillon/carillon/Period", "<init>", "(II)V"⟩ : MethodName) prog_13_method_1_code 3 none :: ws) R_own_rm1) (fun a U => a = #[(.ref a1), (.int p2), (.int p3)] ∧ Z.Warmed39 U.vm ∧ U.heap = h0) (fun _ _ _ _ _ => True) (fun _ U o U' => ∃ v L, o = .returned v ∧ Q_own_rm1 Z a1 p2 p3 h0 n0 v U'.heap L ∧ FrameEnd U o U' L R_own_rm1.cells R_own_rm1.slots) := by
  refine MetFree.of_bodySF (plainFor_of_name own_pn0) hisR ?_
  intro p e s m args below meth c s₁ Bd hml0 hP hK
  obtain ⟨rfl, hZ, hh⟩ := hP
  have hx := Bd.exec
  have hby := Bd.bytes
  have hml : c.maxLocals = 3 := hml0
  have hown : s.vm.findClass "com/example/carillon/carillon/Period" = some m.cls := findClass_of_methodNamed Bd.named
  have hnm := (name_of_methodNamed Bd.named Bd.method).1
  have X0 : Stand p l e R_own_rm1 s m #[(.ref a1), (.int p2), (.int p3)] below meth c s₁ [] 0 0 := Stand.of_body Bd
  have e0 : s₁.heap = h0 := by rw [← hh, Bd.state]; rfl
  have N0 := Fr.nil n0
  have K0 : Keep h0 h0 [a1] := Keep.refl h0 [a1]
  show own_Fin p e below s (Q_own_rm1 Z a1 p2 p3 h0 n0) R_own_rm1.cells R_own_rm1.slots (s₁.setTop (entryFrame m #[(.ref a1), (.int p2), (.int p3)] 3))
  refine own_go (fun _ k => castTop (ef_own_rm1 m a1 p2 p3) k) ?_
  show own_Fin _ _ _ _ _ _ _ (s₁.setTop (mkF m 0 #[.val (.ref a1), .val (.int p2), .val (.int p3)] []))
  refine own_go (B := s₁.setTop (mkF m 1 #[.val (.ref a1), .val (.int p2), .val (.int p3)] [(.ref a1)])) (fun _ k => XS.aloadN X0.here hx rfl (hb hby d1_0) rfl rfl k) ?_
  obtain ⟨T1, X1, e1, st1⟩ := initO X0 hx hZ hown (own_w hw 6 rfl) (own_w hw 7 rfl) (own_w hw 8 rfl) e0 (g := (mkF m 1 #[.val (.ref a1), .val (.int p2), .val (.int p3)] [(.ref a1)])) rfl (by rw [hml]; rfl) rfl (hb hby d1_1) (by decide) (W := 0) (by show 2 * 0 + _ ≤ _; exact Nat.le_of_eq rfl) (by decide)
  refine own_go (B := T1.setTop (mkF m 4 #[.val (.ref a1), .val (.int p2), .val (.int p3)] [])) st1 ?_
  refine own_go (B := T1.setTop (mkF m 5 #[.val (.ref a1), .val (.int p2), .val (.int p3)] [(.ref a1)])) (fun _ k => XS.aloadN X1.here hx rfl (hb hby d1_4) rfl rfl k) ?_
  refine own_go (B := T1.setTop (mkF m 6 #[.val (.ref a1), .val (.int p2), .val (.int p3)] [(.int p2), (.ref a1)])) (fun _ k => XS.iloadN X1.here hx rfl (hb hby d1_5) rfl  k) ?_
  obtain ⟨T2, h2, X2, e2, W2, st2⟩ := putF X1 hx hZ hown (host := "") (Or.inl (own_w hw 9 rfl)) Via.refl e1 P_F_a1_day P_E_a1 (Or.inr ⟨(own_w hw 10 rfl), rfl, hnm⟩) (own_w hw 1 rfl) (ty := .int) (by decide) rfl rfl (g := (mkF m 6 #[.val (.ref a1), .val (.int p2), .val (.int p3)] [(.int p2), (.ref a1)])) rfl rfl (hb hby d1_6)
  have F_w2 : Fld Z h2 a1 "com/example/carillon/carillon/Period" "day" "I" (.int p2) := P_F_a1_day.same W2
  have E_4 := P_E_a1.wr W2
  have F_6 := P_F_a1_periodOfDay.other W2 (Or.inr (slot_ne (Or.inr (own_w hw 12 rfl)) (Or.inr (own_w hw 10 rfl)) (by decide) (t := .int) (t' := .int) (by decide) (by decide)))
  have K7 : Keep h0 h2 [a1] := K0.wr W2 (Or.inl (List.mem_of_getElem? (i := 0) rfl))
  have N2 := Fr.snoc X2 N0 g_a1
  refine own_go (B := T2.setTop (mkF m 9 #[.val (.ref a1), .val (.int p2), .val (.int p3)] [])) st2 ?_
  refine own_go (B := T2.setTop (mkF m 10 #[.val (.ref a1), .val (.int p2), .val (.int p3)] [(.ref a1)])) (fun _ k => XS.aloadN X2.here hx rfl (hb hby d1_9) rfl rfl k) ?_
  refine own_go (B := T2.setTop (mkF m 11 #[.val (.ref a1), .val (.int p2), .val (.int p3)] [(.int p3), (.ref a1)])) (fun _ k => XS.iloadN X2.here hx rfl (hb hby d1_10) rfl  k) ?_
  obtain ⟨T8, h8, X8, e8, W8, st8⟩ := putF X2 hx hZ hown (host := "") (Or.inl (own_w hw 11 rfl)) Via.refl e2 F_6 E_4 (Or.inr ⟨(own_w hw 12 rfl), rfl, hnm⟩) (own_w hw 1 rfl) (ty := .int) (by decide) rfl rfl (g := (mkF m 11 #[.val (.ref a1), .val (.int p2), .val (.int p3)] [(.int p3), (.ref a1)])) rfl rfl (hb hby d1_11)
  have F_w8 : Fld Z h8 a1 "com/example/carillon/carillon/Period" "periodOfDay" "I" (.int p3) := F_6.same W8
  have E_10 := E_4.wr W8
  have F_12 := F_w2.other W8 (Or.inr (slot_ne (Or.inr (own_w hw 10 rfl)) (Or.inr (own_w hw 12 rfl)) (by decide) (t := .int) (t' := .int) (by decide) (by decide)))
  have K13 : Keep h0 h8 [a1] := K7.wr W8 (Or.inl (List.mem_of_getElem? (i := 0) rfl))
  have N8 := Fr.snoc X8 N2 g_a1
  refine own_go (B := T8.setTop (mkF m 14 #[.val (.ref a1), .val (.int p2), .val (.int p3)] [])) st8 ?_
  exact own_retV X8 hx Bd.notSynchronized Bd.returns (hb hby d1_14) e8 ⟨rfl, N8, K13, E_10, F_12, F_w8⟩ (by decide) (by decide)
abbrev R_own_rm3 : Room := { frames := 0, cells := 0, slots := 0, locals := 0 }
theorem d3_0 : decode prog_13_method_4_code 0 = .ok (.aload_n 0, 1) := by decide +kernel
theorem d3_1 : decode prog_13_method_4_code 1 = .ok (.getfield 7, 3) := by decide +kernel
theorem d3_4 : decode prog_13_method_4_code 4 = .ok (.ifCond .lt 30, 3) := by decide +kernel
theorem d3_7 : decode prog_13_method_4_code 7 = .ok (.aload_n 0, 1) := by decide +kernel
theorem d3_8 : decode prog_13_method_4_code 8 = .ok (.getfield 7, 3) := by decide +kernel
theorem d3_11 : decode prog_13_method_4_code 11 = .ok (.iload_n 1, 1) := by decide +kernel
theorem d3_12 : decode prog_13_method_4_code 12 = .ok (.if_icmp .ge 22, 3) := by decide +kernel
theorem d3_15 : decode prog_13_method_4_code 15 = .ok (.aload_n 0, 1) := by decide +kernel
theorem d3_16 : decode prog_13_method_4_code 16 = .ok (.getfield 13, 3) := by decide +kernel
theorem d3_19 : decode prog_13_method_4_code 19 = .ok (.ifCond .lt 15, 3) := by decide +kernel
theorem d3_22 : decode prog_13_method_4_code 22 = .ok (.aload_n 0, 1) := by decide +kernel
theorem d3_23 : decode prog_13_method_4_code 23 = .ok (.getfield 13, 3) := by decide +kernel
theorem d3_26 : decode prog_13_method_4_code 26 = .ok (.iload_n 2, 1) := by decide +kernel
theorem d3_27 : decode prog_13_method_4_code 27 = .ok (.if_icmp .ge 7, 3) := by decide +kernel
theorem d3_30 : decode prog_13_method_4_code 30 = .ok (.iconst 1, 1) := by decide +kernel
theorem d3_31 : decode prog_13_method_4_code 31 = .ok (.goto 4, 3) := by decide +kernel
theorem d3_34 : decode prog_13_method_4_code 34 = .ok (.iconst 0, 1) := by decide +kernel
theorem d3_35 : decode prog_13_method_4_code 35 = .ok (.ireturn, 1) := by decide +kernel
theorem ef_own_rm3 (m : MethodId) (x0 : Addr) (x1 : Int32) (x2 : Int32) : entryFrame m #[(.ref x0), (.int x1), (.int x2)] 3 = mkF m 0 #[.val (.ref x0), .val (.int x1), .val (.int x2)] [] := by first | (simp [entryFrame, mkF, argsToLocals, Value.category]; done) | rfl
set_option maxHeartbeats 2000000 in
theorem own_pl_rm3_1 (p2 : Int32) (p3 : Int32) (p4 : Int32) (p5 : Int32) (hc2 : p2 < (0 : Int32)) : ¬ (0 ≤ p2.toInt ∧ p2.toInt < p4.toInt ∧ 0 ≤ p3.toInt ∧ p3.toInt < p5.toInt) := by
  have : (0 : Int32).toInt = 0 := by decide
  have := rng32 p2
  have := rng32 p4
  have := rng32 p5
  try simp only [Int32.lt_iff_toInt_lt, Int32.le_iff_toInt_le, Int64.lt_iff_toInt_lt, Int64.le_iff_toInt_le, ← Int32.toInt_inj, ← Int64.toInt_inj] at *
  all_goals omega
set_option maxHeartbeats 2000000 in
theorem own_pl_rm3_2 (p2 : Int32) (p3 : Int32) (p4 : Int32) (p5 : Int32) (hc2 : ¬ (p2 < (0 : Int32))) (hc4 : p2 < p4) (hc6 : p3 < (0 : Int32)) : ¬ (0 ≤ p2.toInt ∧ p2.toInt < p4.toInt ∧ 0 ≤ p3.toInt ∧ p3.toInt < p5.toInt) := by
  have : (0 : Int32).toInt = 0 := by decide
  have := rng32 p2
  have := rng32 p4
  have := rng32 p3
  have := rng32 p5
  try simp only [Int32.lt_iff_toInt_lt, Int32.le_iff_toInt_le, Int64.lt_iff_toInt_lt, Int64.le_iff_toInt_le, ← Int32.toInt_inj, ← Int64.toInt_inj] at *
  all_goals omega
set_option maxHeartbeats 2000000 in
theorem own_pl_rm3_3 (p2 : Int32) (p3 : Int32) (p4 : Int32) (p5 : Int32) (hc2 : ¬ (p2 < (0 : Int32))) (hc4 : p2 < p4) (hc6 : ¬ (p3 < (0 : Int32))) (hc8 : p3 < p5) : 0 ≤ p2.toInt ∧ p2.toInt < p4.toInt ∧ 0 ≤ p3.toInt ∧ p3.toInt < p5.toInt := by
  have : (0 : Int32).toInt = 0 := by decide
  have := rng32 p2
  have := rng32 p4
  have := rng32 p3
  have := rng32 p5
  try simp only [Int32.lt_iff_toInt_lt, Int32.le_iff_toInt_le, Int64.lt_iff_toInt_lt, Int64.le_iff_toInt_le, ← Int32.toInt_inj, ← Int64.toInt_inj] at *
  all_goals omega
set_option maxHeartbeats 2000000 in
theorem own_pl_rm3_4 (p2 : Int32) (p3 : Int32) (p4 : Int32) (p5 : Int32) (hc2 : ¬ (p2 < (0 : Int32))) (hc4 : p2 < p4) (hc6 : ¬ (p3 < (0 : Int32))) (hc8 : ¬ (p3 < p5)) : ¬ (0 ≤ p2.toInt ∧ p2.toInt < p4.toInt ∧ 0 ≤ p3.toInt ∧ p3.toInt < p5.toInt) := by
  have : (0 : Int32).toInt = 0 := by decide
  have := rng32 p2
  have := rng32 p4
  have := rng32 p3
  have := rng32 p5
  try simp only [Int32.lt_iff_toInt_lt, Int32.le_iff_toInt_le, Int64.lt_iff_toInt_lt, Int64.le_iff_toInt_le, ← Int32.toInt_inj, ← Int64.toInt_inj] at *
  all_goals omega
set_option maxHeartbeats 2000000 in
theorem own_pl_rm3_5 (p2 : Int32) (p3 : Int32) (p4 : Int32) (p5 : Int32) (hc2 : ¬ (p2 < (0 : Int32))) (hc4 : ¬ (p2 < p4)) : ¬ (0 ≤ p2.toInt ∧ p2.toInt < p4.toInt ∧ 0 ≤ p3.toInt ∧ p3.toInt < p5.toInt) := by
  have : (0 : Int32).toInt = 0 := by decide
  have := rng32 p2
  have := rng32 p4
  have := rng32 p5
  try simp only [Int32.lt_iff_toInt_lt, Int32.le_iff_toInt_le, Int64.lt_iff_toInt_lt, Int64.le_iff_toInt_le, ← Int32.toInt_inj, ← Int64.toInt_inj] at *
  all_goals omega
def Q_own_rm3 (Z : State) (a1 : Addr) (p2 : Int32) (p3 : Int32) (p4 : Int32) (p5 : Int32) (h0 : Heap) (n0 : Nat) (v : Option Value) (h : Heap) (L : List Loc) : Prop := v = some (.int (own_b (0 ≤ p2.toInt ∧ p2.toInt < p4.toInt ∧ 0 ≤ p3.toInt ∧ p3.toInt < p5.toInt))) ∧ Fr n0 L ∧ h = h0
set_option maxRecDepth 65536 in
set_option maxHeartbeats 400000000 in
theorem own_rm3 (l : Launch) (Z : State) (a0 : Array Value) (hw : ∀ d ∈ tables_1, d.before a0 Z = true) (ws : List Jvm.Cond) (a1 : Addr) (p2 : Int32) (p3 : Int32) (p4 : Int32) (p5 : Int32) (h0 : Heap) (n0 : Nat) (Z0 : n0 ≤ h0.size) (P_F_a1_day : Fld Z h0 a1 "com/example/carillon/carillon/Period" "day" "I" (.int p2)) (P_F_a1_periodOfDay : Fld Z h0 a1 "com/example/carillon/carillon/Period" "periodOfDay" "I" (.int p3)) :
    MetFree l (⟨"com/example/carillon/carillon/Period", "isWithin", "(II)Z"⟩ : MethodName) (head1 (Jvm.Cond.code (⟨"com/example/carillon/carillon/Period", "isWithin", "(II)Z"⟩ : MethodName) prog_13_method_4_code 3 (some .boolean) :: ws) R_own_rm3) (fun a U => a = #[(.ref a1), (.int p4), (.int p5)] ∧ Z.Warmed39 U.vm ∧ U.heap = h0) (fun _ _ _ _ _ => True) (fun _ U o U' => ∃ v L, o = .returned v ∧ Q_own_rm3 Z a1 p2 p3 p4 p5 h0 n0 v U'.heap L ∧ FrameEnd U o U' L R_own_rm3.cells R_own_rm3.slots) := by
  refine MetFree.of_bodySF (plainFor_of_name own_pn0) hisR ?_
  intro p e s m args below meth c s₁ Bd hml0 hP hK
  obtain ⟨rfl, hZ, hh⟩ := hP
  have hx := Bd.exec
  have hby := Bd.bytes
  have hml : c.maxLocals = 3 := hml0
  have hown : s.vm.findClass "com/example/carillon/carillon/Period" = some m.cls := findClass_of_methodNamed Bd.named
  have hnm := (name_of_methodNamed Bd.named Bd.method).1
  have X0 : Stand p l e R_own_rm3 s m #[(.ref a1), (.int p4), (.int p5)] below meth c s₁ [] 0 0 := Stand.of_body Bd
  have e0 : s₁.heap = h0 := by rw [← hh, Bd.state]; rfl
  have N0 := Fr.nil n0
  have K0 : Keep h0 h0 [] := Keep.refl h0 []
  show own_Fin p e below s (Q_own_rm3 Z a1 p2 p3 p4 p5 h0 n0) R_own_rm3.cells R_own_rm3.slots (s₁.setTop (entryFrame m #[(.ref a1), (.int p4), (.int p5)] 3))
  refine own_go (fun _ k => castTop (ef_own_rm3 m a1 p4 p5) k) ?_
  show own_Fin _ _ _ _ _ _ _ (s₁.setTop (mkF m 0 #[.val (.ref a1), .val (.int p4), .val (.int p5)] []))
  refine own_go (B := s₁.setTop (mkF m 1 #[.val (.ref a1), .val (.int p4), .val (.int p5)] [(.ref a1)])) (fun _ k => XS.aloadN X0.here hx rfl (hb hby d3_0) rfl rfl k) ?_
  obtain ⟨T1, X1, e1, st1⟩ := getF X0 hx hZ hown (host := "") (Or.inl (own_w hw 9 rfl)) Via.refl e0 P_F_a1_day (g := (mkF m 1 #[.val (.ref a1), .val (.int p4), .val (.int p5)] [(.ref a1)])) rfl rfl (hb hby d3_1)
  refine own_go (B := T1.setTop (mkF m 4 #[.val (.ref a1), .val (.int p4), .val (.int p5)] [(.int p2)])) st1 ?_
  by_cases hc2 : p2 < (0 : Int32)
  · skip
    refine own_go (B := T1.setTop (mkF m 34 #[.val (.ref a1), .val (.int p4), .val (.int p5)] [])) (fun _ k => XS.ifYes X1.here hx rfl (pc0 := 4) (pc' := 34) rfl (hb hby d3_4) rfl ((if0 _ _).trans (tlt hc2).1) (by decide) (by decide) k) ?_
    refine own_go (B := T1.setTop (mkF m 35 #[.val (.ref a1), .val (.int p4), .val (.int p5)] [(.int (0 : Int32))])) (fun _ k => XS.iconst X1.here hx rfl (hb hby d3_34) k) ?_
    exact own_retN X1 hx Bd.notSynchronized (t := .boolean) (w := (0 : Int32)) Bd.returns (by simp) (hb hby d3_35) e1 rfl ⟨(by rw [own_b0 (own_pl_rm3_1 p2 p3 p4 p5 hc2)]), N0, rfl⟩ (by decide) (by decide)
  · skip
    refine own_go (B := T1.setTop (mkF m 7 #[.val (.ref a1), .val (.int p4), .val (.int p5)] [])) (fun _ k => XS.ifNo X1.here hx rfl (hb hby d3_4) rfl ((if0 _ _).trans (flt hc2).1) k) ?_
    refine own_go (B := T1.setTop (mkF m 8 #[.val (.ref a1), .val (.int p4), .val (.int p5)] [(.ref a1)])) (fun _ k => XS.aloadN X1.here hx rfl (hb hby d3_7) rfl rfl k) ?_
    obtain ⟨T3, X3, e3, st3⟩ := getF X1 hx hZ hown (host := "") (Or.inl (own_w hw 9 rfl)) Via.refl e1 P_F_a1_day (g := (mkF m 8 #[.val (.ref a1), .val (.int p4), .val (.int p5)] [(.ref a1)])) rfl rfl (hb hby d3_8)
    refine own_go (B := T3.setTop (mkF m 11 #[.val (.ref a1), .val (.int p4), .val (.int p5)] [(.int p2)])) st3 ?_
    refine own_go (B := T3.setTop (mkF m 12 #[.val (.ref a1), .val (.int p4), .val (.int p5)] [(.int p4), (.int p2)])) (fun _ k => XS.iloadN X3.here hx rfl (hb hby d3_11) rfl  k) ?_
    by_cases hc4 : p2 < p4
    · skip
      refine own_go (B := T3.setTop (mkF m 15 #[.val (.ref a1), .val (.int p4), .val (.int p5)] [])) (fun _ k => XS.icmpNo X3.here hx rfl (hb hby d3_12) rfl (tlt hc4).2.1 k) ?_
      refine own_go (B := T3.setTop (mkF m 16 #[.val (.ref a1), .val (.int p4), .val (.int p5)] [(.ref a1)])) (fun _ k => XS.aloadN X3.here hx rfl (hb hby d3_15) rfl rfl k) ?_
      obtain ⟨T5, X5, e5, st5⟩ := getF X3 hx hZ hown (host := "") (Or.inl (own_w hw 11 rfl)) Via.refl e3 P_F_a1_periodOfDay (g := (mkF m 16 #[.val (.ref a1), .val (.int p4), .val (.int p5)] [(.ref a1)])) rfl rfl (hb hby d3_16)
      refine own_go (B := T5.setTop (mkF m 19 #[.val (.ref a1), .val (.int p4), .val (.int p5)] [(.int p3)])) st5 ?_
      by_cases hc6 : p3 < (0 : Int32)
      · skip
        refine own_go (B := T5.setTop (mkF m 34 #[.val (.ref a1), .val (.int p4), .val (.int p5)] [])) (fun _ k => XS.ifYes X5.here hx rfl (pc0 := 19) (pc' := 34) rfl (hb hby d3_19) rfl ((if0 _ _).trans (tlt hc6).1) (by decide) (by decide) k) ?_
        refine own_go (B := T5.setTop (mkF m 35 #[.val (.ref a1), .val (.int p4), .val (.int p5)] [(.int (0 : Int32))])) (fun _ k => XS.iconst X5.here hx rfl (hb hby d3_34) k) ?_
        exact own_retN X5 hx Bd.notSynchronized (t := .boolean) (w := (0 : Int32)) Bd.returns (by simp) (hb hby d3_35) e5 rfl ⟨(by rw [own_b0 (own_pl_rm3_2 p2 p3 p4 p5 hc2 hc4 hc6)]), N0, rfl⟩ (by decide) (by decide)
      · skip
        refine own_go (B := T5.setTop (mkF m 22 #[.val (.ref a1), .val (.int p4), .val (.int p5)] [])) (fun _ k => XS.ifNo X5.here hx rfl (hb hby d3_19) rfl ((if0 _ _).trans (flt hc6).1) k) ?_
        refine own_go (B := T5.setTop (mkF m 23 #[.val (.ref a1), .val (.int p4), .val (.int p5)] [(.ref a1)])) (fun _ k => XS.aloadN X5.here hx rfl (hb hby d3_22) rfl rfl k) ?_
        obtain ⟨T7, X7, e7, st7⟩ := getF X5 hx hZ hown (host := "") (Or.inl (own_w hw 11 rfl)) Via.refl e5 P_F_a1_periodOfDay (g := (mkF m 23 #[.val (.ref a1), .val (.int p4), .val (.int p5)] [(.ref a1)])) rfl rfl (hb hby d3_23)
        refine own_go (B := T7.setTop (mkF m 26 #[.val (.ref a1), .val (.int p4), .val (.int p5)] [(.int p3)])) st7 ?_
        refine own_go (B := T7.setTop (mkF m 27 #[.val (.ref a1), .val (.int p4), .val (.int p5)] [(.int p5), (.int p3)])) (fun _ k => XS.iloadN X7.here hx rfl (hb hby d3_26) rfl  k) ?_
        by_cases hc8 : p3 < p5
        · skip
          refine own_go (B := T7.setTop (mkF m 30 #[.val (.ref a1), .val (.int p4), .val (.int p5)] [])) (fun _ k => XS.icmpNo X7.here hx rfl (hb hby d3_27) rfl (tlt hc8).2.1 k) ?_
          refine own_go (B := T7.setTop (mkF m 31 #[.val (.ref a1), .val (.int p4), .val (.int p5)] [(.int (1 : Int32))])) (fun _ k => XS.iconst X7.here hx rfl (hb hby d3_30) k) ?_
          refine own_go (B := T7.setTop (mkF m 35 #[.val (.ref a1), .val (.int p4), .val (.int p5)] [(.int (1 : Int32))])) (fun _ k => XS.goto X7.here hx rfl (pc0 := 31) (pc' := 35) rfl (hb hby d3_31) (by decide) (by decide) k) ?_
          exact own_retN X7 hx Bd.notSynchronized (t := .boolean) (w := (1 : Int32)) Bd.returns (by simp) (hb hby d3_35) e7 rfl ⟨(by rw [own_b1 (own_pl_rm3_3 p2 p3 p4 p5 hc2 hc4 hc6 hc8)]), N0, rfl⟩ (by decide) (by decide)
        · skip
          refine own_go (B := T7.setTop (mkF m 34 #[.val (.ref a1), .val (.int p4), .val (.int p5)] [])) (fun _ k => XS.icmpYes X7.here hx rfl (pc0 := 27) (pc' := 34) rfl (hb hby d3_27) rfl (flt hc8).2.1 (by decide) (by decide) k) ?_
          refine own_go (B := T7.setTop (mkF m 35 #[.val (.ref a1), .val (.int p4), .val (.int p5)] [(.int (0 : Int32))])) (fun _ k => XS.iconst X7.here hx rfl (hb hby d3_34) k) ?_
          exact own_retN X7 hx Bd.notSynchronized (t := .boolean) (w := (0 : Int32)) Bd.returns (by simp) (hb hby d3_35) e7 rfl ⟨(by rw [own_b0 (own_pl_rm3_4 p2 p3 p4 p5 hc2 hc4 hc6 hc8)]), N0, rfl⟩ (by decide) (by decide)
    · skip
      refine own_go (B := T3.setTop (mkF m 34 #[.val (.ref a1), .val (.int p4), .val (.int p5)] [])) (fun _ k => XS.icmpYes X3.here hx rfl (pc0 := 12) (pc' := 34) rfl (hb hby d3_12) rfl (flt hc4).2.1 (by decide) (by decide) k) ?_
      refine own_go (B := T3.setTop (mkF m 35 #[.val (.ref a1), .val (.int p4), .val (.int p5)] [(.int (0 : Int32))])) (fun _ k => XS.iconst X3.here hx rfl (hb hby d3_34) k) ?_
      exact own_retN X3 hx Bd.notSynchronized (t := .boolean) (w := (0 : Int32)) Bd.returns (by simp) (hb hby d3_35) e3 rfl ⟨(by rw [own_b0 (own_pl_rm3_5 p2 p3 p4 p5 hc2 hc4)]), N0, rfl⟩ (by decide) (by decide)
abbrev R_own_rm4 : Room := { frames := 0, cells := 0, slots := 0, locals := 0 }
theorem d4_0 : decode method_2_code 0 = .ok (.iload_n 0, 1) := by decide +kernel
theorem d4_1 : decode method_2_code 1 = .ok (.i2l, 1) := by decide +kernel
theorem d4_2 : decode method_2_code 2 = .ok (.lstore_n 2, 1) := by decide +kernel
theorem d4_3 : decode method_2_code 3 = .ok (.iload_n 1, 1) := by decide +kernel
theorem d4_4 : decode method_2_code 4 = .ok (.i2l, 1) := by decide +kernel
theorem d4_5 : decode method_2_code 5 = .ok (.lstore 4, 2) := by decide +kernel
theorem d4_7 : decode method_2_code 7 = .ok (.lload_n 2, 1) := by decide +kernel
theorem d4_8 : decode method_2_code 8 = .ok (.lconst 0, 1) := by decide +kernel
theorem d4_9 : decode method_2_code 9 = .ok (.lcmp, 1) := by decide +kernel
theorem d4_10 : decode method_2_code 10 = .ok (.ifCond .lt 16, 3) := by decide +kernel
theorem d4_13 : decode method_2_code 13 = .ok (.lload 4, 2) := by decide +kernel
theorem d4_15 : decode method_2_code 15 = .ok (.lload_n 2, 1) := by decide +kernel
theorem d4_16 : decode method_2_code 16 = .ok (.lsub, 1) := by decide +kernel
theorem d4_17 : decode method_2_code 17 = .ok (.lconst 1, 1) := by decide +kernel
theorem d4_18 : decode method_2_code 18 = .ok (.lcmp, 1) := by decide +kernel
theorem d4_19 : decode method_2_code 19 = .ok (.ifCond .lt 7, 3) := by decide +kernel
theorem d4_22 : decode method_2_code 22 = .ok (.iconst 1, 1) := by decide +kernel
theorem d4_23 : decode method_2_code 23 = .ok (.goto 4, 3) := by decide +kernel
theorem d4_26 : decode method_2_code 26 = .ok (.iconst 0, 1) := by decide +kernel
theorem d4_27 : decode method_2_code 27 = .ok (.ireturn, 1) := by decide +kernel
theorem own_pn1 : plainName "com/example/carillon/carillon/PeriodIsWithinPinLaw" = true := by first | (simp [plainName, overriddenIn]; done) | decide +kernel
theorem ef_own_rm4 (m : MethodId) (x0 : Int32) (x1 : Int32) : entryFrame m #[(.int x0), (.int x1)] 6 = mkF m 0 #[.val (.int x0), .val (.int x1), .unset, .unset, .unset, .unset] [] := by first | (simp [entryFrame, mkF, argsToLocals, Value.category]; done) | rfl
set_option maxHeartbeats 2000000 in
theorem own_pl_rm4_1 (p1 : Int32) (p2 : Int32) (hc1 : (p1.toInt64) < (0 : Int64)) : ¬ (0 ≤ p1.toInt ∧ p1.toInt < p2.toInt) := by
  have : (0 : Int64).toInt = 0 := by decide
  have := rng32 p1
  have := rng64 (p1.toInt64)
  have := Int32.toInt_toInt64 p1
  have := rng32 p2
  try simp only [Int32.lt_iff_toInt_lt, Int32.le_iff_toInt_le, Int64.lt_iff_toInt_lt, Int64.le_iff_toInt_le, ← Int32.toInt_inj, ← Int64.toInt_inj] at *
  all_goals omega
set_option maxHeartbeats 2000000 in
theorem own_pl_rm4_2 (p1 : Int32) (p2 : Int32) (hc1 : ¬ ((p1.toInt64) < (0 : Int64))) (hc2 : ((p2.toInt64) - (p1.toInt64)) < (1 : Int64)) : ¬ (0 ≤ p1.toInt ∧ p1.toInt < p2.toInt) := by
  have : (0 : Int64).toInt = 0 := by decide
  have : (1 : Int64).toInt = 1 := by decide
  have := rng32 p1
  have := rng64 (p1.toInt64)
  have := Int32.toInt_toInt64 p1
  have := rng32 p2
  have := rng64 (p2.toInt64)
  have := Int32.toInt_toInt64 p2
  have := rng64 ((p2.toInt64) - (p1.toInt64))
  have := c_lsub (p2.toInt64) (p1.toInt64)
  try simp only [Int32.lt_iff_toInt_lt, Int32.le_iff_toInt_le, Int64.lt_iff_toInt_lt, Int64.le_iff_toInt_le, ← Int32.toInt_inj, ← Int64.toInt_inj] at *
  all_goals omega
set_option maxHeartbeats 2000000 in
theorem own_pl_rm4_3 (p1 : Int32) (p2 : Int32) (hc1 : ¬ ((p1.toInt64) < (0 : Int64))) (hc2 : ¬ (((p2.toInt64) - (p1.toInt64)) < (1 : Int64))) : 0 ≤ p1.toInt ∧ p1.toInt < p2.toInt := by
  have : (0 : Int64).toInt = 0 := by decide
  have : (1 : Int64).toInt = 1 := by decide
  have := rng32 p1
  have := rng64 (p1.toInt64)
  have := Int32.toInt_toInt64 p1
  have := rng32 p2
  have := rng64 (p2.toInt64)
  have := Int32.toInt_toInt64 p2
  have := rng64 ((p2.toInt64) - (p1.toInt64))
  have := c_lsub (p2.toInt64) (p1.toInt64)
  try simp only [Int32.lt_iff_toInt_lt, Int32.le_iff_toInt_le, Int64.lt_iff_toInt_lt, Int64.le_iff_toInt_le, ← Int32.toInt_inj, ← Int64.toInt_inj] at *
  all_goals omega
def Q_own_rm4 (Z : State) (p1 : Int32) (p2 : Int32) (h0 : Heap) (n0 : Nat) (v : Option Value) (h : Heap) (L : List Loc) : Prop := v = some (.int (own_b (0 ≤ p1.toInt ∧ p1.toInt < p2.toInt))) ∧ Fr n0 L ∧ h = h0
set_option maxRecDepth 65536 in
set_option maxHeartbeats 400000000 in
theorem own_rm4 (l : Launch) (Z : State) (a0 : Array Value) (hw : ∀ d ∈ tables_1, d.before a0 Z = true) (ws : List Jvm.Cond) (p1 : Int32) (p2 : Int32) (h0 : Heap) (n0 : Nat) (Z0 : n0 ≤ h0.size)  :
    MetFree l (⟨"com/example/carillon/carillon/PeriodIsWithinPinLaw", "inRange", "(II)Z"⟩ : MethodName) (head1 (Jvm.Cond.code (⟨"com/example/carillon/carillon/PeriodIsWithinPinLaw", "inRange", "(II)Z"⟩ : MethodName) method_2_code 6 (some .boolean) :: ws) R_own_rm4) (fun a U => a = #[(.int p1), (.int p2)] ∧ Z.Warmed39 U.vm ∧ U.heap = h0) (fun _ _ _ _ _ => True) (fun _ U o U' => ∃ v L, o = .returned v ∧ Q_own_rm4 Z p1 p2 h0 n0 v U'.heap L ∧ FrameEnd U o U' L R_own_rm4.cells R_own_rm4.slots) := by
  refine MetFree.of_bodySF (plainFor_of_name own_pn1) hisR ?_
  intro p e s m args below meth c s₁ Bd hml0 hP hK
  obtain ⟨rfl, hZ, hh⟩ := hP
  have hx := Bd.exec
  have hby := Bd.bytes
  have hml : c.maxLocals = 6 := hml0
  have hown : s.vm.findClass "com/example/carillon/carillon/PeriodIsWithinPinLaw" = some m.cls := findClass_of_methodNamed Bd.named
  have hnm := (name_of_methodNamed Bd.named Bd.method).1
  have X0 : Stand p l e R_own_rm4 s m #[(.int p1), (.int p2)] below meth c s₁ [] 0 0 := Stand.of_body Bd
  have e0 : s₁.heap = h0 := by rw [← hh, Bd.state]; rfl
  have N0 := Fr.nil n0
  have K0 : Keep h0 h0 [] := Keep.refl h0 []
  show own_Fin p e below s (Q_own_rm4 Z p1 p2 h0 n0) R_own_rm4.cells R_own_rm4.slots (s₁.setTop (entryFrame m #[(.int p1), (.int p2)] 6))
  refine own_go (fun _ k => castTop (ef_own_rm4 m p1 p2) k) ?_
  show own_Fin _ _ _ _ _ _ _ (s₁.setTop (mkF m 0 #[.val (.int p1), .val (.int p2), .unset, .unset, .unset, .unset] []))
  refine own_go (B := s₁.setTop (mkF m 1 #[.val (.int p1), .val (.int p2), .unset, .unset, .unset, .unset] [(.int p1)])) (fun _ k => XS.iloadN X0.here hx rfl (hb hby d4_0) rfl  k) ?_
  refine own_go (B := s₁.setTop (mkF m 2 #[.val (.int p1), .val (.int p2), .unset, .unset, .unset, .unset] [(.long (p1.toInt64))])) (fun _ k => XS.i2l X0.here hx rfl (hb hby d4_1) rfl k) ?_
  refine own_go (B := s₁.setTop (mkF m 3 #[.val (.int p1), .val (.int p2), .val (.long (p1.toInt64)), .second, .unset, .unset] [])) (fun _ k => XS.lstoreN X0.here hx rfl (hb hby d4_2) rfl (l' := #[.val (.int p1), .val (.int p2), .val (.long (p1.toInt64)), .second, .unset, .unset]) rfl k) ?_
  refine own_go (B := s₁.setTop (mkF m 4 #[.val (.int p1), .val (.int p2), .val (.long (p1.toInt64)), .second, .unset, .unset] [(.int p2)])) (fun _ k => XS.iloadN X0.here hx rfl (hb hby d4_3) rfl  k) ?_
  refine own_go (B := s₁.setTop (mkF m 5 #[.val (.int p1), .val (.int p2), .val (.long (p1.toInt64)), .second, .unset, .unset] [(.long (p2.toInt64))])) (fun _ k => XS.i2l X0.here hx rfl (hb hby d4_4) rfl k) ?_
  refine own_go (B := s₁.setTop (mkF m 7 #[.val (.int p1), .val (.int p2), .val (.long (p1.toInt64)), .second, .val (.long (p2.toInt64)), .second] [])) (fun _ k => XS.lstore X0.here hx rfl (hb hby d4_5) rfl (l' := #[.val (.int p1), .val (.int p2), .val (.long (p1.toInt64)), .second, .val (.long (p2.toInt64)), .second]) rfl k) ?_
  refine own_go (B := s₁.setTop (mkF m 8 #[.val (.int p1), .val (.int p2), .val (.long (p1.toInt64)), .second, .val (.long (p2.toInt64)), .second] [(.long (p1.toInt64))])) (fun _ k => XS.lloadN X0.here hx rfl (hb hby d4_7) rfl  k) ?_
  refine own_go (B := s₁.setTop (mkF m 9 #[.val (.int p1), .val (.int p2), .val (.long (p1.toInt64)), .second, .val (.long (p2.toInt64)), .second] [(.long (0 : Int64)), (.long (p1.toInt64))])) (fun _ k => XS.lconst X0.here hx rfl (hb hby d4_8) k) ?_
  refine own_go (B := s₁.setTop (mkF m 10 #[.val (.int p1), .val (.int p2), .val (.long (p1.toInt64)), .second, .val (.long (p2.toInt64)), .second] [(.int (lcmpW (p1.toInt64) (0 : Int64)))])) (fun _ k => XS.lcmp X0.here hx rfl (hb hby d4_9) rfl k) ?_
  by_cases hc1 : (p1.toInt64) < (0 : Int64)
  · skip
    refine own_go (B := s₁.setTop (mkF m 26 #[.val (.int p1), .val (.int p2), .val (.long (p1.toInt64)), .second, .val (.long (p2.toInt64)), .second] [])) (fun _ k => XS.ifYes X0.here hx rfl (pc0 := 10) (pc' := 26) rfl (hb hby d4_10) rfl ((if0 _ _).trans (tlt ((lw_lt (p1.toInt64) (0 : Int64)).mpr hc1)).1) (by decide) (by decide) k) ?_
    refine own_go (B := s₁.setTop (mkF m 27 #[.val (.int p1), .val (.int p2), .val (.long (p1.toInt64)), .second, .val (.long (p2.toInt64)), .second] [(.int (0 : Int32))])) (fun _ k => XS.iconst X0.here hx rfl (hb hby d4_26) k) ?_
    exact own_retN X0 hx Bd.notSynchronized (t := .boolean) (w := (0 : Int32)) Bd.returns (by simp) (hb hby d4_27) e0 rfl ⟨(by rw [own_b0 (own_pl_rm4_1 p1 p2 hc1)]), N0, rfl⟩ (by decide) (by decide)
  · skip
    refine own_go (B := s₁.setTop (mkF m 13 #[.val (.int p1), .val (.int p2), .val (.long (p1.toInt64)), .second, .val (.long (p2.toInt64)), .second] [])) (fun _ k => XS.ifNo X0.here hx rfl (hb hby d4_10) rfl ((if0 _ _).trans (flt (mt (lw_lt (p1.toInt64) (0 : Int64)).mp hc1)).1) k) ?_
    refine own_go (B := s₁.setTop (mkF m 15 #[.val (.int p1), .val (.int p2), .val (.long (p1.toInt64)), .second, .val (.long (p2.toInt64)), .second] [(.long (p2.toInt64))])) (fun _ k => XS.lload X0.here hx rfl (hb hby d4_13) rfl  k) ?_
    refine own_go (B := s₁.setTop (mkF m 16 #[.val (.int p1), .val (.int p2), .val (.long (p1.toInt64)), .second, .val (.long (p2.toInt64)), .second] [(.long (p1.toInt64)), (.long (p2.toInt64))])) (fun _ k => XS.lloadN X0.here hx rfl (hb hby d4_15) rfl  k) ?_
    refine own_go (B := s₁.setTop (mkF m 17 #[.val (.int p1), .val (.int p2), .val (.long (p1.toInt64)), .second, .val (.long (p2.toInt64)), .second] [(.long ((p2.toInt64) - (p1.toInt64)))])) (fun _ k => XS.lsub X0.here hx rfl (hb hby d4_16) rfl k) ?_
    refine own_go (B := s₁.setTop (mkF m 18 #[.val (.int p1), .val (.int p2), .val (.long (p1.toInt64)), .second, .val (.long (p2.toInt64)), .second] [(.long (1 : Int64)), (.long ((p2.toInt64) - (p1.toInt64)))])) (fun _ k => XS.lconst X0.here hx rfl (hb hby d4_17) k) ?_
    refine own_go (B := s₁.setTop (mkF m 19 #[.val (.int p1), .val (.int p2), .val (.long (p1.toInt64)), .second, .val (.long (p2.toInt64)), .second] [(.int (lcmpW ((p2.toInt64) - (p1.toInt64)) (1 : Int64)))])) (fun _ k => XS.lcmp X0.here hx rfl (hb hby d4_18) rfl k) ?_
    by_cases hc2 : ((p2.toInt64) - (p1.toInt64)) < (1 : Int64)
    · skip
      refine own_go (B := s₁.setTop (mkF m 26 #[.val (.int p1), .val (.int p2), .val (.long (p1.toInt64)), .second, .val (.long (p2.toInt64)), .second] [])) (fun _ k => XS.ifYes X0.here hx rfl (pc0 := 19) (pc' := 26) rfl (hb hby d4_19) rfl ((if0 _ _).trans (tlt ((lw_lt ((p2.toInt64) - (p1.toInt64)) (1 : Int64)).mpr hc2)).1) (by decide) (by decide) k) ?_
      refine own_go (B := s₁.setTop (mkF m 27 #[.val (.int p1), .val (.int p2), .val (.long (p1.toInt64)), .second, .val (.long (p2.toInt64)), .second] [(.int (0 : Int32))])) (fun _ k => XS.iconst X0.here hx rfl (hb hby d4_26) k) ?_
      exact own_retN X0 hx Bd.notSynchronized (t := .boolean) (w := (0 : Int32)) Bd.returns (by simp) (hb hby d4_27) e0 rfl ⟨(by rw [own_b0 (own_pl_rm4_2 p1 p2 hc1 hc2)]), N0, rfl⟩ (by decide) (by decide)
    · skip
      refine own_go (B := s₁.setTop (mkF m 22 #[.val (.int p1), .val (.int p2), .val (.long (p1.toInt64)), .second, .val (.long (p2.toInt64)), .second] [])) (fun _ k => XS.ifNo X0.here hx rfl (hb hby d4_19) rfl ((if0 _ _).trans (flt (mt (lw_lt ((p2.toInt64) - (p1.toInt64)) (1 : Int64)).mp hc2)).1) k) ?_
      refine own_go (B := s₁.setTop (mkF m 23 #[.val (.int p1), .val (.int p2), .val (.long (p1.toInt64)), .second, .val (.long (p2.toInt64)), .second] [(.int (1 : Int32))])) (fun _ k => XS.iconst X0.here hx rfl (hb hby d4_22) k) ?_
      refine own_go (B := s₁.setTop (mkF m 27 #[.val (.int p1), .val (.int p2), .val (.long (p1.toInt64)), .second, .val (.long (p2.toInt64)), .second] [(.int (1 : Int32))])) (fun _ k => XS.goto X0.here hx rfl (pc0 := 23) (pc' := 27) rfl (hb hby d4_23) (by decide) (by decide) k) ?_
      exact own_retN X0 hx Bd.notSynchronized (t := .boolean) (w := (1 : Int32)) Bd.returns (by simp) (hb hby d4_27) e0 rfl ⟨(by rw [own_b1 (own_pl_rm4_3 p1 p2 hc1 hc2)]), N0, rfl⟩ (by decide) (by decide)
theorem ef_own_rm0 (m : MethodId) (x0 : Int32) (x1 : Int32) (x2 : Int32) (x3 : Int32) (x4 : Int32) : entryFrame m #[(.int x0), (.int x1), (.int x2), (.int x3), (.int x4)] maxLocals = mkF m 0 #[.val (.int x0), .val (.int x1), .val (.int x2), .val (.int x3), .val (.int x4), .unset, .unset, .unset, .unset, .unset, .unset, .unset] [] := by first | (simp [entryFrame, mkF, argsToLocals, Value.category, maxLocals]; done) | rfl
set_option maxHeartbeats 2000000 in
theorem own_pl_rm0_1 (p3 : Int32) (p4 : Int32) (xb : Int32) (yb : Int32) (hc35 : 0 ≤ xb.toInt ∧ xb.toInt < p3.toInt ∧ 0 ≤ yb.toInt ∧ yb.toInt < p4.toInt) : 0 ≤ yb.toInt ∧ yb.toInt < p4.toInt ∧ 0 ≤ xb.toInt ∧ xb.toInt < p3.toInt := by
  have := rng32 p3
  have := rng32 p4
  have := rng32 xb
  have := rng32 yb
  try simp only [Int32.lt_iff_toInt_lt, Int32.le_iff_toInt_le, Int64.lt_iff_toInt_lt, Int64.le_iff_toInt_le, ← Int32.toInt_inj, ← Int64.toInt_inj] at *
  all_goals omega
set_option maxHeartbeats 2000000 in
theorem own_pl_rm0_2 (p3 : Int32) (p4 : Int32) (xb : Int32) (yb : Int32) (hc35 : 0 ≤ xb.toInt ∧ xb.toInt < p3.toInt ∧ 0 ≤ yb.toInt ∧ yb.toInt < p4.toInt) (hc37 : 0 ≤ yb.toInt ∧ yb.toInt < p4.toInt ∧ 0 ≤ xb.toInt ∧ xb.toInt < p3.toInt) : 0 ≤ xb.toInt ∧ xb.toInt < p3.toInt := by
  have := rng32 p3
  have := rng32 p4
  have := rng32 xb
  have := rng32 yb
  try simp only [Int32.lt_iff_toInt_lt, Int32.le_iff_toInt_le, Int64.lt_iff_toInt_lt, Int64.le_iff_toInt_le, ← Int32.toInt_inj, ← Int64.toInt_inj] at *
  all_goals omega
set_option maxHeartbeats 2000000 in
theorem own_pl_rm0_3 (p3 : Int32) (p4 : Int32) (xb : Int32) (yb : Int32) (hc35 : 0 ≤ xb.toInt ∧ xb.toInt < p3.toInt ∧ 0 ≤ yb.toInt ∧ yb.toInt < p4.toInt) (hc37 : 0 ≤ yb.toInt ∧ yb.toInt < p4.toInt ∧ 0 ≤ xb.toInt ∧ xb.toInt < p3.toInt) (hc39 : 0 ≤ xb.toInt ∧ xb.toInt < p3.toInt) : 0 ≤ yb.toInt ∧ yb.toInt < p4.toInt := by
  have := rng32 p3
  have := rng32 p4
  have := rng32 xb
  have := rng32 yb
  try simp only [Int32.lt_iff_toInt_lt, Int32.le_iff_toInt_le, Int64.lt_iff_toInt_lt, Int64.le_iff_toInt_le, ← Int32.toInt_inj, ← Int64.toInt_inj] at *
  all_goals omega
set_option maxHeartbeats 2000000 in
theorem own_pl_rm0_4 (p3 : Int32) (p4 : Int32) (xb : Int32) (yb : Int32) (hc35 : ¬ (0 ≤ xb.toInt ∧ xb.toInt < p3.toInt ∧ 0 ≤ yb.toInt ∧ yb.toInt < p4.toInt)) : ¬ (0 ≤ yb.toInt ∧ yb.toInt < p4.toInt ∧ 0 ≤ xb.toInt ∧ xb.toInt < p3.toInt) := by
  have := rng32 p3
  have := rng32 p4
  have := rng32 xb
  have := rng32 yb
  try simp only [Int32.lt_iff_toInt_lt, Int32.le_iff_toInt_le, Int64.lt_iff_toInt_lt, Int64.le_iff_toInt_le, ← Int32.toInt_inj, ← Int64.toInt_inj] at *
  all_goals omega
set_option maxHeartbeats 2000000 in
theorem own_pl_rm0_5 (p3 : Int32) (p4 : Int32) (xb : Int32) (yb : Int32) (hc35 : ¬ (0 ≤ xb.toInt ∧ xb.toInt < p3.toInt ∧ 0 ≤ yb.toInt ∧ yb.toInt < p4.toInt)) (hc47 : ¬ (0 ≤ yb.toInt ∧ yb.toInt < p4.toInt ∧ 0 ≤ xb.toInt ∧ xb.toInt < p3.toInt)) (hc49 : 0 ≤ xb.toInt ∧ xb.toInt < p3.toInt) : ¬ (0 ≤ yb.toInt ∧ yb.toInt < p4.toInt) := by
  have := rng32 p3
  have := rng32 p4
  have := rng32 xb
  have := rng32 yb
  try simp only [Int32.lt_iff_toInt_lt, Int32.le_iff_toInt_le, Int64.lt_iff_toInt_lt, Int64.le_iff_toInt_le, ← Int32.toInt_inj, ← Int64.toInt_inj] at *
  all_goals omega
def Q_own_rm0 (Z : State) (p1 : Int32) (p2 : Int32) (p3 : Int32) (p4 : Int32) (p5 : Int32) (h0 : Heap) (n0 : Nat) (v : Option Value) (h : Heap) (L : List Loc) : Prop := v = some (.int (1 : Int32)) ∧ Fr n0 L ∧ Keep h0 h []
set_option maxRecDepth 65536 in
set_option maxHeartbeats 400000000 in
theorem own_rm0 (l : Launch) (Z : State) (a0 : Array Value) (hw : ∀ d ∈ tables_1, d.before a0 Z = true) (ws : List Jvm.Cond) (p1 : Int32) (p2 : Int32) (p3 : Int32) (p4 : Int32) (p5 : Int32) (h0 : Heap) (n0 : Nat) (Z0 : n0 ≤ h0.size)  :
    MetFree l x (head1 (Jvm.Cond.code x code maxLocals ret :: ws) room_1) (fun a U => a = #[(.int p1), (.int p2), (.int p3), (.int p4), (.int p5)] ∧ Z.Warmed39 U.vm ∧ U.heap = h0) (fun _ _ _ _ _ => True) (fun _ U o U' => ∃ v L, o = .returned v ∧ Q_own_rm0 Z p1 p2 p3 p4 p5 h0 n0 v U'.heap L ∧ FrameEnd U o U' L 2 4) := by
  refine MetFree.of_bodySF (plainFor_of_name own_pn1) hisR ?_
  intro p e s m args below meth c s₁ Bd hml0 hP hK
  obtain ⟨rfl, hZ, hh⟩ := hP
  have hx := Bd.exec
  have hby := Bd.bytes
  have hml : c.maxLocals = 12 := hml0
  have hown : s.vm.findClass "com/example/carillon/carillon/PeriodIsWithinPinLaw" = some m.cls := findClass_of_methodNamed Bd.named
  have hnm := (name_of_methodNamed Bd.named Bd.method).1
  have X0 : Stand p l e room_1 s m #[(.int p1), (.int p2), (.int p3), (.int p4), (.int p5)] below meth c s₁ [] 0 0 := Stand.of_body Bd
  have e0 : s₁.heap = h0 := by rw [← hh, Bd.state]; rfl
  have N0 := Fr.nil n0
  have K0 : Keep h0 h0 [] := Keep.refl h0 []
  show own_Fin p e below s (Q_own_rm0 Z p1 p2 p3 p4 p5 h0 n0) 2 4 (s₁.setTop (entryFrame m #[(.int p1), (.int p2), (.int p3), (.int p4), (.int p5)] maxLocals))
  refine own_go (fun _ k => castTop (ef_own_rm0 m p1 p2 p3 p4 p5) k) ?_
  show own_Fin _ _ _ _ _ _ _ (s₁.setTop (mkF m 0 #[.val (.int p1), .val (.int p2), .val (.int p3), .val (.int p4), .val (.int p5), .unset, .unset, .unset, .unset, .unset, .unset, .unset] []))
  have J1 : ∀ (xa : Int32), own_Fin p e below s (Q_own_rm0 Z p1 p2 p3 p4 p5 h0 n0) 2 4 (s₁.setTop (mkF m 23 #[.val (.int p1), .val (.int p2), .val (.int p3), .val (.int p4), .val (.int p5), .val (.int xa), .unset, .unset, .unset, .unset, .unset, .unset] [])) := by
    intro xa
    have J3 : ∀ (ya : Int32), own_Fin p e below s (Q_own_rm0 Z p1 p2 p3 p4 p5 h0 n0) 2 4 (s₁.setTop (mkF m 47 #[.val (.int p1), .val (.int p2), .val (.int p3), .val (.int p4), .val (.int p5), .val (.int xa), .val (.int ya), .unset, .unset, .unset, .unset, .unset] [])) := by
      intro ya
      have J5 : ∀ (xb : Int32), own_Fin p e below s (Q_own_rm0 Z p1 p2 p3 p4 p5 h0 n0) 2 4 (s₁.setTop (mkF m 67 #[.val (.int p1), .val (.int p2), .val (.int p3), .val (.int p4), .val (.int p5), .val (.int xb), .val (.int ya), .unset, .unset, .unset, .unset, .unset] [])) := by
        intro xb
        have J7 : ∀ (yb : Int32), own_Fin p e below s (Q_own_rm0 Z p1 p2 p3 p4 p5 h0 n0) 2 4 (s₁.setTop (mkF m 87 #[.val (.int p1), .val (.int p2), .val (.int p3), .val (.int p4), .val (.int p5), .val (.int xb), .val (.int yb), .unset, .unset, .unset, .unset, .unset] [])) := by
          intro yb
          obtain ⟨T9, h9, X9, e9, E9, A9, D9, -, st9⟩ := newO X0 hx hZ hown (own_w hw 0 rfl) (own_w hw 1 rfl) (own_w hw 2 rfl) e0 (g := (mkF m 87 #[.val (.int p1), .val (.int p2), .val (.int p3), .val (.int p4), .val (.int p5), .val (.int xb), .val (.int yb), .unset, .unset, .unset, .unset, .unset] [])) rfl (hb hby at_87) (by decide) (by decide)
          obtain ⟨b9, g9⟩ : ∃ z, z = h0.size := ⟨_, rfl⟩
          rw [← g9] at A9 D9 st9
          have sz_b9 : h0.size ≤ b9 := Nat.le_trans K0.1 (Nat.le_of_eq g9.symm)
          have g_b9 : n0 ≤ b9 := Nat.le_trans Z0 sz_b9
          have F_day_b9 : Fld Z h9 b9 "com/example/carillon/carillon/Period" "day" "I" (.int (0 : Int32)) := D9 (Or.inr (own_w hw 10 rfl)) (ty := .int) (by decide)
          have F_periodOfDay_b9 : Fld Z h9 b9 "com/example/carillon/carillon/Period" "periodOfDay" "I" (.int (0 : Int32)) := D9 (Or.inr (own_w hw 12 rfl)) (ty := .int) (by decide)
          have K11 : Keep h0 h9 [] := K0.ext E9
          refine own_go (B := T9.setTop (mkF m 90 #[.val (.int p1), .val (.int p2), .val (.int p3), .val (.int p4), .val (.int p5), .val (.int xb), .val (.int yb), .unset, .unset, .unset, .unset, .unset] [(.ref b9)])) st9 ?_
          refine own_go (B := T9.setTop (mkF m 91 #[.val (.int p1), .val (.int p2), .val (.int p3), .val (.int p4), .val (.int p5), .val (.int xb), .val (.int yb), .unset, .unset, .unset, .unset, .unset] [(.ref b9), (.ref b9)])) (fun _ k => XS.dup X9.here hx rfl (hb hby at_90) rfl rfl k) ?_
          refine own_go (B := T9.setTop (mkF m 93 #[.val (.int p1), .val (.int p2), .val (.int p3), .val (.int p4), .val (.int p5), .val (.int xb), .val (.int yb), .unset, .unset, .unset, .unset, .unset] [(.int xb), (.ref b9), (.ref b9)])) (fun _ k => XS.iload X9.here hx rfl (hb hby at_91) rfl  k) ?_
          refine own_go (B := T9.setTop (mkF m 95 #[.val (.int p1), .val (.int p2), .val (.int p3), .val (.int p4), .val (.int p5), .val (.int xb), .val (.int yb), .unset, .unset, .unset, .unset, .unset] [(.int yb), (.int xb), (.ref b9), (.ref b9)])) (fun _ k => XS.iload X9.here hx rfl (hb hby at_93) rfl  k) ?_
          obtain ⟨_, _, ⟨T12, L12, k12, n12⟩, -, X12, ⟨Lc12, hQ12, l12, y12, z12⟩, st12⟩ := X9.specialBack hx (y := (⟨"com/example/carillon/carillon/Period", "<init>", "(II)V"⟩ : MethodName)) rfl hown (mvT hZ (own_w hw 3 rfl)) (mvT hZ (own_w hw 4 rfl)) (mvT hZ (own_w hw 5 rfl)) (by decide) (backOf (W := 1) (own_rm1 l Z a0 hw [] b9 xb yb h9 n0 (Nat.le_trans Z0 K11.1) A9 F_day_b9 F_periodOfDay_b9 g_b9) hZ (own_w hw 5 rfl) (own_w hw 2 rfl) (by decide) (by decide)) (g := (mkF m 95 #[.val (.int p1), .val (.int p2), .val (.int p3), .val (.int p4), .val (.int p5), .val (.int xb), .val (.int yb), .unset, .unset, .unset, .unset, .unset] [(.int yb), (.int xb), (.ref b9), (.ref b9)])) rfl (by rw [hml]; rfl) (Steps.refl _) (a := b9) (argsL := [(.int xb), (.int yb)]) (rest := [(.ref b9)]) (lenOf own_pd0 rfl) rfl (by show 2 * 0 + _ ≤ _; exact Nat.le_of_eq rfl) (hb hby at_95) (fun _ _ => ⟨rfl, e9, (by decide : 1 + 0 ≤ _), (by decide : 2 + 0 ≤ _)⟩)
          dsimp only [Pt.U, Pt.locs, Pt.cells, Pt.slots] at X12 l12 y12 z12 st12 hQ12
          subst l12 y12 z12
          obtain ⟨rfl, N12q, K12q, Q12_0, Q12_1, Q12_2⟩ := hQ12
          have N12 := Fr.app N0 N12q
          have K17 : Keep h0 T12.heap [] := K11.trans K12q (allS (Or.inr sz_b9) all0)
          refine own_go (B := T12.setTop (mkF m 98 #[.val (.int p1), .val (.int p2), .val (.int p3), .val (.int p4), .val (.int p5), .val (.int xb), .val (.int yb), .unset, .unset, .unset, .unset, .unset] [(.ref b9)])) (fun _ k => st12.trans k) ?_
          refine own_go (B := T12.setTop (mkF m 100 #[.val (.int p1), .val (.int p2), .val (.int p3), .val (.int p4), .val (.int p5), .val (.int xb), .val (.int yb), .val (.ref b9), .unset, .unset, .unset, .unset] [])) (fun _ k => XS.astore X12.here hx rfl (hb hby at_98) rfl rfl (l' := #[.val (.int p1), .val (.int p2), .val (.int p3), .val (.int p4), .val (.int p5), .val (.int xb), .val (.int yb), .val (.ref b9), .unset, .unset, .unset, .unset]) rfl k) ?_
          obtain ⟨T18, h18, X18, e18, E18, A18, D18, -, st18⟩ := newO X12 hx hZ hown (own_w hw 0 rfl) (own_w hw 1 rfl) (own_w hw 2 rfl) rfl (g := (mkF m 100 #[.val (.int p1), .val (.int p2), .val (.int p3), .val (.int p4), .val (.int p5), .val (.int xb), .val (.int yb), .val (.ref b9), .unset, .unset, .unset, .unset] [])) rfl (hb hby at_100) (by decide) (by decide)
          obtain ⟨b18, g18⟩ : ∃ z, z = T12.heap.size := ⟨_, rfl⟩
          rw [← g18] at A18 D18 st18
          have ne_b9_b18_19 : b9 ≠ b18 := Nat.ne_of_lt (Nat.lt_of_lt_of_le Q12_0.lt (Nat.le_of_eq g18.symm))
          have sz_b18 : h0.size ≤ b18 := Nat.le_trans K17.1 (Nat.le_of_eq g18.symm)
          have g_b18 : n0 ≤ b18 := Nat.le_trans Z0 sz_b18
          have E_21 := Q12_0.ext E18
          have F_22 := Q12_1.ext E18
          have F_23 := Q12_2.ext E18
          have F_day_b18 : Fld Z h18 b18 "com/example/carillon/carillon/Period" "day" "I" (.int (0 : Int32)) := D18 (Or.inr (own_w hw 10 rfl)) (ty := .int) (by decide)
          have F_periodOfDay_b18 : Fld Z h18 b18 "com/example/carillon/carillon/Period" "periodOfDay" "I" (.int (0 : Int32)) := D18 (Or.inr (own_w hw 12 rfl)) (ty := .int) (by decide)
          have K24 : Keep h0 h18 [] := K17.ext E18
          refine own_go (B := T18.setTop (mkF m 103 #[.val (.int p1), .val (.int p2), .val (.int p3), .val (.int p4), .val (.int p5), .val (.int xb), .val (.int yb), .val (.ref b9), .unset, .unset, .unset, .unset] [(.ref b18)])) st18 ?_
          refine own_go (B := T18.setTop (mkF m 104 #[.val (.int p1), .val (.int p2), .val (.int p3), .val (.int p4), .val (.int p5), .val (.int xb), .val (.int yb), .val (.ref b9), .unset, .unset, .unset, .unset] [(.ref b18), (.ref b18)])) (fun _ k => XS.dup X18.here hx rfl (hb hby at_103) rfl rfl k) ?_
          refine own_go (B := T18.setTop (mkF m 106 #[.val (.int p1), .val (.int p2), .val (.int p3), .val (.int p4), .val (.int p5), .val (.int xb), .val (.int yb), .val (.ref b9), .unset, .unset, .unset, .unset] [(.int yb), (.ref b18), (.ref b18)])) (fun _ k => XS.iload X18.here hx rfl (hb hby at_104) rfl  k) ?_
          refine own_go (B := T18.setTop (mkF m 108 #[.val (.int p1), .val (.int p2), .val (.int p3), .val (.int p4), .val (.int p5), .val (.int xb), .val (.int yb), .val (.ref b9), .unset, .unset, .unset, .unset] [(.int xb), (.int yb), (.ref b18), (.ref b18)])) (fun _ k => XS.iload X18.here hx rfl (hb hby at_106) rfl  k) ?_
          obtain ⟨_, _, ⟨T25, L25, k25, n25⟩, -, X25, ⟨Lc25, hQ25, l25, y25, z25⟩, st25⟩ := X18.specialBack hx (y := (⟨"com/example/carillon/carillon/Period", "<init>", "(II)V"⟩ : MethodName)) rfl hown (mvT hZ (own_w hw 3 rfl)) (mvT hZ (own_w hw 4 rfl)) (mvT hZ (own_w hw 5 rfl)) (by decide) (backOf (W := 1) (own_rm1 l Z a0 hw [] b18 yb xb h18 n0 (Nat.le_trans Z0 K24.1) A18 F_day_b18 F_periodOfDay_b18 g_b18) hZ (own_w hw 5 rfl) (own_w hw 2 rfl) (by decide) (by decide)) (g := (mkF m 108 #[.val (.int p1), .val (.int p2), .val (.int p3), .val (.int p4), .val (.int p5), .val (.int xb), .val (.int yb), .val (.ref b9), .unset, .unset, .unset, .unset] [(.int xb), (.int yb), (.ref b18), (.ref b18)])) rfl (by rw [hml]; rfl) (Steps.refl _) (a := b18) (argsL := [(.int yb), (.int xb)]) (rest := [(.ref b18)]) (lenOf own_pd0 rfl) rfl (by show 2 * 0 + _ ≤ _; exact Nat.le_of_eq rfl) (hb hby at_108) (fun _ _ => ⟨rfl, e18, (by decide : 2 + 0 ≤ _), (by decide : 4 + 0 ≤ _)⟩)
          dsimp only [Pt.U, Pt.locs, Pt.cells, Pt.slots] at X25 l25 y25 z25 st25 hQ25
          subst l25 y25 z25
          obtain ⟨rfl, N25q, K25q, Q25_0, Q25_1, Q25_2⟩ := hQ25
          have N25 := Fr.app N12 N25q
          have E_27 := E_21.keep K25q
          have F_28 := F_22.keep K25q (ninS ne_b9_b18_19 nin0)
          have F_29 := F_23.keep K25q (ninS ne_b9_b18_19 nin0)
          have K33 : Keep h0 T25.heap [] := K24.trans K25q (allS (Or.inr sz_b18) all0)
          refine own_go (B := T25.setTop (mkF m 111 #[.val (.int p1), .val (.int p2), .val (.int p3), .val (.int p4), .val (.int p5), .val (.int xb), .val (.int yb), .val (.ref b9), .unset, .unset, .unset, .unset] [(.ref b18)])) (fun _ k => st25.trans k) ?_
          refine own_go (B := T25.setTop (mkF m 113 #[.val (.int p1), .val (.int p2), .val (.int p3), .val (.int p4), .val (.int p5), .val (.int xb), .val (.int yb), .val (.ref b9), .val (.ref b18), .unset, .unset, .unset] [])) (fun _ k => XS.astore X25.here hx rfl (hb hby at_111) rfl rfl (l' := #[.val (.int p1), .val (.int p2), .val (.int p3), .val (.int p4), .val (.int p5), .val (.int xb), .val (.int yb), .val (.ref b9), .val (.ref b18), .unset, .unset, .unset]) rfl k) ?_
          refine own_go (B := T25.setTop (mkF m 115 #[.val (.int p1), .val (.int p2), .val (.int p3), .val (.int p4), .val (.int p5), .val (.int xb), .val (.int yb), .val (.ref b9), .val (.ref b18), .unset, .unset, .unset] [(.ref b9)])) (fun _ k => XS.aload X25.here hx rfl (hb hby at_113) rfl rfl k) ?_
          refine own_go (B := T25.setTop (mkF m 116 #[.val (.int p1), .val (.int p2), .val (.int p3), .val (.int p4), .val (.int p5), .val (.int xb), .val (.int yb), .val (.ref b9), .val (.ref b18), .unset, .unset, .unset] [(.int p3), (.ref b9)])) (fun _ k => XS.iloadN X25.here hx rfl (hb hby at_115) rfl  k) ?_
          refine own_go (B := T25.setTop (mkF m 117 #[.val (.int p1), .val (.int p2), .val (.int p3), .val (.int p4), .val (.int p5), .val (.int xb), .val (.int yb), .val (.ref b9), .val (.ref b18), .unset, .unset, .unset] [(.int p4), (.int p3), (.ref b9)])) (fun _ k => XS.iloadN X25.here hx rfl (hb hby at_116) rfl  k) ?_
          obtain ⟨cq34, kq34, q34a, q34b, q34c⟩ := isOf hZ rfl E_27
          obtain ⟨_, _, ⟨T34, L34, k34, n34⟩, -, X34, ⟨Lc34, hQ34, l34, y34, z34⟩, st34⟩ := X25.virtualBack hx (y := (⟨"com/example/carillon/carillon/Period", "isWithin", "(II)Z"⟩ : MethodName)) (z := (⟨"com/example/carillon/carillon/Period", "isWithin", "(II)Z"⟩ : MethodName)) hown (mvT hZ (own_w hw 13 rfl)) (mvT hZ (own_w hw 14 rfl)) (notFace_of_selects (args := #[]) (mvT hZ (own_w hw 16 rfl))) (mvT hZ (own_w hw 16 rfl)) (mvT hZ (own_w hw 15 rfl)) (by decide) (backOf (W := 0) (own_rm3 l Z a0 hw [] b9 xb yb p3 p4 T25.heap n0 (Nat.le_trans Z0 K33.1) F_28 F_29) hZ (own_w hw 17 rfl) (own_w hw 2 rfl) (by decide) (by decide)) q34a q34c (g := (mkF m 117 #[.val (.int p1), .val (.int p2), .val (.int p3), .val (.int p4), .val (.int p5), .val (.int xb), .val (.int yb), .val (.ref b9), .val (.ref b18), .unset, .unset, .unset] [(.int p4), (.int p3), (.ref b9)])) rfl (by rw [hml]; rfl) (Steps.refl _) (argsL := [(.int p3), (.int p4)]) (rest := []) (lenOf own_pd1 rfl) rfl (by show 2 * 0 + _ ≤ _; exact Nat.le_of_eq rfl) (hb hby at_117) (fun _ _ => ⟨rfl, rfl, (by decide : 2 + 0 ≤ _), (by decide : 4 + 0 ≤ _)⟩)
          dsimp only [Pt.U, Pt.locs, Pt.cells, Pt.slots] at X34 l34 y34 z34 st34 hQ34
          subst l34 y34 z34
          obtain ⟨rfl, N34q, e34⟩ := hQ34
          have N34 := Fr.app N25 N34q
          refine own_go (B := T34.setTop (mkF m 120 #[.val (.int p1), .val (.int p2), .val (.int p3), .val (.int p4), .val (.int p5), .val (.int xb), .val (.int yb), .val (.ref b9), .val (.ref b18), .unset, .unset, .unset] [(.int (own_b (0 ≤ xb.toInt ∧ xb.toInt < p3.toInt ∧ 0 ≤ yb.toInt ∧ yb.toInt < p4.toInt)))])) (fun _ k => st34.trans k) ?_
          by_cases hc35 : 0 ≤ xb.toInt ∧ xb.toInt < p3.toInt ∧ 0 ≤ yb.toInt ∧ yb.toInt < p4.toInt
          · skip
            rw [own_b1 hc35]
            show own_Fin _ _ _ _ _ _ _ (T34.setTop (mkF m 120 #[.val (.int p1), .val (.int p2), .val (.int p3), .val (.int p4), .val (.int p5), .val (.int xb), .val (.int yb), .val (.ref b9), .val (.ref b18), .unset, .unset, .unset] [(.int (1 : Int32))]))
            refine own_go (B := T34.setTop (mkF m 122 #[.val (.int p1), .val (.int p2), .val (.int p3), .val (.int p4), .val (.int p5), .val (.int xb), .val (.int yb), .val (.ref b9), .val (.ref b18), .val (.int (1 : Int32)), .unset, .unset] [])) (fun _ k => XS.istore X34.here hx rfl (hb hby at_120) rfl (l' := #[.val (.int p1), .val (.int p2), .val (.int p3), .val (.int p4), .val (.int p5), .val (.int xb), .val (.int yb), .val (.ref b9), .val (.ref b18), .val (.int (1 : Int32)), .unset, .unset]) rfl k) ?_
            refine own_go (B := T34.setTop (mkF m 124 #[.val (.int p1), .val (.int p2), .val (.int p3), .val (.int p4), .val (.int p5), .val (.int xb), .val (.int yb), .val (.ref b9), .val (.ref b18), .val (.int (1 : Int32)), .unset, .unset] [(.ref b18)])) (fun _ k => XS.aload X34.here hx rfl (hb hby at_122) rfl rfl k) ?_
            refine own_go (B := T34.setTop (mkF m 125 #[.val (.int p1), .val (.int p2), .val (.int p3), .val (.int p4), .val (.int p5), .val (.int xb), .val (.int yb), .val (.ref b9), .val (.ref b18), .val (.int (1 : Int32)), .unset, .unset] [(.int p4), (.ref b18)])) (fun _ k => XS.iloadN X34.here hx rfl (hb hby at_124) rfl  k) ?_
            refine own_go (B := T34.setTop (mkF m 126 #[.val (.int p1), .val (.int p2), .val (.int p3), .val (.int p4), .val (.int p5), .val (.int xb), .val (.int yb), .val (.ref b9), .val (.ref b18), .val (.int (1 : Int32)), .unset, .unset] [(.int p3), (.int p4), (.ref b18)])) (fun _ k => XS.iloadN X34.here hx rfl (hb hby at_125) rfl  k) ?_
            obtain ⟨cq36, kq36, q36a, q36b, q36c⟩ := isOf hZ e34 Q25_0
            obtain ⟨_, _, ⟨T36, L36, k36, n36⟩, -, X36, ⟨Lc36, hQ36, l36, y36, z36⟩, st36⟩ := X34.virtualBack hx (y := (⟨"com/example/carillon/carillon/Period", "isWithin", "(II)Z"⟩ : MethodName)) (z := (⟨"com/example/carillon/carillon/Period", "isWithin", "(II)Z"⟩ : MethodName)) hown (mvT hZ (own_w hw 13 rfl)) (mvT hZ (own_w hw 14 rfl)) (notFace_of_selects (args := #[]) (mvT hZ (own_w hw 16 rfl))) (mvT hZ (own_w hw 16 rfl)) (mvT hZ (own_w hw 15 rfl)) (by decide) (backOf (W := 0) (own_rm3 l Z a0 hw [] b18 yb xb p4 p3 T25.heap n0 (Nat.le_trans Z0 K33.1) Q25_1 Q25_2) hZ (own_w hw 17 rfl) (own_w hw 2 rfl) (by decide) (by decide)) q36a q36c (g := (mkF m 126 #[.val (.int p1), .val (.int p2), .val (.int p3), .val (.int p4), .val (.int p5), .val (.int xb), .val (.int yb), .val (.ref b9), .val (.ref b18), .val (.int (1 : Int32)), .unset, .unset] [(.int p3), (.int p4), (.ref b18)])) rfl (by rw [hml]; rfl) (Steps.refl _) (argsL := [(.int p4), (.int p3)]) (rest := []) (lenOf own_pd1 rfl) rfl (by show 2 * 0 + _ ≤ _; exact Nat.le_of_eq rfl) (hb hby at_126) (fun _ _ => ⟨rfl, e34, (by decide : 2 + 0 ≤ _), (by decide : 4 + 0 ≤ _)⟩)
            dsimp only [Pt.U, Pt.locs, Pt.cells, Pt.slots] at X36 l36 y36 z36 st36 hQ36
            subst l36 y36 z36
            obtain ⟨rfl, N36q, e36⟩ := hQ36
            have N36 := Fr.app N34 N36q
            refine own_go (B := T36.setTop (mkF m 129 #[.val (.int p1), .val (.int p2), .val (.int p3), .val (.int p4), .val (.int p5), .val (.int xb), .val (.int yb), .val (.ref b9), .val (.ref b18), .val (.int (1 : Int32)), .unset, .unset] [(.int (own_b (0 ≤ yb.toInt ∧ yb.toInt < p4.toInt ∧ 0 ≤ xb.toInt ∧ xb.toInt < p3.toInt)))])) (fun _ k => st36.trans k) ?_
            have hc37 : 0 ≤ yb.toInt ∧ yb.toInt < p4.toInt ∧ 0 ≤ xb.toInt ∧ xb.toInt < p3.toInt := (own_pl_rm0_1 p3 p4 xb yb hc35)
            rw [own_b1 hc37]
            show own_Fin _ _ _ _ _ _ _ (T36.setTop (mkF m 129 #[.val (.int p1), .val (.int p2), .val (.int p3), .val (.int p4), .val (.int p5), .val (.int xb), .val (.int yb), .val (.ref b9), .val (.ref b18), .val (.int (1 : Int32)), .unset, .unset] [(.int (1 : Int32))]))
            refine own_go (B := T36.setTop (mkF m 131 #[.val (.int p1), .val (.int p2), .val (.int p3), .val (.int p4), .val (.int p5), .val (.int xb), .val (.int yb), .val (.ref b9), .val (.ref b18), .val (.int (1 : Int32)), .val (.int (1 : Int32)), .unset] [])) (fun _ k => XS.istore X36.here hx rfl (hb hby at_129) rfl (l' := #[.val (.int p1), .val (.int p2), .val (.int p3), .val (.int p4), .val (.int p5), .val (.int xb), .val (.int yb), .val (.ref b9), .val (.ref b18), .val (.int (1 : Int32)), .val (.int (1 : Int32)), .unset]) rfl k) ?_
            refine own_go (B := T36.setTop (mkF m 133 #[.val (.int p1), .val (.int p2), .val (.int p3), .val (.int p4), .val (.int p5), .val (.int xb), .val (.int yb), .val (.ref b9), .val (.ref b18), .val (.int (1 : Int32)), .val (.int (1 : Int32)), .unset] [(.int xb)])) (fun _ k => XS.iload X36.here hx rfl (hb hby at_131) rfl  k) ?_
            refine own_go (B := T36.setTop (mkF m 134 #[.val (.int p1), .val (.int p2), .val (.int p3), .val (.int p4), .val (.int p5), .val (.int xb), .val (.int yb), .val (.ref b9), .val (.ref b18), .val (.int (1 : Int32)), .val (.int (1 : Int32)), .unset] [(.int p3), (.int xb)])) (fun _ k => XS.iloadN X36.here hx rfl (hb hby at_133) rfl  k) ?_
            obtain ⟨_, _, ⟨T38, L38, k38, n38⟩, -, X38, ⟨Lc38, hQ38, l38, y38, z38⟩, st38⟩ := Jvm.LawKit.callS X36 hx (y := (⟨"com/example/carillon/carillon/PeriodIsWithinPinLaw", "inRange", "(II)Z"⟩ : MethodName)) hown (mvT hZ (own_w hw 18 rfl)) (mvT hZ (own_w hw 19 rfl)) (mvT hZ (own_w hw 20 rfl)) (mvT hZ (own_w hw 21 rfl)) (by decide) (backOf (W := 0) (own_rm4 l Z a0 hw [] xb p3 T25.heap n0 (Nat.le_trans Z0 K33.1) ) hZ (own_w hw 21 rfl) (own_w hw 20 rfl) (by decide) (by decide)) (g := (mkF m 134 #[.val (.int p1), .val (.int p2), .val (.int p3), .val (.int p4), .val (.int p5), .val (.int xb), .val (.int yb), .val (.ref b9), .val (.ref b18), .val (.int (1 : Int32)), .val (.int (1 : Int32)), .unset] [(.int p3), (.int xb)])) rfl (by rw [hml]; rfl) (argsL := [(.int xb), (.int p3)]) (rest := []) (lenOf own_pd1 rfl) rfl (by show 2 * 0 + _ ≤ _; exact Nat.le_of_eq rfl) (hb hby at_134) (fun _ _ => ⟨rfl, e36, (by decide : 2 + 0 ≤ _), (by decide : 4 + 0 ≤ _)⟩)
            dsimp only [Pt.U, Pt.locs, Pt.cells, Pt.slots] at X38 l38 y38 z38 st38 hQ38
            subst l38 y38 z38
            obtain ⟨rfl, N38q, e38⟩ := hQ38
            have N38 := Fr.app N36 N38q
            refine own_go (B := T38.setTop (mkF m 137 #[.val (.int p1), .val (.int p2), .val (.int p3), .val (.int p4), .val (.int p5), .val (.int xb), .val (.int yb), .val (.ref b9), .val (.ref b18), .val (.int (1 : Int32)), .val (.int (1 : Int32)), .unset] [(.int (own_b (0 ≤ xb.toInt ∧ xb.toInt < p3.toInt)))])) st38 ?_
            have hc39 : 0 ≤ xb.toInt ∧ xb.toInt < p3.toInt := (own_pl_rm0_2 p3 p4 xb yb hc35 hc37)
            rw [own_b1 hc39]
            show own_Fin _ _ _ _ _ _ _ (T38.setTop (mkF m 137 #[.val (.int p1), .val (.int p2), .val (.int p3), .val (.int p4), .val (.int p5), .val (.int xb), .val (.int yb), .val (.ref b9), .val (.ref b18), .val (.int (1 : Int32)), .val (.int (1 : Int32)), .unset] [(.int (1 : Int32))]))
            have hc40 : ¬ ((1 : Int32) = (0 : Int32)) := by decide
            refine own_go (B := T38.setTop (mkF m 140 #[.val (.int p1), .val (.int p2), .val (.int p3), .val (.int p4), .val (.int p5), .val (.int xb), .val (.int yb), .val (.ref b9), .val (.ref b18), .val (.int (1 : Int32)), .val (.int (1 : Int32)), .unset] [])) (fun _ k => XS.ifNo X38.here hx rfl (hb hby at_137) rfl ((if0 _ _).trans (feq hc40).1) k) ?_
            refine own_go (B := T38.setTop (mkF m 142 #[.val (.int p1), .val (.int p2), .val (.int p3), .val (.int p4), .val (.int p5), .val (.int xb), .val (.int yb), .val (.ref b9), .val (.ref b18), .val (.int (1 : Int32)), .val (.int (1 : Int32)), .unset] [(.int yb)])) (fun _ k => XS.iload X38.here hx rfl (hb hby at_140) rfl  k) ?_
            refine own_go (B := T38.setTop (mkF m 143 #[.val (.int p1), .val (.int p2), .val (.int p3), .val (.int p4), .val (.int p5), .val (.int xb), .val (.int yb), .val (.ref b9), .val (.ref b18), .val (.int (1 : Int32)), .val (.int (1 : Int32)), .unset] [(.int p4), (.int yb)])) (fun _ k => XS.iloadN X38.here hx rfl (hb hby at_142) rfl  k) ?_
            obtain ⟨_, _, ⟨T41, L41, k41, n41⟩, -, X41, ⟨Lc41, hQ41, l41, y41, z41⟩, st41⟩ := Jvm.LawKit.callS X38 hx (y := (⟨"com/example/carillon/carillon/PeriodIsWithinPinLaw", "inRange", "(II)Z"⟩ : MethodName)) hown (mvT hZ (own_w hw 18 rfl)) (mvT hZ (own_w hw 19 rfl)) (mvT hZ (own_w hw 20 rfl)) (mvT hZ (own_w hw 21 rfl)) (by decide) (backOf (W := 0) (own_rm4 l Z a0 hw [] yb p4 T25.heap n0 (Nat.le_trans Z0 K33.1) ) hZ (own_w hw 21 rfl) (own_w hw 20 rfl) (by decide) (by decide)) (g := (mkF m 143 #[.val (.int p1), .val (.int p2), .val (.int p3), .val (.int p4), .val (.int p5), .val (.int xb), .val (.int yb), .val (.ref b9), .val (.ref b18), .val (.int (1 : Int32)), .val (.int (1 : Int32)), .unset] [(.int p4), (.int yb)])) rfl (by rw [hml]; rfl) (argsL := [(.int yb), (.int p4)]) (rest := []) (lenOf own_pd1 rfl) rfl (by show 2 * 0 + _ ≤ _; exact Nat.le_of_eq rfl) (hb hby at_143) (fun _ _ => ⟨rfl, e38, (by decide : 2 + 0 ≤ _), (by decide : 4 + 0 ≤ _)⟩)
            dsimp only [Pt.U, Pt.locs, Pt.cells, Pt.slots] at X41 l41 y41 z41 st41 hQ41
            subst l41 y41 z41
            obtain ⟨rfl, N41q, e41⟩ := hQ41
            have N41 := Fr.app N38 N41q
            refine own_go (B := T41.setTop (mkF m 146 #[.val (.int p1), .val (.int p2), .val (.int p3), .val (.int p4), .val (.int p5), .val (.int xb), .val (.int yb), .val (.ref b9), .val (.ref b18), .val (.int (1 : Int32)), .val (.int (1 : Int32)), .unset] [(.int (own_b (0 ≤ yb.toInt ∧ yb.toInt < p4.toInt)))])) st41 ?_
            have hc42 : 0 ≤ yb.toInt ∧ yb.toInt < p4.toInt := (own_pl_rm0_3 p3 p4 xb yb hc35 hc37 hc39)
            rw [own_b1 hc42]
            show own_Fin _ _ _ _ _ _ _ (T41.setTop (mkF m 146 #[.val (.int p1), .val (.int p2), .val (.int p3), .val (.int p4), .val (.int p5), .val (.int xb), .val (.int yb), .val (.ref b9), .val (.ref b18), .val (.int (1 : Int32)), .val (.int (1 : Int32)), .unset] [(.int (1 : Int32))]))
            have hc43 : ¬ ((1 : Int32) = (0 : Int32)) := by decide
            refine own_go (B := T41.setTop (mkF m 149 #[.val (.int p1), .val (.int p2), .val (.int p3), .val (.int p4), .val (.int p5), .val (.int xb), .val (.int yb), .val (.ref b9), .val (.ref b18), .val (.int (1 : Int32)), .val (.int (1 : Int32)), .unset] [])) (fun _ k => XS.ifNo X41.here hx rfl (hb hby at_146) rfl ((if0 _ _).trans (feq hc43).1) k) ?_
            refine own_go (B := T41.setTop (mkF m 150 #[.val (.int p1), .val (.int p2), .val (.int p3), .val (.int p4), .val (.int p5), .val (.int xb), .val (.int yb), .val (.ref b9), .val (.ref b18), .val (.int (1 : Int32)), .val (.int (1 : Int32)), .unset] [(.int (1 : Int32))])) (fun _ k => XS.iconst X41.here hx rfl (hb hby at_149) k) ?_
            refine own_go (B := T41.setTop (mkF m 154 #[.val (.int p1), .val (.int p2), .val (.int p3), .val (.int p4), .val (.int p5), .val (.int xb), .val (.int yb), .val (.ref b9), .val (.ref b18), .val (.int (1 : Int32)), .val (.int (1 : Int32)), .unset] [(.int (1 : Int32))])) (fun _ k => XS.goto X41.here hx rfl (pc0 := 150) (pc' := 154) rfl (hb hby at_150) (by decide) (by decide) k) ?_
            refine own_go (B := T41.setTop (mkF m 156 #[.val (.int p1), .val (.int p2), .val (.int p3), .val (.int p4), .val (.int p5), .val (.int xb), .val (.int yb), .val (.ref b9), .val (.ref b18), .val (.int (1 : Int32)), .val (.int (1 : Int32)), .val (.int (1 : Int32))] [])) (fun _ k => XS.istore X41.here hx rfl (hb hby at_154) rfl (l' := #[.val (.int p1), .val (.int p2), .val (.int p3), .val (.int p4), .val (.int p5), .val (.int xb), .val (.int yb), .val (.ref b9), .val (.ref b18), .val (.int (1 : Int32)), .val (.int (1 : Int32)), .val (.int (1 : Int32))]) rfl k) ?_
            refine own_go (B := T41.setTop (mkF m 158 #[.val (.int p1), .val (.int p2), .val (.int p3), .val (.int p4), .val (.int p5), .val (.int xb), .val (.int yb), .val (.ref b9), .val (.ref b18), .val (.int (1 : Int32)), .val (.int (1 : Int32)), .val (.int (1 : Int32))] [(.int (1 : Int32))])) (fun _ k => XS.iload X41.here hx rfl (hb hby at_156) rfl  k) ?_
            refine own_go (B := T41.setTop (mkF m 160 #[.val (.int p1), .val (.int p2), .val (.int p3), .val (.int p4), .val (.int p5), .val (.int xb), .val (.int yb), .val (.ref b9), .val (.ref b18), .val (.int (1 : Int32)), .val (.int (1 : Int32)), .val (.int (1 : Int32))] [(.int (1 : Int32)), (.int (1 : Int32))])) (fun _ k => XS.iload X41.here hx rfl (hb hby at_158) rfl  k) ?_
            have hc44 : (1 : Int32) = (1 : Int32) := by decide
            refine own_go (B := T41.setTop (mkF m 163 #[.val (.int p1), .val (.int p2), .val (.int p3), .val (.int p4), .val (.int p5), .val (.int xb), .val (.int yb), .val (.ref b9), .val (.ref b18), .val (.int (1 : Int32)), .val (.int (1 : Int32)), .val (.int (1 : Int32))] [])) (fun _ k => XS.icmpNo X41.here hx rfl (hb hby at_160) rfl (teq hc44).2 k) ?_
            refine own_go (B := T41.setTop (mkF m 165 #[.val (.int p1), .val (.int p2), .val (.int p3), .val (.int p4), .val (.int p5), .val (.int xb), .val (.int yb), .val (.ref b9), .val (.ref b18), .val (.int (1 : Int32)), .val (.int (1 : Int32)), .val (.int (1 : Int32))] [(.int (1 : Int32))])) (fun _ k => XS.iload X41.here hx rfl (hb hby at_163) rfl  k) ?_
            refine own_go (B := T41.setTop (mkF m 167 #[.val (.int p1), .val (.int p2), .val (.int p3), .val (.int p4), .val (.int p5), .val (.int xb), .val (.int yb), .val (.ref b9), .val (.ref b18), .val (.int (1 : Int32)), .val (.int (1 : Int32)), .val (.int (1 : Int32))] [(.int (1 : Int32)), (.int (1 : Int32))])) (fun _ k => XS.iload X41.here hx rfl (hb hby at_165) rfl  k) ?_
            have hc45 : (1 : Int32) = (1 : Int32) := by decide
            refine own_go (B := T41.setTop (mkF m 170 #[.val (.int p1), .val (.int p2), .val (.int p3), .val (.int p4), .val (.int p5), .val (.int xb), .val (.int yb), .val (.ref b9), .val (.ref b18), .val (.int (1 : Int32)), .val (.int (1 : Int32)), .val (.int (1 : Int32))] [])) (fun _ k => XS.icmpNo X41.here hx rfl (hb hby at_167) rfl (teq hc45).2 k) ?_
            refine own_go (B := T41.setTop (mkF m 171 #[.val (.int p1), .val (.int p2), .val (.int p3), .val (.int p4), .val (.int p5), .val (.int xb), .val (.int yb), .val (.ref b9), .val (.ref b18), .val (.int (1 : Int32)), .val (.int (1 : Int32)), .val (.int (1 : Int32))] [(.int (1 : Int32))])) (fun _ k => XS.iconst X41.here hx rfl (hb hby at_170) k) ?_
            refine own_go (B := T41.setTop (mkF m 175 #[.val (.int p1), .val (.int p2), .val (.int p3), .val (.int p4), .val (.int p5), .val (.int xb), .val (.int yb), .val (.ref b9), .val (.ref b18), .val (.int (1 : Int32)), .val (.int (1 : Int32)), .val (.int (1 : Int32))] [(.int (1 : Int32))])) (fun _ k => XS.goto X41.here hx rfl (pc0 := 171) (pc' := 175) rfl (hb hby at_171) (by decide) (by decide) k) ?_
            exact own_retN X41 hx Bd.notSynchronized (t := .boolean) (w := (1 : Int32)) Bd.returns (by simp) (hb hby at_175) e41 rfl ⟨rfl, N41, K33⟩ (by decide) (by decide)
          · skip
            rw [own_b0 hc35]
            show own_Fin _ _ _ _ _ _ _ (T34.setTop (mkF m 120 #[.val (.int p1), .val (.int p2), .val (.int p3), .val (.int p4), .val (.int p5), .val (.int xb), .val (.int yb), .val (.ref b9), .val (.ref b18), .unset, .unset, .unset] [(.int (0 : Int32))]))
            refine own_go (B := T34.setTop (mkF m 122 #[.val (.int p1), .val (.int p2), .val (.int p3), .val (.int p4), .val (.int p5), .val (.int xb), .val (.int yb), .val (.ref b9), .val (.ref b18), .val (.int (0 : Int32)), .unset, .unset] [])) (fun _ k => XS.istore X34.here hx rfl (hb hby at_120) rfl (l' := #[.val (.int p1), .val (.int p2), .val (.int p3), .val (.int p4), .val (.int p5), .val (.int xb), .val (.int yb), .val (.ref b9), .val (.ref b18), .val (.int (0 : Int32)), .unset, .unset]) rfl k) ?_
            refine own_go (B := T34.setTop (mkF m 124 #[.val (.int p1), .val (.int p2), .val (.int p3), .val (.int p4), .val (.int p5), .val (.int xb), .val (.int yb), .val (.ref b9), .val (.ref b18), .val (.int (0 : Int32)), .unset, .unset] [(.ref b18)])) (fun _ k => XS.aload X34.here hx rfl (hb hby at_122) rfl rfl k) ?_
            refine own_go (B := T34.setTop (mkF m 125 #[.val (.int p1), .val (.int p2), .val (.int p3), .val (.int p4), .val (.int p5), .val (.int xb), .val (.int yb), .val (.ref b9), .val (.ref b18), .val (.int (0 : Int32)), .unset, .unset] [(.int p4), (.ref b18)])) (fun _ k => XS.iloadN X34.here hx rfl (hb hby at_124) rfl  k) ?_
            refine own_go (B := T34.setTop (mkF m 126 #[.val (.int p1), .val (.int p2), .val (.int p3), .val (.int p4), .val (.int p5), .val (.int xb), .val (.int yb), .val (.ref b9), .val (.ref b18), .val (.int (0 : Int32)), .unset, .unset] [(.int p3), (.int p4), (.ref b18)])) (fun _ k => XS.iloadN X34.here hx rfl (hb hby at_125) rfl  k) ?_
            obtain ⟨cq46, kq46, q46a, q46b, q46c⟩ := isOf hZ e34 Q25_0
            obtain ⟨_, _, ⟨T46, L46, k46, n46⟩, -, X46, ⟨Lc46, hQ46, l46, y46, z46⟩, st46⟩ := X34.virtualBack hx (y := (⟨"com/example/carillon/carillon/Period", "isWithin", "(II)Z"⟩ : MethodName)) (z := (⟨"com/example/carillon/carillon/Period", "isWithin", "(II)Z"⟩ : MethodName)) hown (mvT hZ (own_w hw 13 rfl)) (mvT hZ (own_w hw 14 rfl)) (notFace_of_selects (args := #[]) (mvT hZ (own_w hw 16 rfl))) (mvT hZ (own_w hw 16 rfl)) (mvT hZ (own_w hw 15 rfl)) (by decide) (backOf (W := 0) (own_rm3 l Z a0 hw [] b18 yb xb p4 p3 T25.heap n0 (Nat.le_trans Z0 K33.1) Q25_1 Q25_2) hZ (own_w hw 17 rfl) (own_w hw 2 rfl) (by decide) (by decide)) q46a q46c (g := (mkF m 126 #[.val (.int p1), .val (.int p2), .val (.int p3), .val (.int p4), .val (.int p5), .val (.int xb), .val (.int yb), .val (.ref b9), .val (.ref b18), .val (.int (0 : Int32)), .unset, .unset] [(.int p3), (.int p4), (.ref b18)])) rfl (by rw [hml]; rfl) (Steps.refl _) (argsL := [(.int p4), (.int p3)]) (rest := []) (lenOf own_pd1 rfl) rfl (by show 2 * 0 + _ ≤ _; exact Nat.le_of_eq rfl) (hb hby at_126) (fun _ _ => ⟨rfl, e34, (by decide : 2 + 0 ≤ _), (by decide : 4 + 0 ≤ _)⟩)
            dsimp only [Pt.U, Pt.locs, Pt.cells, Pt.slots] at X46 l46 y46 z46 st46 hQ46
            subst l46 y46 z46
            obtain ⟨rfl, N46q, e46⟩ := hQ46
            have N46 := Fr.app N34 N46q
            refine own_go (B := T46.setTop (mkF m 129 #[.val (.int p1), .val (.int p2), .val (.int p3), .val (.int p4), .val (.int p5), .val (.int xb), .val (.int yb), .val (.ref b9), .val (.ref b18), .val (.int (0 : Int32)), .unset, .unset] [(.int (own_b (0 ≤ yb.toInt ∧ yb.toInt < p4.toInt ∧ 0 ≤ xb.toInt ∧ xb.toInt < p3.toInt)))])) (fun _ k => st46.trans k) ?_
            have hc47 : ¬ (0 ≤ yb.toInt ∧ yb.toInt < p4.toInt ∧ 0 ≤ xb.toInt ∧ xb.toInt < p3.toInt) := (own_pl_rm0_4 p3 p4 xb yb hc35)
            rw [own_b0 hc47]
            show own_Fin _ _ _ _ _ _ _ (T46.setTop (mkF m 129 #[.val (.int p1), .val (.int p2), .val (.int p3), .val (.int p4), .val (.int p5), .val (.int xb), .val (.int yb), .val (.ref b9), .val (.ref b18), .val (.int (0 : Int32)), .unset, .unset] [(.int (0 : Int32))]))
            refine own_go (B := T46.setTop (mkF m 131 #[.val (.int p1), .val (.int p2), .val (.int p3), .val (.int p4), .val (.int p5), .val (.int xb), .val (.int yb), .val (.ref b9), .val (.ref b18), .val (.int (0 : Int32)), .val (.int (0 : Int32)), .unset] [])) (fun _ k => XS.istore X46.here hx rfl (hb hby at_129) rfl (l' := #[.val (.int p1), .val (.int p2), .val (.int p3), .val (.int p4), .val (.int p5), .val (.int xb), .val (.int yb), .val (.ref b9), .val (.ref b18), .val (.int (0 : Int32)), .val (.int (0 : Int32)), .unset]) rfl k) ?_
            refine own_go (B := T46.setTop (mkF m 133 #[.val (.int p1), .val (.int p2), .val (.int p3), .val (.int p4), .val (.int p5), .val (.int xb), .val (.int yb), .val (.ref b9), .val (.ref b18), .val (.int (0 : Int32)), .val (.int (0 : Int32)), .unset] [(.int xb)])) (fun _ k => XS.iload X46.here hx rfl (hb hby at_131) rfl  k) ?_
            refine own_go (B := T46.setTop (mkF m 134 #[.val (.int p1), .val (.int p2), .val (.int p3), .val (.int p4), .val (.int p5), .val (.int xb), .val (.int yb), .val (.ref b9), .val (.ref b18), .val (.int (0 : Int32)), .val (.int (0 : Int32)), .unset] [(.int p3), (.int xb)])) (fun _ k => XS.iloadN X46.here hx rfl (hb hby at_133) rfl  k) ?_
            obtain ⟨_, _, ⟨T48, L48, k48, n48⟩, -, X48, ⟨Lc48, hQ48, l48, y48, z48⟩, st48⟩ := Jvm.LawKit.callS X46 hx (y := (⟨"com/example/carillon/carillon/PeriodIsWithinPinLaw", "inRange", "(II)Z"⟩ : MethodName)) hown (mvT hZ (own_w hw 18 rfl)) (mvT hZ (own_w hw 19 rfl)) (mvT hZ (own_w hw 20 rfl)) (mvT hZ (own_w hw 21 rfl)) (by decide) (backOf (W := 0) (own_rm4 l Z a0 hw [] xb p3 T25.heap n0 (Nat.le_trans Z0 K33.1) ) hZ (own_w hw 21 rfl) (own_w hw 20 rfl) (by decide) (by decide)) (g := (mkF m 134 #[.val (.int p1), .val (.int p2), .val (.int p3), .val (.int p4), .val (.int p5), .val (.int xb), .val (.int yb), .val (.ref b9), .val (.ref b18), .val (.int (0 : Int32)), .val (.int (0 : Int32)), .unset] [(.int p3), (.int xb)])) rfl (by rw [hml]; rfl) (argsL := [(.int xb), (.int p3)]) (rest := []) (lenOf own_pd1 rfl) rfl (by show 2 * 0 + _ ≤ _; exact Nat.le_of_eq rfl) (hb hby at_134) (fun _ _ => ⟨rfl, e46, (by decide : 2 + 0 ≤ _), (by decide : 4 + 0 ≤ _)⟩)
            dsimp only [Pt.U, Pt.locs, Pt.cells, Pt.slots] at X48 l48 y48 z48 st48 hQ48
            subst l48 y48 z48
            obtain ⟨rfl, N48q, e48⟩ := hQ48
            have N48 := Fr.app N46 N48q
            refine own_go (B := T48.setTop (mkF m 137 #[.val (.int p1), .val (.int p2), .val (.int p3), .val (.int p4), .val (.int p5), .val (.int xb), .val (.int yb), .val (.ref b9), .val (.ref b18), .val (.int (0 : Int32)), .val (.int (0 : Int32)), .unset] [(.int (own_b (0 ≤ xb.toInt ∧ xb.toInt < p3.toInt)))])) st48 ?_
            by_cases hc49 : 0 ≤ xb.toInt ∧ xb.toInt < p3.toInt
            · skip
              rw [own_b1 hc49]
              show own_Fin _ _ _ _ _ _ _ (T48.setTop (mkF m 137 #[.val (.int p1), .val (.int p2), .val (.int p3), .val (.int p4), .val (.int p5), .val (.int xb), .val (.int yb), .val (.ref b9), .val (.ref b18), .val (.int (0 : Int32)), .val (.int (0 : Int32)), .unset] [(.int (1 : Int32))]))
              have hc50 : ¬ ((1 : Int32) = (0 : Int32)) := by decide
              refine own_go (B := T48.setTop (mkF m 140 #[.val (.int p1), .val (.int p2), .val (.int p3), .val (.int p4), .val (.int p5), .val (.int xb), .val (.int yb), .val (.ref b9), .val (.ref b18), .val (.int (0 : Int32)), .val (.int (0 : Int32)), .unset] [])) (fun _ k => XS.ifNo X48.here hx rfl (hb hby at_137) rfl ((if0 _ _).trans (feq hc50).1) k) ?_
              refine own_go (B := T48.setTop (mkF m 142 #[.val (.int p1), .val (.int p2), .val (.int p3), .val (.int p4), .val (.int p5), .val (.int xb), .val (.int yb), .val (.ref b9), .val (.ref b18), .val (.int (0 : Int32)), .val (.int (0 : Int32)), .unset] [(.int yb)])) (fun _ k => XS.iload X48.here hx rfl (hb hby at_140) rfl  k) ?_
              refine own_go (B := T48.setTop (mkF m 143 #[.val (.int p1), .val (.int p2), .val (.int p3), .val (.int p4), .val (.int p5), .val (.int xb), .val (.int yb), .val (.ref b9), .val (.ref b18), .val (.int (0 : Int32)), .val (.int (0 : Int32)), .unset] [(.int p4), (.int yb)])) (fun _ k => XS.iloadN X48.here hx rfl (hb hby at_142) rfl  k) ?_
              obtain ⟨_, _, ⟨T51, L51, k51, n51⟩, -, X51, ⟨Lc51, hQ51, l51, y51, z51⟩, st51⟩ := Jvm.LawKit.callS X48 hx (y := (⟨"com/example/carillon/carillon/PeriodIsWithinPinLaw", "inRange", "(II)Z"⟩ : MethodName)) hown (mvT hZ (own_w hw 18 rfl)) (mvT hZ (own_w hw 19 rfl)) (mvT hZ (own_w hw 20 rfl)) (mvT hZ (own_w hw 21 rfl)) (by decide) (backOf (W := 0) (own_rm4 l Z a0 hw [] yb p4 T25.heap n0 (Nat.le_trans Z0 K33.1) ) hZ (own_w hw 21 rfl) (own_w hw 20 rfl) (by decide) (by decide)) (g := (mkF m 143 #[.val (.int p1), .val (.int p2), .val (.int p3), .val (.int p4), .val (.int p5), .val (.int xb), .val (.int yb), .val (.ref b9), .val (.ref b18), .val (.int (0 : Int32)), .val (.int (0 : Int32)), .unset] [(.int p4), (.int yb)])) rfl (by rw [hml]; rfl) (argsL := [(.int yb), (.int p4)]) (rest := []) (lenOf own_pd1 rfl) rfl (by show 2 * 0 + _ ≤ _; exact Nat.le_of_eq rfl) (hb hby at_143) (fun _ _ => ⟨rfl, e48, (by decide : 2 + 0 ≤ _), (by decide : 4 + 0 ≤ _)⟩)
              dsimp only [Pt.U, Pt.locs, Pt.cells, Pt.slots] at X51 l51 y51 z51 st51 hQ51
              subst l51 y51 z51
              obtain ⟨rfl, N51q, e51⟩ := hQ51
              have N51 := Fr.app N48 N51q
              refine own_go (B := T51.setTop (mkF m 146 #[.val (.int p1), .val (.int p2), .val (.int p3), .val (.int p4), .val (.int p5), .val (.int xb), .val (.int yb), .val (.ref b9), .val (.ref b18), .val (.int (0 : Int32)), .val (.int (0 : Int32)), .unset] [(.int (own_b (0 ≤ yb.toInt ∧ yb.toInt < p4.toInt)))])) st51 ?_
              have hc52 : ¬ (0 ≤ yb.toInt ∧ yb.toInt < p4.toInt) := (own_pl_rm0_5 p3 p4 xb yb hc35 hc47 hc49)
              rw [own_b0 hc52]
              show own_Fin _ _ _ _ _ _ _ (T51.setTop (mkF m 146 #[.val (.int p1), .val (.int p2), .val (.int p3), .val (.int p4), .val (.int p5), .val (.int xb), .val (.int yb), .val (.ref b9), .val (.ref b18), .val (.int (0 : Int32)), .val (.int (0 : Int32)), .unset] [(.int (0 : Int32))]))
              have hc53 : (0 : Int32) = (0 : Int32) := by decide
              refine own_go (B := T51.setTop (mkF m 153 #[.val (.int p1), .val (.int p2), .val (.int p3), .val (.int p4), .val (.int p5), .val (.int xb), .val (.int yb), .val (.ref b9), .val (.ref b18), .val (.int (0 : Int32)), .val (.int (0 : Int32)), .unset] [])) (fun _ k => XS.ifYes X51.here hx rfl (pc0 := 146) (pc' := 153) rfl (hb hby at_146) rfl ((if0 _ _).trans (teq hc53).1) (by decide) (by decide) k) ?_
              refine own_go (B := T51.setTop (mkF m 154 #[.val (.int p1), .val (.int p2), .val (.int p3), .val (.int p4), .val (.int p5), .val (.int xb), .val (.int yb), .val (.ref b9), .val (.ref b18), .val (.int (0 : Int32)), .val (.int (0 : Int32)), .unset] [(.int (0 : Int32))])) (fun _ k => XS.iconst X51.here hx rfl (hb hby at_153) k) ?_
              refine own_go (B := T51.setTop (mkF m 156 #[.val (.int p1), .val (.int p2), .val (.int p3), .val (.int p4), .val (.int p5), .val (.int xb), .val (.int yb), .val (.ref b9), .val (.ref b18), .val (.int (0 : Int32)), .val (.int (0 : Int32)), .val (.int (0 : Int32))] [])) (fun _ k => XS.istore X51.here hx rfl (hb hby at_154) rfl (l' := #[.val (.int p1), .val (.int p2), .val (.int p3), .val (.int p4), .val (.int p5), .val (.int xb), .val (.int yb), .val (.ref b9), .val (.ref b18), .val (.int (0 : Int32)), .val (.int (0 : Int32)), .val (.int (0 : Int32))]) rfl k) ?_
              refine own_go (B := T51.setTop (mkF m 158 #[.val (.int p1), .val (.int p2), .val (.int p3), .val (.int p4), .val (.int p5), .val (.int xb), .val (.int yb), .val (.ref b9), .val (.ref b18), .val (.int (0 : Int32)), .val (.int (0 : Int32)), .val (.int (0 : Int32))] [(.int (0 : Int32))])) (fun _ k => XS.iload X51.here hx rfl (hb hby at_156) rfl  k) ?_
              refine own_go (B := T51.setTop (mkF m 160 #[.val (.int p1), .val (.int p2), .val (.int p3), .val (.int p4), .val (.int p5), .val (.int xb), .val (.int yb), .val (.ref b9), .val (.ref b18), .val (.int (0 : Int32)), .val (.int (0 : Int32)), .val (.int (0 : Int32))] [(.int (0 : Int32)), (.int (0 : Int32))])) (fun _ k => XS.iload X51.here hx rfl (hb hby at_158) rfl  k) ?_
              have hc54 : (0 : Int32) = (0 : Int32) := by decide
              refine own_go (B := T51.setTop (mkF m 163 #[.val (.int p1), .val (.int p2), .val (.int p3), .val (.int p4), .val (.int p5), .val (.int xb), .val (.int yb), .val (.ref b9), .val (.ref b18), .val (.int (0 : Int32)), .val (.int (0 : Int32)), .val (.int (0 : Int32))] [])) (fun _ k => XS.icmpNo X51.here hx rfl (hb hby at_160) rfl (teq hc54).2 k) ?_
              refine own_go (B := T51.setTop (mkF m 165 #[.val (.int p1), .val (.int p2), .val (.int p3), .val (.int p4), .val (.int p5), .val (.int xb), .val (.int yb), .val (.ref b9), .val (.ref b18), .val (.int (0 : Int32)), .val (.int (0 : Int32)), .val (.int (0 : Int32))] [(.int (0 : Int32))])) (fun _ k => XS.iload X51.here hx rfl (hb hby at_163) rfl  k) ?_
              refine own_go (B := T51.setTop (mkF m 167 #[.val (.int p1), .val (.int p2), .val (.int p3), .val (.int p4), .val (.int p5), .val (.int xb), .val (.int yb), .val (.ref b9), .val (.ref b18), .val (.int (0 : Int32)), .val (.int (0 : Int32)), .val (.int (0 : Int32))] [(.int (0 : Int32)), (.int (0 : Int32))])) (fun _ k => XS.iload X51.here hx rfl (hb hby at_165) rfl  k) ?_
              have hc55 : (0 : Int32) = (0 : Int32) := by decide
              refine own_go (B := T51.setTop (mkF m 170 #[.val (.int p1), .val (.int p2), .val (.int p3), .val (.int p4), .val (.int p5), .val (.int xb), .val (.int yb), .val (.ref b9), .val (.ref b18), .val (.int (0 : Int32)), .val (.int (0 : Int32)), .val (.int (0 : Int32))] [])) (fun _ k => XS.icmpNo X51.here hx rfl (hb hby at_167) rfl (teq hc55).2 k) ?_
              refine own_go (B := T51.setTop (mkF m 171 #[.val (.int p1), .val (.int p2), .val (.int p3), .val (.int p4), .val (.int p5), .val (.int xb), .val (.int yb), .val (.ref b9), .val (.ref b18), .val (.int (0 : Int32)), .val (.int (0 : Int32)), .val (.int (0 : Int32))] [(.int (1 : Int32))])) (fun _ k => XS.iconst X51.here hx rfl (hb hby at_170) k) ?_
              refine own_go (B := T51.setTop (mkF m 175 #[.val (.int p1), .val (.int p2), .val (.int p3), .val (.int p4), .val (.int p5), .val (.int xb), .val (.int yb), .val (.ref b9), .val (.ref b18), .val (.int (0 : Int32)), .val (.int (0 : Int32)), .val (.int (0 : Int32))] [(.int (1 : Int32))])) (fun _ k => XS.goto X51.here hx rfl (pc0 := 171) (pc' := 175) rfl (hb hby at_171) (by decide) (by decide) k) ?_
              exact own_retN X51 hx Bd.notSynchronized (t := .boolean) (w := (1 : Int32)) Bd.returns (by simp) (hb hby at_175) e51 rfl ⟨rfl, N51, K33⟩ (by decide) (by decide)
            · skip
              rw [own_b0 hc49]
              show own_Fin _ _ _ _ _ _ _ (T48.setTop (mkF m 137 #[.val (.int p1), .val (.int p2), .val (.int p3), .val (.int p4), .val (.int p5), .val (.int xb), .val (.int yb), .val (.ref b9), .val (.ref b18), .val (.int (0 : Int32)), .val (.int (0 : Int32)), .unset] [(.int (0 : Int32))]))
              have hc56 : (0 : Int32) = (0 : Int32) := by decide
              refine own_go (B := T48.setTop (mkF m 153 #[.val (.int p1), .val (.int p2), .val (.int p3), .val (.int p4), .val (.int p5), .val (.int xb), .val (.int yb), .val (.ref b9), .val (.ref b18), .val (.int (0 : Int32)), .val (.int (0 : Int32)), .unset] [])) (fun _ k => XS.ifYes X48.here hx rfl (pc0 := 137) (pc' := 153) rfl (hb hby at_137) rfl ((if0 _ _).trans (teq hc56).1) (by decide) (by decide) k) ?_
              refine own_go (B := T48.setTop (mkF m 154 #[.val (.int p1), .val (.int p2), .val (.int p3), .val (.int p4), .val (.int p5), .val (.int xb), .val (.int yb), .val (.ref b9), .val (.ref b18), .val (.int (0 : Int32)), .val (.int (0 : Int32)), .unset] [(.int (0 : Int32))])) (fun _ k => XS.iconst X48.here hx rfl (hb hby at_153) k) ?_
              refine own_go (B := T48.setTop (mkF m 156 #[.val (.int p1), .val (.int p2), .val (.int p3), .val (.int p4), .val (.int p5), .val (.int xb), .val (.int yb), .val (.ref b9), .val (.ref b18), .val (.int (0 : Int32)), .val (.int (0 : Int32)), .val (.int (0 : Int32))] [])) (fun _ k => XS.istore X48.here hx rfl (hb hby at_154) rfl (l' := #[.val (.int p1), .val (.int p2), .val (.int p3), .val (.int p4), .val (.int p5), .val (.int xb), .val (.int yb), .val (.ref b9), .val (.ref b18), .val (.int (0 : Int32)), .val (.int (0 : Int32)), .val (.int (0 : Int32))]) rfl k) ?_
              refine own_go (B := T48.setTop (mkF m 158 #[.val (.int p1), .val (.int p2), .val (.int p3), .val (.int p4), .val (.int p5), .val (.int xb), .val (.int yb), .val (.ref b9), .val (.ref b18), .val (.int (0 : Int32)), .val (.int (0 : Int32)), .val (.int (0 : Int32))] [(.int (0 : Int32))])) (fun _ k => XS.iload X48.here hx rfl (hb hby at_156) rfl  k) ?_
              refine own_go (B := T48.setTop (mkF m 160 #[.val (.int p1), .val (.int p2), .val (.int p3), .val (.int p4), .val (.int p5), .val (.int xb), .val (.int yb), .val (.ref b9), .val (.ref b18), .val (.int (0 : Int32)), .val (.int (0 : Int32)), .val (.int (0 : Int32))] [(.int (0 : Int32)), (.int (0 : Int32))])) (fun _ k => XS.iload X48.here hx rfl (hb hby at_158) rfl  k) ?_
              have hc57 : (0 : Int32) = (0 : Int32) := by decide
              refine own_go (B := T48.setTop (mkF m 163 #[.val (.int p1), .val (.int p2), .val (.int p3), .val (.int p4), .val (.int p5), .val (.int xb), .val (.int yb), .val (.ref b9), .val (.ref b18), .val (.int (0 : Int32)), .val (.int (0 : Int32)), .val (.int (0 : Int32))] [])) (fun _ k => XS.icmpNo X48.here hx rfl (hb hby at_160) rfl (teq hc57).2 k) ?_
              refine own_go (B := T48.setTop (mkF m 165 #[.val (.int p1), .val (.int p2), .val (.int p3), .val (.int p4), .val (.int p5), .val (.int xb), .val (.int yb), .val (.ref b9), .val (.ref b18), .val (.int (0 : Int32)), .val (.int (0 : Int32)), .val (.int (0 : Int32))] [(.int (0 : Int32))])) (fun _ k => XS.iload X48.here hx rfl (hb hby at_163) rfl  k) ?_
              refine own_go (B := T48.setTop (mkF m 167 #[.val (.int p1), .val (.int p2), .val (.int p3), .val (.int p4), .val (.int p5), .val (.int xb), .val (.int yb), .val (.ref b9), .val (.ref b18), .val (.int (0 : Int32)), .val (.int (0 : Int32)), .val (.int (0 : Int32))] [(.int (0 : Int32)), (.int (0 : Int32))])) (fun _ k => XS.iload X48.here hx rfl (hb hby at_165) rfl  k) ?_
              have hc58 : (0 : Int32) = (0 : Int32) := by decide
              refine own_go (B := T48.setTop (mkF m 170 #[.val (.int p1), .val (.int p2), .val (.int p3), .val (.int p4), .val (.int p5), .val (.int xb), .val (.int yb), .val (.ref b9), .val (.ref b18), .val (.int (0 : Int32)), .val (.int (0 : Int32)), .val (.int (0 : Int32))] [])) (fun _ k => XS.icmpNo X48.here hx rfl (hb hby at_167) rfl (teq hc58).2 k) ?_
              refine own_go (B := T48.setTop (mkF m 171 #[.val (.int p1), .val (.int p2), .val (.int p3), .val (.int p4), .val (.int p5), .val (.int xb), .val (.int yb), .val (.ref b9), .val (.ref b18), .val (.int (0 : Int32)), .val (.int (0 : Int32)), .val (.int (0 : Int32))] [(.int (1 : Int32))])) (fun _ k => XS.iconst X48.here hx rfl (hb hby at_170) k) ?_
              refine own_go (B := T48.setTop (mkF m 175 #[.val (.int p1), .val (.int p2), .val (.int p3), .val (.int p4), .val (.int p5), .val (.int xb), .val (.int yb), .val (.ref b9), .val (.ref b18), .val (.int (0 : Int32)), .val (.int (0 : Int32)), .val (.int (0 : Int32))] [(.int (1 : Int32))])) (fun _ k => XS.goto X48.here hx rfl (pc0 := 171) (pc' := 175) rfl (hb hby at_171) (by decide) (by decide) k) ?_
              exact own_retN X48 hx Bd.notSynchronized (t := .boolean) (w := (1 : Int32)) Bd.returns (by simp) (hb hby at_175) e48 rfl ⟨rfl, N48, K33⟩ (by decide) (by decide)
        refine own_go (B := s₁.setTop (mkF m 69 #[.val (.int p1), .val (.int p2), .val (.int p3), .val (.int p4), .val (.int p5), .val (.int xb), .val (.int ya), .unset, .unset, .unset, .unset, .unset] [(.int p5)])) (fun _ k => XS.iload X0.here hx rfl (hb hby at_67) rfl  k) ?_
        refine own_go (B := s₁.setTop (mkF m 72 #[.val (.int p1), .val (.int p2), .val (.int p3), .val (.int p4), .val (.int p5), .val (.int xb), .val (.int ya), .unset, .unset, .unset, .unset, .unset] [(.int (1024 : Int32)), (.int p5)])) (fun _ k => XS.sipush X0.here hx rfl (hb hby at_69) k) ?_
        refine own_go (B := s₁.setTop (mkF m 73 #[.val (.int p1), .val (.int p2), .val (.int p3), .val (.int p4), .val (.int p5), .val (.int xb), .val (.int ya), .unset, .unset, .unset, .unset, .unset] [(.int (p5 &&& (1024 : Int32)))])) (fun _ k => XS.iand X0.here hx rfl (hb hby at_72) rfl k) ?_
        by_cases hc8 : (p5 &&& (1024 : Int32)) = (0 : Int32)
        · skip
          refine own_go (B := s₁.setTop (mkF m 87 #[.val (.int p1), .val (.int p2), .val (.int p3), .val (.int p4), .val (.int p5), .val (.int xb), .val (.int ya), .unset, .unset, .unset, .unset, .unset] [])) (fun _ k => XS.ifYes X0.here hx rfl (pc0 := 73) (pc' := 87) rfl (hb hby at_73) rfl ((if0 _ _).trans (teq hc8).1) (by decide) (by decide) k) ?_
          exact J7 ya
        · skip
          refine own_go (B := s₁.setTop (mkF m 76 #[.val (.int p1), .val (.int p2), .val (.int p3), .val (.int p4), .val (.int p5), .val (.int xb), .val (.int ya), .unset, .unset, .unset, .unset, .unset] [])) (fun _ k => XS.ifNo X0.here hx rfl (hb hby at_73) rfl ((if0 _ _).trans (feq hc8).1) k) ?_
          refine own_go (B := s₁.setTop (mkF m 78 #[.val (.int p1), .val (.int p2), .val (.int p3), .val (.int p4), .val (.int p5), .val (.int xb), .val (.int ya), .unset, .unset, .unset, .unset, .unset] [(.int p5)])) (fun _ k => XS.iload X0.here hx rfl (hb hby at_76) rfl  k) ?_
          refine own_go (B := s₁.setTop (mkF m 80 #[.val (.int p1), .val (.int p2), .val (.int p3), .val (.int p4), .val (.int p5), .val (.int xb), .val (.int ya), .unset, .unset, .unset, .unset, .unset] [(.int (11 : Int32)), (.int p5)])) (fun _ k => XS.bipush X0.here hx rfl (hb hby at_78) k) ?_
          refine own_go (B := s₁.setTop (mkF m 81 #[.val (.int p1), .val (.int p2), .val (.int p3), .val (.int p4), .val (.int p5), .val (.int xb), .val (.int ya), .unset, .unset, .unset, .unset, .unset] [(.int (p5 >>> ((11 : Int32) &&& 31)))])) (fun _ k => XS.ishr X0.here hx rfl (hb hby at_80) rfl k) ?_
          refine own_go (B := s₁.setTop (mkF m 82 #[.val (.int p1), .val (.int p2), .val (.int p3), .val (.int p4), .val (.int p5), .val (.int xb), .val (.int ya), .unset, .unset, .unset, .unset, .unset] [(.int (3 : Int32)), (.int (p5 >>> ((11 : Int32) &&& 31)))])) (fun _ k => XS.iconst X0.here hx rfl (hb hby at_81) k) ?_
          refine own_go (B := s₁.setTop (mkF m 83 #[.val (.int p1), .val (.int p2), .val (.int p3), .val (.int p4), .val (.int p5), .val (.int xb), .val (.int ya), .unset, .unset, .unset, .unset, .unset] [(.int ((p5 >>> ((11 : Int32) &&& 31)) &&& (3 : Int32)))])) (fun _ k => XS.iand X0.here hx rfl (hb hby at_82) rfl k) ?_
          refine own_go (B := s₁.setTop (mkF m 84 #[.val (.int p1), .val (.int p2), .val (.int p3), .val (.int p4), .val (.int p5), .val (.int xb), .val (.int ya), .unset, .unset, .unset, .unset, .unset] [(.int (2 : Int32)), (.int ((p5 >>> ((11 : Int32) &&& 31)) &&& (3 : Int32)))])) (fun _ k => XS.iconst X0.here hx rfl (hb hby at_83) k) ?_
          refine own_go (B := s₁.setTop (mkF m 85 #[.val (.int p1), .val (.int p2), .val (.int p3), .val (.int p4), .val (.int p5), .val (.int xb), .val (.int ya), .unset, .unset, .unset, .unset, .unset] [(.int (((p5 >>> ((11 : Int32) &&& 31)) &&& (3 : Int32)) - (2 : Int32)))])) (fun _ k => XS.isub X0.here hx rfl (hb hby at_84) rfl k) ?_
          refine own_go (B := s₁.setTop (mkF m 87 #[.val (.int p1), .val (.int p2), .val (.int p3), .val (.int p4), .val (.int p5), .val (.int xb), .val (.int (((p5 >>> ((11 : Int32) &&& 31)) &&& (3 : Int32)) - (2 : Int32))), .unset, .unset, .unset, .unset, .unset] [])) (fun _ k => XS.istore X0.here hx rfl (hb hby at_85) rfl (l' := #[.val (.int p1), .val (.int p2), .val (.int p3), .val (.int p4), .val (.int p5), .val (.int xb), .val (.int (((p5 >>> ((11 : Int32) &&& 31)) &&& (3 : Int32)) - (2 : Int32))), .unset, .unset, .unset, .unset, .unset]) rfl k) ?_
          exact J7 (((p5 >>> ((11 : Int32) &&& 31)) &&& (3 : Int32)) - (2 : Int32))
      refine own_go (B := s₁.setTop (mkF m 49 #[.val (.int p1), .val (.int p2), .val (.int p3), .val (.int p4), .val (.int p5), .val (.int xa), .val (.int ya), .unset, .unset, .unset, .unset, .unset] [(.int p5)])) (fun _ k => XS.iload X0.here hx rfl (hb hby at_47) rfl  k) ?_
      refine own_go (B := s₁.setTop (mkF m 52 #[.val (.int p1), .val (.int p2), .val (.int p3), .val (.int p4), .val (.int p5), .val (.int xa), .val (.int ya), .unset, .unset, .unset, .unset, .unset] [(.int (128 : Int32)), (.int p5)])) (fun _ k => XS.sipush X0.here hx rfl (hb hby at_49) k) ?_
      refine own_go (B := s₁.setTop (mkF m 53 #[.val (.int p1), .val (.int p2), .val (.int p3), .val (.int p4), .val (.int p5), .val (.int xa), .val (.int ya), .unset, .unset, .unset, .unset, .unset] [(.int (p5 &&& (128 : Int32)))])) (fun _ k => XS.iand X0.here hx rfl (hb hby at_52) rfl k) ?_
      by_cases hc6 : (p5 &&& (128 : Int32)) = (0 : Int32)
      · skip
        refine own_go (B := s₁.setTop (mkF m 67 #[.val (.int p1), .val (.int p2), .val (.int p3), .val (.int p4), .val (.int p5), .val (.int xa), .val (.int ya), .unset, .unset, .unset, .unset, .unset] [])) (fun _ k => XS.ifYes X0.here hx rfl (pc0 := 53) (pc' := 67) rfl (hb hby at_53) rfl ((if0 _ _).trans (teq hc6).1) (by decide) (by decide) k) ?_
        exact J5 xa
      · skip
        refine own_go (B := s₁.setTop (mkF m 56 #[.val (.int p1), .val (.int p2), .val (.int p3), .val (.int p4), .val (.int p5), .val (.int xa), .val (.int ya), .unset, .unset, .unset, .unset, .unset] [])) (fun _ k => XS.ifNo X0.here hx rfl (hb hby at_53) rfl ((if0 _ _).trans (feq hc6).1) k) ?_
        refine own_go (B := s₁.setTop (mkF m 58 #[.val (.int p1), .val (.int p2), .val (.int p3), .val (.int p4), .val (.int p5), .val (.int xa), .val (.int ya), .unset, .unset, .unset, .unset, .unset] [(.int p5)])) (fun _ k => XS.iload X0.here hx rfl (hb hby at_56) rfl  k) ?_
        refine own_go (B := s₁.setTop (mkF m 60 #[.val (.int p1), .val (.int p2), .val (.int p3), .val (.int p4), .val (.int p5), .val (.int xa), .val (.int ya), .unset, .unset, .unset, .unset, .unset] [(.int (8 : Int32)), (.int p5)])) (fun _ k => XS.bipush X0.here hx rfl (hb hby at_58) k) ?_
        refine own_go (B := s₁.setTop (mkF m 61 #[.val (.int p1), .val (.int p2), .val (.int p3), .val (.int p4), .val (.int p5), .val (.int xa), .val (.int ya), .unset, .unset, .unset, .unset, .unset] [(.int (p5 >>> ((8 : Int32) &&& 31)))])) (fun _ k => XS.ishr X0.here hx rfl (hb hby at_60) rfl k) ?_
        refine own_go (B := s₁.setTop (mkF m 62 #[.val (.int p1), .val (.int p2), .val (.int p3), .val (.int p4), .val (.int p5), .val (.int xa), .val (.int ya), .unset, .unset, .unset, .unset, .unset] [(.int (3 : Int32)), (.int (p5 >>> ((8 : Int32) &&& 31)))])) (fun _ k => XS.iconst X0.here hx rfl (hb hby at_61) k) ?_
        refine own_go (B := s₁.setTop (mkF m 63 #[.val (.int p1), .val (.int p2), .val (.int p3), .val (.int p4), .val (.int p5), .val (.int xa), .val (.int ya), .unset, .unset, .unset, .unset, .unset] [(.int ((p5 >>> ((8 : Int32) &&& 31)) &&& (3 : Int32)))])) (fun _ k => XS.iand X0.here hx rfl (hb hby at_62) rfl k) ?_
        refine own_go (B := s₁.setTop (mkF m 64 #[.val (.int p1), .val (.int p2), .val (.int p3), .val (.int p4), .val (.int p5), .val (.int xa), .val (.int ya), .unset, .unset, .unset, .unset, .unset] [(.int (2 : Int32)), (.int ((p5 >>> ((8 : Int32) &&& 31)) &&& (3 : Int32)))])) (fun _ k => XS.iconst X0.here hx rfl (hb hby at_63) k) ?_
        refine own_go (B := s₁.setTop (mkF m 65 #[.val (.int p1), .val (.int p2), .val (.int p3), .val (.int p4), .val (.int p5), .val (.int xa), .val (.int ya), .unset, .unset, .unset, .unset, .unset] [(.int (((p5 >>> ((8 : Int32) &&& 31)) &&& (3 : Int32)) - (2 : Int32)))])) (fun _ k => XS.isub X0.here hx rfl (hb hby at_64) rfl k) ?_
        refine own_go (B := s₁.setTop (mkF m 67 #[.val (.int p1), .val (.int p2), .val (.int p3), .val (.int p4), .val (.int p5), .val (.int (((p5 >>> ((8 : Int32) &&& 31)) &&& (3 : Int32)) - (2 : Int32))), .val (.int ya), .unset, .unset, .unset, .unset, .unset] [])) (fun _ k => XS.istore X0.here hx rfl (hb hby at_65) rfl (l' := #[.val (.int p1), .val (.int p2), .val (.int p3), .val (.int p4), .val (.int p5), .val (.int (((p5 >>> ((8 : Int32) &&& 31)) &&& (3 : Int32)) - (2 : Int32))), .val (.int ya), .unset, .unset, .unset, .unset, .unset]) rfl k) ?_
        exact J5 (((p5 >>> ((8 : Int32) &&& 31)) &&& (3 : Int32)) - (2 : Int32))
    refine own_go (B := s₁.setTop (mkF m 25 #[.val (.int p1), .val (.int p2), .val (.int p3), .val (.int p4), .val (.int p5), .val (.int xa), .unset, .unset, .unset, .unset, .unset, .unset] [(.int p5)])) (fun _ k => XS.iload X0.here hx rfl (hb hby at_23) rfl  k) ?_
    refine own_go (B := s₁.setTop (mkF m 27 #[.val (.int p1), .val (.int p2), .val (.int p3), .val (.int p4), .val (.int p5), .val (.int xa), .unset, .unset, .unset, .unset, .unset, .unset] [(.int (16 : Int32)), (.int p5)])) (fun _ k => XS.bipush X0.here hx rfl (hb hby at_25) k) ?_
    refine own_go (B := s₁.setTop (mkF m 28 #[.val (.int p1), .val (.int p2), .val (.int p3), .val (.int p4), .val (.int p5), .val (.int xa), .unset, .unset, .unset, .unset, .unset, .unset] [(.int (p5 &&& (16 : Int32)))])) (fun _ k => XS.iand X0.here hx rfl (hb hby at_27) rfl k) ?_
    by_cases hc4 : (p5 &&& (16 : Int32)) = (0 : Int32)
    · skip
      refine own_go (B := s₁.setTop (mkF m 44 #[.val (.int p1), .val (.int p2), .val (.int p3), .val (.int p4), .val (.int p5), .val (.int xa), .unset, .unset, .unset, .unset, .unset, .unset] [])) (fun _ k => XS.ifYes X0.here hx rfl (pc0 := 28) (pc' := 44) rfl (hb hby at_28) rfl ((if0 _ _).trans (teq hc4).1) (by decide) (by decide) k) ?_
      refine own_go (B := s₁.setTop (mkF m 45 #[.val (.int p1), .val (.int p2), .val (.int p3), .val (.int p4), .val (.int p5), .val (.int xa), .unset, .unset, .unset, .unset, .unset, .unset] [(.int p2)])) (fun _ k => XS.iloadN X0.here hx rfl (hb hby at_44) rfl  k) ?_
      refine own_go (B := s₁.setTop (mkF m 47 #[.val (.int p1), .val (.int p2), .val (.int p3), .val (.int p4), .val (.int p5), .val (.int xa), .val (.int p2), .unset, .unset, .unset, .unset, .unset] [])) (fun _ k => XS.istore X0.here hx rfl (hb hby at_45) rfl (l' := #[.val (.int p1), .val (.int p2), .val (.int p3), .val (.int p4), .val (.int p5), .val (.int xa), .val (.int p2), .unset, .unset, .unset, .unset, .unset]) rfl k) ?_
      exact J3 p2
    · skip
      refine own_go (B := s₁.setTop (mkF m 31 #[.val (.int p1), .val (.int p2), .val (.int p3), .val (.int p4), .val (.int p5), .val (.int xa), .unset, .unset, .unset, .unset, .unset, .unset] [])) (fun _ k => XS.ifNo X0.here hx rfl (hb hby at_28) rfl ((if0 _ _).trans (feq hc4).1) k) ?_
      refine own_go (B := s₁.setTop (mkF m 32 #[.val (.int p1), .val (.int p2), .val (.int p3), .val (.int p4), .val (.int p5), .val (.int xa), .unset, .unset, .unset, .unset, .unset, .unset] [(.int p4)])) (fun _ k => XS.iloadN X0.here hx rfl (hb hby at_31) rfl  k) ?_
      refine own_go (B := s₁.setTop (mkF m 34 #[.val (.int p1), .val (.int p2), .val (.int p3), .val (.int p4), .val (.int p5), .val (.int xa), .unset, .unset, .unset, .unset, .unset, .unset] [(.int p5), (.int p4)])) (fun _ k => XS.iload X0.here hx rfl (hb hby at_32) rfl  k) ?_
      refine own_go (B := s₁.setTop (mkF m 35 #[.val (.int p1), .val (.int p2), .val (.int p3), .val (.int p4), .val (.int p5), .val (.int xa), .unset, .unset, .unset, .unset, .unset, .unset] [(.int (5 : Int32)), (.int p5), (.int p4)])) (fun _ k => XS.iconst X0.here hx rfl (hb hby at_34) k) ?_
      refine own_go (B := s₁.setTop (mkF m 36 #[.val (.int p1), .val (.int p2), .val (.int p3), .val (.int p4), .val (.int p5), .val (.int xa), .unset, .unset, .unset, .unset, .unset, .unset] [(.int (p5 >>> ((5 : Int32) &&& 31))), (.int p4)])) (fun _ k => XS.ishr X0.here hx rfl (hb hby at_35) rfl k) ?_
      refine own_go (B := s₁.setTop (mkF m 37 #[.val (.int p1), .val (.int p2), .val (.int p3), .val (.int p4), .val (.int p5), .val (.int xa), .unset, .unset, .unset, .unset, .unset, .unset] [(.int (3 : Int32)), (.int (p5 >>> ((5 : Int32) &&& 31))), (.int p4)])) (fun _ k => XS.iconst X0.here hx rfl (hb hby at_36) k) ?_
      refine own_go (B := s₁.setTop (mkF m 38 #[.val (.int p1), .val (.int p2), .val (.int p3), .val (.int p4), .val (.int p5), .val (.int xa), .unset, .unset, .unset, .unset, .unset, .unset] [(.int ((p5 >>> ((5 : Int32) &&& 31)) &&& (3 : Int32))), (.int p4)])) (fun _ k => XS.iand X0.here hx rfl (hb hby at_37) rfl k) ?_
      refine own_go (B := s₁.setTop (mkF m 39 #[.val (.int p1), .val (.int p2), .val (.int p3), .val (.int p4), .val (.int p5), .val (.int xa), .unset, .unset, .unset, .unset, .unset, .unset] [(.int (p4 + ((p5 >>> ((5 : Int32) &&& 31)) &&& (3 : Int32))))])) (fun _ k => XS.iadd X0.here hx rfl (hb hby at_38) rfl k) ?_
      refine own_go (B := s₁.setTop (mkF m 40 #[.val (.int p1), .val (.int p2), .val (.int p3), .val (.int p4), .val (.int p5), .val (.int xa), .unset, .unset, .unset, .unset, .unset, .unset] [(.int (2 : Int32)), (.int (p4 + ((p5 >>> ((5 : Int32) &&& 31)) &&& (3 : Int32))))])) (fun _ k => XS.iconst X0.here hx rfl (hb hby at_39) k) ?_
      refine own_go (B := s₁.setTop (mkF m 41 #[.val (.int p1), .val (.int p2), .val (.int p3), .val (.int p4), .val (.int p5), .val (.int xa), .unset, .unset, .unset, .unset, .unset, .unset] [(.int ((p4 + ((p5 >>> ((5 : Int32) &&& 31)) &&& (3 : Int32))) - (2 : Int32)))])) (fun _ k => XS.isub X0.here hx rfl (hb hby at_40) rfl k) ?_
      refine own_go (B := s₁.setTop (mkF m 45 #[.val (.int p1), .val (.int p2), .val (.int p3), .val (.int p4), .val (.int p5), .val (.int xa), .unset, .unset, .unset, .unset, .unset, .unset] [(.int ((p4 + ((p5 >>> ((5 : Int32) &&& 31)) &&& (3 : Int32))) - (2 : Int32)))])) (fun _ k => XS.goto X0.here hx rfl (pc0 := 41) (pc' := 45) rfl (hb hby at_41) (by decide) (by decide) k) ?_
      refine own_go (B := s₁.setTop (mkF m 47 #[.val (.int p1), .val (.int p2), .val (.int p3), .val (.int p4), .val (.int p5), .val (.int xa), .val (.int ((p4 + ((p5 >>> ((5 : Int32) &&& 31)) &&& (3 : Int32))) - (2 : Int32))), .unset, .unset, .unset, .unset, .unset] [])) (fun _ k => XS.istore X0.here hx rfl (hb hby at_45) rfl (l' := #[.val (.int p1), .val (.int p2), .val (.int p3), .val (.int p4), .val (.int p5), .val (.int xa), .val (.int ((p4 + ((p5 >>> ((5 : Int32) &&& 31)) &&& (3 : Int32))) - (2 : Int32))), .unset, .unset, .unset, .unset, .unset]) rfl k) ?_
      exact J3 ((p4 + ((p5 >>> ((5 : Int32) &&& 31)) &&& (3 : Int32))) - (2 : Int32))
  refine own_go (B := s₁.setTop (mkF m 2 #[.val (.int p1), .val (.int p2), .val (.int p3), .val (.int p4), .val (.int p5), .unset, .unset, .unset, .unset, .unset, .unset, .unset] [(.int p5)])) (fun _ k => XS.iload X0.here hx rfl (hb hby at_0) rfl  k) ?_
  refine own_go (B := s₁.setTop (mkF m 3 #[.val (.int p1), .val (.int p2), .val (.int p3), .val (.int p4), .val (.int p5), .unset, .unset, .unset, .unset, .unset, .unset, .unset] [(.int (1 : Int32)), (.int p5)])) (fun _ k => XS.iconst X0.here hx rfl (hb hby at_2) k) ?_
  refine own_go (B := s₁.setTop (mkF m 4 #[.val (.int p1), .val (.int p2), .val (.int p3), .val (.int p4), .val (.int p5), .unset, .unset, .unset, .unset, .unset, .unset, .unset] [(.int (p5 &&& (1 : Int32)))])) (fun _ k => XS.iand X0.here hx rfl (hb hby at_3) rfl k) ?_
  by_cases hc2 : (p5 &&& (1 : Int32)) = (0 : Int32)
  · skip
    refine own_go (B := s₁.setTop (mkF m 20 #[.val (.int p1), .val (.int p2), .val (.int p3), .val (.int p4), .val (.int p5), .unset, .unset, .unset, .unset, .unset, .unset, .unset] [])) (fun _ k => XS.ifYes X0.here hx rfl (pc0 := 4) (pc' := 20) rfl (hb hby at_4) rfl ((if0 _ _).trans (teq hc2).1) (by decide) (by decide) k) ?_
    refine own_go (B := s₁.setTop (mkF m 21 #[.val (.int p1), .val (.int p2), .val (.int p3), .val (.int p4), .val (.int p5), .unset, .unset, .unset, .unset, .unset, .unset, .unset] [(.int p1)])) (fun _ k => XS.iloadN X0.here hx rfl (hb hby at_20) rfl  k) ?_
    refine own_go (B := s₁.setTop (mkF m 23 #[.val (.int p1), .val (.int p2), .val (.int p3), .val (.int p4), .val (.int p5), .val (.int p1), .unset, .unset, .unset, .unset, .unset, .unset] [])) (fun _ k => XS.istore X0.here hx rfl (hb hby at_21) rfl (l' := #[.val (.int p1), .val (.int p2), .val (.int p3), .val (.int p4), .val (.int p5), .val (.int p1), .unset, .unset, .unset, .unset, .unset, .unset]) rfl k) ?_
    exact J1 p1
  · skip
    refine own_go (B := s₁.setTop (mkF m 7 #[.val (.int p1), .val (.int p2), .val (.int p3), .val (.int p4), .val (.int p5), .unset, .unset, .unset, .unset, .unset, .unset, .unset] [])) (fun _ k => XS.ifNo X0.here hx rfl (hb hby at_4) rfl ((if0 _ _).trans (feq hc2).1) k) ?_
    refine own_go (B := s₁.setTop (mkF m 8 #[.val (.int p1), .val (.int p2), .val (.int p3), .val (.int p4), .val (.int p5), .unset, .unset, .unset, .unset, .unset, .unset, .unset] [(.int p3)])) (fun _ k => XS.iloadN X0.here hx rfl (hb hby at_7) rfl  k) ?_
    refine own_go (B := s₁.setTop (mkF m 10 #[.val (.int p1), .val (.int p2), .val (.int p3), .val (.int p4), .val (.int p5), .unset, .unset, .unset, .unset, .unset, .unset, .unset] [(.int p5), (.int p3)])) (fun _ k => XS.iload X0.here hx rfl (hb hby at_8) rfl  k) ?_
    refine own_go (B := s₁.setTop (mkF m 11 #[.val (.int p1), .val (.int p2), .val (.int p3), .val (.int p4), .val (.int p5), .unset, .unset, .unset, .unset, .unset, .unset, .unset] [(.int (1 : Int32)), (.int p5), (.int p3)])) (fun _ k => XS.iconst X0.here hx rfl (hb hby at_10) k) ?_
    refine own_go (B := s₁.setTop (mkF m 12 #[.val (.int p1), .val (.int p2), .val (.int p3), .val (.int p4), .val (.int p5), .unset, .unset, .unset, .unset, .unset, .unset, .unset] [(.int (p5 >>> ((1 : Int32) &&& 31))), (.int p3)])) (fun _ k => XS.ishr X0.here hx rfl (hb hby at_11) rfl k) ?_
    refine own_go (B := s₁.setTop (mkF m 13 #[.val (.int p1), .val (.int p2), .val (.int p3), .val (.int p4), .val (.int p5), .unset, .unset, .unset, .unset, .unset, .unset, .unset] [(.int (3 : Int32)), (.int (p5 >>> ((1 : Int32) &&& 31))), (.int p3)])) (fun _ k => XS.iconst X0.here hx rfl (hb hby at_12) k) ?_
    refine own_go (B := s₁.setTop (mkF m 14 #[.val (.int p1), .val (.int p2), .val (.int p3), .val (.int p4), .val (.int p5), .unset, .unset, .unset, .unset, .unset, .unset, .unset] [(.int ((p5 >>> ((1 : Int32) &&& 31)) &&& (3 : Int32))), (.int p3)])) (fun _ k => XS.iand X0.here hx rfl (hb hby at_13) rfl k) ?_
    refine own_go (B := s₁.setTop (mkF m 15 #[.val (.int p1), .val (.int p2), .val (.int p3), .val (.int p4), .val (.int p5), .unset, .unset, .unset, .unset, .unset, .unset, .unset] [(.int (p3 + ((p5 >>> ((1 : Int32) &&& 31)) &&& (3 : Int32))))])) (fun _ k => XS.iadd X0.here hx rfl (hb hby at_14) rfl k) ?_
    refine own_go (B := s₁.setTop (mkF m 16 #[.val (.int p1), .val (.int p2), .val (.int p3), .val (.int p4), .val (.int p5), .unset, .unset, .unset, .unset, .unset, .unset, .unset] [(.int (2 : Int32)), (.int (p3 + ((p5 >>> ((1 : Int32) &&& 31)) &&& (3 : Int32))))])) (fun _ k => XS.iconst X0.here hx rfl (hb hby at_15) k) ?_
    refine own_go (B := s₁.setTop (mkF m 17 #[.val (.int p1), .val (.int p2), .val (.int p3), .val (.int p4), .val (.int p5), .unset, .unset, .unset, .unset, .unset, .unset, .unset] [(.int ((p3 + ((p5 >>> ((1 : Int32) &&& 31)) &&& (3 : Int32))) - (2 : Int32)))])) (fun _ k => XS.isub X0.here hx rfl (hb hby at_16) rfl k) ?_
    refine own_go (B := s₁.setTop (mkF m 21 #[.val (.int p1), .val (.int p2), .val (.int p3), .val (.int p4), .val (.int p5), .unset, .unset, .unset, .unset, .unset, .unset, .unset] [(.int ((p3 + ((p5 >>> ((1 : Int32) &&& 31)) &&& (3 : Int32))) - (2 : Int32)))])) (fun _ k => XS.goto X0.here hx rfl (pc0 := 17) (pc' := 21) rfl (hb hby at_17) (by decide) (by decide) k) ?_
    refine own_go (B := s₁.setTop (mkF m 23 #[.val (.int p1), .val (.int p2), .val (.int p3), .val (.int p4), .val (.int p5), .val (.int ((p3 + ((p5 >>> ((1 : Int32) &&& 31)) &&& (3 : Int32))) - (2 : Int32))), .unset, .unset, .unset, .unset, .unset, .unset] [])) (fun _ k => XS.istore X0.here hx rfl (hb hby at_21) rfl (l' := #[.val (.int p1), .val (.int p2), .val (.int p3), .val (.int p4), .val (.int p5), .val (.int ((p3 + ((p5 >>> ((1 : Int32) &&& 31)) &&& (3 : Int32))) - (2 : Int32))), .unset, .unset, .unset, .unset, .unset, .unset]) rfl k) ?_
    exact J1 ((p3 + ((p5 >>> ((1 : Int32) &&& 31)) &&& (3 : Int32))) - (2 : Int32))
set_option maxRecDepth 65536 in
set_option maxHeartbeats 40000000 in
theorem comes_1 {Post : Tables → Env → Array Value → State → Outcome → State → Prop} (hpost : ∀ tb e args s v u, (limb_1_1.after args s (.returned v) u = true ∧ limb_1_2.after args s (.returned v) u = true ∧ True) → FrameEnd s (.returned v) u (Jvm.fieldLocs frame_1_writes args s ++ Jvm.arrayLocs frame_1_arrays args s ++ Jvm.staticLocs frame_1_statics s) 16 128 → Post tb e args s (.returned v) u) :
    ArmFor flags0 classFile x code maxLocals ret World_1 tables_1 room_1 Calls_1 rest_1 Pre_1 Post := by
  intro l hfl _ _ p e ha hc hk s m args below hf hA hF happ hP
  obtain ⟨hcalls, hrest, hpre⟩ := hP
  obtain ⟨-, -, -, hnamed, -, -, -, hat⟩ := (Spec.applies_iff hf).mp happ
  obtain ⟨hg, hn⟩ := and_e (Cond.before_iff.mp (show (Jvm.Cond.and given_1 narrow_1).before args s = true from hpre))
  obtain ⟨gg1, gg2⟩ := and_e hg
  obtain ⟨gg3, gg4⟩ := and_e gg2
  obtain ⟨gg5, gg6⟩ := and_e gg4
  obtain ⟨gg7, gg8⟩ := and_e gg6
  obtain ⟨gg9, gg10⟩ := and_e gg8
  obtain ⟨w0, w1, w2, w3, w4, rfl⟩ : ∃ w0 w1 w2 w3 w4 : Value, args = #[w0, w1, w2, w3, w4] := by
    have hs : args.size = 5 := by simpa [Cond.value, given_1] using gg1
    obtain ⟨L⟩ := args
    match L, hs with
    | [w0, w1, w2, w3, w4], _ => exact ⟨w0, w1, w2, w3, w4, rfl⟩
  have hw := fun d (hd : d ∈ tables_1) => atoms_spec (ws := Jvm.Cond.code x code maxLocals ret :: tables_1) hat d (List.mem_cons_of_mem _ hd)
  have hfit : Fit s := fun {y c} hc i hi => by
    obtain ⟨ha, rfl⟩ := Array.getElem?_eq_some_iff.mp hc
    have q := List.all_eq_true.mp ((Array.all_eq_true_iff_forall_mem.mp hF) _ (Array.getElem_mem ha)) i (List.mem_range.mpr hi)
    simpa [Array.getElem?_eq_getElem hi] using q
  obtain ⟨i0, ei0⟩ := is_v gg3
  obtain rfl : w0 = (.int i0) := Option.some.inj ei0
  obtain ⟨i1, ei1⟩ := is_v gg5
  obtain rfl : w1 = (.int i1) := Option.some.inj ei1
  obtain ⟨i2, ei2⟩ := is_v gg7
  obtain rfl : w2 = (.int i2) := Option.some.inj ei2
  obtain ⟨i3, ei3⟩ := is_v gg9
  obtain rfl : w3 = (.int i3) := Option.some.inj ei3
  obtain ⟨i4, ei4⟩ := is_v gg10
  obtain rfl : w4 = (.int i4) := Option.some.inj ei4
  obtain ⟨n, o, h1, h2, h3, _, L, rfl, ⟨rfl, N, _⟩, hq⟩ := own_rm0 l s _ hw tables_1 i0 i1 i2 i3 i4 s.heap s.heap.size (Nat.le_refl _)  p e ha hc hk s m _ below hf ((Spec.applies_iff_loose hf).mp happ).1 ⟨rfl, State.Warmed39.refl s, rfl⟩ trivial
  refine ⟨n, _, h1, h2, h3, hpost _ _ _ _ _ _ ⟨Cond.after_iff.mpr rfl, Cond.after_iff.mpr (eq_i res_at (Term.int_eval (1)) rfl), trivial⟩ ⟨hq.1, hq.2.1, (hq.2.2.sift fun y hy => Or.inr (N y hy)).mono (by decide) (by decide)⟩⟩
theorem main_1_1 : Claimed_1_1 := comes_1 fun _ _ _ _ _ _ h hF => ⟨h.1, hF⟩
theorem main_1_2 : Claimed_1_2 := comes_1 fun _ _ _ _ _ _ h hF => ⟨h.2.1, hF⟩
end Jvm.Pilot.@@N@@
namespace Jvm.Pilot.@@N@@
open Jvm Jvm.ClassFile Sem Op Lib Jvm.Free Jvm.Stand Jvm.Pilot.@@N@@.Jvm.D
/-! MADE BY PROGRAM (witnessworld.py) out of the Statement's table words and the real class files: 10 classes; the members and pool entries that the words name. The judged class is class 1, her method 2. -/
namespace start1
open Jvm.ClassFile
def u (s : String) : CpInfo := .utf8 (stringToUtf16 s)
/-- a pool by its gaps: so many unusable entries, then the entry; so many at the end -/
def gap : Nat → List CpInfo → List CpInfo
  | 0, r => r
  | n + 1, r => .unusable :: gap n r
def poolList (es : List (Nat × CpInfo)) (last : Nat) : List CpInfo := es.foldr (fun e r => gap e.1 (e.2 :: r)) (gap last [])
def pool (es : List (Nat × CpInfo)) (last : Nat) : Array CpInfo := ⟨poolList es last⟩
def fileOf (pool : Array CpInfo) (this : Nat) (attrs : Array Attribute := #[]) (ms : Array MethodInfo := #[]) (fl : Nat := 33) (sup : Nat := 0) (ifs : Array Nat := #[]) (fds : Array FieldInfo := #[]) : ClassFile where
  minorVersion := 0
  majorVersion := 65
  constantPool := pool
  accessFlags := fl
  thisClass := this
  superClass := sup
  interfaces := ifs
  fields := fds
  methods := ms
  attributes := attrs
def plain (name : String) (sup : Option ClassId) : Class where
  name := name
  kind := .ordinary
  loader := none
  accessFlags := 33
  super := sup
  interfaces := #[]
  cf := none
  fields := #[]
  methods := #[]
  instanceTypes := #[]
  staticTypes := #[]
  resolved := #[]
  callSites := []
  init := .initialized
  statics := none
  mirror := none

def pool0 : Array CpInfo := pool [(5, u "<init>"), (0, u "()V"), (1, .class_ 10), (1, u "java/lang/Object")] 113

def k0c0 : Code := { maxStack := 0, maxLocals := 1, code := object_method_1_code, exceptionTable := #[], attributes := #[] }
def k0m0 : Method := { name := "<init>", desc := "()V", sig := { parameters := [], returnType := none }, accessFlags := 1, code := some k0c0 }
/-- java/lang/Object -/
def k0 : Class := { plain "java/lang/Object" none with
  accessFlags := 33
  interfaces := #[]
  cf := some (fileOf pool0 8 #[] #[{ accessFlags := 1, nameIndex := 5, descriptorIndex := 6, attributes := #[] }] 33 0 #[] #[])
  fields := #[]
  methods := #[k0m0]
  instanceTypes := #[]
  staticTypes := #[]
  resolved := Array.replicate 124 none
  statics := none }

def pool1 : Array CpInfo := pool [(2, .class_ 4), (1, u "java/lang/Object"), (0, u "<init>"), (0, u "()V"), (0, .class_ 8), (0, u "com/example/carillon/carillon/Period"), (0, .methodref 7 10), (0, .nameAndType 5 11), (0, u "(II)V"), (0, .methodref 7 13), (0, .nameAndType 14 15), (0, u "isWithin"), (0, u "(II)Z"), (0, .methodref 17 18), (0, .class_ 19), (0, .nameAndType 20 15), (0, u "com/example/carillon/carillon/PeriodIsWithinPinLaw"), (0, u "inRange"), (3, u "law"), (0, u "(IIIII)Z")] 2

def k1m0 : Method := { name := "<init>", desc := "()V", sig := { parameters := [], returnType := none }, accessFlags := 1, code := none }
def k1c1 : Code := { maxStack := 4, maxLocals := 6, code := method_2_code, exceptionTable := #[], attributes := #[] }
def k1m1 : Method := { name := "inRange", desc := "(II)Z", sig := { parameters := [.int, .int], returnType := some .boolean }, accessFlags := 10, code := some k1c1 }
def k1c2 : Code := { maxStack := 4, maxLocals := 12, code := code, exceptionTable := #[], attributes := #[] }
def k1m2 : Method := { name := "law", desc := "(IIIII)Z", sig := { parameters := [.int, .int, .int, .int, .int], returnType := some .boolean }, accessFlags := 9, code := some k1c2 }
/-- com/example/carillon/carillon/PeriodIsWithinPinLaw -/
def k1 : Class := { plain "com/example/carillon/carillon/PeriodIsWithinPinLaw" (some 0) with
  accessFlags := 49
  interfaces := #[]
  cf := some (fileOf pool1 17 #[] #[{ accessFlags := 1, nameIndex := 5, descriptorIndex := 6, attributes := #[] }, { accessFlags := 10, nameIndex := 20, descriptorIndex := 15, attributes := #[] }, { accessFlags := 9, nameIndex := 24, descriptorIndex := 25, attributes := #[] }] 49 2 #[] #[])
  fields := #[]
  methods := #[k1m0, k1m1, k1m2]
  instanceTypes := #[]
  staticTypes := #[]
  resolved := Array.replicate 28 none
  statics := none }

def pool2 : Array CpInfo := pool [(1, .class_ 2), (0, u "java/lang/Comparable"), (0, .class_ 4), (0, u "java/lang/Object")] 7

/-- java/lang/Comparable -/
def k2 : Class := { plain "java/lang/Comparable" (some 0) with
  accessFlags := 1537
  interfaces := #[]
  cf := some (fileOf pool2 1 #[] #[] 1537 3 #[] #[])
  fields := #[]
  methods := #[]
  instanceTypes := #[]
  staticTypes := #[]
  resolved := Array.replicate 12 none
  statics := none }

def pool3 : Array CpInfo := pool [(1, .methodref 2 3), (0, .class_ 4), (0, .nameAndType 5 6), (0, u "java/lang/Object"), (0, u "<init>"), (0, u "()V"), (0, .fieldref 8 9), (0, .class_ 10), (0, .nameAndType 11 12), (0, u "com/example/carillon/carillon/Period"), (0, u "day"), (0, u "I"), (0, .fieldref 8 14), (0, .nameAndType 15 12), (0, u "periodOfDay"), (12, u "(II)V"), (2, u "ORDER"), (0, u "Ljava/util/Comparator;"), (36, .class_ 70), (0, u "java/lang/Comparable"), (7, u "isWithin"), (0, u "(II)Z")] 48

def k3c0 : Code := { maxStack := 2, maxLocals := 3, code := prog_13_method_1_code, exceptionTable := #[], attributes := #[] }
def k3m0 : Method := { name := "<init>", desc := "(II)V", sig := { parameters := [.int, .int], returnType := none }, accessFlags := 1, code := some k3c0 }
def k3c1 : Code := { maxStack := 2, maxLocals := 3, code := prog_13_method_4_code, exceptionTable := #[], attributes := #[] }
def k3m1 : Method := { name := "isWithin", desc := "(II)Z", sig := { parameters := [.int, .int], returnType := some .boolean }, accessFlags := 1, code := some k3c1 }
/-- com/example/carillon/carillon/Period -/
def k3 : Class := { plain "com/example/carillon/carillon/Period" (some 0) with
  accessFlags := 49
  interfaces := #[2]
  cf := some (fileOf pool3 8 #[] #[{ accessFlags := 1, nameIndex := 5, descriptorIndex := 28, attributes := #[] }, { accessFlags := 1, nameIndex := 78, descriptorIndex := 79, attributes := #[] }] 49 2 #[69] #[{ accessFlags := 26, nameIndex := 31, descriptorIndex := 32, attributes := #[] }, { accessFlags := 18, nameIndex := 11, descriptorIndex := 12, attributes := #[] }, { accessFlags := 18, nameIndex := 15, descriptorIndex := 12, attributes := #[] }])
  fields := #[{ name := "ORDER", type := (.object "java/util/Comparator"), accessFlags := 26, slot := 0, constantValue := 0 }, { name := "day", type := .int, accessFlags := 18, slot := 0, constantValue := 0 }, { name := "periodOfDay", type := .int, accessFlags := 18, slot := 1, constantValue := 0 }]
  methods := #[k3m0, k3m1]
  instanceTypes := #[.int, .int]
  staticTypes := #[(.object "java/util/Comparator")]
  resolved := Array.replicate 128 none
  statics := none }

def pool4 : Array CpInfo := pool [(1, u "java/lang/Cloneable"), (0, .class_ 1), (0, u "java/lang/Object"), (0, .class_ 3)] 3

/-- java/lang/Cloneable -/
def k4 : Class := { plain "java/lang/Cloneable" (some 0) with
  accessFlags := 1537
  interfaces := #[]
  cf := some (fileOf pool4 2 #[] #[] 1537 4 #[] #[])
  fields := #[]
  methods := #[]
  instanceTypes := #[]
  staticTypes := #[]
  resolved := Array.replicate 8 none
  statics := none }

def pool5 : Array CpInfo := pool [(1, u "java/io/Serializable"), (0, .class_ 1), (0, u "java/lang/Object"), (0, .class_ 3)] 3

/-- java/io/Serializable -/
def k5 : Class := { plain "java/io/Serializable" (some 0) with
  accessFlags := 1537
  interfaces := #[]
  cf := some (fileOf pool5 2 #[] #[] 1537 4 #[] #[])
  fields := #[]
  methods := #[]
  instanceTypes := #[]
  staticTypes := #[]
  resolved := Array.replicate 8 none
  statics := none }

/-- the primitive byte -/
def k6 : Class := { plain "byte" none with kind := .primitive 'B', accessFlags := 0x411 }
/-- [B -/
def k7 : Class := { plain "[B" (some 0) with kind := .array 6 .byte, interfaces := #[4, 5], accessFlags := 1041 }

/-- the primitive int -/
def k8 : Class := { plain "int" none with kind := .primitive 'I', accessFlags := 0x411 }
/-- [I -/
def k9 : Class := { plain "[I" (some 0) with kind := .array 8 .int, interfaces := #[4, 5], accessFlags := 1041 }

def heap : Heap := #[]
def classes : Array Class := #[k0, k1, k2, k3, k4, k5, k6, k7, k8, k9]
def interned : List (Array UInt16 × Addr) := []
def slotsUsed : Nat := 0
def theMethod : MethodId := ⟨1, 2⟩
def args0 : Array Value := #[.int 5, .int 5, .int 5, .int 5, .int 5]
def aboutOver (below : List Frame) : State where
  vm := { classes := classes, interned := interned.toArray }
  heap := heap
  slotsUsed := slotsUsed
  threads := #[{ frames := .invoking theMethod args0 :: below }]
def below0 : List Frame := [.native { method := ⟨0, 0⟩, args := #[] }]
def about1 : State := aboutOver below0
def p0 : Program := .bare "" "" ""
def e0 : Env := launch0.env 0 0 0
theorem w_frames : about1.frames = Frame.invoking theMethod args0 :: below0 := rfl
set_option maxRecDepth 65536 in
theorem w_args : argsFit about1.vm theMethod args0 = true := by decide +kernel
set_option maxRecDepth 65536 in
theorem w_heap : heapFits about1 = true := by decide +kernel
set_option maxRecDepth 65536 in
theorem w_runnable : about1.curStatus? = some .runnable := by decide +kernel
set_option maxRecDepth 65536 in
theorem w_alone : about1.alone = true := by decide +kernel
set_option maxRecDepth 65536 in
theorem w_named : about1.methodNamed? x = some theMethod := by decide +kernel
set_option maxRecDepth 65536 in
theorem w_hears : about1.hears theMethod below0 = true := by decide +kernel
set_option maxRecDepth 65536 in
theorem w_ripe : about1.ripe theMethod args0 below0 = true := by decide +kernel
theorem w_running : about1.status = .running := rfl
set_option maxRecDepth 65536 in
theorem w_room : about1.hasRoom e0.platform room_1 = true :=
  launch0.hasRoom_least _ room_1 (by decide +kernel) (by decide +kernel) (by decide +kernel) (by decide +kernel) (by decide +kernel) (by decide +kernel)
theorem allAtoms_all (ts : List Jvm.Cond) (a : Array Jvm.Value) (st : Jvm.State) : (allAtoms ts).before a st = ts.all (fun c => c.before a st) := by
  induction ts with
  | nil => rfl
  | cons c t ih =>
    show (Jvm.Cond.and c (allAtoms t)).before a st = _
    rw [Jvm.Cond.before_and, ih, List.all_cons]
def words1 : List Jvm.Cond := Jvm.Cond.code x code maxLocals ret :: tables_1
/-- a 'code' word, met by the world's own term for the bytes: nothing is compared byte by byte -/
theorem code_word {y : MethodName} {bytes : ByteArray} {mx : Nat} {rt : Option FieldType} {a : Array Value} {s : State} {m : MethodId} {meth : Method} {c : Code} (h1 : s.methodNamed? y = some m) (h2 : s.vm.method? m = some meth) (h3 : meth.code = some c) (h4 : c.code = bytes)
    (h5 : (c.maxLocals == mx && c.exceptionTable.isEmpty && decide (c.maxStack ≤ mostOperands) && decide (meth.sig.returnType = rt) && !meth.locks && decide (parseMethodDescriptor y.desc = some meth.sig)) = true) : (Jvm.Cond.code y bytes mx rt).before a s = true := by
  simp only [Bool.and_eq_true, beq_iff_eq, Bool.not_eq_true', decide_eq_true_eq] at h5
  obtain ⟨⟨⟨⟨⟨g1, g2⟩, g3⟩, g4⟩, g5⟩, g6⟩ := h5
  simp [Cond.before, Cond.holds, Cond.value, h1, h2, h3, h4, g1, g2, g3, g4, g5, g6]
def isCode : Jvm.Cond → Bool
  | .code _ _ _ _ => true
  | _ => false
theorem all_split {L : List Jvm.Cond} {P : Jvm.Cond → Bool} (h1 : L.all (fun c => isCode c || P c) = true) (h2 : ∀ c ∈ L.filter isCode, P c = true) : L.all P = true := by
  refine List.all_eq_true.mpr fun c hc => ?_
  have h := List.all_eq_true.mp h1 c hc
  rcases Bool.eq_false_or_eq_true (isCode c) with hi | hi
  · exact h2 c (List.mem_filter.mpr ⟨hc, hi⟩)
  · simpa [hi] using h
set_option maxRecDepth 65536 in
theorem w_c0 : (Jvm.Cond.code x code maxLocals ret).before args0 about1 = true := code_word (m := ⟨1, 2⟩) (meth := k1m2) (c := k1c2) (by decide +kernel) rfl rfl rfl (by decide +kernel)
set_option maxRecDepth 65536 in
theorem w_c1 : (Jvm.Cond.code ({ cls := "com/example/carillon/carillon/Period", name := "<init>", desc := "(II)V" } : Jvm.MethodName) prog_13_method_1_code (3 : Nat) (Option.none : Option Jvm.ClassFile.FieldType)).before args0 about1 = true := code_word (m := ⟨3, 0⟩) (meth := k3m0) (c := k3c0) (by decide +kernel) rfl rfl rfl (by decide +kernel)
set_option maxRecDepth 65536 in
theorem w_c2 : (Jvm.Cond.code ({ cls := "java/lang/Object", name := "<init>", desc := "()V" } : Jvm.MethodName) object_method_1_code (1 : Nat) (Option.none : Option Jvm.ClassFile.FieldType)).before args0 about1 = true := code_word (m := ⟨0, 0⟩) (meth := k0m0) (c := k0c0) (by decide +kernel) rfl rfl rfl (by decide +kernel)
set_option maxRecDepth 65536 in
theorem w_c3 : (Jvm.Cond.code ({ cls := "com/example/carillon/carillon/Period", name := "isWithin", desc := "(II)Z" } : Jvm.MethodName) prog_13_method_4_code (3 : Nat) (Option.some Jvm.ClassFile.FieldType.boolean)).before args0 about1 = true := code_word (m := ⟨3, 1⟩) (meth := k3m1) (c := k3c1) (by decide +kernel) rfl rfl rfl (by decide +kernel)
set_option maxRecDepth 65536 in
theorem w_c4 : (Jvm.Cond.code ({ cls := "com/example/carillon/carillon/PeriodIsWithinPinLaw", name := "inRange", desc := "(II)Z" } : Jvm.MethodName) method_2_code (6 : Nat) (Option.some Jvm.ClassFile.FieldType.boolean)).before args0 about1 = true := code_word (m := ⟨1, 1⟩) (meth := k1m1) (c := k1c1) (by decide +kernel) rfl rfl rfl (by decide +kernel)
def codes1 : List Jvm.Cond := [Jvm.Cond.code x code maxLocals ret, Jvm.Cond.code ({ cls := "com/example/carillon/carillon/Period", name := "<init>", desc := "(II)V" } : Jvm.MethodName) prog_13_method_1_code (3 : Nat) (Option.none : Option Jvm.ClassFile.FieldType), Jvm.Cond.code ({ cls := "java/lang/Object", name := "<init>", desc := "()V" } : Jvm.MethodName) object_method_1_code (1 : Nat) (Option.none : Option Jvm.ClassFile.FieldType), Jvm.Cond.code ({ cls := "com/example/carillon/carillon/Period", name := "isWithin", desc := "(II)Z" } : Jvm.MethodName) prog_13_method_4_code (3 : Nat) (Option.some Jvm.ClassFile.FieldType.boolean), Jvm.Cond.code ({ cls := "com/example/carillon/carillon/PeriodIsWithinPinLaw", name := "inRange", desc := "(II)Z" } : Jvm.MethodName) method_2_code (6 : Nat) (Option.some Jvm.ClassFile.FieldType.boolean)]
set_option maxRecDepth 65536 in
theorem codes_eq : words1.filter isCode = codes1 := rfl
theorem w_codes : ∀ c ∈ words1.filter isCode, c.before args0 about1 = true := by
  rw [codes_eq]
  intro c hc
  simp only [codes1, List.mem_cons, List.not_mem_nil, or_false] at hc
  rcases hc with rfl | rfl | rfl | rfl | rfl
  · exact w_c0
  · exact w_c1
  · exact w_c2
  · exact w_c3
  · exact w_c4
set_option maxRecDepth 65536 in
theorem w_t1 : words1.all (fun c => isCode c || c.before args0 about1) = true := by decide +kernel
theorem w_tables : (allAtoms (Jvm.Cond.code x code maxLocals ret :: tables_1)).before args0 about1 = true := by
  rw [allAtoms_all]
  show words1.all (fun c => c.before args0 about1) = true
  refine all_split ?_ w_codes
  rw [w_t1]
set_option maxRecDepth 65536 in
theorem w_case : (Jvm.Cond.and given_1 narrow_1).before args0 about1 = true := by decide +kernel
theorem w_applies : (headSpec (Jvm.Cond.code x code maxLocals ret :: tables_1) room_1).applies x e0.platform about1 = true :=
  (Spec.applies_iff w_frames).mpr ⟨w_running, w_runnable, w_alone, w_named, w_hears, w_ripe, w_room, w_tables⟩
theorem atStart : AtStart classFile x code maxLocals ret World_1 tables_1 room_1 Calls_1 rest_1 Pre_1 launch0 p0 e0 about1 theMethod args0 below0 :=
  ⟨lists_1, trivial, launch0.admits_env _ _ _, launch0.least_env, fairChoices_fair.cas, fairChoices_fair.clock, w_frames, w_args, w_heap, w_applies, trivial, trivial, w_case⟩
end start1
theorem witness_1 : WitnessClaimed_1 := ⟨start1.p0, start1.e0, start1.about1, start1.theMethod, start1.args0, start1.below0, start1.atStart⟩
end Jvm.Pilot.@@N@@
