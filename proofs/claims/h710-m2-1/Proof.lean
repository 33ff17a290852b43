import JvmDerived
import JvmDerived.Pilot.@@N@@Statement
import JvmDerived.Pilot.@@N@@Code
set_option linter.unusedVariables false
set_option linter.unusedSimpArgs false
@@BLOCK:NumsL.lean.txt@@
namespace Jvm.Pilot.@@N@@
open Jvm Jvm.ClassFile Sem Op Lib Jvm.Free Jvm.Stand Jvm.LawKit Jvm.RoadKit Bundle Jvm.Pilot.@@N@@.Jvm.D
section OwnKit
theorem own_w {Z : State} {a0 : Array Value} (hw : ∀ d ∈ tables_1, d.before a0 Z = true) {d : Jvm.Cond} (i : Nat) (h : tables_1[i]? = some d) : d.before a0 Z = true := hw d (List.mem_of_getElem? h)
theorem own_narb (x : Int32) : nar .byte (x.toInt8.toInt32) = x.toInt8.toInt32 := by
  show (x.toInt8.toInt32).toInt8.toInt32 = x.toInt8.toInt32
  rw [Int8.toInt8_toInt32]
theorem own_narc (x : Int32) : nar .char (x.toUInt32.toUInt16.toUInt32.toInt32) = x.toUInt32.toUInt16.toUInt32.toInt32 := by
  show (x.toUInt32.toUInt16.toUInt32.toInt32).toUInt32.toUInt16.toUInt32.toInt32 = _
  have : (x.toUInt32.toUInt16.toUInt32.toInt32).toUInt32 = x.toUInt32.toUInt16.toUInt32 := rfl
  rw [this]
  have : x.toUInt32.toUInt16.toUInt32.toUInt16 = x.toUInt32.toUInt16 := by rw [← UInt16.toNat_inj]; simp
  rw [this]
theorem own_plain {Z : State} {h : Heap} {a : Addr} {C : String} (F : Exa Z h a C) : ∃ c : Cell, h[a]? = some c ∧ c.vm.isStatics = false := by
  obtain ⟨c, _, h1, -, -, h4, -⟩ := F; exact ⟨c, h1, h4⟩
theorem own_plainV {Z : State} {h : Heap} {a : Addr} {k : ClassId} {ty : FieldType} {z : Int32} {vs : List Value} {d : Value} (F : Arv Z h a k ty z vs d) : ∃ c : Cell, h[a]? = some c ∧ c.vm.isStatics = false := by
  obtain ⟨c, A, -⟩ := F; exact ⟨c, A.1, A.plain⟩
theorem own_Sta_keep {Z : State} {h h' : Heap} {C n d : String} {v : Value} {ws : List Addr} (F : Sta Z h C n d v) (K : Keep h h' ws) (q : ∀ a ∈ ws, ∃ c : Cell, h[a]? = some c ∧ c.vm.isStatics = false) : Sta Z h' C n d v := by
  obtain ⟨cf, i, k, f, st, cell, h1, h2, h3, h4, h5, h6, h7⟩ := F
  have ne : st ∉ ws := fun hm => by
    obtain ⟨c, g1, g2⟩ := q st hm
    cases h5.symm.trans g1
    rw [h6] at g2; cases g2
  exact ⟨cf, i, k, f, st, cell, h1, h2, h3, h4, K.2.1 _ _ h5 ne, h6, h7⟩
theorem own_NSroot {Z : State} {a0 : Array Value} {O K : String} {j : Nat} (w : (Cond.noSuperclass O).before a0 Z = true) (wk : (Cond.instantiable K j).before a0 Z = true) (hn : O ≠ K) : NS Z O K := by
  obtain ⟨c, k, h1, h2, h3, -⟩ := Cond.noSuperclass_spec w
  obtain ⟨t, kt, g1, -⟩ := Cond.instantiable_spec wk
  refine ⟨c, t, h1, g1, fun fuel => ?_⟩
  cases fuel with
  | zero => rfl
  | succ f => simp [Vm.isSubclassAux, ids_ne h1 g1 hn, h2, h3]
theorem own_NSno {Z : State} {a0 : Array Value} {C S K : String} {j : Nat} (w : (Cond.superclass C S).before a0 Z = true) (wk : (Cond.instantiable K j).before a0 Z = true) (q : NS Z C K) (hn : C ≠ K) : ∃ c t, Z.vm.findClass C = some c ∧ Z.vm.findClass K = some t ∧ Z.vm.assignable c t = false := by
  obtain ⟨c, t, h0, g0, n3⟩ := q
  obtain ⟨_, k, _, _, h2, _, _, h5, -⟩ := Cond.superclass_spec h0 w
  obtain ⟨t', kt, g1, g2, g5, g7, -⟩ := Cond.instantiable_spec wk
  cases g0.symm.trans g1
  have g8 : kt.isInterface = false := by simpa using (Bool.or_eq_false_iff.mp g7).1
  refine ⟨c, t, h0, g0, ?_⟩
  show Z.vm.assignableAux (255 + 1) c t = false
  simp [Vm.assignableAux, ids_ne h0 g0 hn, h2, g2, h5, g5, g8, Vm.isSubclass, n3]
def own_b (P : Prop) [Decidable P] : Int32 := if P then 1 else 0
theorem own_b1 {P : Prop} [Decidable P] (h : P) : own_b P = 1 := if_pos h
theorem own_b0 {P : Prop} [Decidable P] (h : ¬ P) : own_b P = 0 := if_neg h
variable {p : Program} {l : Launch} {e : Env} {R : Room} {s : State} {m : MethodId} {args : Array Value} {below : List Frame} {meth : Method} {c : Code} {T : State} {locs : List Loc} {cells slots : Nat}
def own_Fin (p : Program) (e : Env) (below : List Frame) (s : State) (Q : Option Value → Heap → List Loc → Prop) (k n : Nat) (A : State) : Prop := ∃ s₂ o, Steps p.tables e below A s₂ ∧ s₂.status = .running ∧ Ended s₂ below o ∧ ∃ v L, o = .returned v ∧ Q v s₂.heap L ∧ FrameEnd s o s₂ L k n
theorem own_go {Q : Option Value → Heap → List Loc → Prop} {k n : Nat} {A B : State} (h : ∀ t, Steps p.tables e below B t → Steps p.tables e below A t) (q : own_Fin p e below s Q k n B) : own_Fin p e below s Q k n A := by
  obtain ⟨s₂, o, h1, h2⟩ := q
  exact ⟨s₂, o, h _ h1, h2⟩
theorem own_retN {Q : Option Value → Heap → List Loc → Prop} {k n : Nat} (X : Stand p l e R s m args below meth c T locs cells slots) (hx : p.tables.exec = Jvm.exec) (hlk : meth.locks = false) {pc : Nat} {Ls : Array Slot} {z w : Int32} {t : FieldType} {rest : List Value} (hret : meth.sig.returnType = some t) (ht : t = .boolean ∨ t = .byte ∨ t = .char ∨ t = .short)
    (hd : decode c.code pc = .ok (.ireturn, 1)) {h : Heap} (eT : T.heap = h) (hz : nar t z = w) (hQ : Q (some (.int w)) h locs) (hk : cells ≤ k) (hn : slots ≤ n) : own_Fin p e below s Q k n (T.setTop (mkF m pc Ls (.int z :: rest))) := by
  subst hz eT
  obtain ⟨fs, hr, hrun, hended, hW, hsame⟩ := X.leave (v := some (.int (nar t z))) (fun h => by rw [hret] at h; cases h) hlk
  exact ⟨_, _, retN X hx hret ht hd hr, hrun, hended, _, _, rfl, hQ, ⟨_, rfl⟩, hW, hsame.mono hk hn⟩
theorem own_retI {Q : Option Value → Heap → List Loc → Prop} {k n : Nat} (X : Stand p l e R s m args below meth c T locs cells slots) (hx : p.tables.exec = Jvm.exec) (hlk : meth.locks = false) {pc : Nat} {Ls : Array Slot} {z : Int32} {rest : List Value} (hret : meth.sig.returnType = some .int)
    (hd : decode c.code pc = .ok (.ireturn, 1)) {h : Heap} (eT : T.heap = h) (hQ : Q (some (.int z)) h locs) (hk : cells ≤ k) (hn : slots ≤ n) : own_Fin p e below s Q k n (T.setTop (mkF m pc Ls (.int z :: rest))) := by
  subst eT
  obtain ⟨fs, hr, hrun, hended, hW, hsame⟩ := X.leave (v := some (.int z)) (fun h => by rw [hret] at h; cases h) hlk
  exact ⟨_, _, retOut X hx hret rfl (Or.inl ⟨rfl, Or.inl rfl, z, rfl⟩) hd hr, hrun, hended, _, _, rfl, hQ, ⟨_, rfl⟩, hW, hsame.mono hk hn⟩
theorem own_retJ {Q : Option Value → Heap → List Loc → Prop} {k n : Nat} (X : Stand p l e R s m args below meth c T locs cells slots) (hx : p.tables.exec = Jvm.exec) (hlk : meth.locks = false) {pc : Nat} {Ls : Array Slot} {z : Int64} {rest : List Value} (hret : meth.sig.returnType = some .long)
    (hd : decode c.code pc = .ok (.lreturn, 1)) {h : Heap} (eT : T.heap = h) (hQ : Q (some (.long z)) h locs) (hk : cells ≤ k) (hn : slots ≤ n) : own_Fin p e below s Q k n (T.setTop (mkF m pc Ls (.long z :: rest))) := by
  subst eT
  obtain ⟨fs, hr, hrun, hended, hW, hsame⟩ := X.leave (v := some (.long z)) (fun h => by rw [hret] at h; cases h) hlk
  exact ⟨_, _, retOut X hx hret rfl (Or.inr (Or.inl ⟨rfl, rfl, z, rfl⟩)) hd hr, hrun, hended, _, _, rfl, hQ, ⟨_, rfl⟩, hW, hsame.mono hk hn⟩
theorem own_retD {Q : Option Value → Heap → List Loc → Prop} {k n : Nat} (X : Stand p l e R s m args below meth c T locs cells slots) (hx : p.tables.exec = Jvm.exec) (hlk : meth.locks = false) {pc : Nat} {Ls : Array Slot} {z : UInt64} {rest : List Value} (hret : meth.sig.returnType = some .double)
    (hd : decode c.code pc = .ok (.dreturn, 1)) {h : Heap} (eT : T.heap = h) (hQ : Q (some (.double z)) h locs) (hk : cells ≤ k) (hn : slots ≤ n) : own_Fin p e below s Q k n (T.setTop (mkF m pc Ls (.double z :: rest))) := by
  subst eT
  obtain ⟨fs, hr, hrun, hended, hW, hsame⟩ := X.leave (v := some (.double z)) (fun h => by rw [hret] at h; cases h) hlk
  exact ⟨_, _, retOut X hx hret rfl (Or.inr (Or.inr (Or.inl ⟨rfl, rfl, z, rfl⟩))) hd hr, hrun, hended, _, _, rfl, hQ, ⟨_, rfl⟩, hW, hsame.mono hk hn⟩
theorem own_retA {Q : Option Value → Heap → List Loc → Prop} {k n : Nat} (X : Stand p l e R s m args below meth c T locs cells slots) (hx : p.tables.exec = Jvm.exec) (hlk : meth.locks = false) {pc : Nat} {Ls : Array Slot} {w : Value} {t : FieldType} {rest : List Value} (hret : meth.sig.returnType = some t) (ht : t.isReference = true) (hw : w.isRef = true)
    (hd : decode c.code pc = .ok (.areturn, 1)) {h : Heap} (eT : T.heap = h) (hQ : Q (some w) h locs) (hk : cells ≤ k) (hn : slots ≤ n) : own_Fin p e below s Q k n (T.setTop (mkF m pc Ls (w :: rest))) := by
  subst eT
  obtain ⟨fs, hr, hrun, hended, hW, hsame⟩ := X.leave (v := some w) (fun h => by rw [hret] at h; cases h) hlk
  have hnw : narrow t w = w := by
    rcases ref_cases hw with rfl | ⟨z, rfl⟩ <;> cases t <;> first | rfl | (cases ht; done)
  exact ⟨_, _, retOut X hx hret hnw (Or.inr (Or.inr (Or.inr (Or.inr ⟨rfl, ht, hw⟩)))) hd hr, hrun, hended, _, _, rfl, hQ, ⟨_, rfl⟩, hW, hsame.mono hk hn⟩
theorem own_retV {Q : Option Value → Heap → List Loc → Prop} {k n : Nat} (X : Stand p l e R s m args below meth c T locs cells slots) (hx : p.tables.exec = Jvm.exec) (hlk : meth.locks = false) {pc : Nat} {Ls : Array Slot} (hret : meth.sig.returnType = none)
    (hd : decode c.code pc = .ok (.return_, 1)) {h : Heap} (eT : T.heap = h) (hQ : Q none h locs) (hk : cells ≤ k) (hn : slots ≤ n) : own_Fin p e below s Q k n (T.setTop (mkF m pc Ls [])) := by
  subst eT
  obtain ⟨fs, hr, hrun, hended, hW, hsame⟩ := X.leave (v := none) (fun _ => rfl) hlk
  exact ⟨_, _, X.returnOut hx hret hd hr, hrun, hended, _, _, rfl, hQ, ⟨_, rfl⟩, hW, hsame.mono hk hn⟩
end OwnKit
section OwnNums
theorem own_iushr (x : Int32) {n : UInt32} {k : Nat} (hn : n.toNat = k) (h0 : 0 < k) (hk : k < 32) : ((x.toUInt32 >>> n).toInt32).toInt = (x.toInt % 4294967296) / 2 ^ k := by
  have e2 : ((x.toUInt32 >>> n).toInt32).toBitVec.toNat = x.toBitVec.toNat / 2 ^ k := by
    simp only [UInt32.toBitVec_toInt32, UInt32.toBitVec_shiftRight, Int32.toBitVec_toUInt32]
    simp [BitVec.toNat_ushiftRight, Nat.shiftRight_eq_div_pow, hn, Nat.mod_eq_of_lt hk]
  have hb := x.toBitVec.isLt
  have hp : 2 ^ 1 ≤ 2 ^ k := Nat.pow_le_pow_right (by decide) h0
  have hle : x.toBitVec.toNat / 2 ^ k ≤ x.toBitVec.toNat / 2 ^ 1 := Nat.div_le_div_left hp (by decide)
  have e3 : ((x.toUInt32 >>> n).toInt32).toInt = ((x.toBitVec.toNat / 2 ^ k : Nat) : Int) := by
    have : ((x.toUInt32 >>> n).toInt32).toInt = ((x.toUInt32 >>> n).toInt32).toBitVec.toInt := rfl
    rw [this, BitVec.toInt_eq_toNat_cond, e2, if_pos (by omega)]
  have e4 : x.toInt % 4294967296 = (x.toBitVec.toNat : Int) := by
    have : x.toInt = x.toBitVec.toInt := rfl
    rw [this, BitVec.toInt_eq_toNat_cond]
    split <;> omega
  rw [e3, e4, Int.natCast_ediv, Int.natCast_pow]
  rfl
theorem own_lushr (x : Int64) {n : UInt64} {k : Nat} (hn : n.toNat = k) (h0 : 0 < k) (hk : k < 64) : ((x.toUInt64 >>> n).toInt64).toInt = (x.toInt % 18446744073709551616) / 2 ^ k := by
  have e2 : ((x.toUInt64 >>> n).toInt64).toBitVec.toNat = x.toBitVec.toNat / 2 ^ k := by
    simp only [UInt64.toBitVec_toInt64, UInt64.toBitVec_shiftRight, Int64.toBitVec_toUInt64]
    simp [BitVec.toNat_ushiftRight, Nat.shiftRight_eq_div_pow, hn, Nat.mod_eq_of_lt hk]
  have hb := x.toBitVec.isLt
  have hp : 2 ^ 1 ≤ 2 ^ k := Nat.pow_le_pow_right (by decide) h0
  have hle : x.toBitVec.toNat / 2 ^ k ≤ x.toBitVec.toNat / 2 ^ 1 := Nat.div_le_div_left hp (by decide)
  have e3 : ((x.toUInt64 >>> n).toInt64).toInt = ((x.toBitVec.toNat / 2 ^ k : Nat) : Int) := by
    have : ((x.toUInt64 >>> n).toInt64).toInt = ((x.toUInt64 >>> n).toInt64).toBitVec.toInt := rfl
    rw [this, BitVec.toInt_eq_toNat_cond, e2, if_pos (by omega)]
  have e4 : x.toInt % 18446744073709551616 = (x.toBitVec.toNat : Int) := by
    have : x.toInt = x.toBitVec.toInt := rfl
    rw [this, BitVec.toInt_eq_toNat_cond]
    split <;> omega
  rw [e3, e4, Int.natCast_ediv, Int.natCast_pow]
  rfl
theorem own_l2i (x : Int64) : (x.toInt32.toInt - x.toInt) % 4294967296 = 0 := by rw [Int64.toInt_toInt32]; exact bm32 _
theorem own_div32 {x y : Int32} (hx : 0 ≤ x.toInt) (hy : 0 < y.toInt) : (x / y).toInt = x.toInt / y.toInt := by
  rw [Jvm.Kit.i32_div (by omega), Int.tdiv_eq_ediv_of_nonneg hx]
theorem own_div64 {x y : Int64} (hx : 0 ≤ x.toInt) (hy : 0 < y.toInt) : (x / y).toInt = x.toInt / y.toInt := by
  rw [Jvm.Kit.i64_div (by omega), Int.tdiv_eq_ediv_of_nonneg hx]
theorem own_i2c (x : Int32) : (x.toUInt32.toUInt16.toUInt32.toInt32).toInt = x.toInt % 65536 := by
  have e2 : (x.toUInt32.toUInt16.toUInt32.toInt32).toBitVec.toNat = x.toBitVec.toNat % 65536 := by
    show (x.toUInt32.toUInt16.toUInt32).toNat = _
    simp
    rfl
  have hb := x.toBitVec.isLt
  have e3 : (x.toUInt32.toUInt16.toUInt32.toInt32).toInt = (x.toUInt32.toUInt16.toUInt32.toInt32).toBitVec.toInt := rfl
  have e4 : x.toInt = x.toBitVec.toInt := rfl
  rw [e3, e4, BitVec.toInt_eq_toNat_cond, BitVec.toInt_eq_toNat_cond, e2]
  split <;> split <;> omega
theorem own_i2b (x : Int32) : ((x.toInt8.toInt32).toInt - x.toInt) % 256 = 0 ∧ -128 ≤ (x.toInt8.toInt32).toInt ∧ (x.toInt8.toInt32).toInt < 128 := by
  have h1 : (x.toInt8.toInt32).toInt = x.toInt8.toInt := Int8.toInt_toInt32 _
  have h2 := x.toInt8.toInt_lt; have h3 := x.toInt8.le_toInt
  have h4 : x.toInt8.toInt = x.toInt.bmod 256 := Int32.toInt_toInt8 x
  have h5 := Int.bmod_emod (x := x.toInt) (m := 256)
  rw [h1]; omega
end OwnNums
theorem own_pd0 : parseMethodDescriptor "()V" = some ⟨[], none⟩ := by decide +kernel
theorem own_pd1 : parseMethodDescriptor "(JD)V" = some ⟨[.long, .double], none⟩ := by decide +kernel
theorem own_pd2 : parseMethodDescriptor "(IIIIIII)V" = some ⟨[.int, .int, .int, .int, .int, .int, .int], none⟩ := by decide +kernel
theorem own_pd3 : parseMethodDescriptor "()I" = some ⟨[], some .int⟩ := by decide +kernel
theorem own_pd4 : parseMethodDescriptor "()J" = some ⟨[], some .long⟩ := by decide +kernel
theorem own_pd5 : parseMethodDescriptor "()D" = some ⟨[], some .double⟩ := by decide +kernel
abbrev R_own_rm1 : Room := { frames := 1, cells := 0, slots := 0, locals := 12 }
theorem d1_0 : decode prog_50_method_1_code 0 = .ok (.aload_n 0, 1) := by decide +kernel
theorem d1_1 : decode prog_50_method_1_code 1 = .ok (.invokespecial 1, 3) := by decide +kernel
theorem d1_4 : decode prog_50_method_1_code 4 = .ok (.return_, 1) := by decide +kernel
theorem own_pn0 : plainName "com/example/carillon/carillon/search/Change" = true := by first | (simp [plainName, overriddenIn]; done) | decide +kernel
theorem ef_own_rm1 (m : MethodId) (x0 : Addr) : entryFrame m #[(.ref x0)] 1 = mkF m 0 #[.val (.ref x0)] [] := by first | (simp [entryFrame, mkF, argsToLocals, Value.category]; done) | rfl
def Q_own_rm1 (Z : State) (a1 : Addr) (h0 : Heap) (n0 : Nat) (v : Option Value) (h : Heap) (L : List Loc) : Prop := v = none ∧ Fr n0 L ∧ h = h0
set_option maxRecDepth 65536 in
set_option maxHeartbeats 400000000 in
theorem own_rm1 (l : Launch) (Z : State) (a0 : Array Value) (hw : ∀ d ∈ tables_1, d.before a0 Z = true) (ws : List Jvm.Cond) (a1 : Addr) (h0 : Heap) (n0 : Nat) (Z0 : n0 ≤ h0.size)  :
    MetFree l (⟨"com/example/carillon/carillon/search/Change", "<init>", "()V"⟩ : MethodName) (head1 (Jvm.Cond.code (⟨"com/example/carillon/carillon/search/Change", "<init>", "()V"⟩ : MethodName) prog_50_method_1_code 1 none :: ws) R_own_rm1) (fun a U => a = #[(.ref a1)] ∧ Z.Warmed39 U.vm ∧ U.heap = h0) (fun _ _ _ _ _ => True) (fun _ U o U' => ∃ v L, o = .returned v ∧ Q_own_rm1 Z a1 h0 n0 v U'.heap L ∧ FrameEnd U o U' L R_own_rm1.cells R_own_rm1.slots) := by
  refine MetFree.of_bodySF (plainFor_of_name own_pn0) hisR ?_
  intro p e s m args below meth c s₁ Bd hml0 hP hK
  obtain ⟨rfl, hZ, hh⟩ := hP
  have hx := Bd.exec
  have hby := Bd.bytes
  have hml : c.maxLocals = 1 := hml0
  have hown : s.vm.findClass "com/example/carillon/carillon/search/Change" = some m.cls := findClass_of_methodNamed Bd.named
  have hnm := (name_of_methodNamed Bd.named Bd.method).1
  have X0 : Stand p l e R_own_rm1 s m #[(.ref a1)] below meth c s₁ [] 0 0 := Stand.of_body Bd
  have e0 : s₁.heap = h0 := by rw [← hh, Bd.state]; rfl
  have N0 := Fr.nil n0
  have K0 : Keep h0 h0 [] := Keep.refl h0 []
  show own_Fin p e below s (Q_own_rm1 Z a1 h0 n0) R_own_rm1.cells R_own_rm1.slots (s₁.setTop (entryFrame m #[(.ref a1)] 1))
  refine own_go (fun _ k => castTop (ef_own_rm1 m a1) k) ?_
  show own_Fin _ _ _ _ _ _ _ (s₁.setTop (mkF m 0 #[.val (.ref a1)] []))
  refine own_go (B := s₁.setTop (mkF m 1 #[.val (.ref a1)] [(.ref a1)])) (fun _ k => XS.aloadN X0.here hx rfl (hb hby d1_0) rfl rfl k) ?_
  obtain ⟨T1, X1, e1, st1⟩ := initO X0 hx hZ hown (own_w hw 6 rfl) (own_w hw 7 rfl) (own_w hw 8 rfl) e0 (g := (mkF m 1 #[.val (.ref a1)] [(.ref a1)])) rfl (by rw [hml]; rfl) rfl (hb hby d1_1) (by decide) (W := 0) (by show 2 * 0 + _ ≤ _; exact Nat.le_of_eq rfl) (by decide)
  refine own_go (B := T1.setTop (mkF m 4 #[.val (.ref a1)] [])) st1 ?_
  exact own_retV X1 hx Bd.notSynchronized Bd.returns (hb hby d1_4) e1 ⟨rfl, N0, rfl⟩ (by decide) (by decide)
abbrev R_own_rm3 : Room := { frames := 0, cells := 0, slots := 0, locals := 0 }
theorem d3_0 : decode prog_50_method_3_code 0 = .ok (.aload_n 0, 1) := by decide +kernel
theorem d3_1 : decode prog_50_method_3_code 1 = .ok (.lload_n 1, 1) := by decide +kernel
theorem d3_2 : decode prog_50_method_3_code 2 = .ok (.putfield 31, 3) := by decide +kernel
theorem d3_5 : decode prog_50_method_3_code 5 = .ok (.aload_n 0, 1) := by decide +kernel
theorem d3_6 : decode prog_50_method_3_code 6 = .ok (.dload_n 3, 1) := by decide +kernel
theorem d3_7 : decode prog_50_method_3_code 7 = .ok (.putfield 35, 3) := by decide +kernel
theorem d3_10 : decode prog_50_method_3_code 10 = .ok (.return_, 1) := by decide +kernel
theorem ef_own_rm3 (m : MethodId) (x0 : Addr) (x1 : Int64) (x2 : UInt64) : entryFrame m #[(.ref x0), (.long x1), (.double x2)] 5 = mkF m 0 #[.val (.ref x0), .val (.long x1), .second, .val (.double x2), .second] [] := by first | (simp [entryFrame, mkF, argsToLocals, Value.category]; done) | rfl
def Q_own_rm3 (Z : State) (a1 : Addr) (q2 : Int64) (d3 : UInt64) (h0 : Heap) (n0 : Nat) (v : Option Value) (h : Heap) (L : List Loc) : Prop := v = none ∧ Fr n0 L ∧ Keep h0 h [a1] ∧ Exa Z h a1 "com/example/carillon/carillon/search/Change" ∧ Fld Z h a1 "com/example/carillon/carillon/search/Change" "hard" "J" (.long q2) ∧ Fld Z h a1 "com/example/carillon/carillon/search/Change" "soft" "D" (.double d3) ∧ Fld Z h a1 "com/example/carillon/carillon/search/Change" "lecture" "I" (.int (0 : Int32)) ∧ Fld Z h a1 "com/example/carillon/carillon/search/Change" "period" "I" (.int (0 : Int32)) ∧ Fld Z h a1 "com/example/carillon/carillon/search/Change" "room" "I" (.int (0 : Int32)) ∧ Fld Z h a1 "com/example/carillon/carillon/search/Change" "fromPeriod" "I" (.int (0 : Int32)) ∧ Fld Z h a1 "com/example/carillon/carillon/search/Change" "fromRoom" "I" (.int (0 : Int32)) ∧ Fld Z h a1 "com/example/carillon/carillon/search/Change" "other" "I" (.int (0 : Int32)) ∧ Fld Z h a1 "com/example/carillon/carillon/search/Change" "otherFrom" "I" (.int (0 : Int32))
set_option maxRecDepth 65536 in
set_option maxHeartbeats 400000000 in
theorem own_rm3 (l : Launch) (Z : State) (a0 : Array Value) (hw : ∀ d ∈ tables_1, d.before a0 Z = true) (ws : List Jvm.Cond) (a1 : Addr) (q2 : Int64) (d3 : UInt64) (h0 : Heap) (n0 : Nat) (Z0 : n0 ≤ h0.size) (P_E_a1 : Exa Z h0 a1 "com/example/carillon/carillon/search/Change") (P_F_a1_hard : Fld Z h0 a1 "com/example/carillon/carillon/search/Change" "hard" "J" (.long (0 : Int64))) (P_F_a1_soft : Fld Z h0 a1 "com/example/carillon/carillon/search/Change" "soft" "D" (.double (0 : UInt64))) (P_F_a1_lecture : Fld Z h0 a1 "com/example/carillon/carillon/search/Change" "lecture" "I" (.int (0 : Int32))) (P_F_a1_period : Fld Z h0 a1 "com/example/carillon/carillon/search/Change" "period" "I" (.int (0 : Int32))) (P_F_a1_room : Fld Z h0 a1 "com/example/carillon/carillon/search/Change" "room" "I" (.int (0 : Int32))) (P_F_a1_fromPeriod : Fld Z h0 a1 "com/example/carillon/carillon/search/Change" "fromPeriod" "I" (.int (0 : Int32))) (P_F_a1_fromRoom : Fld Z h0 a1 "com/example/carillon/carillon/search/Change" "fromRoom" "I" (.int (0 : Int32))) (P_F_a1_other : Fld Z h0 a1 "com/example/carillon/carillon/search/Change" "other" "I" (.int (0 : Int32))) (P_F_a1_otherFrom : Fld Z h0 a1 "com/example/carillon/carillon/search/Change" "otherFrom" "I" (.int (0 : Int32))) (g_a1 : n0 ≤ a1) :
    MetFree l (⟨"com/example/carillon/carillon/search/Change", "cost", "(JD)V"⟩ : MethodName) (head1 (Jvm.Cond.code (⟨"com/example/carillon/carillon/search/Change", "cost", "(JD)V"⟩ : MethodName) prog_50_method_3_code 5 none :: ws) R_own_rm3) (fun a U => a = #[(.ref a1), (.long q2), (.double d3)] ∧ Z.Warmed39 U.vm ∧ U.heap = h0) (fun _ _ _ _ _ => True) (fun _ U o U' => ∃ v L, o = .returned v ∧ Q_own_rm3 Z a1 q2 d3 h0 n0 v U'.heap L ∧ FrameEnd U o U' L R_own_rm3.cells R_own_rm3.slots) := by
  refine MetFree.of_bodySF (plainFor_of_name own_pn0) hisR ?_
  intro p e s m args below meth c s₁ Bd hml0 hP hK
  obtain ⟨rfl, hZ, hh⟩ := hP
  have hx := Bd.exec
  have hby := Bd.bytes
  have hml : c.maxLocals = 5 := hml0
  have hown : s.vm.findClass "com/example/carillon/carillon/search/Change" = some m.cls := findClass_of_methodNamed Bd.named
  have hnm := (name_of_methodNamed Bd.named Bd.method).1
  have X0 : Stand p l e R_own_rm3 s m #[(.ref a1), (.long q2), (.double d3)] below meth c s₁ [] 0 0 := Stand.of_body Bd
  have e0 : s₁.heap = h0 := by rw [← hh, Bd.state]; rfl
  have N0 := Fr.nil n0
  have K0 : Keep h0 h0 [a1] := Keep.refl h0 [a1]
  show own_Fin p e below s (Q_own_rm3 Z a1 q2 d3 h0 n0) R_own_rm3.cells R_own_rm3.slots (s₁.setTop (entryFrame m #[(.ref a1), (.long q2), (.double d3)] 5))
  refine own_go (fun _ k => castTop (ef_own_rm3 m a1 q2 d3) k) ?_
  show own_Fin _ _ _ _ _ _ _ (s₁.setTop (mkF m 0 #[.val (.ref a1), .val (.long q2), .second, .val (.double d3), .second] []))
  refine own_go (B := s₁.setTop (mkF m 1 #[.val (.ref a1), .val (.long q2), .second, .val (.double d3), .second] [(.ref a1)])) (fun _ k => XS.aloadN X0.here hx rfl (hb hby d3_0) rfl rfl k) ?_
  refine own_go (B := s₁.setTop (mkF m 2 #[.val (.ref a1), .val (.long q2), .second, .val (.double d3), .second] [(.long q2), (.ref a1)])) (fun _ k => XS.lloadN X0.here hx rfl (hb hby d3_1) rfl  k) ?_
  obtain ⟨T1, h1, X1, e1, W1, st1⟩ := putF X0 hx hZ hown (host := "") (Or.inl (own_w hw 14 rfl)) Via.refl e0 P_F_a1_hard P_E_a1 (Or.inl (own_w hw 15 rfl)) (own_w hw 1 rfl) (ty := .long) (by decide) rfl rfl (g := (mkF m 2 #[.val (.ref a1), .val (.long q2), .second, .val (.double d3), .second] [(.long q2), (.ref a1)])) rfl rfl (hb hby d3_2)
  have F_w1 : Fld Z h1 a1 "com/example/carillon/carillon/search/Change" "hard" "J" (.long q2) := P_F_a1_hard.same W1
  have E_3 := P_E_a1.wr W1
  have F_5 := P_F_a1_soft.other W1 (Or.inr (slot_ne (Or.inl (own_w hw 17 rfl)) (Or.inl (own_w hw 15 rfl)) (by decide) (t := .double) (t' := .long) (by decide) (by decide)))
  have F_6 := P_F_a1_lecture.other W1 (Or.inr (slot_ne (Or.inl (own_w hw 24 rfl)) (Or.inl (own_w hw 15 rfl)) (by decide) (t := .int) (t' := .long) (by decide) (by decide)))
  have F_7 := P_F_a1_period.other W1 (Or.inr (slot_ne (Or.inl (own_w hw 26 rfl)) (Or.inl (own_w hw 15 rfl)) (by decide) (t := .int) (t' := .long) (by decide) (by decide)))
  have F_8 := P_F_a1_room.other W1 (Or.inr (slot_ne (Or.inl (own_w hw 28 rfl)) (Or.inl (own_w hw 15 rfl)) (by decide) (t := .int) (t' := .long) (by decide) (by decide)))
  have F_9 := P_F_a1_fromPeriod.other W1 (Or.inr (slot_ne (Or.inl (own_w hw 30 rfl)) (Or.inl (own_w hw 15 rfl)) (by decide) (t := .int) (t' := .long) (by decide) (by decide)))
  have F_10 := P_F_a1_fromRoom.other W1 (Or.inr (slot_ne (Or.inl (own_w hw 32 rfl)) (Or.inl (own_w hw 15 rfl)) (by decide) (t := .int) (t' := .long) (by decide) (by decide)))
  have F_11 := P_F_a1_other.other W1 (Or.inr (slot_ne (Or.inl (own_w hw 34 rfl)) (Or.inl (own_w hw 15 rfl)) (by decide) (t := .int) (t' := .long) (by decide) (by decide)))
  have F_12 := P_F_a1_otherFrom.other W1 (Or.inr (slot_ne (Or.inl (own_w hw 36 rfl)) (Or.inl (own_w hw 15 rfl)) (by decide) (t := .int) (t' := .long) (by decide) (by decide)))
  have K13 : Keep h0 h1 [a1] := K0.wr W1 (Or.inl (List.mem_of_getElem? (i := 0) rfl))
  have N1 := Fr.snoc X1 N0 g_a1
  refine own_go (B := T1.setTop (mkF m 5 #[.val (.ref a1), .val (.long q2), .second, .val (.double d3), .second] [])) st1 ?_
  refine own_go (B := T1.setTop (mkF m 6 #[.val (.ref a1), .val (.long q2), .second, .val (.double d3), .second] [(.ref a1)])) (fun _ k => XS.aloadN X1.here hx rfl (hb hby d3_5) rfl rfl k) ?_
  refine own_go (B := T1.setTop (mkF m 7 #[.val (.ref a1), .val (.long q2), .second, .val (.double d3), .second] [(.double d3), (.ref a1)])) (fun _ k => XS.dloadN X1.here hx rfl (hb hby d3_6) rfl  k) ?_
  obtain ⟨T14, h14, X14, e14, W14, st14⟩ := putF X1 hx hZ hown (host := "") (Or.inl (own_w hw 16 rfl)) Via.refl e1 F_5 E_3 (Or.inl (own_w hw 17 rfl)) (own_w hw 1 rfl) (ty := .double) (by decide) rfl rfl (g := (mkF m 7 #[.val (.ref a1), .val (.long q2), .second, .val (.double d3), .second] [(.double d3), (.ref a1)])) rfl rfl (hb hby d3_7)
  have F_w14 : Fld Z h14 a1 "com/example/carillon/carillon/search/Change" "soft" "D" (.double d3) := F_5.same W14
  have E_16 := E_3.wr W14
  have F_18 := F_6.other W14 (Or.inr (slot_ne (Or.inl (own_w hw 24 rfl)) (Or.inl (own_w hw 17 rfl)) (by decide) (t := .int) (t' := .double) (by decide) (by decide)))
  have F_19 := F_7.other W14 (Or.inr (slot_ne (Or.inl (own_w hw 26 rfl)) (Or.inl (own_w hw 17 rfl)) (by decide) (t := .int) (t' := .double) (by decide) (by decide)))
  have F_20 := F_8.other W14 (Or.inr (slot_ne (Or.inl (own_w hw 28 rfl)) (Or.inl (own_w hw 17 rfl)) (by decide) (t := .int) (t' := .double) (by decide) (by decide)))
  have F_21 := F_9.other W14 (Or.inr (slot_ne (Or.inl (own_w hw 30 rfl)) (Or.inl (own_w hw 17 rfl)) (by decide) (t := .int) (t' := .double) (by decide) (by decide)))
  have F_22 := F_10.other W14 (Or.inr (slot_ne (Or.inl (own_w hw 32 rfl)) (Or.inl (own_w hw 17 rfl)) (by decide) (t := .int) (t' := .double) (by decide) (by decide)))
  have F_23 := F_11.other W14 (Or.inr (slot_ne (Or.inl (own_w hw 34 rfl)) (Or.inl (own_w hw 17 rfl)) (by decide) (t := .int) (t' := .double) (by decide) (by decide)))
  have F_24 := F_12.other W14 (Or.inr (slot_ne (Or.inl (own_w hw 36 rfl)) (Or.inl (own_w hw 17 rfl)) (by decide) (t := .int) (t' := .double) (by decide) (by decide)))
  have F_25 := F_w1.other W14 (Or.inr (slot_ne (Or.inl (own_w hw 15 rfl)) (Or.inl (own_w hw 17 rfl)) (by decide) (t := .long) (t' := .double) (by decide) (by decide)))
  have K26 : Keep h0 h14 [a1] := K13.wr W14 (Or.inl (List.mem_of_getElem? (i := 0) rfl))
  have N14 := Fr.snoc X14 N1 g_a1
  refine own_go (B := T14.setTop (mkF m 10 #[.val (.ref a1), .val (.long q2), .second, .val (.double d3), .second] [])) st14 ?_
  exact own_retV X14 hx Bd.notSynchronized Bd.returns (hb hby d3_10) e14 ⟨rfl, N14, K26, E_16, F_25, F_w14, F_18, F_19, F_20, F_21, F_22, F_23, F_24⟩ (by decide) (by decide)
abbrev R_own_rm4 : Room := { frames := 0, cells := 0, slots := 0, locals := 0 }
theorem d4_0 : decode prog_50_method_2_code 0 = .ok (.aload_n 0, 1) := by decide +kernel
theorem d4_1 : decode prog_50_method_2_code 1 = .ok (.iload_n 1, 1) := by decide +kernel
theorem d4_2 : decode prog_50_method_2_code 2 = .ok (.putfield 7, 3) := by decide +kernel
theorem d4_5 : decode prog_50_method_2_code 5 = .ok (.aload_n 0, 1) := by decide +kernel
theorem d4_6 : decode prog_50_method_2_code 6 = .ok (.iload_n 2, 1) := by decide +kernel
theorem d4_7 : decode prog_50_method_2_code 7 = .ok (.putfield 13, 3) := by decide +kernel
theorem d4_10 : decode prog_50_method_2_code 10 = .ok (.aload_n 0, 1) := by decide +kernel
theorem d4_11 : decode prog_50_method_2_code 11 = .ok (.iload_n 3, 1) := by decide +kernel
theorem d4_12 : decode prog_50_method_2_code 12 = .ok (.putfield 16, 3) := by decide +kernel
theorem d4_15 : decode prog_50_method_2_code 15 = .ok (.aload_n 0, 1) := by decide +kernel
theorem d4_16 : decode prog_50_method_2_code 16 = .ok (.iload 4, 2) := by decide +kernel
theorem d4_18 : decode prog_50_method_2_code 18 = .ok (.putfield 19, 3) := by decide +kernel
theorem d4_21 : decode prog_50_method_2_code 21 = .ok (.aload_n 0, 1) := by decide +kernel
theorem d4_22 : decode prog_50_method_2_code 22 = .ok (.iload 5, 2) := by decide +kernel
theorem d4_24 : decode prog_50_method_2_code 24 = .ok (.putfield 22, 3) := by decide +kernel
theorem d4_27 : decode prog_50_method_2_code 27 = .ok (.aload_n 0, 1) := by decide +kernel
theorem d4_28 : decode prog_50_method_2_code 28 = .ok (.iload 6, 2) := by decide +kernel
theorem d4_30 : decode prog_50_method_2_code 30 = .ok (.putfield 25, 3) := by decide +kernel
theorem d4_33 : decode prog_50_method_2_code 33 = .ok (.aload_n 0, 1) := by decide +kernel
theorem d4_34 : decode prog_50_method_2_code 34 = .ok (.iload 7, 2) := by decide +kernel
theorem d4_36 : decode prog_50_method_2_code 36 = .ok (.putfield 28, 3) := by decide +kernel
theorem d4_39 : decode prog_50_method_2_code 39 = .ok (.return_, 1) := by decide +kernel
theorem ef_own_rm4 (m : MethodId) (x0 : Addr) (x1 : Int32) (x2 : Int32) (x3 : Int32) (x4 : Int32) (x5 : Int32) (x6 : Int32) (x7 : Int32) : entryFrame m #[(.ref x0), (.int x1), (.int x2), (.int x3), (.int x4), (.int x5), (.int x6), (.int x7)] 8 = mkF m 0 #[.val (.ref x0), .val (.int x1), .val (.int x2), .val (.int x3), .val (.int x4), .val (.int x5), .val (.int x6), .val (.int x7)] [] := by first | (simp [entryFrame, mkF, argsToLocals, Value.category]; done) | rfl
def Q_own_rm4 (Z : State) (a1 : Addr) (p2 : Int32) (p3 : Int32) (p4 : Int32) (p5 : Int32) (p6 : Int32) (p7 : Int32) (p8 : Int32) (q2 : Int64) (d3 : UInt64) (h0 : Heap) (n0 : Nat) (v : Option Value) (h : Heap) (L : List Loc) : Prop := v = none ∧ Fr n0 L ∧ Keep h0 h [a1] ∧ Exa Z h a1 "com/example/carillon/carillon/search/Change" ∧ Fld Z h a1 "com/example/carillon/carillon/search/Change" "hard" "J" (.long q2) ∧ Fld Z h a1 "com/example/carillon/carillon/search/Change" "soft" "D" (.double d3) ∧ Fld Z h a1 "com/example/carillon/carillon/search/Change" "lecture" "I" (.int p2) ∧ Fld Z h a1 "com/example/carillon/carillon/search/Change" "period" "I" (.int p3) ∧ Fld Z h a1 "com/example/carillon/carillon/search/Change" "room" "I" (.int p4) ∧ Fld Z h a1 "com/example/carillon/carillon/search/Change" "fromPeriod" "I" (.int p5) ∧ Fld Z h a1 "com/example/carillon/carillon/search/Change" "fromRoom" "I" (.int p6) ∧ Fld Z h a1 "com/example/carillon/carillon/search/Change" "other" "I" (.int p7) ∧ Fld Z h a1 "com/example/carillon/carillon/search/Change" "otherFrom" "I" (.int p8)
set_option maxRecDepth 65536 in
set_option maxHeartbeats 400000000 in
theorem own_rm4 (l : Launch) (Z : State) (a0 : Array Value) (hw : ∀ d ∈ tables_1, d.before a0 Z = true) (ws : List Jvm.Cond) (a1 : Addr) (p2 : Int32) (p3 : Int32) (p4 : Int32) (p5 : Int32) (p6 : Int32) (p7 : Int32) (p8 : Int32) (q2 : Int64) (d3 : UInt64) (h0 : Heap) (n0 : Nat) (Z0 : n0 ≤ h0.size) (P_E_a1 : Exa Z h0 a1 "com/example/carillon/carillon/search/Change") (P_F_a1_hard : Fld Z h0 a1 "com/example/carillon/carillon/search/Change" "hard" "J" (.long q2)) (P_F_a1_soft : Fld Z h0 a1 "com/example/carillon/carillon/search/Change" "soft" "D" (.double d3)) (P_F_a1_lecture : Fld Z h0 a1 "com/example/carillon/carillon/search/Change" "lecture" "I" (.int (0 : Int32))) (P_F_a1_period : Fld Z h0 a1 "com/example/carillon/carillon/search/Change" "period" "I" (.int (0 : Int32))) (P_F_a1_room : Fld Z h0 a1 "com/example/carillon/carillon/search/Change" "room" "I" (.int (0 : Int32))) (P_F_a1_fromPeriod : Fld Z h0 a1 "com/example/carillon/carillon/search/Change" "fromPeriod" "I" (.int (0 : Int32))) (P_F_a1_fromRoom : Fld Z h0 a1 "com/example/carillon/carillon/search/Change" "fromRoom" "I" (.int (0 : Int32))) (P_F_a1_other : Fld Z h0 a1 "com/example/carillon/carillon/search/Change" "other" "I" (.int (0 : Int32))) (P_F_a1_otherFrom : Fld Z h0 a1 "com/example/carillon/carillon/search/Change" "otherFrom" "I" (.int (0 : Int32))) (g_a1 : n0 ≤ a1) :
    MetFree l (⟨"com/example/carillon/carillon/search/Change", "set", "(IIIIIII)V"⟩ : MethodName) (head1 (Jvm.Cond.code (⟨"com/example/carillon/carillon/search/Change", "set", "(IIIIIII)V"⟩ : MethodName) prog_50_method_2_code 8 none :: ws) R_own_rm4) (fun a U => a = #[(.ref a1), (.int p2), (.int p3), (.int p4), (.int p5), (.int p6), (.int p7), (.int p8)] ∧ Z.Warmed39 U.vm ∧ U.heap = h0) (fun _ _ _ _ _ => True) (fun _ U o U' => ∃ v L, o = .returned v ∧ Q_own_rm4 Z a1 p2 p3 p4 p5 p6 p7 p8 q2 d3 h0 n0 v U'.heap L ∧ FrameEnd U o U' L R_own_rm4.cells R_own_rm4.slots) := by
  refine MetFree.of_bodySF (plainFor_of_name own_pn0) hisR ?_
  intro p e s m args below meth c s₁ Bd hml0 hP hK
  obtain ⟨rfl, hZ, hh⟩ := hP
  have hx := Bd.exec
  have hby := Bd.bytes
  have hml : c.maxLocals = 8 := hml0
  have hown : s.vm.findClass "com/example/carillon/carillon/search/Change" = some m.cls := findClass_of_methodNamed Bd.named
  have hnm := (name_of_methodNamed Bd.named Bd.method).1
  have X0 : Stand p l e R_own_rm4 s m #[(.ref a1), (.int p2), (.int p3), (.int p4), (.int p5), (.int p6), (.int p7), (.int p8)] below meth c s₁ [] 0 0 := Stand.of_body Bd
  have e0 : s₁.heap = h0 := by rw [← hh, Bd.state]; rfl
  have N0 := Fr.nil n0
  have K0 : Keep h0 h0 [a1] := Keep.refl h0 [a1]
  show own_Fin p e below s (Q_own_rm4 Z a1 p2 p3 p4 p5 p6 p7 p8 q2 d3 h0 n0) R_own_rm4.cells R_own_rm4.slots (s₁.setTop (entryFrame m #[(.ref a1), (.int p2), (.int p3), (.int p4), (.int p5), (.int p6), (.int p7), (.int p8)] 8))
  refine own_go (fun _ k => castTop (ef_own_rm4 m a1 p2 p3 p4 p5 p6 p7 p8) k) ?_
  show own_Fin _ _ _ _ _ _ _ (s₁.setTop (mkF m 0 #[.val (.ref a1), .val (.int p2), .val (.int p3), .val (.int p4), .val (.int p5), .val (.int p6), .val (.int p7), .val (.int p8)] []))
  refine own_go (B := s₁.setTop (mkF m 1 #[.val (.ref a1), .val (.int p2), .val (.int p3), .val (.int p4), .val (.int p5), .val (.int p6), .val (.int p7), .val (.int p8)] [(.ref a1)])) (fun _ k => XS.aloadN X0.here hx rfl (hb hby d4_0) rfl rfl k) ?_
  refine own_go (B := s₁.setTop (mkF m 2 #[.val (.ref a1), .val (.int p2), .val (.int p3), .val (.int p4), .val (.int p5), .val (.int p6), .val (.int p7), .val (.int p8)] [(.int p2), (.ref a1)])) (fun _ k => XS.iloadN X0.here hx rfl (hb hby d4_1) rfl  k) ?_
  obtain ⟨T1, h1, X1, e1, W1, st1⟩ := putF X0 hx hZ hown (host := "") (Or.inl (own_w hw 23 rfl)) Via.refl e0 P_F_a1_lecture P_E_a1 (Or.inl (own_w hw 24 rfl)) (own_w hw 1 rfl) (ty := .int) (by decide) rfl rfl (g := (mkF m 2 #[.val (.ref a1), .val (.int p2), .val (.int p3), .val (.int p4), .val (.int p5), .val (.int p6), .val (.int p7), .val (.int p8)] [(.int p2), (.ref a1)])) rfl rfl (hb hby d4_2)
  have F_w1 : Fld Z h1 a1 "com/example/carillon/carillon/search/Change" "lecture" "I" (.int p2) := P_F_a1_lecture.same W1
  have E_3 := P_E_a1.wr W1
  have F_4 := P_F_a1_hard.other W1 (Or.inr (slot_ne (Or.inl (own_w hw 15 rfl)) (Or.inl (own_w hw 24 rfl)) (by decide) (t := .long) (t' := .int) (by decide) (by decide)))
  have F_5 := P_F_a1_soft.other W1 (Or.inr (slot_ne (Or.inl (own_w hw 17 rfl)) (Or.inl (own_w hw 24 rfl)) (by decide) (t := .double) (t' := .int) (by decide) (by decide)))
  have F_7 := P_F_a1_period.other W1 (Or.inr (slot_ne (Or.inl (own_w hw 26 rfl)) (Or.inl (own_w hw 24 rfl)) (by decide) (t := .int) (t' := .int) (by decide) (by decide)))
  have F_8 := P_F_a1_room.other W1 (Or.inr (slot_ne (Or.inl (own_w hw 28 rfl)) (Or.inl (own_w hw 24 rfl)) (by decide) (t := .int) (t' := .int) (by decide) (by decide)))
  have F_9 := P_F_a1_fromPeriod.other W1 (Or.inr (slot_ne (Or.inl (own_w hw 30 rfl)) (Or.inl (own_w hw 24 rfl)) (by decide) (t := .int) (t' := .int) (by decide) (by decide)))
  have F_10 := P_F_a1_fromRoom.other W1 (Or.inr (slot_ne (Or.inl (own_w hw 32 rfl)) (Or.inl (own_w hw 24 rfl)) (by decide) (t := .int) (t' := .int) (by decide) (by decide)))
  have F_11 := P_F_a1_other.other W1 (Or.inr (slot_ne (Or.inl (own_w hw 34 rfl)) (Or.inl (own_w hw 24 rfl)) (by decide) (t := .int) (t' := .int) (by decide) (by decide)))
  have F_12 := P_F_a1_otherFrom.other W1 (Or.inr (slot_ne (Or.inl (own_w hw 36 rfl)) (Or.inl (own_w hw 24 rfl)) (by decide) (t := .int) (t' := .int) (by decide) (by decide)))
  have K13 : Keep h0 h1 [a1] := K0.wr W1 (Or.inl (List.mem_of_getElem? (i := 0) rfl))
  have N1 := Fr.snoc X1 N0 g_a1
  refine own_go (B := T1.setTop (mkF m 5 #[.val (.ref a1), .val (.int p2), .val (.int p3), .val (.int p4), .val (.int p5), .val (.int p6), .val (.int p7), .val (.int p8)] [])) st1 ?_
  refine own_go (B := T1.setTop (mkF m 6 #[.val (.ref a1), .val (.int p2), .val (.int p3), .val (.int p4), .val (.int p5), .val (.int p6), .val (.int p7), .val (.int p8)] [(.ref a1)])) (fun _ k => XS.aloadN X1.here hx rfl (hb hby d4_5) rfl rfl k) ?_
  refine own_go (B := T1.setTop (mkF m 7 #[.val (.ref a1), .val (.int p2), .val (.int p3), .val (.int p4), .val (.int p5), .val (.int p6), .val (.int p7), .val (.int p8)] [(.int p3), (.ref a1)])) (fun _ k => XS.iloadN X1.here hx rfl (hb hby d4_6) rfl  k) ?_
  obtain ⟨T14, h14, X14, e14, W14, st14⟩ := putF X1 hx hZ hown (host := "") (Or.inl (own_w hw 25 rfl)) Via.refl e1 F_7 E_3 (Or.inl (own_w hw 26 rfl)) (own_w hw 1 rfl) (ty := .int) (by decide) rfl rfl (g := (mkF m 7 #[.val (.ref a1), .val (.int p2), .val (.int p3), .val (.int p4), .val (.int p5), .val (.int p6), .val (.int p7), .val (.int p8)] [(.int p3), (.ref a1)])) rfl rfl (hb hby d4_7)
  have F_w14 : Fld Z h14 a1 "com/example/carillon/carillon/search/Change" "period" "I" (.int p3) := F_7.same W14
  have E_16 := E_3.wr W14
  have F_17 := F_4.other W14 (Or.inr (slot_ne (Or.inl (own_w hw 15 rfl)) (Or.inl (own_w hw 26 rfl)) (by decide) (t := .long) (t' := .int) (by decide) (by decide)))
  have F_18 := F_5.other W14 (Or.inr (slot_ne (Or.inl (own_w hw 17 rfl)) (Or.inl (own_w hw 26 rfl)) (by decide) (t := .double) (t' := .int) (by decide) (by decide)))
  have F_20 := F_8.other W14 (Or.inr (slot_ne (Or.inl (own_w hw 28 rfl)) (Or.inl (own_w hw 26 rfl)) (by decide) (t := .int) (t' := .int) (by decide) (by decide)))
  have F_21 := F_9.other W14 (Or.inr (slot_ne (Or.inl (own_w hw 30 rfl)) (Or.inl (own_w hw 26 rfl)) (by decide) (t := .int) (t' := .int) (by decide) (by decide)))
  have F_22 := F_10.other W14 (Or.inr (slot_ne (Or.inl (own_w hw 32 rfl)) (Or.inl (own_w hw 26 rfl)) (by decide) (t := .int) (t' := .int) (by decide) (by decide)))
  have F_23 := F_11.other W14 (Or.inr (slot_ne (Or.inl (own_w hw 34 rfl)) (Or.inl (own_w hw 26 rfl)) (by decide) (t := .int) (t' := .int) (by decide) (by decide)))
  have F_24 := F_12.other W14 (Or.inr (slot_ne (Or.inl (own_w hw 36 rfl)) (Or.inl (own_w hw 26 rfl)) (by decide) (t := .int) (t' := .int) (by decide) (by decide)))
  have F_25 := F_w1.other W14 (Or.inr (slot_ne (Or.inl (own_w hw 24 rfl)) (Or.inl (own_w hw 26 rfl)) (by decide) (t := .int) (t' := .int) (by decide) (by decide)))
  have K26 : Keep h0 h14 [a1] := K13.wr W14 (Or.inl (List.mem_of_getElem? (i := 0) rfl))
  have N14 := Fr.snoc X14 N1 g_a1
  refine own_go (B := T14.setTop (mkF m 10 #[.val (.ref a1), .val (.int p2), .val (.int p3), .val (.int p4), .val (.int p5), .val (.int p6), .val (.int p7), .val (.int p8)] [])) st14 ?_
  refine own_go (B := T14.setTop (mkF m 11 #[.val (.ref a1), .val (.int p2), .val (.int p3), .val (.int p4), .val (.int p5), .val (.int p6), .val (.int p7), .val (.int p8)] [(.ref a1)])) (fun _ k => XS.aloadN X14.here hx rfl (hb hby d4_10) rfl rfl k) ?_
  refine own_go (B := T14.setTop (mkF m 12 #[.val (.ref a1), .val (.int p2), .val (.int p3), .val (.int p4), .val (.int p5), .val (.int p6), .val (.int p7), .val (.int p8)] [(.int p4), (.ref a1)])) (fun _ k => XS.iloadN X14.here hx rfl (hb hby d4_11) rfl  k) ?_
  obtain ⟨T27, h27, X27, e27, W27, st27⟩ := putF X14 hx hZ hown (host := "") (Or.inl (own_w hw 27 rfl)) Via.refl e14 F_20 E_16 (Or.inl (own_w hw 28 rfl)) (own_w hw 1 rfl) (ty := .int) (by decide) rfl rfl (g := (mkF m 12 #[.val (.ref a1), .val (.int p2), .val (.int p3), .val (.int p4), .val (.int p5), .val (.int p6), .val (.int p7), .val (.int p8)] [(.int p4), (.ref a1)])) rfl rfl (hb hby d4_12)
  have F_w27 : Fld Z h27 a1 "com/example/carillon/carillon/search/Change" "room" "I" (.int p4) := F_20.same W27
  have E_29 := E_16.wr W27
  have F_30 := F_17.other W27 (Or.inr (slot_ne (Or.inl (own_w hw 15 rfl)) (Or.inl (own_w hw 28 rfl)) (by decide) (t := .long) (t' := .int) (by decide) (by decide)))
  have F_31 := F_18.other W27 (Or.inr (slot_ne (Or.inl (own_w hw 17 rfl)) (Or.inl (own_w hw 28 rfl)) (by decide) (t := .double) (t' := .int) (by decide) (by decide)))
  have F_33 := F_21.other W27 (Or.inr (slot_ne (Or.inl (own_w hw 30 rfl)) (Or.inl (own_w hw 28 rfl)) (by decide) (t := .int) (t' := .int) (by decide) (by decide)))
  have F_34 := F_22.other W27 (Or.inr (slot_ne (Or.inl (own_w hw 32 rfl)) (Or.inl (own_w hw 28 rfl)) (by decide) (t := .int) (t' := .int) (by decide) (by decide)))
  have F_35 := F_23.other W27 (Or.inr (slot_ne (Or.inl (own_w hw 34 rfl)) (Or.inl (own_w hw 28 rfl)) (by decide) (t := .int) (t' := .int) (by decide) (by decide)))
  have F_36 := F_24.other W27 (Or.inr (slot_ne (Or.inl (own_w hw 36 rfl)) (Or.inl (own_w hw 28 rfl)) (by decide) (t := .int) (t' := .int) (by decide) (by decide)))
  have F_37 := F_25.other W27 (Or.inr (slot_ne (Or.inl (own_w hw 24 rfl)) (Or.inl (own_w hw 28 rfl)) (by decide) (t := .int) (t' := .int) (by decide) (by decide)))
  have F_38 := F_w14.other W27 (Or.inr (slot_ne (Or.inl (own_w hw 26 rfl)) (Or.inl (own_w hw 28 rfl)) (by decide) (t := .int) (t' := .int) (by decide) (by decide)))
  have K39 : Keep h0 h27 [a1] := K26.wr W27 (Or.inl (List.mem_of_getElem? (i := 0) rfl))
  have N27 := Fr.snoc X27 N14 g_a1
  refine own_go (B := T27.setTop (mkF m 15 #[.val (.ref a1), .val (.int p2), .val (.int p3), .val (.int p4), .val (.int p5), .val (.int p6), .val (.int p7), .val (.int p8)] [])) st27 ?_
  refine own_go (B := T27.setTop (mkF m 16 #[.val (.ref a1), .val (.int p2), .val (.int p3), .val (.int p4), .val (.int p5), .val (.int p6), .val (.int p7), .val (.int p8)] [(.ref a1)])) (fun _ k => XS.aloadN X27.here hx rfl (hb hby d4_15) rfl rfl k) ?_
  refine own_go (B := T27.setTop (mkF m 18 #[.val (.ref a1), .val (.int p2), .val (.int p3), .val (.int p4), .val (.int p5), .val (.int p6), .val (.int p7), .val (.int p8)] [(.int p5), (.ref a1)])) (fun _ k => XS.iload X27.here hx rfl (hb hby d4_16) rfl  k) ?_
  obtain ⟨T40, h40, X40, e40, W40, st40⟩ := putF X27 hx hZ hown (host := "") (Or.inl (own_w hw 29 rfl)) Via.refl e27 F_33 E_29 (Or.inl (own_w hw 30 rfl)) (own_w hw 1 rfl) (ty := .int) (by decide) rfl rfl (g := (mkF m 18 #[.val (.ref a1), .val (.int p2), .val (.int p3), .val (.int p4), .val (.int p5), .val (.int p6), .val (.int p7), .val (.int p8)] [(.int p5), (.ref a1)])) rfl rfl (hb hby d4_18)
  have F_w40 : Fld Z h40 a1 "com/example/carillon/carillon/search/Change" "fromPeriod" "I" (.int p5) := F_33.same W40
  have E_42 := E_29.wr W40
  have F_43 := F_30.other W40 (Or.inr (slot_ne (Or.inl (own_w hw 15 rfl)) (Or.inl (own_w hw 30 rfl)) (by decide) (t := .long) (t' := .int) (by decide) (by decide)))
  have F_44 := F_31.other W40 (Or.inr (slot_ne (Or.inl (own_w hw 17 rfl)) (Or.inl (own_w hw 30 rfl)) (by decide) (t := .double) (t' := .int) (by decide) (by decide)))
  have F_46 := F_34.other W40 (Or.inr (slot_ne (Or.inl (own_w hw 32 rfl)) (Or.inl (own_w hw 30 rfl)) (by decide) (t := .int) (t' := .int) (by decide) (by decide)))
  have F_47 := F_35.other W40 (Or.inr (slot_ne (Or.inl (own_w hw 34 rfl)) (Or.inl (own_w hw 30 rfl)) (by decide) (t := .int) (t' := .int) (by decide) (by decide)))
  have F_48 := F_36.other W40 (Or.inr (slot_ne (Or.inl (own_w hw 36 rfl)) (Or.inl (own_w hw 30 rfl)) (by decide) (t := .int) (t' := .int) (by decide) (by decide)))
  have F_49 := F_37.other W40 (Or.inr (slot_ne (Or.inl (own_w hw 24 rfl)) (Or.inl (own_w hw 30 rfl)) (by decide) (t := .int) (t' := .int) (by decide) (by decide)))
  have F_50 := F_38.other W40 (Or.inr (slot_ne (Or.inl (own_w hw 26 rfl)) (Or.inl (own_w hw 30 rfl)) (by decide) (t := .int) (t' := .int) (by decide) (by decide)))
  have F_51 := F_w27.other W40 (Or.inr (slot_ne (Or.inl (own_w hw 28 rfl)) (Or.inl (own_w hw 30 rfl)) (by decide) (t := .int) (t' := .int) (by decide) (by decide)))
  have K52 : Keep h0 h40 [a1] := K39.wr W40 (Or.inl (List.mem_of_getElem? (i := 0) rfl))
  have N40 := Fr.snoc X40 N27 g_a1
  refine own_go (B := T40.setTop (mkF m 21 #[.val (.ref a1), .val (.int p2), .val (.int p3), .val (.int p4), .val (.int p5), .val (.int p6), .val (.int p7), .val (.int p8)] [])) st40 ?_
  refine own_go (B := T40.setTop (mkF m 22 #[.val (.ref a1), .val (.int p2), .val (.int p3), .val (.int p4), .val (.int p5), .val (.int p6), .val (.int p7), .val (.int p8)] [(.ref a1)])) (fun _ k => XS.aloadN X40.here hx rfl (hb hby d4_21) rfl rfl k) ?_
  refine own_go (B := T40.setTop (mkF m 24 #[.val (.ref a1), .val (.int p2), .val (.int p3), .val (.int p4), .val (.int p5), .val (.int p6), .val (.int p7), .val (.int p8)] [(.int p6), (.ref a1)])) (fun _ k => XS.iload X40.here hx rfl (hb hby d4_22) rfl  k) ?_
  obtain ⟨T53, h53, X53, e53, W53, st53⟩ := putF X40 hx hZ hown (host := "") (Or.inl (own_w hw 31 rfl)) Via.refl e40 F_46 E_42 (Or.inl (own_w hw 32 rfl)) (own_w hw 1 rfl) (ty := .int) (by decide) rfl rfl (g := (mkF m 24 #[.val (.ref a1), .val (.int p2), .val (.int p3), .val (.int p4), .val (.int p5), .val (.int p6), .val (.int p7), .val (.int p8)] [(.int p6), (.ref a1)])) rfl rfl (hb hby d4_24)
  have F_w53 : Fld Z h53 a1 "com/example/carillon/carillon/search/Change" "fromRoom" "I" (.int p6) := F_46.same W53
  have E_55 := E_42.wr W53
  have F_56 := F_43.other W53 (Or.inr (slot_ne (Or.inl (own_w hw 15 rfl)) (Or.inl (own_w hw 32 rfl)) (by decide) (t := .long) (t' := .int) (by decide) (by decide)))
  have F_57 := F_44.other W53 (Or.inr (slot_ne (Or.inl (own_w hw 17 rfl)) (Or.inl (own_w hw 32 rfl)) (by decide) (t := .double) (t' := .int) (by decide) (by decide)))
  have F_59 := F_47.other W53 (Or.inr (slot_ne (Or.inl (own_w hw 34 rfl)) (Or.inl (own_w hw 32 rfl)) (by decide) (t := .int) (t' := .int) (by decide) (by decide)))
  have F_60 := F_48.other W53 (Or.inr (slot_ne (Or.inl (own_w hw 36 rfl)) (Or.inl (own_w hw 32 rfl)) (by decide) (t := .int) (t' := .int) (by decide) (by decide)))
  have F_61 := F_49.other W53 (Or.inr (slot_ne (Or.inl (own_w hw 24 rfl)) (Or.inl (own_w hw 32 rfl)) (by decide) (t := .int) (t' := .int) (by decide) (by decide)))
  have F_62 := F_50.other W53 (Or.inr (slot_ne (Or.inl (own_w hw 26 rfl)) (Or.inl (own_w hw 32 rfl)) (by decide) (t := .int) (t' := .int) (by decide) (by decide)))
  have F_63 := F_51.other W53 (Or.inr (slot_ne (Or.inl (own_w hw 28 rfl)) (Or.inl (own_w hw 32 rfl)) (by decide) (t := .int) (t' := .int) (by decide) (by decide)))
  have F_64 := F_w40.other W53 (Or.inr (slot_ne (Or.inl (own_w hw 30 rfl)) (Or.inl (own_w hw 32 rfl)) (by decide) (t := .int) (t' := .int) (by decide) (by decide)))
  have K65 : Keep h0 h53 [a1] := K52.wr W53 (Or.inl (List.mem_of_getElem? (i := 0) rfl))
  have N53 := Fr.snoc X53 N40 g_a1
  refine own_go (B := T53.setTop (mkF m 27 #[.val (.ref a1), .val (.int p2), .val (.int p3), .val (.int p4), .val (.int p5), .val (.int p6), .val (.int p7), .val (.int p8)] [])) st53 ?_
  refine own_go (B := T53.setTop (mkF m 28 #[.val (.ref a1), .val (.int p2), .val (.int p3), .val (.int p4), .val (.int p5), .val (.int p6), .val (.int p7), .val (.int p8)] [(.ref a1)])) (fun _ k => XS.aloadN X53.here hx rfl (hb hby d4_27) rfl rfl k) ?_
  refine own_go (B := T53.setTop (mkF m 30 #[.val (.ref a1), .val (.int p2), .val (.int p3), .val (.int p4), .val (.int p5), .val (.int p6), .val (.int p7), .val (.int p8)] [(.int p7), (.ref a1)])) (fun _ k => XS.iload X53.here hx rfl (hb hby d4_28) rfl  k) ?_
  obtain ⟨T66, h66, X66, e66, W66, st66⟩ := putF X53 hx hZ hown (host := "") (Or.inl (own_w hw 33 rfl)) Via.refl e53 F_59 E_55 (Or.inl (own_w hw 34 rfl)) (own_w hw 1 rfl) (ty := .int) (by decide) rfl rfl (g := (mkF m 30 #[.val (.ref a1), .val (.int p2), .val (.int p3), .val (.int p4), .val (.int p5), .val (.int p6), .val (.int p7), .val (.int p8)] [(.int p7), (.ref a1)])) rfl rfl (hb hby d4_30)
  have F_w66 : Fld Z h66 a1 "com/example/carillon/carillon/search/Change" "other" "I" (.int p7) := F_59.same W66
  have E_68 := E_55.wr W66
  have F_69 := F_56.other W66 (Or.inr (slot_ne (Or.inl (own_w hw 15 rfl)) (Or.inl (own_w hw 34 rfl)) (by decide) (t := .long) (t' := .int) (by decide) (by decide)))
  have F_70 := F_57.other W66 (Or.inr (slot_ne (Or.inl (own_w hw 17 rfl)) (Or.inl (own_w hw 34 rfl)) (by decide) (t := .double) (t' := .int) (by decide) (by decide)))
  have F_72 := F_60.other W66 (Or.inr (slot_ne (Or.inl (own_w hw 36 rfl)) (Or.inl (own_w hw 34 rfl)) (by decide) (t := .int) (t' := .int) (by decide) (by decide)))
  have F_73 := F_61.other W66 (Or.inr (slot_ne (Or.inl (own_w hw 24 rfl)) (Or.inl (own_w hw 34 rfl)) (by decide) (t := .int) (t' := .int) (by decide) (by decide)))
  have F_74 := F_62.other W66 (Or.inr (slot_ne (Or.inl (own_w hw 26 rfl)) (Or.inl (own_w hw 34 rfl)) (by decide) (t := .int) (t' := .int) (by decide) (by decide)))
  have F_75 := F_63.other W66 (Or.inr (slot_ne (Or.inl (own_w hw 28 rfl)) (Or.inl (own_w hw 34 rfl)) (by decide) (t := .int) (t' := .int) (by decide) (by decide)))
  have F_76 := F_64.other W66 (Or.inr (slot_ne (Or.inl (own_w hw 30 rfl)) (Or.inl (own_w hw 34 rfl)) (by decide) (t := .int) (t' := .int) (by decide) (by decide)))
  have F_77 := F_w53.other W66 (Or.inr (slot_ne (Or.inl (own_w hw 32 rfl)) (Or.inl (own_w hw 34 rfl)) (by decide) (t := .int) (t' := .int) (by decide) (by decide)))
  have K78 : Keep h0 h66 [a1] := K65.wr W66 (Or.inl (List.mem_of_getElem? (i := 0) rfl))
  have N66 := Fr.snoc X66 N53 g_a1
  refine own_go (B := T66.setTop (mkF m 33 #[.val (.ref a1), .val (.int p2), .val (.int p3), .val (.int p4), .val (.int p5), .val (.int p6), .val (.int p7), .val (.int p8)] [])) st66 ?_
  refine own_go (B := T66.setTop (mkF m 34 #[.val (.ref a1), .val (.int p2), .val (.int p3), .val (.int p4), .val (.int p5), .val (.int p6), .val (.int p7), .val (.int p8)] [(.ref a1)])) (fun _ k => XS.aloadN X66.here hx rfl (hb hby d4_33) rfl rfl k) ?_
  refine own_go (B := T66.setTop (mkF m 36 #[.val (.ref a1), .val (.int p2), .val (.int p3), .val (.int p4), .val (.int p5), .val (.int p6), .val (.int p7), .val (.int p8)] [(.int p8), (.ref a1)])) (fun _ k => XS.iload X66.here hx rfl (hb hby d4_34) rfl  k) ?_
  obtain ⟨T79, h79, X79, e79, W79, st79⟩ := putF X66 hx hZ hown (host := "") (Or.inl (own_w hw 35 rfl)) Via.refl e66 F_72 E_68 (Or.inl (own_w hw 36 rfl)) (own_w hw 1 rfl) (ty := .int) (by decide) rfl rfl (g := (mkF m 36 #[.val (.ref a1), .val (.int p2), .val (.int p3), .val (.int p4), .val (.int p5), .val (.int p6), .val (.int p7), .val (.int p8)] [(.int p8), (.ref a1)])) rfl rfl (hb hby d4_36)
  have F_w79 : Fld Z h79 a1 "com/example/carillon/carillon/search/Change" "otherFrom" "I" (.int p8) := F_72.same W79
  have E_81 := E_68.wr W79
  have F_82 := F_69.other W79 (Or.inr (slot_ne (Or.inl (own_w hw 15 rfl)) (Or.inl (own_w hw 36 rfl)) (by decide) (t := .long) (t' := .int) (by decide) (by decide)))
  have F_83 := F_70.other W79 (Or.inr (slot_ne (Or.inl (own_w hw 17 rfl)) (Or.inl (own_w hw 36 rfl)) (by decide) (t := .double) (t' := .int) (by decide) (by decide)))
  have F_85 := F_73.other W79 (Or.inr (slot_ne (Or.inl (own_w hw 24 rfl)) (Or.inl (own_w hw 36 rfl)) (by decide) (t := .int) (t' := .int) (by decide) (by decide)))
  have F_86 := F_74.other W79 (Or.inr (slot_ne (Or.inl (own_w hw 26 rfl)) (Or.inl (own_w hw 36 rfl)) (by decide) (t := .int) (t' := .int) (by decide) (by decide)))
  have F_87 := F_75.other W79 (Or.inr (slot_ne (Or.inl (own_w hw 28 rfl)) (Or.inl (own_w hw 36 rfl)) (by decide) (t := .int) (t' := .int) (by decide) (by decide)))
  have F_88 := F_76.other W79 (Or.inr (slot_ne (Or.inl (own_w hw 30 rfl)) (Or.inl (own_w hw 36 rfl)) (by decide) (t := .int) (t' := .int) (by decide) (by decide)))
  have F_89 := F_77.other W79 (Or.inr (slot_ne (Or.inl (own_w hw 32 rfl)) (Or.inl (own_w hw 36 rfl)) (by decide) (t := .int) (t' := .int) (by decide) (by decide)))
  have F_90 := F_w66.other W79 (Or.inr (slot_ne (Or.inl (own_w hw 34 rfl)) (Or.inl (own_w hw 36 rfl)) (by decide) (t := .int) (t' := .int) (by decide) (by decide)))
  have K91 : Keep h0 h79 [a1] := K78.wr W79 (Or.inl (List.mem_of_getElem? (i := 0) rfl))
  have N79 := Fr.snoc X79 N66 g_a1
  refine own_go (B := T79.setTop (mkF m 39 #[.val (.ref a1), .val (.int p2), .val (.int p3), .val (.int p4), .val (.int p5), .val (.int p6), .val (.int p7), .val (.int p8)] [])) st79 ?_
  exact own_retV X79 hx Bd.notSynchronized Bd.returns (hb hby d4_39) e79 ⟨rfl, N79, K91, E_81, F_82, F_83, F_85, F_86, F_87, F_88, F_89, F_90, F_w79⟩ (by decide) (by decide)
abbrev R_own_rm5 : Room := { frames := 0, cells := 0, slots := 0, locals := 0 }
theorem d5_0 : decode prog_50_method_4_code 0 = .ok (.aload_n 0, 1) := by decide +kernel
theorem d5_1 : decode prog_50_method_4_code 1 = .ok (.getfield 7, 3) := by decide +kernel
theorem d5_4 : decode prog_50_method_4_code 4 = .ok (.ireturn, 1) := by decide +kernel
theorem ef_own_rm5 (m : MethodId) (x0 : Addr) : entryFrame m #[(.ref x0)] 1 = mkF m 0 #[.val (.ref x0)] [] := by first | (simp [entryFrame, mkF, argsToLocals, Value.category]; done) | rfl
def Q_own_rm5 (Z : State) (a1 : Addr) (p1 : Int32) (h0 : Heap) (n0 : Nat) (v : Option Value) (h : Heap) (L : List Loc) : Prop := v = some (.int p1) ∧ Fr n0 L ∧ h = h0
set_option maxRecDepth 65536 in
set_option maxHeartbeats 400000000 in
theorem own_rm5 (l : Launch) (Z : State) (a0 : Array Value) (hw : ∀ d ∈ tables_1, d.before a0 Z = true) (ws : List Jvm.Cond) (a1 : Addr) (p1 : Int32) (h0 : Heap) (n0 : Nat) (Z0 : n0 ≤ h0.size) (P_F_a1_lecture : Fld Z h0 a1 "com/example/carillon/carillon/search/Change" "lecture" "I" (.int p1)) :
    MetFree l (⟨"com/example/carillon/carillon/search/Change", "lecture", "()I"⟩ : MethodName) (head1 (Jvm.Cond.code (⟨"com/example/carillon/carillon/search/Change", "lecture", "()I"⟩ : MethodName) prog_50_method_4_code 1 (some .int) :: ws) R_own_rm5) (fun a U => a = #[(.ref a1)] ∧ Z.Warmed39 U.vm ∧ U.heap = h0) (fun _ _ _ _ _ => True) (fun _ U o U' => ∃ v L, o = .returned v ∧ Q_own_rm5 Z a1 p1 h0 n0 v U'.heap L ∧ FrameEnd U o U' L R_own_rm5.cells R_own_rm5.slots) := by
  refine MetFree.of_bodySF (plainFor_of_name own_pn0) hisR ?_
  intro p e s m args below meth c s₁ Bd hml0 hP hK
  obtain ⟨rfl, hZ, hh⟩ := hP
  have hx := Bd.exec
  have hby := Bd.bytes
  have hml : c.maxLocals = 1 := hml0
  have hown : s.vm.findClass "com/example/carillon/carillon/search/Change" = some m.cls := findClass_of_methodNamed Bd.named
  have hnm := (name_of_methodNamed Bd.named Bd.method).1
  have X0 : Stand p l e R_own_rm5 s m #[(.ref a1)] below meth c s₁ [] 0 0 := Stand.of_body Bd
  have e0 : s₁.heap = h0 := by rw [← hh, Bd.state]; rfl
  have N0 := Fr.nil n0
  have K0 : Keep h0 h0 [] := Keep.refl h0 []
  show own_Fin p e below s (Q_own_rm5 Z a1 p1 h0 n0) R_own_rm5.cells R_own_rm5.slots (s₁.setTop (entryFrame m #[(.ref a1)] 1))
  refine own_go (fun _ k => castTop (ef_own_rm5 m a1) k) ?_
  show own_Fin _ _ _ _ _ _ _ (s₁.setTop (mkF m 0 #[.val (.ref a1)] []))
  refine own_go (B := s₁.setTop (mkF m 1 #[.val (.ref a1)] [(.ref a1)])) (fun _ k => XS.aloadN X0.here hx rfl (hb hby d5_0) rfl rfl k) ?_
  obtain ⟨T1, X1, e1, st1⟩ := getF X0 hx hZ hown (host := "") (Or.inl (own_w hw 23 rfl)) Via.refl e0 P_F_a1_lecture (g := (mkF m 1 #[.val (.ref a1)] [(.ref a1)])) rfl rfl (hb hby d5_1)
  refine own_go (B := T1.setTop (mkF m 4 #[.val (.ref a1)] [(.int p1)])) st1 ?_
  exact own_retI X1 hx Bd.notSynchronized Bd.returns (hb hby d5_4) e1 ⟨rfl, N0, rfl⟩ (by decide) (by decide)
abbrev R_own_rm6 : Room := { frames := 0, cells := 0, slots := 0, locals := 0 }
theorem d6_0 : decode prog_50_method_5_code 0 = .ok (.aload_n 0, 1) := by decide +kernel
theorem d6_1 : decode prog_50_method_5_code 1 = .ok (.getfield 13, 3) := by decide +kernel
theorem d6_4 : decode prog_50_method_5_code 4 = .ok (.ireturn, 1) := by decide +kernel
theorem ef_own_rm6 (m : MethodId) (x0 : Addr) : entryFrame m #[(.ref x0)] 1 = mkF m 0 #[.val (.ref x0)] [] := by first | (simp [entryFrame, mkF, argsToLocals, Value.category]; done) | rfl
def Q_own_rm6 (Z : State) (a1 : Addr) (p1 : Int32) (h0 : Heap) (n0 : Nat) (v : Option Value) (h : Heap) (L : List Loc) : Prop := v = some (.int p1) ∧ Fr n0 L ∧ h = h0
set_option maxRecDepth 65536 in
set_option maxHeartbeats 400000000 in
theorem own_rm6 (l : Launch) (Z : State) (a0 : Array Value) (hw : ∀ d ∈ tables_1, d.before a0 Z = true) (ws : List Jvm.Cond) (a1 : Addr) (p1 : Int32) (h0 : Heap) (n0 : Nat) (Z0 : n0 ≤ h0.size) (P_F_a1_period : Fld Z h0 a1 "com/example/carillon/carillon/search/Change" "period" "I" (.int p1)) :
    MetFree l (⟨"com/example/carillon/carillon/search/Change", "period", "()I"⟩ : MethodName) (head1 (Jvm.Cond.code (⟨"com/example/carillon/carillon/search/Change", "period", "()I"⟩ : MethodName) prog_50_method_5_code 1 (some .int) :: ws) R_own_rm6) (fun a U => a = #[(.ref a1)] ∧ Z.Warmed39 U.vm ∧ U.heap = h0) (fun _ _ _ _ _ => True) (fun _ U o U' => ∃ v L, o = .returned v ∧ Q_own_rm6 Z a1 p1 h0 n0 v U'.heap L ∧ FrameEnd U o U' L R_own_rm6.cells R_own_rm6.slots) := by
  refine MetFree.of_bodySF (plainFor_of_name own_pn0) hisR ?_
  intro p e s m args below meth c s₁ Bd hml0 hP hK
  obtain ⟨rfl, hZ, hh⟩ := hP
  have hx := Bd.exec
  have hby := Bd.bytes
  have hml : c.maxLocals = 1 := hml0
  have hown : s.vm.findClass "com/example/carillon/carillon/search/Change" = some m.cls := findClass_of_methodNamed Bd.named
  have hnm := (name_of_methodNamed Bd.named Bd.method).1
  have X0 : Stand p l e R_own_rm6 s m #[(.ref a1)] below meth c s₁ [] 0 0 := Stand.of_body Bd
  have e0 : s₁.heap = h0 := by rw [← hh, Bd.state]; rfl
  have N0 := Fr.nil n0
  have K0 : Keep h0 h0 [] := Keep.refl h0 []
  show own_Fin p e below s (Q_own_rm6 Z a1 p1 h0 n0) R_own_rm6.cells R_own_rm6.slots (s₁.setTop (entryFrame m #[(.ref a1)] 1))
  refine own_go (fun _ k => castTop (ef_own_rm6 m a1) k) ?_
  show own_Fin _ _ _ _ _ _ _ (s₁.setTop (mkF m 0 #[.val (.ref a1)] []))
  refine own_go (B := s₁.setTop (mkF m 1 #[.val (.ref a1)] [(.ref a1)])) (fun _ k => XS.aloadN X0.here hx rfl (hb hby d6_0) rfl rfl k) ?_
  obtain ⟨T1, X1, e1, st1⟩ := getF X0 hx hZ hown (host := "") (Or.inl (own_w hw 25 rfl)) Via.refl e0 P_F_a1_period (g := (mkF m 1 #[.val (.ref a1)] [(.ref a1)])) rfl rfl (hb hby d6_1)
  refine own_go (B := T1.setTop (mkF m 4 #[.val (.ref a1)] [(.int p1)])) st1 ?_
  exact own_retI X1 hx Bd.notSynchronized Bd.returns (hb hby d6_4) e1 ⟨rfl, N0, rfl⟩ (by decide) (by decide)
abbrev R_own_rm7 : Room := { frames := 0, cells := 0, slots := 0, locals := 0 }
theorem d7_0 : decode prog_50_method_6_code 0 = .ok (.aload_n 0, 1) := by decide +kernel
theorem d7_1 : decode prog_50_method_6_code 1 = .ok (.getfield 16, 3) := by decide +kernel
theorem d7_4 : decode prog_50_method_6_code 4 = .ok (.ireturn, 1) := by decide +kernel
theorem ef_own_rm7 (m : MethodId) (x0 : Addr) : entryFrame m #[(.ref x0)] 1 = mkF m 0 #[.val (.ref x0)] [] := by first | (simp [entryFrame, mkF, argsToLocals, Value.category]; done) | rfl
def Q_own_rm7 (Z : State) (a1 : Addr) (p1 : Int32) (h0 : Heap) (n0 : Nat) (v : Option Value) (h : Heap) (L : List Loc) : Prop := v = some (.int p1) ∧ Fr n0 L ∧ h = h0
set_option maxRecDepth 65536 in
set_option maxHeartbeats 400000000 in
theorem own_rm7 (l : Launch) (Z : State) (a0 : Array Value) (hw : ∀ d ∈ tables_1, d.before a0 Z = true) (ws : List Jvm.Cond) (a1 : Addr) (p1 : Int32) (h0 : Heap) (n0 : Nat) (Z0 : n0 ≤ h0.size) (P_F_a1_room : Fld Z h0 a1 "com/example/carillon/carillon/search/Change" "room" "I" (.int p1)) :
    MetFree l (⟨"com/example/carillon/carillon/search/Change", "room", "()I"⟩ : MethodName) (head1 (Jvm.Cond.code (⟨"com/example/carillon/carillon/search/Change", "room", "()I"⟩ : MethodName) prog_50_method_6_code 1 (some .int) :: ws) R_own_rm7) (fun a U => a = #[(.ref a1)] ∧ Z.Warmed39 U.vm ∧ U.heap = h0) (fun _ _ _ _ _ => True) (fun _ U o U' => ∃ v L, o = .returned v ∧ Q_own_rm7 Z a1 p1 h0 n0 v U'.heap L ∧ FrameEnd U o U' L R_own_rm7.cells R_own_rm7.slots) := by
  refine MetFree.of_bodySF (plainFor_of_name own_pn0) hisR ?_
  intro p e s m args below meth c s₁ Bd hml0 hP hK
  obtain ⟨rfl, hZ, hh⟩ := hP
  have hx := Bd.exec
  have hby := Bd.bytes
  have hml : c.maxLocals = 1 := hml0
  have hown : s.vm.findClass "com/example/carillon/carillon/search/Change" = some m.cls := findClass_of_methodNamed Bd.named
  have hnm := (name_of_methodNamed Bd.named Bd.method).1
  have X0 : Stand p l e R_own_rm7 s m #[(.ref a1)] below meth c s₁ [] 0 0 := Stand.of_body Bd
  have e0 : s₁.heap = h0 := by rw [← hh, Bd.state]; rfl
  have N0 := Fr.nil n0
  have K0 : Keep h0 h0 [] := Keep.refl h0 []
  show own_Fin p e below s (Q_own_rm7 Z a1 p1 h0 n0) R_own_rm7.cells R_own_rm7.slots (s₁.setTop (entryFrame m #[(.ref a1)] 1))
  refine own_go (fun _ k => castTop (ef_own_rm7 m a1) k) ?_
  show own_Fin _ _ _ _ _ _ _ (s₁.setTop (mkF m 0 #[.val (.ref a1)] []))
  refine own_go (B := s₁.setTop (mkF m 1 #[.val (.ref a1)] [(.ref a1)])) (fun _ k => XS.aloadN X0.here hx rfl (hb hby d7_0) rfl rfl k) ?_
  obtain ⟨T1, X1, e1, st1⟩ := getF X0 hx hZ hown (host := "") (Or.inl (own_w hw 27 rfl)) Via.refl e0 P_F_a1_room (g := (mkF m 1 #[.val (.ref a1)] [(.ref a1)])) rfl rfl (hb hby d7_1)
  refine own_go (B := T1.setTop (mkF m 4 #[.val (.ref a1)] [(.int p1)])) st1 ?_
  exact own_retI X1 hx Bd.notSynchronized Bd.returns (hb hby d7_4) e1 ⟨rfl, N0, rfl⟩ (by decide) (by decide)
abbrev R_own_rm8 : Room := { frames := 0, cells := 0, slots := 0, locals := 0 }
theorem d8_0 : decode prog_50_method_7_code 0 = .ok (.aload_n 0, 1) := by decide +kernel
theorem d8_1 : decode prog_50_method_7_code 1 = .ok (.getfield 19, 3) := by decide +kernel
theorem d8_4 : decode prog_50_method_7_code 4 = .ok (.ireturn, 1) := by decide +kernel
theorem ef_own_rm8 (m : MethodId) (x0 : Addr) : entryFrame m #[(.ref x0)] 1 = mkF m 0 #[.val (.ref x0)] [] := by first | (simp [entryFrame, mkF, argsToLocals, Value.category]; done) | rfl
def Q_own_rm8 (Z : State) (a1 : Addr) (p1 : Int32) (h0 : Heap) (n0 : Nat) (v : Option Value) (h : Heap) (L : List Loc) : Prop := v = some (.int p1) ∧ Fr n0 L ∧ h = h0
set_option maxRecDepth 65536 in
set_option maxHeartbeats 400000000 in
theorem own_rm8 (l : Launch) (Z : State) (a0 : Array Value) (hw : ∀ d ∈ tables_1, d.before a0 Z = true) (ws : List Jvm.Cond) (a1 : Addr) (p1 : Int32) (h0 : Heap) (n0 : Nat) (Z0 : n0 ≤ h0.size) (P_F_a1_fromPeriod : Fld Z h0 a1 "com/example/carillon/carillon/search/Change" "fromPeriod" "I" (.int p1)) :
    MetFree l (⟨"com/example/carillon/carillon/search/Change", "fromPeriod", "()I"⟩ : MethodName) (head1 (Jvm.Cond.code (⟨"com/example/carillon/carillon/search/Change", "fromPeriod", "()I"⟩ : MethodName) prog_50_method_7_code 1 (some .int) :: ws) R_own_rm8) (fun a U => a = #[(.ref a1)] ∧ Z.Warmed39 U.vm ∧ U.heap = h0) (fun _ _ _ _ _ => True) (fun _ U o U' => ∃ v L, o = .returned v ∧ Q_own_rm8 Z a1 p1 h0 n0 v U'.heap L ∧ FrameEnd U o U' L R_own_rm8.cells R_own_rm8.slots) := by
  refine MetFree.of_bodySF (plainFor_of_name own_pn0) hisR ?_
  intro p e s m args below meth c s₁ Bd hml0 hP hK
  obtain ⟨rfl, hZ, hh⟩ := hP
  have hx := Bd.exec
  have hby := Bd.bytes
  have hml : c.maxLocals = 1 := hml0
  have hown : s.vm.findClass "com/example/carillon/carillon/search/Change" = some m.cls := findClass_of_methodNamed Bd.named
  have hnm := (name_of_methodNamed Bd.named Bd.method).1
  have X0 : Stand p l e R_own_rm8 s m #[(.ref a1)] below meth c s₁ [] 0 0 := Stand.of_body Bd
  have e0 : s₁.heap = h0 := by rw [← hh, Bd.state]; rfl
  have N0 := Fr.nil n0
  have K0 : Keep h0 h0 [] := Keep.refl h0 []
  show own_Fin p e below s (Q_own_rm8 Z a1 p1 h0 n0) R_own_rm8.cells R_own_rm8.slots (s₁.setTop (entryFrame m #[(.ref a1)] 1))
  refine own_go (fun _ k => castTop (ef_own_rm8 m a1) k) ?_
  show own_Fin _ _ _ _ _ _ _ (s₁.setTop (mkF m 0 #[.val (.ref a1)] []))
  refine own_go (B := s₁.setTop (mkF m 1 #[.val (.ref a1)] [(.ref a1)])) (fun _ k => XS.aloadN X0.here hx rfl (hb hby d8_0) rfl rfl k) ?_
  obtain ⟨T1, X1, e1, st1⟩ := getF X0 hx hZ hown (host := "") (Or.inl (own_w hw 29 rfl)) Via.refl e0 P_F_a1_fromPeriod (g := (mkF m 1 #[.val (.ref a1)] [(.ref a1)])) rfl rfl (hb hby d8_1)
  refine own_go (B := T1.setTop (mkF m 4 #[.val (.ref a1)] [(.int p1)])) st1 ?_
  exact own_retI X1 hx Bd.notSynchronized Bd.returns (hb hby d8_4) e1 ⟨rfl, N0, rfl⟩ (by decide) (by decide)
abbrev R_own_rm9 : Room := { frames := 0, cells := 0, slots := 0, locals := 0 }
theorem d9_0 : decode prog_50_method_8_code 0 = .ok (.aload_n 0, 1) := by decide +kernel
theorem d9_1 : decode prog_50_method_8_code 1 = .ok (.getfield 22, 3) := by decide +kernel
theorem d9_4 : decode prog_50_method_8_code 4 = .ok (.ireturn, 1) := by decide +kernel
theorem ef_own_rm9 (m : MethodId) (x0 : Addr) : entryFrame m #[(.ref x0)] 1 = mkF m 0 #[.val (.ref x0)] [] := by first | (simp [entryFrame, mkF, argsToLocals, Value.category]; done) | rfl
def Q_own_rm9 (Z : State) (a1 : Addr) (p1 : Int32) (h0 : Heap) (n0 : Nat) (v : Option Value) (h : Heap) (L : List Loc) : Prop := v = some (.int p1) ∧ Fr n0 L ∧ h = h0
set_option maxRecDepth 65536 in
set_option maxHeartbeats 400000000 in
theorem own_rm9 (l : Launch) (Z : State) (a0 : Array Value) (hw : ∀ d ∈ tables_1, d.before a0 Z = true) (ws : List Jvm.Cond) (a1 : Addr) (p1 : Int32) (h0 : Heap) (n0 : Nat) (Z0 : n0 ≤ h0.size) (P_F_a1_fromRoom : Fld Z h0 a1 "com/example/carillon/carillon/search/Change" "fromRoom" "I" (.int p1)) :
    MetFree l (⟨"com/example/carillon/carillon/search/Change", "fromRoom", "()I"⟩ : MethodName) (head1 (Jvm.Cond.code (⟨"com/example/carillon/carillon/search/Change", "fromRoom", "()I"⟩ : MethodName) prog_50_method_8_code 1 (some .int) :: ws) R_own_rm9) (fun a U => a = #[(.ref a1)] ∧ Z.Warmed39 U.vm ∧ U.heap = h0) (fun _ _ _ _ _ => True) (fun _ U o U' => ∃ v L, o = .returned v ∧ Q_own_rm9 Z a1 p1 h0 n0 v U'.heap L ∧ FrameEnd U o U' L R_own_rm9.cells R_own_rm9.slots) := by
  refine MetFree.of_bodySF (plainFor_of_name own_pn0) hisR ?_
  intro p e s m args below meth c s₁ Bd hml0 hP hK
  obtain ⟨rfl, hZ, hh⟩ := hP
  have hx := Bd.exec
  have hby := Bd.bytes
  have hml : c.maxLocals = 1 := hml0
  have hown : s.vm.findClass "com/example/carillon/carillon/search/Change" = some m.cls := findClass_of_methodNamed Bd.named
  have hnm := (name_of_methodNamed Bd.named Bd.method).1
  have X0 : Stand p l e R_own_rm9 s m #[(.ref a1)] below meth c s₁ [] 0 0 := Stand.of_body Bd
  have e0 : s₁.heap = h0 := by rw [← hh, Bd.state]; rfl
  have N0 := Fr.nil n0
  have K0 : Keep h0 h0 [] := Keep.refl h0 []
  show own_Fin p e below s (Q_own_rm9 Z a1 p1 h0 n0) R_own_rm9.cells R_own_rm9.slots (s₁.setTop (entryFrame m #[(.ref a1)] 1))
  refine own_go (fun _ k => castTop (ef_own_rm9 m a1) k) ?_
  show own_Fin _ _ _ _ _ _ _ (s₁.setTop (mkF m 0 #[.val (.ref a1)] []))
  refine own_go (B := s₁.setTop (mkF m 1 #[.val (.ref a1)] [(.ref a1)])) (fun _ k => XS.aloadN X0.here hx rfl (hb hby d9_0) rfl rfl k) ?_
  obtain ⟨T1, X1, e1, st1⟩ := getF X0 hx hZ hown (host := "") (Or.inl (own_w hw 31 rfl)) Via.refl e0 P_F_a1_fromRoom (g := (mkF m 1 #[.val (.ref a1)] [(.ref a1)])) rfl rfl (hb hby d9_1)
  refine own_go (B := T1.setTop (mkF m 4 #[.val (.ref a1)] [(.int p1)])) st1 ?_
  exact own_retI X1 hx Bd.notSynchronized Bd.returns (hb hby d9_4) e1 ⟨rfl, N0, rfl⟩ (by decide) (by decide)
abbrev R_own_rm10 : Room := { frames := 0, cells := 0, slots := 0, locals := 0 }
theorem d10_0 : decode prog_50_method_9_code 0 = .ok (.aload_n 0, 1) := by decide +kernel
theorem d10_1 : decode prog_50_method_9_code 1 = .ok (.getfield 25, 3) := by decide +kernel
theorem d10_4 : decode prog_50_method_9_code 4 = .ok (.ireturn, 1) := by decide +kernel
theorem ef_own_rm10 (m : MethodId) (x0 : Addr) : entryFrame m #[(.ref x0)] 1 = mkF m 0 #[.val (.ref x0)] [] := by first | (simp [entryFrame, mkF, argsToLocals, Value.category]; done) | rfl
def Q_own_rm10 (Z : State) (a1 : Addr) (p1 : Int32) (h0 : Heap) (n0 : Nat) (v : Option Value) (h : Heap) (L : List Loc) : Prop := v = some (.int p1) ∧ Fr n0 L ∧ h = h0
set_option maxRecDepth 65536 in
set_option maxHeartbeats 400000000 in
theorem own_rm10 (l : Launch) (Z : State) (a0 : Array Value) (hw : ∀ d ∈ tables_1, d.before a0 Z = true) (ws : List Jvm.Cond) (a1 : Addr) (p1 : Int32) (h0 : Heap) (n0 : Nat) (Z0 : n0 ≤ h0.size) (P_F_a1_other : Fld Z h0 a1 "com/example/carillon/carillon/search/Change" "other" "I" (.int p1)) :
    MetFree l (⟨"com/example/carillon/carillon/search/Change", "other", "()I"⟩ : MethodName) (head1 (Jvm.Cond.code (⟨"com/example/carillon/carillon/search/Change", "other", "()I"⟩ : MethodName) prog_50_method_9_code 1 (some .int) :: ws) R_own_rm10) (fun a U => a = #[(.ref a1)] ∧ Z.Warmed39 U.vm ∧ U.heap = h0) (fun _ _ _ _ _ => True) (fun _ U o U' => ∃ v L, o = .returned v ∧ Q_own_rm10 Z a1 p1 h0 n0 v U'.heap L ∧ FrameEnd U o U' L R_own_rm10.cells R_own_rm10.slots) := by
  refine MetFree.of_bodySF (plainFor_of_name own_pn0) hisR ?_
  intro p e s m args below meth c s₁ Bd hml0 hP hK
  obtain ⟨rfl, hZ, hh⟩ := hP
  have hx := Bd.exec
  have hby := Bd.bytes
  have hml : c.maxLocals = 1 := hml0
  have hown : s.vm.findClass "com/example/carillon/carillon/search/Change" = some m.cls := findClass_of_methodNamed Bd.named
  have hnm := (name_of_methodNamed Bd.named Bd.method).1
  have X0 : Stand p l e R_own_rm10 s m #[(.ref a1)] below meth c s₁ [] 0 0 := Stand.of_body Bd
  have e0 : s₁.heap = h0 := by rw [← hh, Bd.state]; rfl
  have N0 := Fr.nil n0
  have K0 : Keep h0 h0 [] := Keep.refl h0 []
  show own_Fin p e below s (Q_own_rm10 Z a1 p1 h0 n0) R_own_rm10.cells R_own_rm10.slots (s₁.setTop (entryFrame m #[(.ref a1)] 1))
  refine own_go (fun _ k => castTop (ef_own_rm10 m a1) k) ?_
  show own_Fin _ _ _ _ _ _ _ (s₁.setTop (mkF m 0 #[.val (.ref a1)] []))
  refine own_go (B := s₁.setTop (mkF m 1 #[.val (.ref a1)] [(.ref a1)])) (fun _ k => XS.aloadN X0.here hx rfl (hb hby d10_0) rfl rfl k) ?_
  obtain ⟨T1, X1, e1, st1⟩ := getF X0 hx hZ hown (host := "") (Or.inl (own_w hw 33 rfl)) Via.refl e0 P_F_a1_other (g := (mkF m 1 #[.val (.ref a1)] [(.ref a1)])) rfl rfl (hb hby d10_1)
  refine own_go (B := T1.setTop (mkF m 4 #[.val (.ref a1)] [(.int p1)])) st1 ?_
  exact own_retI X1 hx Bd.notSynchronized Bd.returns (hb hby d10_4) e1 ⟨rfl, N0, rfl⟩ (by decide) (by decide)
abbrev R_own_rm11 : Room := { frames := 0, cells := 0, slots := 0, locals := 0 }
theorem d11_0 : decode prog_50_method_10_code 0 = .ok (.aload_n 0, 1) := by decide +kernel
theorem d11_1 : decode prog_50_method_10_code 1 = .ok (.getfield 28, 3) := by decide +kernel
theorem d11_4 : decode prog_50_method_10_code 4 = .ok (.ireturn, 1) := by decide +kernel
theorem ef_own_rm11 (m : MethodId) (x0 : Addr) : entryFrame m #[(.ref x0)] 1 = mkF m 0 #[.val (.ref x0)] [] := by first | (simp [entryFrame, mkF, argsToLocals, Value.category]; done) | rfl
def Q_own_rm11 (Z : State) (a1 : Addr) (p1 : Int32) (h0 : Heap) (n0 : Nat) (v : Option Value) (h : Heap) (L : List Loc) : Prop := v = some (.int p1) ∧ Fr n0 L ∧ h = h0
set_option maxRecDepth 65536 in
set_option maxHeartbeats 400000000 in
theorem own_rm11 (l : Launch) (Z : State) (a0 : Array Value) (hw : ∀ d ∈ tables_1, d.before a0 Z = true) (ws : List Jvm.Cond) (a1 : Addr) (p1 : Int32) (h0 : Heap) (n0 : Nat) (Z0 : n0 ≤ h0.size) (P_F_a1_otherFrom : Fld Z h0 a1 "com/example/carillon/carillon/search/Change" "otherFrom" "I" (.int p1)) :
    MetFree l (⟨"com/example/carillon/carillon/search/Change", "otherFrom", "()I"⟩ : MethodName) (head1 (Jvm.Cond.code (⟨"com/example/carillon/carillon/search/Change", "otherFrom", "()I"⟩ : MethodName) prog_50_method_10_code 1 (some .int) :: ws) R_own_rm11) (fun a U => a = #[(.ref a1)] ∧ Z.Warmed39 U.vm ∧ U.heap = h0) (fun _ _ _ _ _ => True) (fun _ U o U' => ∃ v L, o = .returned v ∧ Q_own_rm11 Z a1 p1 h0 n0 v U'.heap L ∧ FrameEnd U o U' L R_own_rm11.cells R_own_rm11.slots) := by
  refine MetFree.of_bodySF (plainFor_of_name own_pn0) hisR ?_
  intro p e s m args below meth c s₁ Bd hml0 hP hK
  obtain ⟨rfl, hZ, hh⟩ := hP
  have hx := Bd.exec
  have hby := Bd.bytes
  have hml : c.maxLocals = 1 := hml0
  have hown : s.vm.findClass "com/example/carillon/carillon/search/Change" = some m.cls := findClass_of_methodNamed Bd.named
  have hnm := (name_of_methodNamed Bd.named Bd.method).1
  have X0 : Stand p l e R_own_rm11 s m #[(.ref a1)] below meth c s₁ [] 0 0 := Stand.of_body Bd
  have e0 : s₁.heap = h0 := by rw [← hh, Bd.state]; rfl
  have N0 := Fr.nil n0
  have K0 : Keep h0 h0 [] := Keep.refl h0 []
  show own_Fin p e below s (Q_own_rm11 Z a1 p1 h0 n0) R_own_rm11.cells R_own_rm11.slots (s₁.setTop (entryFrame m #[(.ref a1)] 1))
  refine own_go (fun _ k => castTop (ef_own_rm11 m a1) k) ?_
  show own_Fin _ _ _ _ _ _ _ (s₁.setTop (mkF m 0 #[.val (.ref a1)] []))
  refine own_go (B := s₁.setTop (mkF m 1 #[.val (.ref a1)] [(.ref a1)])) (fun _ k => XS.aloadN X0.here hx rfl (hb hby d11_0) rfl rfl k) ?_
  obtain ⟨T1, X1, e1, st1⟩ := getF X0 hx hZ hown (host := "") (Or.inl (own_w hw 35 rfl)) Via.refl e0 P_F_a1_otherFrom (g := (mkF m 1 #[.val (.ref a1)] [(.ref a1)])) rfl rfl (hb hby d11_1)
  refine own_go (B := T1.setTop (mkF m 4 #[.val (.ref a1)] [(.int p1)])) st1 ?_
  exact own_retI X1 hx Bd.notSynchronized Bd.returns (hb hby d11_4) e1 ⟨rfl, N0, rfl⟩ (by decide) (by decide)
abbrev R_own_rm12 : Room := { frames := 0, cells := 0, slots := 0, locals := 0 }
theorem d12_0 : decode prog_50_method_11_code 0 = .ok (.aload_n 0, 1) := by decide +kernel
theorem d12_1 : decode prog_50_method_11_code 1 = .ok (.getfield 31, 3) := by decide +kernel
theorem d12_4 : decode prog_50_method_11_code 4 = .ok (.lreturn, 1) := by decide +kernel
theorem ef_own_rm12 (m : MethodId) (x0 : Addr) : entryFrame m #[(.ref x0)] 1 = mkF m 0 #[.val (.ref x0)] [] := by first | (simp [entryFrame, mkF, argsToLocals, Value.category]; done) | rfl
def Q_own_rm12 (Z : State) (a1 : Addr) (q1 : Int64) (h0 : Heap) (n0 : Nat) (v : Option Value) (h : Heap) (L : List Loc) : Prop := v = some (.long q1) ∧ Fr n0 L ∧ h = h0
set_option maxRecDepth 65536 in
set_option maxHeartbeats 400000000 in
theorem own_rm12 (l : Launch) (Z : State) (a0 : Array Value) (hw : ∀ d ∈ tables_1, d.before a0 Z = true) (ws : List Jvm.Cond) (a1 : Addr) (q1 : Int64) (h0 : Heap) (n0 : Nat) (Z0 : n0 ≤ h0.size) (P_F_a1_hard : Fld Z h0 a1 "com/example/carillon/carillon/search/Change" "hard" "J" (.long q1)) :
    MetFree l (⟨"com/example/carillon/carillon/search/Change", "hard", "()J"⟩ : MethodName) (head1 (Jvm.Cond.code (⟨"com/example/carillon/carillon/search/Change", "hard", "()J"⟩ : MethodName) prog_50_method_11_code 1 (some .long) :: ws) R_own_rm12) (fun a U => a = #[(.ref a1)] ∧ Z.Warmed39 U.vm ∧ U.heap = h0) (fun _ _ _ _ _ => True) (fun _ U o U' => ∃ v L, o = .returned v ∧ Q_own_rm12 Z a1 q1 h0 n0 v U'.heap L ∧ FrameEnd U o U' L R_own_rm12.cells R_own_rm12.slots) := by
  refine MetFree.of_bodySF (plainFor_of_name own_pn0) hisR ?_
  intro p e s m args below meth c s₁ Bd hml0 hP hK
  obtain ⟨rfl, hZ, hh⟩ := hP
  have hx := Bd.exec
  have hby := Bd.bytes
  have hml : c.maxLocals = 1 := hml0
  have hown : s.vm.findClass "com/example/carillon/carillon/search/Change" = some m.cls := findClass_of_methodNamed Bd.named
  have hnm := (name_of_methodNamed Bd.named Bd.method).1
  have X0 : Stand p l e R_own_rm12 s m #[(.ref a1)] below meth c s₁ [] 0 0 := Stand.of_body Bd
  have e0 : s₁.heap = h0 := by rw [← hh, Bd.state]; rfl
  have N0 := Fr.nil n0
  have K0 : Keep h0 h0 [] := Keep.refl h0 []
  show own_Fin p e below s (Q_own_rm12 Z a1 q1 h0 n0) R_own_rm12.cells R_own_rm12.slots (s₁.setTop (entryFrame m #[(.ref a1)] 1))
  refine own_go (fun _ k => castTop (ef_own_rm12 m a1) k) ?_
  show own_Fin _ _ _ _ _ _ _ (s₁.setTop (mkF m 0 #[.val (.ref a1)] []))
  refine own_go (B := s₁.setTop (mkF m 1 #[.val (.ref a1)] [(.ref a1)])) (fun _ k => XS.aloadN X0.here hx rfl (hb hby d12_0) rfl rfl k) ?_
  obtain ⟨T1, X1, e1, st1⟩ := getF X0 hx hZ hown (host := "") (Or.inl (own_w hw 14 rfl)) Via.refl e0 P_F_a1_hard (g := (mkF m 1 #[.val (.ref a1)] [(.ref a1)])) rfl rfl (hb hby d12_1)
  refine own_go (B := T1.setTop (mkF m 4 #[.val (.ref a1)] [(.long q1)])) st1 ?_
  exact own_retJ X1 hx Bd.notSynchronized Bd.returns (hb hby d12_4) e1 ⟨rfl, N0, rfl⟩ (by decide) (by decide)
abbrev R_own_rm13 : Room := { frames := 0, cells := 0, slots := 0, locals := 0 }
theorem d13_0 : decode prog_50_method_12_code 0 = .ok (.aload_n 0, 1) := by decide +kernel
theorem d13_1 : decode prog_50_method_12_code 1 = .ok (.getfield 35, 3) := by decide +kernel
theorem d13_4 : decode prog_50_method_12_code 4 = .ok (.dreturn, 1) := by decide +kernel
theorem ef_own_rm13 (m : MethodId) (x0 : Addr) : entryFrame m #[(.ref x0)] 1 = mkF m 0 #[.val (.ref x0)] [] := by first | (simp [entryFrame, mkF, argsToLocals, Value.category]; done) | rfl
def Q_own_rm13 (Z : State) (a1 : Addr) (d1 : UInt64) (h0 : Heap) (n0 : Nat) (v : Option Value) (h : Heap) (L : List Loc) : Prop := v = some (.double d1) ∧ Fr n0 L ∧ h = h0
set_option maxRecDepth 65536 in
set_option maxHeartbeats 400000000 in
theorem own_rm13 (l : Launch) (Z : State) (a0 : Array Value) (hw : ∀ d ∈ tables_1, d.before a0 Z = true) (ws : List Jvm.Cond) (a1 : Addr) (d1 : UInt64) (h0 : Heap) (n0 : Nat) (Z0 : n0 ≤ h0.size) (P_F_a1_soft : Fld Z h0 a1 "com/example/carillon/carillon/search/Change" "soft" "D" (.double d1)) :
    MetFree l (⟨"com/example/carillon/carillon/search/Change", "soft", "()D"⟩ : MethodName) (head1 (Jvm.Cond.code (⟨"com/example/carillon/carillon/search/Change", "soft", "()D"⟩ : MethodName) prog_50_method_12_code 1 (some .double) :: ws) R_own_rm13) (fun a U => a = #[(.ref a1)] ∧ Z.Warmed39 U.vm ∧ U.heap = h0) (fun _ _ _ _ _ => True) (fun _ U o U' => ∃ v L, o = .returned v ∧ Q_own_rm13 Z a1 d1 h0 n0 v U'.heap L ∧ FrameEnd U o U' L R_own_rm13.cells R_own_rm13.slots) := by
  refine MetFree.of_bodySF (plainFor_of_name own_pn0) hisR ?_
  intro p e s m args below meth c s₁ Bd hml0 hP hK
  obtain ⟨rfl, hZ, hh⟩ := hP
  have hx := Bd.exec
  have hby := Bd.bytes
  have hml : c.maxLocals = 1 := hml0
  have hown : s.vm.findClass "com/example/carillon/carillon/search/Change" = some m.cls := findClass_of_methodNamed Bd.named
  have hnm := (name_of_methodNamed Bd.named Bd.method).1
  have X0 : Stand p l e R_own_rm13 s m #[(.ref a1)] below meth c s₁ [] 0 0 := Stand.of_body Bd
  have e0 : s₁.heap = h0 := by rw [← hh, Bd.state]; rfl
  have N0 := Fr.nil n0
  have K0 : Keep h0 h0 [] := Keep.refl h0 []
  show own_Fin p e below s (Q_own_rm13 Z a1 d1 h0 n0) R_own_rm13.cells R_own_rm13.slots (s₁.setTop (entryFrame m #[(.ref a1)] 1))
  refine own_go (fun _ k => castTop (ef_own_rm13 m a1) k) ?_
  show own_Fin _ _ _ _ _ _ _ (s₁.setTop (mkF m 0 #[.val (.ref a1)] []))
  refine own_go (B := s₁.setTop (mkF m 1 #[.val (.ref a1)] [(.ref a1)])) (fun _ k => XS.aloadN X0.here hx rfl (hb hby d13_0) rfl rfl k) ?_
  obtain ⟨T1, X1, e1, st1⟩ := getF X0 hx hZ hown (host := "") (Or.inl (own_w hw 16 rfl)) Via.refl e0 P_F_a1_soft (g := (mkF m 1 #[.val (.ref a1)] [(.ref a1)])) rfl rfl (hb hby d13_1)
  refine own_go (B := T1.setTop (mkF m 4 #[.val (.ref a1)] [(.double d1)])) st1 ?_
  exact own_retD X1 hx Bd.notSynchronized Bd.returns (hb hby d13_4) e1 ⟨rfl, N0, rfl⟩ (by decide) (by decide)
theorem own_pn1 : plainName "com/example/carillon/carillon/search/ChangeSetPinLaw" = true := by first | (simp [plainName, overriddenIn]; done) | decide +kernel
theorem ef_own_rm0 (m : MethodId) (x0 : Int64) (x1 : Int32) (x2 : Int32) (x3 : Int32) (x4 : Int32) (x5 : Int32) : entryFrame m #[(.long x0), (.int x1), (.int x2), (.int x3), (.int x4), (.int x5)] maxLocals = mkF m 0 #[.val (.long x0), .second, .val (.int x1), .val (.int x2), .val (.int x3), .val (.int x4), .val (.int x5), .unset, .unset, .unset, .unset, .unset] [] := by first | (simp [entryFrame, mkF, argsToLocals, Value.category, maxLocals]; done) | rfl
def Q_own_rm0 (Z : State) (q1 : Int64) (p2 : Int32) (p3 : Int32) (p4 : Int32) (p5 : Int32) (p6 : Int32) (h0 : Heap) (n0 : Nat) (v : Option Value) (h : Heap) (L : List Loc) : Prop := v = some (.int (1 : Int32)) ∧ Fr n0 L ∧ Keep h0 h []
set_option maxRecDepth 65536 in
set_option maxHeartbeats 400000000 in
theorem own_rm0 (l : Launch) (Z : State) (a0 : Array Value) (hw : ∀ d ∈ tables_1, d.before a0 Z = true) (ws : List Jvm.Cond) (q1 : Int64) (p2 : Int32) (p3 : Int32) (p4 : Int32) (p5 : Int32) (p6 : Int32) (h0 : Heap) (n0 : Nat) (Z0 : n0 ≤ h0.size)  :
    MetFree l x (head1 (Jvm.Cond.code x code maxLocals ret :: ws) room_1) (fun a U => a = #[(.long q1), (.int p2), (.int p3), (.int p4), (.int p5), (.int p6)] ∧ Z.Warmed39 U.vm ∧ U.heap = h0) (fun _ _ _ _ _ => True) (fun _ U o U' => ∃ v L, o = .returned v ∧ Q_own_rm0 Z q1 p2 p3 p4 p5 p6 h0 n0 v U'.heap L ∧ FrameEnd U o U' L 1 9) := by
  refine MetFree.of_bodySF (plainFor_of_name own_pn1) hisR ?_
  intro p e s m args below meth c s₁ Bd hml0 hP hK
  obtain ⟨rfl, hZ, hh⟩ := hP
  have hx := Bd.exec
  have hby := Bd.bytes
  have hml : c.maxLocals = 12 := hml0
  have hown : s.vm.findClass "com/example/carillon/carillon/search/ChangeSetPinLaw" = some m.cls := findClass_of_methodNamed Bd.named
  have hnm := (name_of_methodNamed Bd.named Bd.method).1
  have X0 : Stand p l e room_1 s m #[(.long q1), (.int p2), (.int p3), (.int p4), (.int p5), (.int p6)] below meth c s₁ [] 0 0 := Stand.of_body Bd
  have e0 : s₁.heap = h0 := by rw [← hh, Bd.state]; rfl
  have N0 := Fr.nil n0
  have K0 : Keep h0 h0 [] := Keep.refl h0 []
  show own_Fin p e below s (Q_own_rm0 Z q1 p2 p3 p4 p5 p6 h0 n0) 1 9 (s₁.setTop (entryFrame m #[(.long q1), (.int p2), (.int p3), (.int p4), (.int p5), (.int p6)] maxLocals))
  refine own_go (fun _ k => castTop (ef_own_rm0 m q1 p2 p3 p4 p5 p6) k) ?_
  show own_Fin _ _ _ _ _ _ _ (s₁.setTop (mkF m 0 #[.val (.long q1), .second, .val (.int p2), .val (.int p3), .val (.int p4), .val (.int p5), .val (.int p6), .unset, .unset, .unset, .unset, .unset] []))
  refine own_go (B := s₁.setTop (mkF m 1 #[.val (.long q1), .second, .val (.int p2), .val (.int p3), .val (.int p4), .val (.int p5), .val (.int p6), .unset, .unset, .unset, .unset, .unset] [(.long q1)])) (fun _ k => XS.lloadN X0.here hx rfl (hb hby at_0) rfl  k) ?_
  refine own_go (B := s₁.setTop (mkF m 2 #[.val (.long q1), .second, .val (.int p2), .val (.int p3), .val (.int p4), .val (.int p5), .val (.int p6), .unset, .unset, .unset, .unset, .unset] [(.int (q1.toInt32))])) (fun _ k => XS.l2i X0.here hx rfl (hb hby at_1) rfl k) ?_
  refine own_go (B := s₁.setTop (mkF m 4 #[.val (.long q1), .second, .val (.int p2), .val (.int p3), .val (.int p4), .val (.int p5), .val (.int p6), .val (.int (q1.toInt32)), .unset, .unset, .unset, .unset] [])) (fun _ k => XS.istore X0.here hx rfl (hb hby at_2) rfl (l' := #[.val (.long q1), .second, .val (.int p2), .val (.int p3), .val (.int p4), .val (.int p5), .val (.int p6), .val (.int (q1.toInt32)), .unset, .unset, .unset, .unset]) rfl k) ?_
  refine own_go (B := s₁.setTop (mkF m 5 #[.val (.long q1), .second, .val (.int p2), .val (.int p3), .val (.int p4), .val (.int p5), .val (.int p6), .val (.int (q1.toInt32)), .unset, .unset, .unset, .unset] [(.long q1)])) (fun _ k => XS.lloadN X0.here hx rfl (hb hby at_4) rfl  k) ?_
  refine own_go (B := s₁.setTop (mkF m 7 #[.val (.long q1), .second, .val (.int p2), .val (.int p3), .val (.int p4), .val (.int p5), .val (.int p6), .val (.int (q1.toInt32)), .unset, .unset, .unset, .unset] [(.int (32 : Int32)), (.long q1)])) (fun _ k => XS.bipush X0.here hx rfl (hb hby at_5) k) ?_
  refine own_go (B := s₁.setTop (mkF m 8 #[.val (.long q1), .second, .val (.int p2), .val (.int p3), .val (.int p4), .val (.int p5), .val (.int p6), .val (.int (q1.toInt32)), .unset, .unset, .unset, .unset] [(.long ((q1.toUInt64 >>> ((32 : Int32) &&& 0x3f).toInt64.toUInt64).toInt64))])) (fun _ k => XS.lushr X0.here hx rfl (hb hby at_7) rfl k) ?_
  refine own_go (B := s₁.setTop (mkF m 9 #[.val (.long q1), .second, .val (.int p2), .val (.int p3), .val (.int p4), .val (.int p5), .val (.int p6), .val (.int (q1.toInt32)), .unset, .unset, .unset, .unset] [(.int (((q1.toUInt64 >>> ((32 : Int32) &&& 0x3f).toInt64.toUInt64).toInt64).toInt32))])) (fun _ k => XS.l2i X0.here hx rfl (hb hby at_8) rfl k) ?_
  refine own_go (B := s₁.setTop (mkF m 11 #[.val (.long q1), .second, .val (.int p2), .val (.int p3), .val (.int p4), .val (.int p5), .val (.int p6), .val (.int (q1.toInt32)), .val (.int (((q1.toUInt64 >>> ((32 : Int32) &&& 0x3f).toInt64.toUInt64).toInt64).toInt32)), .unset, .unset, .unset] [])) (fun _ k => XS.istore X0.here hx rfl (hb hby at_9) rfl (l' := #[.val (.long q1), .second, .val (.int p2), .val (.int p3), .val (.int p4), .val (.int p5), .val (.int p6), .val (.int (q1.toInt32)), .val (.int (((q1.toUInt64 >>> ((32 : Int32) &&& 0x3f).toInt64.toUInt64).toInt64).toInt32)), .unset, .unset, .unset]) rfl k) ?_
  refine own_go (B := s₁.setTop (mkF m 13 #[.val (.long q1), .second, .val (.int p2), .val (.int p3), .val (.int p4), .val (.int p5), .val (.int p6), .val (.int (q1.toInt32)), .val (.int (((q1.toUInt64 >>> ((32 : Int32) &&& 0x3f).toInt64.toUInt64).toInt64).toInt32)), .unset, .unset, .unset] [(.int p6)])) (fun _ k => XS.iload X0.here hx rfl (hb hby at_11) rfl  k) ?_
  refine own_go (B := s₁.setTop (mkF m 16 #[.val (.long q1), .second, .val (.int p2), .val (.int p3), .val (.int p4), .val (.int p5), .val (.int p6), .val (.int (q1.toInt32)), .val (.int (((q1.toUInt64 >>> ((32 : Int32) &&& 0x3f).toInt64.toUInt64).toInt64).toInt32)), .unset, .unset, .unset] [(.int (1023 : Int32)), (.int p6)])) (fun _ k => XS.sipush X0.here hx rfl (hb hby at_13) k) ?_
  refine own_go (B := s₁.setTop (mkF m 17 #[.val (.long q1), .second, .val (.int p2), .val (.int p3), .val (.int p4), .val (.int p5), .val (.int p6), .val (.int (q1.toInt32)), .val (.int (((q1.toUInt64 >>> ((32 : Int32) &&& 0x3f).toInt64.toUInt64).toInt64).toInt32)), .unset, .unset, .unset] [(.int (p6 &&& (1023 : Int32)))])) (fun _ k => XS.iand X0.here hx rfl (hb hby at_16) rfl k) ?_
  refine own_go (B := s₁.setTop (mkF m 18 #[.val (.long q1), .second, .val (.int p2), .val (.int p3), .val (.int p4), .val (.int p5), .val (.int p6), .val (.int (q1.toInt32)), .val (.int (((q1.toUInt64 >>> ((32 : Int32) &&& 0x3f).toInt64.toUInt64).toInt64).toInt32)), .unset, .unset, .unset] [(.double (FP.l2d ((p6 &&& (1023 : Int32)).toInt64)))])) (fun _ k => XS.i2dS X0.here hx rfl (hb hby at_17) rfl (i2d_w _) k) ?_
  refine own_go (B := s₁.setTop (mkF m 20 #[.val (.long q1), .second, .val (.int p2), .val (.int p3), .val (.int p4), .val (.int p5), .val (.int p6), .val (.int (q1.toInt32)), .val (.int (((q1.toUInt64 >>> ((32 : Int32) &&& 0x3f).toInt64.toUInt64).toInt64).toInt32)), .val (.double (FP.l2d ((p6 &&& (1023 : Int32)).toInt64))), .second, .unset] [])) (fun _ k => XS.dstore X0.here hx rfl (hb hby at_18) rfl (l' := #[.val (.long q1), .second, .val (.int p2), .val (.int p3), .val (.int p4), .val (.int p5), .val (.int p6), .val (.int (q1.toInt32)), .val (.int (((q1.toUInt64 >>> ((32 : Int32) &&& 0x3f).toInt64.toUInt64).toInt64).toInt32)), .val (.double (FP.l2d ((p6 &&& (1023 : Int32)).toInt64))), .second, .unset]) rfl k) ?_
  obtain ⟨T1, h1, X1, e1, E1, A1, D1, -, st1⟩ := newO X0 hx hZ hown (own_w hw 0 rfl) (own_w hw 1 rfl) (own_w hw 2 rfl) e0 (g := (mkF m 20 #[.val (.long q1), .second, .val (.int p2), .val (.int p3), .val (.int p4), .val (.int p5), .val (.int p6), .val (.int (q1.toInt32)), .val (.int (((q1.toUInt64 >>> ((32 : Int32) &&& 0x3f).toInt64.toUInt64).toInt64).toInt32)), .val (.double (FP.l2d ((p6 &&& (1023 : Int32)).toInt64))), .second, .unset] [])) rfl (hb hby at_20) (by decide) (by decide)
  obtain ⟨b1, g1⟩ : ∃ z, z = h0.size := ⟨_, rfl⟩
  rw [← g1] at A1 D1 st1
  have sz_b1 : h0.size ≤ b1 := Nat.le_trans K0.1 (Nat.le_of_eq g1.symm)
  have g_b1 : n0 ≤ b1 := Nat.le_trans Z0 sz_b1
  have F_hard_b1 : Fld Z h1 b1 "com/example/carillon/carillon/search/Change" "hard" "J" (.long (0 : Int64)) := D1 (Or.inl (own_w hw 15 rfl)) (ty := .long) (by decide)
  have F_soft_b1 : Fld Z h1 b1 "com/example/carillon/carillon/search/Change" "soft" "D" (.double (0 : UInt64)) := D1 (Or.inl (own_w hw 17 rfl)) (ty := .double) (by decide)
  have F_lecture_b1 : Fld Z h1 b1 "com/example/carillon/carillon/search/Change" "lecture" "I" (.int (0 : Int32)) := D1 (Or.inl (own_w hw 24 rfl)) (ty := .int) (by decide)
  have F_period_b1 : Fld Z h1 b1 "com/example/carillon/carillon/search/Change" "period" "I" (.int (0 : Int32)) := D1 (Or.inl (own_w hw 26 rfl)) (ty := .int) (by decide)
  have F_room_b1 : Fld Z h1 b1 "com/example/carillon/carillon/search/Change" "room" "I" (.int (0 : Int32)) := D1 (Or.inl (own_w hw 28 rfl)) (ty := .int) (by decide)
  have F_fromPeriod_b1 : Fld Z h1 b1 "com/example/carillon/carillon/search/Change" "fromPeriod" "I" (.int (0 : Int32)) := D1 (Or.inl (own_w hw 30 rfl)) (ty := .int) (by decide)
  have F_fromRoom_b1 : Fld Z h1 b1 "com/example/carillon/carillon/search/Change" "fromRoom" "I" (.int (0 : Int32)) := D1 (Or.inl (own_w hw 32 rfl)) (ty := .int) (by decide)
  have F_other_b1 : Fld Z h1 b1 "com/example/carillon/carillon/search/Change" "other" "I" (.int (0 : Int32)) := D1 (Or.inl (own_w hw 34 rfl)) (ty := .int) (by decide)
  have F_otherFrom_b1 : Fld Z h1 b1 "com/example/carillon/carillon/search/Change" "otherFrom" "I" (.int (0 : Int32)) := D1 (Or.inl (own_w hw 36 rfl)) (ty := .int) (by decide)
  have K3 : Keep h0 h1 [] := K0.ext E1
  refine own_go (B := T1.setTop (mkF m 23 #[.val (.long q1), .second, .val (.int p2), .val (.int p3), .val (.int p4), .val (.int p5), .val (.int p6), .val (.int (q1.toInt32)), .val (.int (((q1.toUInt64 >>> ((32 : Int32) &&& 0x3f).toInt64.toUInt64).toInt64).toInt32)), .val (.double (FP.l2d ((p6 &&& (1023 : Int32)).toInt64))), .second, .unset] [(.ref b1)])) st1 ?_
  refine own_go (B := T1.setTop (mkF m 24 #[.val (.long q1), .second, .val (.int p2), .val (.int p3), .val (.int p4), .val (.int p5), .val (.int p6), .val (.int (q1.toInt32)), .val (.int (((q1.toUInt64 >>> ((32 : Int32) &&& 0x3f).toInt64.toUInt64).toInt64).toInt32)), .val (.double (FP.l2d ((p6 &&& (1023 : Int32)).toInt64))), .second, .unset] [(.ref b1), (.ref b1)])) (fun _ k => XS.dup X1.here hx rfl (hb hby at_23) rfl rfl k) ?_
  obtain ⟨_, _, ⟨T4, L4, k4, n4⟩, -, X4, ⟨Lc4, hQ4, l4, y4, z4⟩, st4⟩ := X1.specialBack hx (y := (⟨"com/example/carillon/carillon/search/Change", "<init>", "()V"⟩ : MethodName)) rfl hown (mvT hZ (own_w hw 3 rfl)) (mvT hZ (own_w hw 4 rfl)) (mvT hZ (own_w hw 5 rfl)) (by decide) (backOf (W := 1) (own_rm1 l Z a0 hw [] b1 h1 n0 (Nat.le_trans Z0 K3.1) ) hZ (own_w hw 5 rfl) (own_w hw 2 rfl) (by decide) (by decide)) (g := (mkF m 24 #[.val (.long q1), .second, .val (.int p2), .val (.int p3), .val (.int p4), .val (.int p5), .val (.int p6), .val (.int (q1.toInt32)), .val (.int (((q1.toUInt64 >>> ((32 : Int32) &&& 0x3f).toInt64.toUInt64).toInt64).toInt32)), .val (.double (FP.l2d ((p6 &&& (1023 : Int32)).toInt64))), .second, .unset] [(.ref b1), (.ref b1)])) rfl (by rw [hml]; rfl) (Steps.refl _) (a := b1) (argsL := []) (rest := [(.ref b1)]) (lenOf own_pd0 rfl) rfl (by show 2 * 0 + _ ≤ _; exact Nat.le_of_eq rfl) (hb hby at_24) (fun _ _ => ⟨rfl, e1, (by decide : 1 + 0 ≤ _), (by decide : 9 + 0 ≤ _)⟩)
  dsimp only [Pt.U, Pt.locs, Pt.cells, Pt.slots] at X4 l4 y4 z4 st4 hQ4
  subst l4 y4 z4
  obtain ⟨rfl, N4q, e4⟩ := hQ4
  have N4 := Fr.app N0 N4q
  refine own_go (B := T4.setTop (mkF m 27 #[.val (.long q1), .second, .val (.int p2), .val (.int p3), .val (.int p4), .val (.int p5), .val (.int p6), .val (.int (q1.toInt32)), .val (.int (((q1.toUInt64 >>> ((32 : Int32) &&& 0x3f).toInt64.toUInt64).toInt64).toInt32)), .val (.double (FP.l2d ((p6 &&& (1023 : Int32)).toInt64))), .second, .unset] [(.ref b1)])) (fun _ k => st4.trans k) ?_
  refine own_go (B := T4.setTop (mkF m 29 #[.val (.long q1), .second, .val (.int p2), .val (.int p3), .val (.int p4), .val (.int p5), .val (.int p6), .val (.int (q1.toInt32)), .val (.int (((q1.toUInt64 >>> ((32 : Int32) &&& 0x3f).toInt64.toUInt64).toInt64).toInt32)), .val (.double (FP.l2d ((p6 &&& (1023 : Int32)).toInt64))), .second, .val (.ref b1)] [])) (fun _ k => XS.astore X4.here hx rfl (hb hby at_27) rfl rfl (l' := #[.val (.long q1), .second, .val (.int p2), .val (.int p3), .val (.int p4), .val (.int p5), .val (.int p6), .val (.int (q1.toInt32)), .val (.int (((q1.toUInt64 >>> ((32 : Int32) &&& 0x3f).toInt64.toUInt64).toInt64).toInt32)), .val (.double (FP.l2d ((p6 &&& (1023 : Int32)).toInt64))), .second, .val (.ref b1)]) rfl k) ?_
  refine own_go (B := T4.setTop (mkF m 31 #[.val (.long q1), .second, .val (.int p2), .val (.int p3), .val (.int p4), .val (.int p5), .val (.int p6), .val (.int (q1.toInt32)), .val (.int (((q1.toUInt64 >>> ((32 : Int32) &&& 0x3f).toInt64.toUInt64).toInt64).toInt32)), .val (.double (FP.l2d ((p6 &&& (1023 : Int32)).toInt64))), .second, .val (.ref b1)] [(.ref b1)])) (fun _ k => XS.aload X4.here hx rfl (hb hby at_29) rfl rfl k) ?_
  refine own_go (B := T4.setTop (mkF m 32 #[.val (.long q1), .second, .val (.int p2), .val (.int p3), .val (.int p4), .val (.int p5), .val (.int p6), .val (.int (q1.toInt32)), .val (.int (((q1.toUInt64 >>> ((32 : Int32) &&& 0x3f).toInt64.toUInt64).toInt64).toInt32)), .val (.double (FP.l2d ((p6 &&& (1023 : Int32)).toInt64))), .second, .val (.ref b1)] [(.long q1), (.ref b1)])) (fun _ k => XS.lloadN X4.here hx rfl (hb hby at_31) rfl  k) ?_
  refine own_go (B := T4.setTop (mkF m 34 #[.val (.long q1), .second, .val (.int p2), .val (.int p3), .val (.int p4), .val (.int p5), .val (.int p6), .val (.int (q1.toInt32)), .val (.int (((q1.toUInt64 >>> ((32 : Int32) &&& 0x3f).toInt64.toUInt64).toInt64).toInt32)), .val (.double (FP.l2d ((p6 &&& (1023 : Int32)).toInt64))), .second, .val (.ref b1)] [(.double (FP.l2d ((p6 &&& (1023 : Int32)).toInt64))), (.long q1), (.ref b1)])) (fun _ k => XS.dload X4.here hx rfl (hb hby at_32) rfl  k) ?_
  obtain ⟨cq5, kq5, q5a, q5b, q5c⟩ := isOf hZ e4 A1
  obtain ⟨_, _, ⟨T5, L5, k5, n5⟩, -, X5, ⟨Lc5, hQ5, l5, y5, z5⟩, st5⟩ := X4.virtualBack hx (y := (⟨"com/example/carillon/carillon/search/Change", "cost", "(JD)V"⟩ : MethodName)) (z := (⟨"com/example/carillon/carillon/search/Change", "cost", "(JD)V"⟩ : MethodName)) hown (mvT hZ (own_w hw 9 rfl)) (mvT hZ (own_w hw 10 rfl)) (notFace_of_selects (args := #[]) (mvT hZ (own_w hw 12 rfl))) (mvT hZ (own_w hw 12 rfl)) (mvT hZ (own_w hw 11 rfl)) (by decide) (backOf (W := 0) (own_rm3 l Z a0 hw [] b1 q1 (FP.l2d ((p6 &&& (1023 : Int32)).toInt64)) h1 n0 (Nat.le_trans Z0 K3.1) A1 F_hard_b1 F_soft_b1 F_lecture_b1 F_period_b1 F_room_b1 F_fromPeriod_b1 F_fromRoom_b1 F_other_b1 F_otherFrom_b1 g_b1) hZ (own_w hw 13 rfl) (own_w hw 2 rfl) (by decide) (by decide)) q5a q5c (g := (mkF m 34 #[.val (.long q1), .second, .val (.int p2), .val (.int p3), .val (.int p4), .val (.int p5), .val (.int p6), .val (.int (q1.toInt32)), .val (.int (((q1.toUInt64 >>> ((32 : Int32) &&& 0x3f).toInt64.toUInt64).toInt64).toInt32)), .val (.double (FP.l2d ((p6 &&& (1023 : Int32)).toInt64))), .second, .val (.ref b1)] [(.double (FP.l2d ((p6 &&& (1023 : Int32)).toInt64))), (.long q1), (.ref b1)])) rfl (by rw [hml]; rfl) (Steps.refl _) (argsL := [(.long q1), (.double (FP.l2d ((p6 &&& (1023 : Int32)).toInt64)))]) (rest := []) (lenOf own_pd1 rfl) rfl (by show 2 * 0 + _ ≤ _; exact Nat.le_of_eq rfl) (hb hby at_34) (fun _ _ => ⟨rfl, e4, (by decide : 1 + 0 ≤ _), (by decide : 9 + 0 ≤ _)⟩)
  dsimp only [Pt.U, Pt.locs, Pt.cells, Pt.slots] at X5 l5 y5 z5 st5 hQ5
  subst l5 y5 z5
  obtain ⟨rfl, N5q, K5q, Q5_0, Q5_1, Q5_2, Q5_3, Q5_4, Q5_5, Q5_6, Q5_7, Q5_8, Q5_9⟩ := hQ5
  have N5 := Fr.app N4 N5q
  have K17 : Keep h0 T5.heap [] := K3.trans K5q (allS (Or.inr sz_b1) all0)
  refine own_go (B := T5.setTop (mkF m 37 #[.val (.long q1), .second, .val (.int p2), .val (.int p3), .val (.int p4), .val (.int p5), .val (.int p6), .val (.int (q1.toInt32)), .val (.int (((q1.toUInt64 >>> ((32 : Int32) &&& 0x3f).toInt64.toUInt64).toInt64).toInt32)), .val (.double (FP.l2d ((p6 &&& (1023 : Int32)).toInt64))), .second, .val (.ref b1)] [])) (fun _ k => st5.trans k) ?_
  refine own_go (B := T5.setTop (mkF m 39 #[.val (.long q1), .second, .val (.int p2), .val (.int p3), .val (.int p4), .val (.int p5), .val (.int p6), .val (.int (q1.toInt32)), .val (.int (((q1.toUInt64 >>> ((32 : Int32) &&& 0x3f).toInt64.toUInt64).toInt64).toInt32)), .val (.double (FP.l2d ((p6 &&& (1023 : Int32)).toInt64))), .second, .val (.ref b1)] [(.ref b1)])) (fun _ k => XS.aload X5.here hx rfl (hb hby at_37) rfl rfl k) ?_
  refine own_go (B := T5.setTop (mkF m 41 #[.val (.long q1), .second, .val (.int p2), .val (.int p3), .val (.int p4), .val (.int p5), .val (.int p6), .val (.int (q1.toInt32)), .val (.int (((q1.toUInt64 >>> ((32 : Int32) &&& 0x3f).toInt64.toUInt64).toInt64).toInt32)), .val (.double (FP.l2d ((p6 &&& (1023 : Int32)).toInt64))), .second, .val (.ref b1)] [(.int (q1.toInt32)), (.ref b1)])) (fun _ k => XS.iload X5.here hx rfl (hb hby at_39) rfl  k) ?_
  refine own_go (B := T5.setTop (mkF m 43 #[.val (.long q1), .second, .val (.int p2), .val (.int p3), .val (.int p4), .val (.int p5), .val (.int p6), .val (.int (q1.toInt32)), .val (.int (((q1.toUInt64 >>> ((32 : Int32) &&& 0x3f).toInt64.toUInt64).toInt64).toInt32)), .val (.double (FP.l2d ((p6 &&& (1023 : Int32)).toInt64))), .second, .val (.ref b1)] [(.int (((q1.toUInt64 >>> ((32 : Int32) &&& 0x3f).toInt64.toUInt64).toInt64).toInt32)), (.int (q1.toInt32)), (.ref b1)])) (fun _ k => XS.iload X5.here hx rfl (hb hby at_41) rfl  k) ?_
  refine own_go (B := T5.setTop (mkF m 44 #[.val (.long q1), .second, .val (.int p2), .val (.int p3), .val (.int p4), .val (.int p5), .val (.int p6), .val (.int (q1.toInt32)), .val (.int (((q1.toUInt64 >>> ((32 : Int32) &&& 0x3f).toInt64.toUInt64).toInt64).toInt32)), .val (.double (FP.l2d ((p6 &&& (1023 : Int32)).toInt64))), .second, .val (.ref b1)] [(.int p2), (.int (((q1.toUInt64 >>> ((32 : Int32) &&& 0x3f).toInt64.toUInt64).toInt64).toInt32)), (.int (q1.toInt32)), (.ref b1)])) (fun _ k => XS.iloadN X5.here hx rfl (hb hby at_43) rfl  k) ?_
  refine own_go (B := T5.setTop (mkF m 45 #[.val (.long q1), .second, .val (.int p2), .val (.int p3), .val (.int p4), .val (.int p5), .val (.int p6), .val (.int (q1.toInt32)), .val (.int (((q1.toUInt64 >>> ((32 : Int32) &&& 0x3f).toInt64.toUInt64).toInt64).toInt32)), .val (.double (FP.l2d ((p6 &&& (1023 : Int32)).toInt64))), .second, .val (.ref b1)] [(.int p3), (.int p2), (.int (((q1.toUInt64 >>> ((32 : Int32) &&& 0x3f).toInt64.toUInt64).toInt64).toInt32)), (.int (q1.toInt32)), (.ref b1)])) (fun _ k => XS.iloadN X5.here hx rfl (hb hby at_44) rfl  k) ?_
  refine own_go (B := T5.setTop (mkF m 47 #[.val (.long q1), .second, .val (.int p2), .val (.int p3), .val (.int p4), .val (.int p5), .val (.int p6), .val (.int (q1.toInt32)), .val (.int (((q1.toUInt64 >>> ((32 : Int32) &&& 0x3f).toInt64.toUInt64).toInt64).toInt32)), .val (.double (FP.l2d ((p6 &&& (1023 : Int32)).toInt64))), .second, .val (.ref b1)] [(.int p4), (.int p3), (.int p2), (.int (((q1.toUInt64 >>> ((32 : Int32) &&& 0x3f).toInt64.toUInt64).toInt64).toInt32)), (.int (q1.toInt32)), (.ref b1)])) (fun _ k => XS.iload X5.here hx rfl (hb hby at_45) rfl  k) ?_
  refine own_go (B := T5.setTop (mkF m 49 #[.val (.long q1), .second, .val (.int p2), .val (.int p3), .val (.int p4), .val (.int p5), .val (.int p6), .val (.int (q1.toInt32)), .val (.int (((q1.toUInt64 >>> ((32 : Int32) &&& 0x3f).toInt64.toUInt64).toInt64).toInt32)), .val (.double (FP.l2d ((p6 &&& (1023 : Int32)).toInt64))), .second, .val (.ref b1)] [(.int p5), (.int p4), (.int p3), (.int p2), (.int (((q1.toUInt64 >>> ((32 : Int32) &&& 0x3f).toInt64.toUInt64).toInt64).toInt32)), (.int (q1.toInt32)), (.ref b1)])) (fun _ k => XS.iload X5.here hx rfl (hb hby at_47) rfl  k) ?_
  refine own_go (B := T5.setTop (mkF m 51 #[.val (.long q1), .second, .val (.int p2), .val (.int p3), .val (.int p4), .val (.int p5), .val (.int p6), .val (.int (q1.toInt32)), .val (.int (((q1.toUInt64 >>> ((32 : Int32) &&& 0x3f).toInt64.toUInt64).toInt64).toInt32)), .val (.double (FP.l2d ((p6 &&& (1023 : Int32)).toInt64))), .second, .val (.ref b1)] [(.int p6), (.int p5), (.int p4), (.int p3), (.int p2), (.int (((q1.toUInt64 >>> ((32 : Int32) &&& 0x3f).toInt64.toUInt64).toInt64).toInt32)), (.int (q1.toInt32)), (.ref b1)])) (fun _ k => XS.iload X5.here hx rfl (hb hby at_49) rfl  k) ?_
  obtain ⟨cq18, kq18, q18a, q18b, q18c⟩ := isOf hZ rfl Q5_0
  obtain ⟨_, _, ⟨T18, L18, k18, n18⟩, -, X18, ⟨Lc18, hQ18, l18, y18, z18⟩, st18⟩ := X5.virtualBack hx (y := (⟨"com/example/carillon/carillon/search/Change", "set", "(IIIIIII)V"⟩ : MethodName)) (z := (⟨"com/example/carillon/carillon/search/Change", "set", "(IIIIIII)V"⟩ : MethodName)) hown (mvT hZ (own_w hw 18 rfl)) (mvT hZ (own_w hw 19 rfl)) (notFace_of_selects (args := #[]) (mvT hZ (own_w hw 21 rfl))) (mvT hZ (own_w hw 21 rfl)) (mvT hZ (own_w hw 20 rfl)) (by decide) (backOf (W := 0) (own_rm4 l Z a0 hw [] b1 (q1.toInt32) (((q1.toUInt64 >>> ((32 : Int32) &&& 0x3f).toInt64.toUInt64).toInt64).toInt32) p2 p3 p4 p5 p6 q1 (FP.l2d ((p6 &&& (1023 : Int32)).toInt64)) T5.heap n0 (Nat.le_trans Z0 K17.1) Q5_0 Q5_1 Q5_2 Q5_3 Q5_4 Q5_5 Q5_6 Q5_7 Q5_8 Q5_9 g_b1) hZ (own_w hw 22 rfl) (own_w hw 2 rfl) (by decide) (by decide)) q18a q18c (g := (mkF m 51 #[.val (.long q1), .second, .val (.int p2), .val (.int p3), .val (.int p4), .val (.int p5), .val (.int p6), .val (.int (q1.toInt32)), .val (.int (((q1.toUInt64 >>> ((32 : Int32) &&& 0x3f).toInt64.toUInt64).toInt64).toInt32)), .val (.double (FP.l2d ((p6 &&& (1023 : Int32)).toInt64))), .second, .val (.ref b1)] [(.int p6), (.int p5), (.int p4), (.int p3), (.int p2), (.int (((q1.toUInt64 >>> ((32 : Int32) &&& 0x3f).toInt64.toUInt64).toInt64).toInt32)), (.int (q1.toInt32)), (.ref b1)])) rfl (by rw [hml]; rfl) (Steps.refl _) (argsL := [(.int (q1.toInt32)), (.int (((q1.toUInt64 >>> ((32 : Int32) &&& 0x3f).toInt64.toUInt64).toInt64).toInt32)), (.int p2), (.int p3), (.int p4), (.int p5), (.int p6)]) (rest := []) (lenOf own_pd2 rfl) rfl (by show 2 * 0 + _ ≤ _; exact Nat.le_of_eq rfl) (hb hby at_51) (fun _ _ => ⟨rfl, rfl, (by decide : 1 + 0 ≤ _), (by decide : 9 + 0 ≤ _)⟩)
  dsimp only [Pt.U, Pt.locs, Pt.cells, Pt.slots] at X18 l18 y18 z18 st18 hQ18
  subst l18 y18 z18
  obtain ⟨rfl, N18q, K18q, Q18_0, Q18_1, Q18_2, Q18_3, Q18_4, Q18_5, Q18_6, Q18_7, Q18_8, Q18_9⟩ := hQ18
  have N18 := Fr.app N5 N18q
  have K30 : Keep h0 T18.heap [] := K17.trans K18q (allS (Or.inr sz_b1) all0)
  refine own_go (B := T18.setTop (mkF m 54 #[.val (.long q1), .second, .val (.int p2), .val (.int p3), .val (.int p4), .val (.int p5), .val (.int p6), .val (.int (q1.toInt32)), .val (.int (((q1.toUInt64 >>> ((32 : Int32) &&& 0x3f).toInt64.toUInt64).toInt64).toInt32)), .val (.double (FP.l2d ((p6 &&& (1023 : Int32)).toInt64))), .second, .val (.ref b1)] [])) (fun _ k => st18.trans k) ?_
  refine own_go (B := T18.setTop (mkF m 56 #[.val (.long q1), .second, .val (.int p2), .val (.int p3), .val (.int p4), .val (.int p5), .val (.int p6), .val (.int (q1.toInt32)), .val (.int (((q1.toUInt64 >>> ((32 : Int32) &&& 0x3f).toInt64.toUInt64).toInt64).toInt32)), .val (.double (FP.l2d ((p6 &&& (1023 : Int32)).toInt64))), .second, .val (.ref b1)] [(.ref b1)])) (fun _ k => XS.aload X18.here hx rfl (hb hby at_54) rfl rfl k) ?_
  obtain ⟨cq31, kq31, q31a, q31b, q31c⟩ := isOf hZ rfl Q18_0
  obtain ⟨_, _, ⟨T31, L31, k31, n31⟩, -, X31, ⟨Lc31, hQ31, l31, y31, z31⟩, st31⟩ := X18.virtualBack hx (y := (⟨"com/example/carillon/carillon/search/Change", "lecture", "()I"⟩ : MethodName)) (z := (⟨"com/example/carillon/carillon/search/Change", "lecture", "()I"⟩ : MethodName)) hown (mvT hZ (own_w hw 37 rfl)) (mvT hZ (own_w hw 38 rfl)) (notFace_of_selects (args := #[]) (mvT hZ (own_w hw 40 rfl))) (mvT hZ (own_w hw 40 rfl)) (mvT hZ (own_w hw 39 rfl)) (by decide) (backOf (W := 0) (own_rm5 l Z a0 hw [] b1 (q1.toInt32) T18.heap n0 (Nat.le_trans Z0 K30.1) Q18_3) hZ (own_w hw 41 rfl) (own_w hw 2 rfl) (by decide) (by decide)) q31a q31c (g := (mkF m 56 #[.val (.long q1), .second, .val (.int p2), .val (.int p3), .val (.int p4), .val (.int p5), .val (.int p6), .val (.int (q1.toInt32)), .val (.int (((q1.toUInt64 >>> ((32 : Int32) &&& 0x3f).toInt64.toUInt64).toInt64).toInt32)), .val (.double (FP.l2d ((p6 &&& (1023 : Int32)).toInt64))), .second, .val (.ref b1)] [(.ref b1)])) rfl (by rw [hml]; rfl) (Steps.refl _) (argsL := []) (rest := []) (lenOf own_pd3 rfl) rfl (by show 2 * 0 + _ ≤ _; exact Nat.le_of_eq rfl) (hb hby at_56) (fun _ _ => ⟨rfl, rfl, (by decide : 1 + 0 ≤ _), (by decide : 9 + 0 ≤ _)⟩)
  dsimp only [Pt.U, Pt.locs, Pt.cells, Pt.slots] at X31 l31 y31 z31 st31 hQ31
  subst l31 y31 z31
  obtain ⟨rfl, N31q, e31⟩ := hQ31
  have N31 := Fr.app N18 N31q
  refine own_go (B := T31.setTop (mkF m 59 #[.val (.long q1), .second, .val (.int p2), .val (.int p3), .val (.int p4), .val (.int p5), .val (.int p6), .val (.int (q1.toInt32)), .val (.int (((q1.toUInt64 >>> ((32 : Int32) &&& 0x3f).toInt64.toUInt64).toInt64).toInt32)), .val (.double (FP.l2d ((p6 &&& (1023 : Int32)).toInt64))), .second, .val (.ref b1)] [(.int (q1.toInt32))])) (fun _ k => st31.trans k) ?_
  refine own_go (B := T31.setTop (mkF m 61 #[.val (.long q1), .second, .val (.int p2), .val (.int p3), .val (.int p4), .val (.int p5), .val (.int p6), .val (.int (q1.toInt32)), .val (.int (((q1.toUInt64 >>> ((32 : Int32) &&& 0x3f).toInt64.toUInt64).toInt64).toInt32)), .val (.double (FP.l2d ((p6 &&& (1023 : Int32)).toInt64))), .second, .val (.ref b1)] [(.int (q1.toInt32)), (.int (q1.toInt32))])) (fun _ k => XS.iload X31.here hx rfl (hb hby at_59) rfl  k) ?_
  refine own_go (B := T31.setTop (mkF m 64 #[.val (.long q1), .second, .val (.int p2), .val (.int p3), .val (.int p4), .val (.int p5), .val (.int p6), .val (.int (q1.toInt32)), .val (.int (((q1.toUInt64 >>> ((32 : Int32) &&& 0x3f).toInt64.toUInt64).toInt64).toInt32)), .val (.double (FP.l2d ((p6 &&& (1023 : Int32)).toInt64))), .second, .val (.ref b1)] [])) (fun _ k => XS.icmpNo X31.here hx rfl (hb hby at_61) rfl (teq (rfl : (q1.toInt32) = (q1.toInt32))).2 k) ?_
  refine own_go (B := T31.setTop (mkF m 66 #[.val (.long q1), .second, .val (.int p2), .val (.int p3), .val (.int p4), .val (.int p5), .val (.int p6), .val (.int (q1.toInt32)), .val (.int (((q1.toUInt64 >>> ((32 : Int32) &&& 0x3f).toInt64.toUInt64).toInt64).toInt32)), .val (.double (FP.l2d ((p6 &&& (1023 : Int32)).toInt64))), .second, .val (.ref b1)] [(.ref b1)])) (fun _ k => XS.aload X31.here hx rfl (hb hby at_64) rfl rfl k) ?_
  obtain ⟨cq32, kq32, q32a, q32b, q32c⟩ := isOf hZ e31 Q18_0
  obtain ⟨_, _, ⟨T32, L32, k32, n32⟩, -, X32, ⟨Lc32, hQ32, l32, y32, z32⟩, st32⟩ := X31.virtualBack hx (y := (⟨"com/example/carillon/carillon/search/Change", "period", "()I"⟩ : MethodName)) (z := (⟨"com/example/carillon/carillon/search/Change", "period", "()I"⟩ : MethodName)) hown (mvT hZ (own_w hw 42 rfl)) (mvT hZ (own_w hw 43 rfl)) (notFace_of_selects (args := #[]) (mvT hZ (own_w hw 45 rfl))) (mvT hZ (own_w hw 45 rfl)) (mvT hZ (own_w hw 44 rfl)) (by decide) (backOf (W := 0) (own_rm6 l Z a0 hw [] b1 (((q1.toUInt64 >>> ((32 : Int32) &&& 0x3f).toInt64.toUInt64).toInt64).toInt32) T18.heap n0 (Nat.le_trans Z0 K30.1) Q18_4) hZ (own_w hw 46 rfl) (own_w hw 2 rfl) (by decide) (by decide)) q32a q32c (g := (mkF m 66 #[.val (.long q1), .second, .val (.int p2), .val (.int p3), .val (.int p4), .val (.int p5), .val (.int p6), .val (.int (q1.toInt32)), .val (.int (((q1.toUInt64 >>> ((32 : Int32) &&& 0x3f).toInt64.toUInt64).toInt64).toInt32)), .val (.double (FP.l2d ((p6 &&& (1023 : Int32)).toInt64))), .second, .val (.ref b1)] [(.ref b1)])) rfl (by rw [hml]; rfl) (Steps.refl _) (argsL := []) (rest := []) (lenOf own_pd3 rfl) rfl (by show 2 * 0 + _ ≤ _; exact Nat.le_of_eq rfl) (hb hby at_66) (fun _ _ => ⟨rfl, e31, (by decide : 1 + 0 ≤ _), (by decide : 9 + 0 ≤ _)⟩)
  dsimp only [Pt.U, Pt.locs, Pt.cells, Pt.slots] at X32 l32 y32 z32 st32 hQ32
  subst l32 y32 z32
  obtain ⟨rfl, N32q, e32⟩ := hQ32
  have N32 := Fr.app N31 N32q
  refine own_go (B := T32.setTop (mkF m 69 #[.val (.long q1), .second, .val (.int p2), .val (.int p3), .val (.int p4), .val (.int p5), .val (.int p6), .val (.int (q1.toInt32)), .val (.int (((q1.toUInt64 >>> ((32 : Int32) &&& 0x3f).toInt64.toUInt64).toInt64).toInt32)), .val (.double (FP.l2d ((p6 &&& (1023 : Int32)).toInt64))), .second, .val (.ref b1)] [(.int (((q1.toUInt64 >>> ((32 : Int32) &&& 0x3f).toInt64.toUInt64).toInt64).toInt32))])) (fun _ k => st32.trans k) ?_
  refine own_go (B := T32.setTop (mkF m 71 #[.val (.long q1), .second, .val (.int p2), .val (.int p3), .val (.int p4), .val (.int p5), .val (.int p6), .val (.int (q1.toInt32)), .val (.int (((q1.toUInt64 >>> ((32 : Int32) &&& 0x3f).toInt64.toUInt64).toInt64).toInt32)), .val (.double (FP.l2d ((p6 &&& (1023 : Int32)).toInt64))), .second, .val (.ref b1)] [(.int (((q1.toUInt64 >>> ((32 : Int32) &&& 0x3f).toInt64.toUInt64).toInt64).toInt32)), (.int (((q1.toUInt64 >>> ((32 : Int32) &&& 0x3f).toInt64.toUInt64).toInt64).toInt32))])) (fun _ k => XS.iload X32.here hx rfl (hb hby at_69) rfl  k) ?_
  refine own_go (B := T32.setTop (mkF m 74 #[.val (.long q1), .second, .val (.int p2), .val (.int p3), .val (.int p4), .val (.int p5), .val (.int p6), .val (.int (q1.toInt32)), .val (.int (((q1.toUInt64 >>> ((32 : Int32) &&& 0x3f).toInt64.toUInt64).toInt64).toInt32)), .val (.double (FP.l2d ((p6 &&& (1023 : Int32)).toInt64))), .second, .val (.ref b1)] [])) (fun _ k => XS.icmpNo X32.here hx rfl (hb hby at_71) rfl (teq (rfl : (((q1.toUInt64 >>> ((32 : Int32) &&& 0x3f).toInt64.toUInt64).toInt64).toInt32) = (((q1.toUInt64 >>> ((32 : Int32) &&& 0x3f).toInt64.toUInt64).toInt64).toInt32))).2 k) ?_
  refine own_go (B := T32.setTop (mkF m 76 #[.val (.long q1), .second, .val (.int p2), .val (.int p3), .val (.int p4), .val (.int p5), .val (.int p6), .val (.int (q1.toInt32)), .val (.int (((q1.toUInt64 >>> ((32 : Int32) &&& 0x3f).toInt64.toUInt64).toInt64).toInt32)), .val (.double (FP.l2d ((p6 &&& (1023 : Int32)).toInt64))), .second, .val (.ref b1)] [(.ref b1)])) (fun _ k => XS.aload X32.here hx rfl (hb hby at_74) rfl rfl k) ?_
  obtain ⟨cq33, kq33, q33a, q33b, q33c⟩ := isOf hZ e32 Q18_0
  obtain ⟨_, _, ⟨T33, L33, k33, n33⟩, -, X33, ⟨Lc33, hQ33, l33, y33, z33⟩, st33⟩ := X32.virtualBack hx (y := (⟨"com/example/carillon/carillon/search/Change", "room", "()I"⟩ : MethodName)) (z := (⟨"com/example/carillon/carillon/search/Change", "room", "()I"⟩ : MethodName)) hown (mvT hZ (own_w hw 47 rfl)) (mvT hZ (own_w hw 48 rfl)) (notFace_of_selects (args := #[]) (mvT hZ (own_w hw 50 rfl))) (mvT hZ (own_w hw 50 rfl)) (mvT hZ (own_w hw 49 rfl)) (by decide) (backOf (W := 0) (own_rm7 l Z a0 hw [] b1 p2 T18.heap n0 (Nat.le_trans Z0 K30.1) Q18_5) hZ (own_w hw 51 rfl) (own_w hw 2 rfl) (by decide) (by decide)) q33a q33c (g := (mkF m 76 #[.val (.long q1), .second, .val (.int p2), .val (.int p3), .val (.int p4), .val (.int p5), .val (.int p6), .val (.int (q1.toInt32)), .val (.int (((q1.toUInt64 >>> ((32 : Int32) &&& 0x3f).toInt64.toUInt64).toInt64).toInt32)), .val (.double (FP.l2d ((p6 &&& (1023 : Int32)).toInt64))), .second, .val (.ref b1)] [(.ref b1)])) rfl (by rw [hml]; rfl) (Steps.refl _) (argsL := []) (rest := []) (lenOf own_pd3 rfl) rfl (by show 2 * 0 + _ ≤ _; exact Nat.le_of_eq rfl) (hb hby at_76) (fun _ _ => ⟨rfl, e32, (by decide : 1 + 0 ≤ _), (by decide : 9 + 0 ≤ _)⟩)
  dsimp only [Pt.U, Pt.locs, Pt.cells, Pt.slots] at X33 l33 y33 z33 st33 hQ33
  subst l33 y33 z33
  obtain ⟨rfl, N33q, e33⟩ := hQ33
  have N33 := Fr.app N32 N33q
  refine own_go (B := T33.setTop (mkF m 79 #[.val (.long q1), .second, .val (.int p2), .val (.int p3), .val (.int p4), .val (.int p5), .val (.int p6), .val (.int (q1.toInt32)), .val (.int (((q1.toUInt64 >>> ((32 : Int32) &&& 0x3f).toInt64.toUInt64).toInt64).toInt32)), .val (.double (FP.l2d ((p6 &&& (1023 : Int32)).toInt64))), .second, .val (.ref b1)] [(.int p2)])) (fun _ k => st33.trans k) ?_
  refine own_go (B := T33.setTop (mkF m 80 #[.val (.long q1), .second, .val (.int p2), .val (.int p3), .val (.int p4), .val (.int p5), .val (.int p6), .val (.int (q1.toInt32)), .val (.int (((q1.toUInt64 >>> ((32 : Int32) &&& 0x3f).toInt64.toUInt64).toInt64).toInt32)), .val (.double (FP.l2d ((p6 &&& (1023 : Int32)).toInt64))), .second, .val (.ref b1)] [(.int p2), (.int p2)])) (fun _ k => XS.iloadN X33.here hx rfl (hb hby at_79) rfl  k) ?_
  refine own_go (B := T33.setTop (mkF m 83 #[.val (.long q1), .second, .val (.int p2), .val (.int p3), .val (.int p4), .val (.int p5), .val (.int p6), .val (.int (q1.toInt32)), .val (.int (((q1.toUInt64 >>> ((32 : Int32) &&& 0x3f).toInt64.toUInt64).toInt64).toInt32)), .val (.double (FP.l2d ((p6 &&& (1023 : Int32)).toInt64))), .second, .val (.ref b1)] [])) (fun _ k => XS.icmpNo X33.here hx rfl (hb hby at_80) rfl (teq (rfl : p2 = p2)).2 k) ?_
  refine own_go (B := T33.setTop (mkF m 85 #[.val (.long q1), .second, .val (.int p2), .val (.int p3), .val (.int p4), .val (.int p5), .val (.int p6), .val (.int (q1.toInt32)), .val (.int (((q1.toUInt64 >>> ((32 : Int32) &&& 0x3f).toInt64.toUInt64).toInt64).toInt32)), .val (.double (FP.l2d ((p6 &&& (1023 : Int32)).toInt64))), .second, .val (.ref b1)] [(.ref b1)])) (fun _ k => XS.aload X33.here hx rfl (hb hby at_83) rfl rfl k) ?_
  obtain ⟨cq34, kq34, q34a, q34b, q34c⟩ := isOf hZ e33 Q18_0
  obtain ⟨_, _, ⟨T34, L34, k34, n34⟩, -, X34, ⟨Lc34, hQ34, l34, y34, z34⟩, st34⟩ := X33.virtualBack hx (y := (⟨"com/example/carillon/carillon/search/Change", "fromPeriod", "()I"⟩ : MethodName)) (z := (⟨"com/example/carillon/carillon/search/Change", "fromPeriod", "()I"⟩ : MethodName)) hown (mvT hZ (own_w hw 52 rfl)) (mvT hZ (own_w hw 53 rfl)) (notFace_of_selects (args := #[]) (mvT hZ (own_w hw 55 rfl))) (mvT hZ (own_w hw 55 rfl)) (mvT hZ (own_w hw 54 rfl)) (by decide) (backOf (W := 0) (own_rm8 l Z a0 hw [] b1 p3 T18.heap n0 (Nat.le_trans Z0 K30.1) Q18_6) hZ (own_w hw 56 rfl) (own_w hw 2 rfl) (by decide) (by decide)) q34a q34c (g := (mkF m 85 #[.val (.long q1), .second, .val (.int p2), .val (.int p3), .val (.int p4), .val (.int p5), .val (.int p6), .val (.int (q1.toInt32)), .val (.int (((q1.toUInt64 >>> ((32 : Int32) &&& 0x3f).toInt64.toUInt64).toInt64).toInt32)), .val (.double (FP.l2d ((p6 &&& (1023 : Int32)).toInt64))), .second, .val (.ref b1)] [(.ref b1)])) rfl (by rw [hml]; rfl) (Steps.refl _) (argsL := []) (rest := []) (lenOf own_pd3 rfl) rfl (by show 2 * 0 + _ ≤ _; exact Nat.le_of_eq rfl) (hb hby at_85) (fun _ _ => ⟨rfl, e33, (by decide : 1 + 0 ≤ _), (by decide : 9 + 0 ≤ _)⟩)
  dsimp only [Pt.U, Pt.locs, Pt.cells, Pt.slots] at X34 l34 y34 z34 st34 hQ34
  subst l34 y34 z34
  obtain ⟨rfl, N34q, e34⟩ := hQ34
  have N34 := Fr.app N33 N34q
  refine own_go (B := T34.setTop (mkF m 88 #[.val (.long q1), .second, .val (.int p2), .val (.int p3), .val (.int p4), .val (.int p5), .val (.int p6), .val (.int (q1.toInt32)), .val (.int (((q1.toUInt64 >>> ((32 : Int32) &&& 0x3f).toInt64.toUInt64).toInt64).toInt32)), .val (.double (FP.l2d ((p6 &&& (1023 : Int32)).toInt64))), .second, .val (.ref b1)] [(.int p3)])) (fun _ k => st34.trans k) ?_
  refine own_go (B := T34.setTop (mkF m 89 #[.val (.long q1), .second, .val (.int p2), .val (.int p3), .val (.int p4), .val (.int p5), .val (.int p6), .val (.int (q1.toInt32)), .val (.int (((q1.toUInt64 >>> ((32 : Int32) &&& 0x3f).toInt64.toUInt64).toInt64).toInt32)), .val (.double (FP.l2d ((p6 &&& (1023 : Int32)).toInt64))), .second, .val (.ref b1)] [(.int p3), (.int p3)])) (fun _ k => XS.iloadN X34.here hx rfl (hb hby at_88) rfl  k) ?_
  refine own_go (B := T34.setTop (mkF m 92 #[.val (.long q1), .second, .val (.int p2), .val (.int p3), .val (.int p4), .val (.int p5), .val (.int p6), .val (.int (q1.toInt32)), .val (.int (((q1.toUInt64 >>> ((32 : Int32) &&& 0x3f).toInt64.toUInt64).toInt64).toInt32)), .val (.double (FP.l2d ((p6 &&& (1023 : Int32)).toInt64))), .second, .val (.ref b1)] [])) (fun _ k => XS.icmpNo X34.here hx rfl (hb hby at_89) rfl (teq (rfl : p3 = p3)).2 k) ?_
  refine own_go (B := T34.setTop (mkF m 94 #[.val (.long q1), .second, .val (.int p2), .val (.int p3), .val (.int p4), .val (.int p5), .val (.int p6), .val (.int (q1.toInt32)), .val (.int (((q1.toUInt64 >>> ((32 : Int32) &&& 0x3f).toInt64.toUInt64).toInt64).toInt32)), .val (.double (FP.l2d ((p6 &&& (1023 : Int32)).toInt64))), .second, .val (.ref b1)] [(.ref b1)])) (fun _ k => XS.aload X34.here hx rfl (hb hby at_92) rfl rfl k) ?_
  obtain ⟨cq35, kq35, q35a, q35b, q35c⟩ := isOf hZ e34 Q18_0
  obtain ⟨_, _, ⟨T35, L35, k35, n35⟩, -, X35, ⟨Lc35, hQ35, l35, y35, z35⟩, st35⟩ := X34.virtualBack hx (y := (⟨"com/example/carillon/carillon/search/Change", "fromRoom", "()I"⟩ : MethodName)) (z := (⟨"com/example/carillon/carillon/search/Change", "fromRoom", "()I"⟩ : MethodName)) hown (mvT hZ (own_w hw 57 rfl)) (mvT hZ (own_w hw 58 rfl)) (notFace_of_selects (args := #[]) (mvT hZ (own_w hw 60 rfl))) (mvT hZ (own_w hw 60 rfl)) (mvT hZ (own_w hw 59 rfl)) (by decide) (backOf (W := 0) (own_rm9 l Z a0 hw [] b1 p4 T18.heap n0 (Nat.le_trans Z0 K30.1) Q18_7) hZ (own_w hw 61 rfl) (own_w hw 2 rfl) (by decide) (by decide)) q35a q35c (g := (mkF m 94 #[.val (.long q1), .second, .val (.int p2), .val (.int p3), .val (.int p4), .val (.int p5), .val (.int p6), .val (.int (q1.toInt32)), .val (.int (((q1.toUInt64 >>> ((32 : Int32) &&& 0x3f).toInt64.toUInt64).toInt64).toInt32)), .val (.double (FP.l2d ((p6 &&& (1023 : Int32)).toInt64))), .second, .val (.ref b1)] [(.ref b1)])) rfl (by rw [hml]; rfl) (Steps.refl _) (argsL := []) (rest := []) (lenOf own_pd3 rfl) rfl (by show 2 * 0 + _ ≤ _; exact Nat.le_of_eq rfl) (hb hby at_94) (fun _ _ => ⟨rfl, e34, (by decide : 1 + 0 ≤ _), (by decide : 9 + 0 ≤ _)⟩)
  dsimp only [Pt.U, Pt.locs, Pt.cells, Pt.slots] at X35 l35 y35 z35 st35 hQ35
  subst l35 y35 z35
  obtain ⟨rfl, N35q, e35⟩ := hQ35
  have N35 := Fr.app N34 N35q
  refine own_go (B := T35.setTop (mkF m 97 #[.val (.long q1), .second, .val (.int p2), .val (.int p3), .val (.int p4), .val (.int p5), .val (.int p6), .val (.int (q1.toInt32)), .val (.int (((q1.toUInt64 >>> ((32 : Int32) &&& 0x3f).toInt64.toUInt64).toInt64).toInt32)), .val (.double (FP.l2d ((p6 &&& (1023 : Int32)).toInt64))), .second, .val (.ref b1)] [(.int p4)])) (fun _ k => st35.trans k) ?_
  refine own_go (B := T35.setTop (mkF m 99 #[.val (.long q1), .second, .val (.int p2), .val (.int p3), .val (.int p4), .val (.int p5), .val (.int p6), .val (.int (q1.toInt32)), .val (.int (((q1.toUInt64 >>> ((32 : Int32) &&& 0x3f).toInt64.toUInt64).toInt64).toInt32)), .val (.double (FP.l2d ((p6 &&& (1023 : Int32)).toInt64))), .second, .val (.ref b1)] [(.int p4), (.int p4)])) (fun _ k => XS.iload X35.here hx rfl (hb hby at_97) rfl  k) ?_
  refine own_go (B := T35.setTop (mkF m 102 #[.val (.long q1), .second, .val (.int p2), .val (.int p3), .val (.int p4), .val (.int p5), .val (.int p6), .val (.int (q1.toInt32)), .val (.int (((q1.toUInt64 >>> ((32 : Int32) &&& 0x3f).toInt64.toUInt64).toInt64).toInt32)), .val (.double (FP.l2d ((p6 &&& (1023 : Int32)).toInt64))), .second, .val (.ref b1)] [])) (fun _ k => XS.icmpNo X35.here hx rfl (hb hby at_99) rfl (teq (rfl : p4 = p4)).2 k) ?_
  refine own_go (B := T35.setTop (mkF m 104 #[.val (.long q1), .second, .val (.int p2), .val (.int p3), .val (.int p4), .val (.int p5), .val (.int p6), .val (.int (q1.toInt32)), .val (.int (((q1.toUInt64 >>> ((32 : Int32) &&& 0x3f).toInt64.toUInt64).toInt64).toInt32)), .val (.double (FP.l2d ((p6 &&& (1023 : Int32)).toInt64))), .second, .val (.ref b1)] [(.ref b1)])) (fun _ k => XS.aload X35.here hx rfl (hb hby at_102) rfl rfl k) ?_
  obtain ⟨cq36, kq36, q36a, q36b, q36c⟩ := isOf hZ e35 Q18_0
  obtain ⟨_, _, ⟨T36, L36, k36, n36⟩, -, X36, ⟨Lc36, hQ36, l36, y36, z36⟩, st36⟩ := X35.virtualBack hx (y := (⟨"com/example/carillon/carillon/search/Change", "other", "()I"⟩ : MethodName)) (z := (⟨"com/example/carillon/carillon/search/Change", "other", "()I"⟩ : MethodName)) hown (mvT hZ (own_w hw 62 rfl)) (mvT hZ (own_w hw 63 rfl)) (notFace_of_selects (args := #[]) (mvT hZ (own_w hw 65 rfl))) (mvT hZ (own_w hw 65 rfl)) (mvT hZ (own_w hw 64 rfl)) (by decide) (backOf (W := 0) (own_rm10 l Z a0 hw [] b1 p5 T18.heap n0 (Nat.le_trans Z0 K30.1) Q18_8) hZ (own_w hw 66 rfl) (own_w hw 2 rfl) (by decide) (by decide)) q36a q36c (g := (mkF m 104 #[.val (.long q1), .second, .val (.int p2), .val (.int p3), .val (.int p4), .val (.int p5), .val (.int p6), .val (.int (q1.toInt32)), .val (.int (((q1.toUInt64 >>> ((32 : Int32) &&& 0x3f).toInt64.toUInt64).toInt64).toInt32)), .val (.double (FP.l2d ((p6 &&& (1023 : Int32)).toInt64))), .second, .val (.ref b1)] [(.ref b1)])) rfl (by rw [hml]; rfl) (Steps.refl _) (argsL := []) (rest := []) (lenOf own_pd3 rfl) rfl (by show 2 * 0 + _ ≤ _; exact Nat.le_of_eq rfl) (hb hby at_104) (fun _ _ => ⟨rfl, e35, (by decide : 1 + 0 ≤ _), (by decide : 9 + 0 ≤ _)⟩)
  dsimp only [Pt.U, Pt.locs, Pt.cells, Pt.slots] at X36 l36 y36 z36 st36 hQ36
  subst l36 y36 z36
  obtain ⟨rfl, N36q, e36⟩ := hQ36
  have N36 := Fr.app N35 N36q
  refine own_go (B := T36.setTop (mkF m 107 #[.val (.long q1), .second, .val (.int p2), .val (.int p3), .val (.int p4), .val (.int p5), .val (.int p6), .val (.int (q1.toInt32)), .val (.int (((q1.toUInt64 >>> ((32 : Int32) &&& 0x3f).toInt64.toUInt64).toInt64).toInt32)), .val (.double (FP.l2d ((p6 &&& (1023 : Int32)).toInt64))), .second, .val (.ref b1)] [(.int p5)])) (fun _ k => st36.trans k) ?_
  refine own_go (B := T36.setTop (mkF m 109 #[.val (.long q1), .second, .val (.int p2), .val (.int p3), .val (.int p4), .val (.int p5), .val (.int p6), .val (.int (q1.toInt32)), .val (.int (((q1.toUInt64 >>> ((32 : Int32) &&& 0x3f).toInt64.toUInt64).toInt64).toInt32)), .val (.double (FP.l2d ((p6 &&& (1023 : Int32)).toInt64))), .second, .val (.ref b1)] [(.int p5), (.int p5)])) (fun _ k => XS.iload X36.here hx rfl (hb hby at_107) rfl  k) ?_
  refine own_go (B := T36.setTop (mkF m 112 #[.val (.long q1), .second, .val (.int p2), .val (.int p3), .val (.int p4), .val (.int p5), .val (.int p6), .val (.int (q1.toInt32)), .val (.int (((q1.toUInt64 >>> ((32 : Int32) &&& 0x3f).toInt64.toUInt64).toInt64).toInt32)), .val (.double (FP.l2d ((p6 &&& (1023 : Int32)).toInt64))), .second, .val (.ref b1)] [])) (fun _ k => XS.icmpNo X36.here hx rfl (hb hby at_109) rfl (teq (rfl : p5 = p5)).2 k) ?_
  refine own_go (B := T36.setTop (mkF m 114 #[.val (.long q1), .second, .val (.int p2), .val (.int p3), .val (.int p4), .val (.int p5), .val (.int p6), .val (.int (q1.toInt32)), .val (.int (((q1.toUInt64 >>> ((32 : Int32) &&& 0x3f).toInt64.toUInt64).toInt64).toInt32)), .val (.double (FP.l2d ((p6 &&& (1023 : Int32)).toInt64))), .second, .val (.ref b1)] [(.ref b1)])) (fun _ k => XS.aload X36.here hx rfl (hb hby at_112) rfl rfl k) ?_
  obtain ⟨cq37, kq37, q37a, q37b, q37c⟩ := isOf hZ e36 Q18_0
  obtain ⟨_, _, ⟨T37, L37, k37, n37⟩, -, X37, ⟨Lc37, hQ37, l37, y37, z37⟩, st37⟩ := X36.virtualBack hx (y := (⟨"com/example/carillon/carillon/search/Change", "otherFrom", "()I"⟩ : MethodName)) (z := (⟨"com/example/carillon/carillon/search/Change", "otherFrom", "()I"⟩ : MethodName)) hown (mvT hZ (own_w hw 67 rfl)) (mvT hZ (own_w hw 68 rfl)) (notFace_of_selects (args := #[]) (mvT hZ (own_w hw 70 rfl))) (mvT hZ (own_w hw 70 rfl)) (mvT hZ (own_w hw 69 rfl)) (by decide) (backOf (W := 0) (own_rm11 l Z a0 hw [] b1 p6 T18.heap n0 (Nat.le_trans Z0 K30.1) Q18_9) hZ (own_w hw 71 rfl) (own_w hw 2 rfl) (by decide) (by decide)) q37a q37c (g := (mkF m 114 #[.val (.long q1), .second, .val (.int p2), .val (.int p3), .val (.int p4), .val (.int p5), .val (.int p6), .val (.int (q1.toInt32)), .val (.int (((q1.toUInt64 >>> ((32 : Int32) &&& 0x3f).toInt64.toUInt64).toInt64).toInt32)), .val (.double (FP.l2d ((p6 &&& (1023 : Int32)).toInt64))), .second, .val (.ref b1)] [(.ref b1)])) rfl (by rw [hml]; rfl) (Steps.refl _) (argsL := []) (rest := []) (lenOf own_pd3 rfl) rfl (by show 2 * 0 + _ ≤ _; exact Nat.le_of_eq rfl) (hb hby at_114) (fun _ _ => ⟨rfl, e36, (by decide : 1 + 0 ≤ _), (by decide : 9 + 0 ≤ _)⟩)
  dsimp only [Pt.U, Pt.locs, Pt.cells, Pt.slots] at X37 l37 y37 z37 st37 hQ37
  subst l37 y37 z37
  obtain ⟨rfl, N37q, e37⟩ := hQ37
  have N37 := Fr.app N36 N37q
  refine own_go (B := T37.setTop (mkF m 117 #[.val (.long q1), .second, .val (.int p2), .val (.int p3), .val (.int p4), .val (.int p5), .val (.int p6), .val (.int (q1.toInt32)), .val (.int (((q1.toUInt64 >>> ((32 : Int32) &&& 0x3f).toInt64.toUInt64).toInt64).toInt32)), .val (.double (FP.l2d ((p6 &&& (1023 : Int32)).toInt64))), .second, .val (.ref b1)] [(.int p6)])) (fun _ k => st37.trans k) ?_
  refine own_go (B := T37.setTop (mkF m 119 #[.val (.long q1), .second, .val (.int p2), .val (.int p3), .val (.int p4), .val (.int p5), .val (.int p6), .val (.int (q1.toInt32)), .val (.int (((q1.toUInt64 >>> ((32 : Int32) &&& 0x3f).toInt64.toUInt64).toInt64).toInt32)), .val (.double (FP.l2d ((p6 &&& (1023 : Int32)).toInt64))), .second, .val (.ref b1)] [(.int p6), (.int p6)])) (fun _ k => XS.iload X37.here hx rfl (hb hby at_117) rfl  k) ?_
  refine own_go (B := T37.setTop (mkF m 122 #[.val (.long q1), .second, .val (.int p2), .val (.int p3), .val (.int p4), .val (.int p5), .val (.int p6), .val (.int (q1.toInt32)), .val (.int (((q1.toUInt64 >>> ((32 : Int32) &&& 0x3f).toInt64.toUInt64).toInt64).toInt32)), .val (.double (FP.l2d ((p6 &&& (1023 : Int32)).toInt64))), .second, .val (.ref b1)] [])) (fun _ k => XS.icmpNo X37.here hx rfl (hb hby at_119) rfl (teq (rfl : p6 = p6)).2 k) ?_
  refine own_go (B := T37.setTop (mkF m 124 #[.val (.long q1), .second, .val (.int p2), .val (.int p3), .val (.int p4), .val (.int p5), .val (.int p6), .val (.int (q1.toInt32)), .val (.int (((q1.toUInt64 >>> ((32 : Int32) &&& 0x3f).toInt64.toUInt64).toInt64).toInt32)), .val (.double (FP.l2d ((p6 &&& (1023 : Int32)).toInt64))), .second, .val (.ref b1)] [(.ref b1)])) (fun _ k => XS.aload X37.here hx rfl (hb hby at_122) rfl rfl k) ?_
  obtain ⟨cq38, kq38, q38a, q38b, q38c⟩ := isOf hZ e37 Q18_0
  obtain ⟨_, _, ⟨T38, L38, k38, n38⟩, -, X38, ⟨Lc38, hQ38, l38, y38, z38⟩, st38⟩ := X37.virtualBack hx (y := (⟨"com/example/carillon/carillon/search/Change", "hard", "()J"⟩ : MethodName)) (z := (⟨"com/example/carillon/carillon/search/Change", "hard", "()J"⟩ : MethodName)) hown (mvT hZ (own_w hw 72 rfl)) (mvT hZ (own_w hw 73 rfl)) (notFace_of_selects (args := #[]) (mvT hZ (own_w hw 75 rfl))) (mvT hZ (own_w hw 75 rfl)) (mvT hZ (own_w hw 74 rfl)) (by decide) (backOf (W := 0) (own_rm12 l Z a0 hw [] b1 q1 T18.heap n0 (Nat.le_trans Z0 K30.1) Q18_1) hZ (own_w hw 76 rfl) (own_w hw 2 rfl) (by decide) (by decide)) q38a q38c (g := (mkF m 124 #[.val (.long q1), .second, .val (.int p2), .val (.int p3), .val (.int p4), .val (.int p5), .val (.int p6), .val (.int (q1.toInt32)), .val (.int (((q1.toUInt64 >>> ((32 : Int32) &&& 0x3f).toInt64.toUInt64).toInt64).toInt32)), .val (.double (FP.l2d ((p6 &&& (1023 : Int32)).toInt64))), .second, .val (.ref b1)] [(.ref b1)])) rfl (by rw [hml]; rfl) (Steps.refl _) (argsL := []) (rest := []) (lenOf own_pd4 rfl) rfl (by show 2 * 0 + _ ≤ _; exact Nat.le_of_eq rfl) (hb hby at_124) (fun _ _ => ⟨rfl, e37, (by decide : 1 + 0 ≤ _), (by decide : 9 + 0 ≤ _)⟩)
  dsimp only [Pt.U, Pt.locs, Pt.cells, Pt.slots] at X38 l38 y38 z38 st38 hQ38
  subst l38 y38 z38
  obtain ⟨rfl, N38q, e38⟩ := hQ38
  have N38 := Fr.app N37 N38q
  refine own_go (B := T38.setTop (mkF m 127 #[.val (.long q1), .second, .val (.int p2), .val (.int p3), .val (.int p4), .val (.int p5), .val (.int p6), .val (.int (q1.toInt32)), .val (.int (((q1.toUInt64 >>> ((32 : Int32) &&& 0x3f).toInt64.toUInt64).toInt64).toInt32)), .val (.double (FP.l2d ((p6 &&& (1023 : Int32)).toInt64))), .second, .val (.ref b1)] [(.long q1)])) (fun _ k => st38.trans k) ?_
  refine own_go (B := T38.setTop (mkF m 128 #[.val (.long q1), .second, .val (.int p2), .val (.int p3), .val (.int p4), .val (.int p5), .val (.int p6), .val (.int (q1.toInt32)), .val (.int (((q1.toUInt64 >>> ((32 : Int32) &&& 0x3f).toInt64.toUInt64).toInt64).toInt32)), .val (.double (FP.l2d ((p6 &&& (1023 : Int32)).toInt64))), .second, .val (.ref b1)] [(.long q1), (.long q1)])) (fun _ k => XS.lloadN X38.here hx rfl (hb hby at_127) rfl  k) ?_
  refine own_go (B := T38.setTop (mkF m 129 #[.val (.long q1), .second, .val (.int p2), .val (.int p3), .val (.int p4), .val (.int p5), .val (.int p6), .val (.int (q1.toInt32)), .val (.int (((q1.toUInt64 >>> ((32 : Int32) &&& 0x3f).toInt64.toUInt64).toInt64).toInt32)), .val (.double (FP.l2d ((p6 &&& (1023 : Int32)).toInt64))), .second, .val (.ref b1)] [(.int (lcmpW q1 q1))])) (fun _ k => XS.lcmp X38.here hx rfl (hb hby at_128) rfl k) ?_
  refine own_go (B := T38.setTop (mkF m 132 #[.val (.long q1), .second, .val (.int p2), .val (.int p3), .val (.int p4), .val (.int p5), .val (.int p6), .val (.int (q1.toInt32)), .val (.int (((q1.toUInt64 >>> ((32 : Int32) &&& 0x3f).toInt64.toUInt64).toInt64).toInt32)), .val (.double (FP.l2d ((p6 &&& (1023 : Int32)).toInt64))), .second, .val (.ref b1)] [])) (fun _ k => XS.ifNo X38.here hx rfl (hb hby at_129) rfl ((if0 _ _).trans (teq ((lw_eq q1 q1).mpr (rfl : q1 = q1))).2) k) ?_
  refine own_go (B := T38.setTop (mkF m 134 #[.val (.long q1), .second, .val (.int p2), .val (.int p3), .val (.int p4), .val (.int p5), .val (.int p6), .val (.int (q1.toInt32)), .val (.int (((q1.toUInt64 >>> ((32 : Int32) &&& 0x3f).toInt64.toUInt64).toInt64).toInt32)), .val (.double (FP.l2d ((p6 &&& (1023 : Int32)).toInt64))), .second, .val (.ref b1)] [(.ref b1)])) (fun _ k => XS.aload X38.here hx rfl (hb hby at_132) rfl rfl k) ?_
  obtain ⟨cq39, kq39, q39a, q39b, q39c⟩ := isOf hZ e38 Q18_0
  obtain ⟨_, _, ⟨T39, L39, k39, n39⟩, -, X39, ⟨Lc39, hQ39, l39, y39, z39⟩, st39⟩ := X38.virtualBack hx (y := (⟨"com/example/carillon/carillon/search/Change", "soft", "()D"⟩ : MethodName)) (z := (⟨"com/example/carillon/carillon/search/Change", "soft", "()D"⟩ : MethodName)) hown (mvT hZ (own_w hw 77 rfl)) (mvT hZ (own_w hw 78 rfl)) (notFace_of_selects (args := #[]) (mvT hZ (own_w hw 80 rfl))) (mvT hZ (own_w hw 80 rfl)) (mvT hZ (own_w hw 79 rfl)) (by decide) (backOf (W := 0) (own_rm13 l Z a0 hw [] b1 (FP.l2d ((p6 &&& (1023 : Int32)).toInt64)) T18.heap n0 (Nat.le_trans Z0 K30.1) Q18_2) hZ (own_w hw 81 rfl) (own_w hw 2 rfl) (by decide) (by decide)) q39a q39c (g := (mkF m 134 #[.val (.long q1), .second, .val (.int p2), .val (.int p3), .val (.int p4), .val (.int p5), .val (.int p6), .val (.int (q1.toInt32)), .val (.int (((q1.toUInt64 >>> ((32 : Int32) &&& 0x3f).toInt64.toUInt64).toInt64).toInt32)), .val (.double (FP.l2d ((p6 &&& (1023 : Int32)).toInt64))), .second, .val (.ref b1)] [(.ref b1)])) rfl (by rw [hml]; rfl) (Steps.refl _) (argsL := []) (rest := []) (lenOf own_pd5 rfl) rfl (by show 2 * 0 + _ ≤ _; exact Nat.le_of_eq rfl) (hb hby at_134) (fun _ _ => ⟨rfl, e38, (by decide : 1 + 0 ≤ _), (by decide : 9 + 0 ≤ _)⟩)
  dsimp only [Pt.U, Pt.locs, Pt.cells, Pt.slots] at X39 l39 y39 z39 st39 hQ39
  subst l39 y39 z39
  obtain ⟨rfl, N39q, e39⟩ := hQ39
  have N39 := Fr.app N38 N39q
  refine own_go (B := T39.setTop (mkF m 137 #[.val (.long q1), .second, .val (.int p2), .val (.int p3), .val (.int p4), .val (.int p5), .val (.int p6), .val (.int (q1.toInt32)), .val (.int (((q1.toUInt64 >>> ((32 : Int32) &&& 0x3f).toInt64.toUInt64).toInt64).toInt32)), .val (.double (FP.l2d ((p6 &&& (1023 : Int32)).toInt64))), .second, .val (.ref b1)] [(.double (FP.l2d ((p6 &&& (1023 : Int32)).toInt64)))])) (fun _ k => st39.trans k) ?_
  refine own_go (B := T39.setTop (mkF m 139 #[.val (.long q1), .second, .val (.int p2), .val (.int p3), .val (.int p4), .val (.int p5), .val (.int p6), .val (.int (q1.toInt32)), .val (.int (((q1.toUInt64 >>> ((32 : Int32) &&& 0x3f).toInt64.toUInt64).toInt64).toInt32)), .val (.double (FP.l2d ((p6 &&& (1023 : Int32)).toInt64))), .second, .val (.ref b1)] [(.double (FP.l2d ((p6 &&& (1023 : Int32)).toInt64))), (.double (FP.l2d ((p6 &&& (1023 : Int32)).toInt64)))])) (fun _ k => XS.dload X39.here hx rfl (hb hby at_137) rfl  k) ?_
  refine own_go (B := T39.setTop (mkF m 140 #[.val (.long q1), .second, .val (.int p2), .val (.int p3), .val (.int p4), .val (.int p5), .val (.int p6), .val (.int (q1.toInt32)), .val (.int (((q1.toUInt64 >>> ((32 : Int32) &&& 0x3f).toInt64.toUInt64).toInt64).toInt32)), .val (.double (FP.l2d ((p6 &&& (1023 : Int32)).toInt64))), .second, .val (.ref b1)] [(.int (0 : Int32))])) (fun _ k => XS.dcmpS X39.here hx rfl (hb hby at_139) rfl (dcmpV_self (nn_w rfl) _) k) ?_
  have hc40 : (0 : Int32) = (0 : Int32) := by decide
  refine own_go (B := T39.setTop (mkF m 143 #[.val (.long q1), .second, .val (.int p2), .val (.int p3), .val (.int p4), .val (.int p5), .val (.int p6), .val (.int (q1.toInt32)), .val (.int (((q1.toUInt64 >>> ((32 : Int32) &&& 0x3f).toInt64.toUInt64).toInt64).toInt32)), .val (.double (FP.l2d ((p6 &&& (1023 : Int32)).toInt64))), .second, .val (.ref b1)] [])) (fun _ k => XS.ifNo X39.here hx rfl (hb hby at_140) rfl ((if0 _ _).trans (teq hc40).2) k) ?_
  refine own_go (B := T39.setTop (mkF m 144 #[.val (.long q1), .second, .val (.int p2), .val (.int p3), .val (.int p4), .val (.int p5), .val (.int p6), .val (.int (q1.toInt32)), .val (.int (((q1.toUInt64 >>> ((32 : Int32) &&& 0x3f).toInt64.toUInt64).toInt64).toInt32)), .val (.double (FP.l2d ((p6 &&& (1023 : Int32)).toInt64))), .second, .val (.ref b1)] [(.int (1 : Int32))])) (fun _ k => XS.iconst X39.here hx rfl (hb hby at_143) k) ?_
  refine own_go (B := T39.setTop (mkF m 148 #[.val (.long q1), .second, .val (.int p2), .val (.int p3), .val (.int p4), .val (.int p5), .val (.int p6), .val (.int (q1.toInt32)), .val (.int (((q1.toUInt64 >>> ((32 : Int32) &&& 0x3f).toInt64.toUInt64).toInt64).toInt32)), .val (.double (FP.l2d ((p6 &&& (1023 : Int32)).toInt64))), .second, .val (.ref b1)] [(.int (1 : Int32))])) (fun _ k => XS.goto X39.here hx rfl (pc0 := 144) (pc' := 148) rfl (hb hby at_144) (by decide) (by decide) k) ?_
  exact own_retN X39 hx Bd.notSynchronized (t := .boolean) (w := (1 : Int32)) Bd.returns (by simp) (hb hby at_148) e39 rfl ⟨rfl, N39, K30⟩ (by decide) (by decide)
set_option maxRecDepth 65536 in
set_option maxHeartbeats 40000000 in
theorem comes_1 {Post : Tables → Env → Array Value → State → Outcome → State → Prop} (hpost : ∀ tb e args s v u, (limb_1_1.after args s (.returned v) u = true ∧ limb_1_2.after args s (.returned v) u = true ∧ True) → FrameEnd s (.returned v) u (Jvm.fieldLocs frame_1_writes args s ++ Jvm.arrayLocs frame_1_arrays args s ++ Jvm.staticLocs frame_1_statics s) 16 128 → Post tb e args s (.returned v) u) :
    ArmFor flags0 classFile x code maxLocals ret World_1 tables_1 room_1 Calls_1 rest_1 Pre_1 Post := by
  intro l hfl _ _ p e ha hc hk s m args below hf hA hF happ hP
  obtain ⟨hcalls, hrest, hpre⟩ := hP
  obtain ⟨-, -, -, hnamed, -, -, -, hat⟩ := (Spec.applies_iff hf).mp happ
  obtain ⟨hg, hn⟩ := and_e (Cond.before_iff.mp (show (Jvm.Cond.and given_1 narrow_1).before args s = true from hpre))
  obtain ⟨gg1, gg2⟩ := and_e hg
  obtain ⟨gg3, gg4⟩ := and_e gg2
  obtain ⟨gg5, gg6⟩ := and_e gg4
  obtain ⟨gg7, gg8⟩ := and_e gg6
  obtain ⟨gg9, gg10⟩ := and_e gg8
  obtain ⟨gg11, gg12⟩ := and_e gg10
  obtain ⟨w0, w1, w2, w3, w4, w5, rfl⟩ : ∃ w0 w1 w2 w3 w4 w5 : Value, args = #[w0, w1, w2, w3, w4, w5] := by
    have hs : args.size = 6 := by simpa [Cond.value, given_1] using gg1
    obtain ⟨L⟩ := args
    match L, hs with
    | [w0, w1, w2, w3, w4, w5], _ => exact ⟨w0, w1, w2, w3, w4, w5, rfl⟩
  have hw := fun d (hd : d ∈ tables_1) => atoms_spec (ws := Jvm.Cond.code x code maxLocals ret :: tables_1) hat d (List.mem_cons_of_mem _ hd)
  have hfit : Fit s := fun {y c} hc i hi => by
    obtain ⟨ha, rfl⟩ := Array.getElem?_eq_some_iff.mp hc
    have q := List.all_eq_true.mp ((Array.all_eq_true_iff_forall_mem.mp hF) _ (Array.getElem_mem ha)) i (List.mem_range.mpr hi)
    simpa [Array.getElem?_eq_getElem hi] using q
  obtain ⟨i0, ei0⟩ := isL_v gg3
  obtain rfl : w0 = (.long i0) := Option.some.inj ei0
  obtain ⟨i1, ei1⟩ := is_v gg5
  obtain rfl : w1 = (.int i1) := Option.some.inj ei1
  obtain ⟨i2, ei2⟩ := is_v gg7
  obtain rfl : w2 = (.int i2) := Option.some.inj ei2
  obtain ⟨i3, ei3⟩ := is_v gg9
  obtain rfl : w3 = (.int i3) := Option.some.inj ei3
  obtain ⟨i4, ei4⟩ := is_v gg11
  obtain rfl : w4 = (.int i4) := Option.some.inj ei4
  obtain ⟨i5, ei5⟩ := is_v gg12
  obtain rfl : w5 = (.int i5) := Option.some.inj ei5
  obtain ⟨n, o, h1, h2, h3, _, L, rfl, ⟨rfl, N, _⟩, hq⟩ := own_rm0 l s _ hw tables_1 i0 i1 i2 i3 i4 i5 s.heap s.heap.size (Nat.le_refl _)  p e ha hc hk s m _ below hf ((Spec.applies_iff_loose hf).mp happ).1 ⟨rfl, State.Warmed39.refl s, rfl⟩ trivial
  refine ⟨n, _, h1, h2, h3, hpost _ _ _ _ _ _ ⟨Cond.after_iff.mpr rfl, Cond.after_iff.mpr (eq_i res_at (Term.int_eval (1)) rfl), trivial⟩ ⟨hq.1, hq.2.1, (hq.2.2.sift fun y hy => Or.inr (N y hy)).mono (by decide) (by decide)⟩⟩
theorem main_1_1 : Claimed_1_1 := comes_1 fun _ _ _ _ _ _ h hF => ⟨h.1, hF⟩
theorem main_1_2 : Claimed_1_2 := comes_1 fun _ _ _ _ _ _ h hF => ⟨h.2.1, hF⟩
end Jvm.Pilot.@@N@@
namespace Jvm.Pilot.@@N@@
open Jvm Jvm.ClassFile Sem Op Lib Jvm.Free Jvm.Stand Jvm.Pilot.@@N@@.Jvm.D
/-! MADE BY PROGRAM (witnessworld.py) out of the Statement's table words and the real class files: 9 classes; the members and pool entries that the words name. The judged class is class 1, her method 1. -/
namespace start1
open Jvm.ClassFile
def u (s : String) : CpInfo := .utf8 (stringToUtf16 s)
/-- a pool by its gaps: so many unusable entries, then the entry; so many at the end -/
def gap : Nat → List CpInfo → List CpInfo
  | 0, r => r
  | n + 1, r => .unusable :: gap n r
def poolList (es : List (Nat × CpInfo)) (last : Nat) : List CpInfo := es.foldr (fun e r => gap e.1 (e.2 :: r)) (gap last [])
def pool (es : List (Nat × CpInfo)) (last : Nat) : Array CpInfo := ⟨poolList es last⟩
def fileOf (pool : Array CpInfo) (this : Nat) (attrs : Array Attribute := #[]) (ms : Array MethodInfo := #[]) (fl : Nat := 33) (sup : Nat := 0) (ifs : Array Nat := #[]) (fds : Array FieldInfo := #[]) : ClassFile where
  minorVersion := 0
  majorVersion := 65
  constantPool := pool
  accessFlags := fl
  thisClass := this
  superClass := sup
  interfaces := ifs
  fields := fds
  methods := ms
  attributes := attrs
def plain (name : String) (sup : Option ClassId) : Class where
  name := name
  kind := .ordinary
  loader := none
  accessFlags := 33
  super := sup
  interfaces := #[]
  cf := none
  fields := #[]
  methods := #[]
  instanceTypes := #[]
  staticTypes := #[]
  resolved := #[]
  callSites := []
  init := .initialized
  statics := none
  mirror := none

def pool0 : Array CpInfo := pool [(5, u "<init>"), (0, u "()V"), (1, .class_ 10), (1, u "java/lang/Object")] 113

def k0c0 : Code := { maxStack := 0, maxLocals := 1, code := object_method_1_code, exceptionTable := #[], attributes := #[] }
def k0m0 : Method := { name := "<init>", desc := "()V", sig := { parameters := [], returnType := none }, accessFlags := 1, code := some k0c0 }
/-- java/lang/Object -/
def k0 : Class := { plain "java/lang/Object" none with
  accessFlags := 33
  interfaces := #[]
  cf := some (fileOf pool0 8 #[] #[{ accessFlags := 1, nameIndex := 5, descriptorIndex := 6, attributes := #[] }] 33 0 #[] #[])
  fields := #[]
  methods := #[k0m0]
  instanceTypes := #[]
  staticTypes := #[]
  resolved := Array.replicate 124 none
  statics := none }

def pool1 : Array CpInfo := pool [(2, .class_ 4), (0, .nameAndType 5 6), (0, u "java/lang/Object"), (0, u "<init>"), (0, u "()V"), (0, .class_ 8), (0, u "com/example/carillon/carillon/search/Change"), (0, .methodref 7 3), (0, .methodref 7 11), (0, .nameAndType 12 13), (0, u "cost"), (0, u "(JD)V"), (0, .methodref 7 15), (0, .nameAndType 16 17), (0, u "set"), (0, u "(IIIIIII)V"), (0, .methodref 7 19), (0, .nameAndType 20 21), (0, u "lecture"), (0, u "()I"), (0, .methodref 7 23), (0, .nameAndType 24 21), (0, u "period"), (0, .methodref 7 26), (0, .nameAndType 27 21), (0, u "room"), (0, .methodref 7 29), (0, .nameAndType 30 21), (0, u "fromPeriod"), (0, .methodref 7 32), (0, .nameAndType 33 21), (0, u "fromRoom"), (0, .methodref 7 35), (0, .nameAndType 36 21), (0, u "other"), (0, .methodref 7 38), (0, .nameAndType 39 21), (0, u "otherFrom"), (0, .methodref 7 41), (0, .nameAndType 42 43), (0, u "hard"), (0, u "()J"), (0, .methodref 7 45), (0, .nameAndType 46 47), (0, u "soft"), (0, u "()D"), (0, .class_ 49), (0, u "com/example/carillon/carillon/search/ChangeSetPinLaw"), (2, u "law"), (0, u "(JIIIII)Z")] 3

def k1m0 : Method := { name := "<init>", desc := "()V", sig := { parameters := [], returnType := none }, accessFlags := 1, code := none }
def k1c1 : Code := { maxStack := 8, maxLocals := 12, code := code, exceptionTable := #[], attributes := #[] }
def k1m1 : Method := { name := "law", desc := "(JIIIII)Z", sig := { parameters := [.long, .int, .int, .int, .int, .int], returnType := some .boolean }, accessFlags := 9, code := some k1c1 }
/-- com/example/carillon/carillon/search/ChangeSetPinLaw -/
def k1 : Class := { plain "com/example/carillon/carillon/search/ChangeSetPinLaw" (some 0) with
  accessFlags := 49
  interfaces := #[]
  cf := some (fileOf pool1 48 #[] #[{ accessFlags := 1, nameIndex := 5, descriptorIndex := 6, attributes := #[] }, { accessFlags := 9, nameIndex := 52, descriptorIndex := 53, attributes := #[] }] 49 2 #[] #[])
  fields := #[]
  methods := #[k1m0, k1m1]
  instanceTypes := #[]
  staticTypes := #[]
  resolved := Array.replicate 57 none
  statics := none }

def pool2 : Array CpInfo := pool [(1, .methodref 2 3), (0, .class_ 4), (0, .nameAndType 5 6), (0, u "java/lang/Object"), (0, u "<init>"), (0, u "()V"), (0, .fieldref 8 9), (0, .class_ 10), (0, .nameAndType 11 12), (0, u "com/example/carillon/carillon/search/Change"), (0, u "lecture"), (0, u "I"), (0, .fieldref 8 14), (0, .nameAndType 15 12), (0, u "period"), (0, .fieldref 8 17), (0, .nameAndType 18 12), (0, u "room"), (0, .fieldref 8 20), (0, .nameAndType 21 12), (0, u "fromPeriod"), (0, .fieldref 8 23), (0, .nameAndType 24 12), (0, u "fromRoom"), (0, .fieldref 8 26), (0, .nameAndType 27 12), (0, u "other"), (0, .fieldref 8 29), (0, .nameAndType 30 12), (0, u "otherFrom"), (0, .fieldref 8 32), (0, .nameAndType 33 34), (0, u "hard"), (0, u "J"), (0, .fieldref 8 36), (0, .nameAndType 37 38), (0, u "soft"), (0, u "D"), (2, u "set"), (0, u "(IIIIIII)V"), (0, u "cost"), (0, u "(JD)V"), (0, u "()I"), (0, u "()J"), (0, u "()D")] 2

def k2c0 : Code := { maxStack := 1, maxLocals := 1, code := prog_50_method_1_code, exceptionTable := #[], attributes := #[] }
def k2m0 : Method := { name := "<init>", desc := "()V", sig := { parameters := [], returnType := none }, accessFlags := 0, code := some k2c0 }
def k2c1 : Code := { maxStack := 2, maxLocals := 8, code := prog_50_method_2_code, exceptionTable := #[], attributes := #[] }
def k2m1 : Method := { name := "set", desc := "(IIIIIII)V", sig := { parameters := [.int, .int, .int, .int, .int, .int, .int], returnType := none }, accessFlags := 0, code := some k2c1 }
def k2c2 : Code := { maxStack := 3, maxLocals := 5, code := prog_50_method_3_code, exceptionTable := #[], attributes := #[] }
def k2m2 : Method := { name := "cost", desc := "(JD)V", sig := { parameters := [.long, .double], returnType := none }, accessFlags := 0, code := some k2c2 }
def k2c3 : Code := { maxStack := 1, maxLocals := 1, code := prog_50_method_4_code, exceptionTable := #[], attributes := #[] }
def k2m3 : Method := { name := "lecture", desc := "()I", sig := { parameters := [], returnType := some .int }, accessFlags := 0, code := some k2c3 }
def k2c4 : Code := { maxStack := 1, maxLocals := 1, code := prog_50_method_5_code, exceptionTable := #[], attributes := #[] }
def k2m4 : Method := { name := "period", desc := "()I", sig := { parameters := [], returnType := some .int }, accessFlags := 0, code := some k2c4 }
def k2c5 : Code := { maxStack := 1, maxLocals := 1, code := prog_50_method_6_code, exceptionTable := #[], attributes := #[] }
def k2m5 : Method := { name := "room", desc := "()I", sig := { parameters := [], returnType := some .int }, accessFlags := 0, code := some k2c5 }
def k2c6 : Code := { maxStack := 1, maxLocals := 1, code := prog_50_method_7_code, exceptionTable := #[], attributes := #[] }
def k2m6 : Method := { name := "fromPeriod", desc := "()I", sig := { parameters := [], returnType := some .int }, accessFlags := 0, code := some k2c6 }
def k2c7 : Code := { maxStack := 1, maxLocals := 1, code := prog_50_method_8_code, exceptionTable := #[], attributes := #[] }
def k2m7 : Method := { name := "fromRoom", desc := "()I", sig := { parameters := [], returnType := some .int }, accessFlags := 0, code := some k2c7 }
def k2c8 : Code := { maxStack := 1, maxLocals := 1, code := prog_50_method_9_code, exceptionTable := #[], attributes := #[] }
def k2m8 : Method := { name := "other", desc := "()I", sig := { parameters := [], returnType := some .int }, accessFlags := 0, code := some k2c8 }
def k2c9 : Code := { maxStack := 1, maxLocals := 1, code := prog_50_method_10_code, exceptionTable := #[], attributes := #[] }
def k2m9 : Method := { name := "otherFrom", desc := "()I", sig := { parameters := [], returnType := some .int }, accessFlags := 0, code := some k2c9 }
def k2c10 : Code := { maxStack := 2, maxLocals := 1, code := prog_50_method_11_code, exceptionTable := #[], attributes := #[] }
def k2m10 : Method := { name := "hard", desc := "()J", sig := { parameters := [], returnType := some .long }, accessFlags := 0, code := some k2c10 }
def k2c11 : Code := { maxStack := 2, maxLocals := 1, code := prog_50_method_12_code, exceptionTable := #[], attributes := #[] }
def k2m11 : Method := { name := "soft", desc := "()D", sig := { parameters := [], returnType := some .double }, accessFlags := 0, code := some k2c11 }
/-- com/example/carillon/carillon/search/Change -/
def k2 : Class := { plain "com/example/carillon/carillon/search/Change" (some 0) with
  accessFlags := 48
  interfaces := #[]
  cf := some (fileOf pool2 8 #[] #[{ accessFlags := 0, nameIndex := 5, descriptorIndex := 6, attributes := #[] }, { accessFlags := 0, nameIndex := 41, descriptorIndex := 42, attributes := #[] }, { accessFlags := 0, nameIndex := 43, descriptorIndex := 44, attributes := #[] }, { accessFlags := 0, nameIndex := 11, descriptorIndex := 45, attributes := #[] }, { accessFlags := 0, nameIndex := 15, descriptorIndex := 45, attributes := #[] }, { accessFlags := 0, nameIndex := 18, descriptorIndex := 45, attributes := #[] }, { accessFlags := 0, nameIndex := 21, descriptorIndex := 45, attributes := #[] }, { accessFlags := 0, nameIndex := 24, descriptorIndex := 45, attributes := #[] }, { accessFlags := 0, nameIndex := 27, descriptorIndex := 45, attributes := #[] }, { accessFlags := 0, nameIndex := 30, descriptorIndex := 45, attributes := #[] }, { accessFlags := 0, nameIndex := 33, descriptorIndex := 46, attributes := #[] }, { accessFlags := 0, nameIndex := 37, descriptorIndex := 47, attributes := #[] }] 48 2 #[] #[{ accessFlags := 2, nameIndex := 11, descriptorIndex := 12, attributes := #[] }, { accessFlags := 2, nameIndex := 15, descriptorIndex := 12, attributes := #[] }, { accessFlags := 2, nameIndex := 18, descriptorIndex := 12, attributes := #[] }, { accessFlags := 2, nameIndex := 21, descriptorIndex := 12, attributes := #[] }, { accessFlags := 2, nameIndex := 24, descriptorIndex := 12, attributes := #[] }, { accessFlags := 2, nameIndex := 27, descriptorIndex := 12, attributes := #[] }, { accessFlags := 2, nameIndex := 30, descriptorIndex := 12, attributes := #[] }, { accessFlags := 2, nameIndex := 33, descriptorIndex := 34, attributes := #[] }, { accessFlags := 2, nameIndex := 37, descriptorIndex := 38, attributes := #[] }])
  fields := #[{ name := "lecture", type := .int, accessFlags := 2, slot := 0, constantValue := 0 }, { name := "period", type := .int, accessFlags := 2, slot := 1, constantValue := 0 }, { name := "room", type := .int, accessFlags := 2, slot := 2, constantValue := 0 }, { name := "fromPeriod", type := .int, accessFlags := 2, slot := 3, constantValue := 0 }, { name := "fromRoom", type := .int, accessFlags := 2, slot := 4, constantValue := 0 }, { name := "other", type := .int, accessFlags := 2, slot := 5, constantValue := 0 }, { name := "otherFrom", type := .int, accessFlags := 2, slot := 6, constantValue := 0 }, { name := "hard", type := .long, accessFlags := 2, slot := 7, constantValue := 0 }, { name := "soft", type := .double, accessFlags := 2, slot := 8, constantValue := 0 }]
  methods := #[k2m0, k2m1, k2m2, k2m3, k2m4, k2m5, k2m6, k2m7, k2m8, k2m9, k2m10, k2m11]
  instanceTypes := #[.int, .int, .int, .int, .int, .int, .int, .long, .double]
  staticTypes := #[]
  resolved := Array.replicate 50 none
  statics := none }

def pool3 : Array CpInfo := pool [(1, u "java/lang/Cloneable"), (0, .class_ 1), (0, u "java/lang/Object"), (0, .class_ 3)] 3

/-- java/lang/Cloneable -/
def k3 : Class := { plain "java/lang/Cloneable" (some 0) with
  accessFlags := 1537
  interfaces := #[]
  cf := some (fileOf pool3 2 #[] #[] 1537 4 #[] #[])
  fields := #[]
  methods := #[]
  instanceTypes := #[]
  staticTypes := #[]
  resolved := Array.replicate 8 none
  statics := none }

def pool4 : Array CpInfo := pool [(1, u "java/io/Serializable"), (0, .class_ 1), (0, u "java/lang/Object"), (0, .class_ 3)] 3

/-- java/io/Serializable -/
def k4 : Class := { plain "java/io/Serializable" (some 0) with
  accessFlags := 1537
  interfaces := #[]
  cf := some (fileOf pool4 2 #[] #[] 1537 4 #[] #[])
  fields := #[]
  methods := #[]
  instanceTypes := #[]
  staticTypes := #[]
  resolved := Array.replicate 8 none
  statics := none }

/-- the primitive byte -/
def k5 : Class := { plain "byte" none with kind := .primitive 'B', accessFlags := 0x411 }
/-- [B -/
def k6 : Class := { plain "[B" (some 0) with kind := .array 5 .byte, interfaces := #[3, 4], accessFlags := 1041 }

/-- the primitive int -/
def k7 : Class := { plain "int" none with kind := .primitive 'I', accessFlags := 0x411 }
/-- [I -/
def k8 : Class := { plain "[I" (some 0) with kind := .array 7 .int, interfaces := #[3, 4], accessFlags := 1041 }

def heap : Heap := #[]
def classes : Array Class := #[k0, k1, k2, k3, k4, k5, k6, k7, k8]
def interned : List (Array UInt16 × Addr) := []
def slotsUsed : Nat := 0
def theMethod : MethodId := ⟨1, 1⟩
def args0 : Array Value := #[.long 5, .int 5, .int 5, .int 5, .int 5, .int 5]
def aboutOver (below : List Frame) : State where
  vm := { classes := classes, interned := interned.toArray }
  heap := heap
  slotsUsed := slotsUsed
  threads := #[{ frames := .invoking theMethod args0 :: below }]
def below0 : List Frame := [.native { method := ⟨0, 0⟩, args := #[] }]
def about1 : State := aboutOver below0
def p0 : Program := .bare "" "" ""
def e0 : Env := launch0.env 0 0 0
theorem w_frames : about1.frames = Frame.invoking theMethod args0 :: below0 := rfl
set_option maxRecDepth 65536 in
theorem w_args : argsFit about1.vm theMethod args0 = true := by decide +kernel
set_option maxRecDepth 65536 in
theorem w_heap : heapFits about1 = true := by decide +kernel
set_option maxRecDepth 65536 in
theorem w_runnable : about1.curStatus? = some .runnable := by decide +kernel
set_option maxRecDepth 65536 in
theorem w_alone : about1.alone = true := by decide +kernel
set_option maxRecDepth 65536 in
theorem w_named : about1.methodNamed? x = some theMethod := by decide +kernel
set_option maxRecDepth 65536 in
theorem w_hears : about1.hears theMethod below0 = true := by decide +kernel
set_option maxRecDepth 65536 in
theorem w_ripe : about1.ripe theMethod args0 below0 = true := by decide +kernel
theorem w_running : about1.status = .running := rfl
set_option maxRecDepth 65536 in
theorem w_room : about1.hasRoom e0.platform room_1 = true :=
  launch0.hasRoom_least _ room_1 (by decide +kernel) (by decide +kernel) (by decide +kernel) (by decide +kernel) (by decide +kernel) (by decide +kernel)
theorem allAtoms_all (ts : List Jvm.Cond) (a : Array Jvm.Value) (st : Jvm.State) : (allAtoms ts).before a st = ts.all (fun c => c.before a st) := by
  induction ts with
  | nil => rfl
  | cons c t ih =>
    show (Jvm.Cond.and c (allAtoms t)).before a st = _
    rw [Jvm.Cond.before_and, ih, List.all_cons]
def words1 : List Jvm.Cond := Jvm.Cond.code x code maxLocals ret :: tables_1
/-- a 'code' word, met by the world's own term for the bytes: nothing is compared byte by byte -/
theorem code_word {y : MethodName} {bytes : ByteArray} {mx : Nat} {rt : Option FieldType} {a : Array Value} {s : State} {m : MethodId} {meth : Method} {c : Code} (h1 : s.methodNamed? y = some m) (h2 : s.vm.method? m = some meth) (h3 : meth.code = some c) (h4 : c.code = bytes)
    (h5 : (c.maxLocals == mx && c.exceptionTable.isEmpty && decide (c.maxStack ≤ mostOperands) && decide (meth.sig.returnType = rt) && !meth.locks && decide (parseMethodDescriptor y.desc = some meth.sig)) = true) : (Jvm.Cond.code y bytes mx rt).before a s = true := by
  simp only [Bool.and_eq_true, beq_iff_eq, Bool.not_eq_true', decide_eq_true_eq] at h5
  obtain ⟨⟨⟨⟨⟨g1, g2⟩, g3⟩, g4⟩, g5⟩, g6⟩ := h5
  simp [Cond.before, Cond.holds, Cond.value, h1, h2, h3, h4, g1, g2, g3, g4, g5, g6]
def isCode : Jvm.Cond → Bool
  | .code _ _ _ _ => true
  | _ => false
theorem all_split {L : List Jvm.Cond} {P : Jvm.Cond → Bool} (h1 : L.all (fun c => isCode c || P c) = true) (h2 : ∀ c ∈ L.filter isCode, P c = true) : L.all P = true := by
  refine List.all_eq_true.mpr fun c hc => ?_
  have h := List.all_eq_true.mp h1 c hc
  rcases Bool.eq_false_or_eq_true (isCode c) with hi | hi
  · exact h2 c (List.mem_filter.mpr ⟨hc, hi⟩)
  · simpa [hi] using h
set_option maxRecDepth 65536 in
theorem w_c0 : (Jvm.Cond.code x code maxLocals ret).before args0 about1 = true := code_word (m := ⟨1, 1⟩) (meth := k1m1) (c := k1c1) (by decide +kernel) rfl rfl rfl (by decide +kernel)
set_option maxRecDepth 65536 in
theorem w_c1 : (Jvm.Cond.code ({ cls := "com/example/carillon/carillon/search/Change", name := "<init>", desc := "()V" } : Jvm.MethodName) prog_50_method_1_code (1 : Nat) (Option.none : Option Jvm.ClassFile.FieldType)).before args0 about1 = true := code_word (m := ⟨2, 0⟩) (meth := k2m0) (c := k2c0) (by decide +kernel) rfl rfl rfl (by decide +kernel)
set_option maxRecDepth 65536 in
theorem w_c2 : (Jvm.Cond.code ({ cls := "java/lang/Object", name := "<init>", desc := "()V" } : Jvm.MethodName) object_method_1_code (1 : Nat) (Option.none : Option Jvm.ClassFile.FieldType)).before args0 about1 = true := code_word (m := ⟨0, 0⟩) (meth := k0m0) (c := k0c0) (by decide +kernel) rfl rfl rfl (by decide +kernel)
set_option maxRecDepth 65536 in
theorem w_c3 : (Jvm.Cond.code ({ cls := "com/example/carillon/carillon/search/Change", name := "cost", desc := "(JD)V" } : Jvm.MethodName) prog_50_method_3_code (5 : Nat) (Option.none : Option Jvm.ClassFile.FieldType)).before args0 about1 = true := code_word (m := ⟨2, 2⟩) (meth := k2m2) (c := k2c2) (by decide +kernel) rfl rfl rfl (by decide +kernel)
set_option maxRecDepth 65536 in
theorem w_c4 : (Jvm.Cond.code ({ cls := "com/example/carillon/carillon/search/Change", name := "set", desc := "(IIIIIII)V" } : Jvm.MethodName) prog_50_method_2_code (8 : Nat) (Option.none : Option Jvm.ClassFile.FieldType)).before args0 about1 = true := code_word (m := ⟨2, 1⟩) (meth := k2m1) (c := k2c1) (by decide +kernel) rfl rfl rfl (by decide +kernel)
set_option maxRecDepth 65536 in
theorem w_c5 : (Jvm.Cond.code ({ cls := "com/example/carillon/carillon/search/Change", name := "lecture", desc := "()I" } : Jvm.MethodName) prog_50_method_4_code (1 : Nat) (Option.some Jvm.ClassFile.FieldType.int)).before args0 about1 = true := code_word (m := ⟨2, 3⟩) (meth := k2m3) (c := k2c3) (by decide +kernel) rfl rfl rfl (by decide +kernel)
set_option maxRecDepth 65536 in
theorem w_c6 : (Jvm.Cond.code ({ cls := "com/example/carillon/carillon/search/Change", name := "period", desc := "()I" } : Jvm.MethodName) prog_50_method_5_code (1 : Nat) (Option.some Jvm.ClassFile.FieldType.int)).before args0 about1 = true := code_word (m := ⟨2, 4⟩) (meth := k2m4) (c := k2c4) (by decide +kernel) rfl rfl rfl (by decide +kernel)
set_option maxRecDepth 65536 in
theorem w_c7 : (Jvm.Cond.code ({ cls := "com/example/carillon/carillon/search/Change", name := "room", desc := "()I" } : Jvm.MethodName) prog_50_method_6_code (1 : Nat) (Option.some Jvm.ClassFile.FieldType.int)).before args0 about1 = true := code_word (m := ⟨2, 5⟩) (meth := k2m5) (c := k2c5) (by decide +kernel) rfl rfl rfl (by decide +kernel)
set_option maxRecDepth 65536 in
theorem w_c8 : (Jvm.Cond.code ({ cls := "com/example/carillon/carillon/search/Change", name := "fromPeriod", desc := "()I" } : Jvm.MethodName) prog_50_method_7_code (1 : Nat) (Option.some Jvm.ClassFile.FieldType.int)).before args0 about1 = true := code_word (m := ⟨2, 6⟩) (meth := k2m6) (c := k2c6) (by decide +kernel) rfl rfl rfl (by decide +kernel)
set_option maxRecDepth 65536 in
theorem w_c9 : (Jvm.Cond.code ({ cls := "com/example/carillon/carillon/search/Change", name := "fromRoom", desc := "()I" } : Jvm.MethodName) prog_50_method_8_code (1 : Nat) (Option.some Jvm.ClassFile.FieldType.int)).before args0 about1 = true := code_word (m := ⟨2, 7⟩) (meth := k2m7) (c := k2c7) (by decide +kernel) rfl rfl rfl (by decide +kernel)
set_option maxRecDepth 65536 in
theorem w_c10 : (Jvm.Cond.code ({ cls := "com/example/carillon/carillon/search/Change", name := "other", desc := "()I" } : Jvm.MethodName) prog_50_method_9_code (1 : Nat) (Option.some Jvm.ClassFile.FieldType.int)).before args0 about1 = true := code_word (m := ⟨2, 8⟩) (meth := k2m8) (c := k2c8) (by decide +kernel) rfl rfl rfl (by decide +kernel)
set_option maxRecDepth 65536 in
theorem w_c11 : (Jvm.Cond.code ({ cls := "com/example/carillon/carillon/search/Change", name := "otherFrom", desc := "()I" } : Jvm.MethodName) prog_50_method_10_code (1 : Nat) (Option.some Jvm.ClassFile.FieldType.int)).before args0 about1 = true := code_word (m := ⟨2, 9⟩) (meth := k2m9) (c := k2c9) (by decide +kernel) rfl rfl rfl (by decide +kernel)
set_option maxRecDepth 65536 in
theorem w_c12 : (Jvm.Cond.code ({ cls := "com/example/carillon/carillon/search/Change", name := "hard", desc := "()J" } : Jvm.MethodName) prog_50_method_11_code (1 : Nat) (Option.some Jvm.ClassFile.FieldType.long)).before args0 about1 = true := code_word (m := ⟨2, 10⟩) (meth := k2m10) (c := k2c10) (by decide +kernel) rfl rfl rfl (by decide +kernel)
set_option maxRecDepth 65536 in
theorem w_c13 : (Jvm.Cond.code ({ cls := "com/example/carillon/carillon/search/Change", name := "soft", desc := "()D" } : Jvm.MethodName) prog_50_method_12_code (1 : Nat) (Option.some Jvm.ClassFile.FieldType.double)).before args0 about1 = true := code_word (m := ⟨2, 11⟩) (meth := k2m11) (c := k2c11) (by decide +kernel) rfl rfl rfl (by decide +kernel)
def codes1 : List Jvm.Cond := [Jvm.Cond.code x code maxLocals ret, Jvm.Cond.code ({ cls := "com/example/carillon/carillon/search/Change", name := "<init>", desc := "()V" } : Jvm.MethodName) prog_50_method_1_code (1 : Nat) (Option.none : Option Jvm.ClassFile.FieldType), Jvm.Cond.code ({ cls := "java/lang/Object", name := "<init>", desc := "()V" } : Jvm.MethodName) object_method_1_code (1 : Nat) (Option.none : Option Jvm.ClassFile.FieldType), Jvm.Cond.code ({ cls := "com/example/carillon/carillon/search/Change", name := "cost", desc := "(JD)V" } : Jvm.MethodName) prog_50_method_3_code (5 : Nat) (Option.none : Option Jvm.ClassFile.FieldType), Jvm.Cond.code ({ cls := "com/example/carillon/carillon/search/Change", name := "set", desc := "(IIIIIII)V" } : Jvm.MethodName) prog_50_method_2_code (8 : Nat) (Option.none : Option Jvm.ClassFile.FieldType), Jvm.Cond.code ({ cls := "com/example/carillon/carillon/search/Change", name := "lecture", desc := "()I" } : Jvm.MethodName) prog_50_method_4_code (1 : Nat) (Option.some Jvm.ClassFile.FieldType.int), Jvm.Cond.code ({ cls := "com/example/carillon/carillon/search/Change", name := "period", desc := "()I" } : Jvm.MethodName) prog_50_method_5_code (1 : Nat) (Option.some Jvm.ClassFile.FieldType.int), Jvm.Cond.code ({ cls := "com/example/carillon/carillon/search/Change", name := "room", desc := "()I" } : Jvm.MethodName) prog_50_method_6_code (1 : Nat) (Option.some Jvm.ClassFile.FieldType.int), Jvm.Cond.code ({ cls := "com/example/carillon/carillon/search/Change", name := "fromPeriod", desc := "()I" } : Jvm.MethodName) prog_50_method_7_code (1 : Nat) (Option.some Jvm.ClassFile.FieldType.int), Jvm.Cond.code ({ cls := "com/example/carillon/carillon/search/Change", name := "fromRoom", desc := "()I" } : Jvm.MethodName) prog_50_method_8_code (1 : Nat) (Option.some Jvm.ClassFile.FieldType.int), Jvm.Cond.code ({ cls := "com/example/carillon/carillon/search/Change", name := "other", desc := "()I" } : Jvm.MethodName) prog_50_method_9_code (1 : Nat) (Option.some Jvm.ClassFile.FieldType.int), Jvm.Cond.code ({ cls := "com/example/carillon/carillon/search/Change", name := "otherFrom", desc := "()I" } : Jvm.MethodName) prog_50_method_10_code (1 : Nat) (Option.some Jvm.ClassFile.FieldType.int), Jvm.Cond.code ({ cls := "com/example/carillon/carillon/search/Change", name := "hard", desc := "()J" } : Jvm.MethodName) prog_50_method_11_code (1 : Nat) (Option.some Jvm.ClassFile.FieldType.long), Jvm.Cond.code ({ cls := "com/example/carillon/carillon/search/Change", name := "soft", desc := "()D" } : Jvm.MethodName) prog_50_method_12_code (1 : Nat) (Option.some Jvm.ClassFile.FieldType.double)]
set_option maxRecDepth 65536 in
theorem codes_eq : words1.filter isCode = codes1 := rfl
theorem w_codes : ∀ c ∈ words1.filter isCode, c.before args0 about1 = true := by
  rw [codes_eq]
  intro c hc
  simp only [codes1, List.mem_cons, List.not_mem_nil, or_false] at hc
  rcases hc with rfl | rfl | rfl | rfl | rfl | rfl | rfl | rfl | rfl | rfl | rfl | rfl | rfl | rfl
  · exact w_c0
  · exact w_c1
  · exact w_c2
  · exact w_c3
  · exact w_c4
  · exact w_c5
  · exact w_c6
  · exact w_c7
  · exact w_c8
  · exact w_c9
  · exact w_c10
  · exact w_c11
  · exact w_c12
  · exact w_c13
set_option maxRecDepth 65536 in
theorem w_t1 : (words1.take 24).all (fun c => isCode c || c.before args0 about1) = true := by decide +kernel
set_option maxRecDepth 65536 in
theorem w_t2 : ((words1.drop 24).take 24).all (fun c => isCode c || c.before args0 about1) = true := by decide +kernel
set_option maxRecDepth 65536 in
theorem w_t3 : (((words1.drop 24).drop 24).take 24).all (fun c => isCode c || c.before args0 about1) = true := by decide +kernel
set_option maxRecDepth 65536 in
theorem w_t4 : (((words1.drop 24).drop 24).drop 24).all (fun c => isCode c || c.before args0 about1) = true := by decide +kernel
theorem w_tables : (allAtoms (Jvm.Cond.code x code maxLocals ret :: tables_1)).before args0 about1 = true := by
  rw [allAtoms_all]
  show words1.all (fun c => c.before args0 about1) = true
  refine all_split ?_ w_codes
  rw [← List.take_append_drop 24 words1, List.all_append, w_t1, ← List.take_append_drop 24 (words1.drop 24), List.all_append, w_t2, ← List.take_append_drop 24 ((words1.drop 24).drop 24), List.all_append, w_t3, w_t4]
  rfl
set_option maxRecDepth 65536 in
theorem w_case : (Jvm.Cond.and given_1 narrow_1).before args0 about1 = true := by decide +kernel
theorem w_applies : (headSpec (Jvm.Cond.code x code maxLocals ret :: tables_1) room_1).applies x e0.platform about1 = true :=
  (Spec.applies_iff w_frames).mpr ⟨w_running, w_runnable, w_alone, w_named, w_hears, w_ripe, w_room, w_tables⟩
theorem atStart : AtStart classFile x code maxLocals ret World_1 tables_1 room_1 Calls_1 rest_1 Pre_1 launch0 p0 e0 about1 theMethod args0 below0 :=
  ⟨lists_1, trivial, launch0.admits_env _ _ _, launch0.least_env, fairChoices_fair.cas, fairChoices_fair.clock, w_frames, w_args, w_heap, w_applies, trivial, trivial, w_case⟩
end start1
theorem witness_1 : WitnessClaimed_1 := ⟨start1.p0, start1.e0, start1.about1, start1.theMethod, start1.args0, start1.below0, start1.atStart⟩
end Jvm.Pilot.@@N@@
