import JvmDerived
import JvmDerived.Pilot.@@N@@Statement
import JvmDerived.Pilot.@@N@@Code
set_option linter.unusedVariables false
set_option linter.unusedSimpArgs false
@@BLOCK:NumsL.lean.txt@@
namespace Jvm.Pilot.@@N@@
open Jvm Jvm.ClassFile Sem Op Lib Jvm.Free Jvm.Stand Jvm.LawKit Jvm.RoadKit Bundle Jvm.Pilot.@@N@@.Jvm.D
section OwnKit
theorem own_w {Z : State} {a0 : Array Value} (hw : ∀ d ∈ tables_1, d.before a0 Z = true) {d : Jvm.Cond} (i : Nat) (h : tables_1[i]? = some d) : d.before a0 Z = true := hw d (List.mem_of_getElem? h)
theorem own_narb (x : Int32) : nar .byte (x.toInt8.toInt32) = x.toInt8.toInt32 := by
  show (x.toInt8.toInt32).toInt8.toInt32 = x.toInt8.toInt32
  rw [Int8.toInt8_toInt32]
theorem own_narc (x : Int32) : nar .char (x.toUInt32.toUInt16.toUInt32.toInt32) = x.toUInt32.toUInt16.toUInt32.toInt32 := by
  show (x.toUInt32.toUInt16.toUInt32.toInt32).toUInt32.toUInt16.toUInt32.toInt32 = _
  have : (x.toUInt32.toUInt16.toUInt32.toInt32).toUInt32 = x.toUInt32.toUInt16.toUInt32 := rfl
  rw [this]
  have : x.toUInt32.toUInt16.toUInt32.toUInt16 = x.toUInt32.toUInt16 := by rw [← UInt16.toNat_inj]; simp
  rw [this]
theorem own_plain {Z : State} {h : Heap} {a : Addr} {C : String} (F : Exa Z h a C) : ∃ c : Cell, h[a]? = some c ∧ c.vm.isStatics = false := by
  obtain ⟨c, _, h1, -, -, h4, -⟩ := F; exact ⟨c, h1, h4⟩
theorem own_plainV {Z : State} {h : Heap} {a : Addr} {k : ClassId} {ty : FieldType} {z : Int32} {vs : List Value} {d : Value} (F : Arv Z h a k ty z vs d) : ∃ c : Cell, h[a]? = some c ∧ c.vm.isStatics = false := by
  obtain ⟨c, A, -⟩ := F; exact ⟨c, A.1, A.plain⟩
theorem own_Sta_keep {Z : State} {h h' : Heap} {C n d : String} {v : Value} {ws : List Addr} (F : Sta Z h C n d v) (K : Keep h h' ws) (q : ∀ a ∈ ws, ∃ c : Cell, h[a]? = some c ∧ c.vm.isStatics = false) : Sta Z h' C n d v := by
  obtain ⟨cf, i, k, f, st, cell, h1, h2, h3, h4, h5, h6, h7⟩ := F
  have ne : st ∉ ws := fun hm => by
    obtain ⟨c, g1, g2⟩ := q st hm
    cases h5.symm.trans g1
    rw [h6] at g2; cases g2
  exact ⟨cf, i, k, f, st, cell, h1, h2, h3, h4, K.2.1 _ _ h5 ne, h6, h7⟩
theorem own_NSroot {Z : State} {a0 : Array Value} {O K : String} {j : Nat} (w : (Cond.noSuperclass O).before a0 Z = true) (wk : (Cond.instantiable K j).before a0 Z = true) (hn : O ≠ K) : NS Z O K := by
  obtain ⟨c, k, h1, h2, h3, -⟩ := Cond.noSuperclass_spec w
  obtain ⟨t, kt, g1, -⟩ := Cond.instantiable_spec wk
  refine ⟨c, t, h1, g1, fun fuel => ?_⟩
  cases fuel with
  | zero => rfl
  | succ f => simp [Vm.isSubclassAux, ids_ne h1 g1 hn, h2, h3]
theorem own_NSno {Z : State} {a0 : Array Value} {C S K : String} {j : Nat} (w : (Cond.superclass C S).before a0 Z = true) (wk : (Cond.instantiable K j).before a0 Z = true) (q : NS Z C K) (hn : C ≠ K) : ∃ c t, Z.vm.findClass C = some c ∧ Z.vm.findClass K = some t ∧ Z.vm.assignable c t = false := by
  obtain ⟨c, t, h0, g0, n3⟩ := q
  obtain ⟨_, k, _, _, h2, _, _, h5, -⟩ := Cond.superclass_spec h0 w
  obtain ⟨t', kt, g1, g2, g5, g7, -⟩ := Cond.instantiable_spec wk
  cases g0.symm.trans g1
  have g8 : kt.isInterface = false := by simpa using (Bool.or_eq_false_iff.mp g7).1
  refine ⟨c, t, h0, g0, ?_⟩
  show Z.vm.assignableAux (255 + 1) c t = false
  simp [Vm.assignableAux, ids_ne h0 g0 hn, h2, g2, h5, g5, g8, Vm.isSubclass, n3]
theorem own_hc {T : State} {h : Heap} {a : Addr} {c : Cell} (e : T.heap = h) (q : h[a]? = some c) : T.heap[a]? = some c := by subst e; exact q
def own_b (P : Prop) [Decidable P] : Int32 := if P then 1 else 0
theorem own_b1 {P : Prop} [Decidable P] (h : P) : own_b P = 1 := if_pos h
theorem own_b0 {P : Prop} [Decidable P] (h : ¬ P) : own_b P = 0 := if_neg h
variable {p : Program} {l : Launch} {e : Env} {R : Room} {s : State} {m : MethodId} {args : Array Value} {below : List Frame} {meth : Method} {c : Code} {T : State} {locs : List Loc} {cells slots : Nat}
def own_Fin (p : Program) (e : Env) (below : List Frame) (s : State) (Q : Option Value → Heap → List Loc → Prop) (k n : Nat) (A : State) : Prop := ∃ s₂ o, Steps p.tables e below A s₂ ∧ s₂.status = .running ∧ Ended s₂ below o ∧ ∃ v L, o = .returned v ∧ Q v s₂.heap L ∧ FrameEnd s o s₂ L k n
theorem own_go {Q : Option Value → Heap → List Loc → Prop} {k n : Nat} {A B : State} (h : ∀ t, Steps p.tables e below B t → Steps p.tables e below A t) (q : own_Fin p e below s Q k n B) : own_Fin p e below s Q k n A := by
  obtain ⟨s₂, o, h1, h2⟩ := q
  exact ⟨s₂, o, h _ h1, h2⟩
theorem own_retN {Q : Option Value → Heap → List Loc → Prop} {k n : Nat} (X : Stand p l e R s m args below meth c T locs cells slots) (hx : p.tables.exec = Jvm.exec) (hlk : meth.locks = false) {pc : Nat} {Ls : Array Slot} {z w : Int32} {t : FieldType} {rest : List Value} (hret : meth.sig.returnType = some t) (ht : t = .boolean ∨ t = .byte ∨ t = .char ∨ t = .short)
    (hd : decode c.code pc = .ok (.ireturn, 1)) {h : Heap} (eT : T.heap = h) (hz : nar t z = w) (hQ : Q (some (.int w)) h locs) (hk : cells ≤ k) (hn : slots ≤ n) : own_Fin p e below s Q k n (T.setTop (mkF m pc Ls (.int z :: rest))) := by
  subst hz eT
  obtain ⟨fs, hr, hrun, hended, hW, hsame⟩ := X.leave (v := some (.int (nar t z))) (fun h => by rw [hret] at h; cases h) hlk
  exact ⟨_, _, retN X hx hret ht hd hr, hrun, hended, _, _, rfl, hQ, ⟨_, rfl⟩, hW, hsame.mono hk hn⟩
theorem own_retI {Q : Option Value → Heap → List Loc → Prop} {k n : Nat} (X : Stand p l e R s m args below meth c T locs cells slots) (hx : p.tables.exec = Jvm.exec) (hlk : meth.locks = false) {pc : Nat} {Ls : Array Slot} {z : Int32} {rest : List Value} (hret : meth.sig.returnType = some .int)
    (hd : decode c.code pc = .ok (.ireturn, 1)) {h : Heap} (eT : T.heap = h) (hQ : Q (some (.int z)) h locs) (hk : cells ≤ k) (hn : slots ≤ n) : own_Fin p e below s Q k n (T.setTop (mkF m pc Ls (.int z :: rest))) := by
  subst eT
  obtain ⟨fs, hr, hrun, hended, hW, hsame⟩ := X.leave (v := some (.int z)) (fun h => by rw [hret] at h; cases h) hlk
  exact ⟨_, _, retOut X hx hret rfl (Or.inl ⟨rfl, Or.inl rfl, z, rfl⟩) hd hr, hrun, hended, _, _, rfl, hQ, ⟨_, rfl⟩, hW, hsame.mono hk hn⟩
theorem own_retJ {Q : Option Value → Heap → List Loc → Prop} {k n : Nat} (X : Stand p l e R s m args below meth c T locs cells slots) (hx : p.tables.exec = Jvm.exec) (hlk : meth.locks = false) {pc : Nat} {Ls : Array Slot} {z : Int64} {rest : List Value} (hret : meth.sig.returnType = some .long)
    (hd : decode c.code pc = .ok (.lreturn, 1)) {h : Heap} (eT : T.heap = h) (hQ : Q (some (.long z)) h locs) (hk : cells ≤ k) (hn : slots ≤ n) : own_Fin p e below s Q k n (T.setTop (mkF m pc Ls (.long z :: rest))) := by
  subst eT
  obtain ⟨fs, hr, hrun, hended, hW, hsame⟩ := X.leave (v := some (.long z)) (fun h => by rw [hret] at h; cases h) hlk
  exact ⟨_, _, retOut X hx hret rfl (Or.inr (Or.inl ⟨rfl, rfl, z, rfl⟩)) hd hr, hrun, hended, _, _, rfl, hQ, ⟨_, rfl⟩, hW, hsame.mono hk hn⟩
theorem own_retD {Q : Option Value → Heap → List Loc → Prop} {k n : Nat} (X : Stand p l e R s m args below meth c T locs cells slots) (hx : p.tables.exec = Jvm.exec) (hlk : meth.locks = false) {pc : Nat} {Ls : Array Slot} {z : UInt64} {rest : List Value} (hret : meth.sig.returnType = some .double)
    (hd : decode c.code pc = .ok (.dreturn, 1)) {h : Heap} (eT : T.heap = h) (hQ : Q (some (.double z)) h locs) (hk : cells ≤ k) (hn : slots ≤ n) : own_Fin p e below s Q k n (T.setTop (mkF m pc Ls (.double z :: rest))) := by
  subst eT
  obtain ⟨fs, hr, hrun, hended, hW, hsame⟩ := X.leave (v := some (.double z)) (fun h => by rw [hret] at h; cases h) hlk
  exact ⟨_, _, retOut X hx hret rfl (Or.inr (Or.inr (Or.inl ⟨rfl, rfl, z, rfl⟩))) hd hr, hrun, hended, _, _, rfl, hQ, ⟨_, rfl⟩, hW, hsame.mono hk hn⟩
theorem own_retA {Q : Option Value → Heap → List Loc → Prop} {k n : Nat} (X : Stand p l e R s m args below meth c T locs cells slots) (hx : p.tables.exec = Jvm.exec) (hlk : meth.locks = false) {pc : Nat} {Ls : Array Slot} {w : Value} {t : FieldType} {rest : List Value} (hret : meth.sig.returnType = some t) (ht : t.isReference = true) (hw : w.isRef = true)
    (hd : decode c.code pc = .ok (.areturn, 1)) {h : Heap} (eT : T.heap = h) (hQ : Q (some w) h locs) (hk : cells ≤ k) (hn : slots ≤ n) : own_Fin p e below s Q k n (T.setTop (mkF m pc Ls (w :: rest))) := by
  subst eT
  obtain ⟨fs, hr, hrun, hended, hW, hsame⟩ := X.leave (v := some w) (fun h => by rw [hret] at h; cases h) hlk
  have hnw : narrow t w = w := by
    rcases ref_cases hw with rfl | ⟨z, rfl⟩ <;> cases t <;> first | rfl | (cases ht; done)
  exact ⟨_, _, retOut X hx hret hnw (Or.inr (Or.inr (Or.inr (Or.inr ⟨rfl, ht, hw⟩)))) hd hr, hrun, hended, _, _, rfl, hQ, ⟨_, rfl⟩, hW, hsame.mono hk hn⟩
theorem own_retV {Q : Option Value → Heap → List Loc → Prop} {k n : Nat} (X : Stand p l e R s m args below meth c T locs cells slots) (hx : p.tables.exec = Jvm.exec) (hlk : meth.locks = false) {pc : Nat} {Ls : Array Slot} (hret : meth.sig.returnType = none)
    (hd : decode c.code pc = .ok (.return_, 1)) {h : Heap} (eT : T.heap = h) (hQ : Q none h locs) (hk : cells ≤ k) (hn : slots ≤ n) : own_Fin p e below s Q k n (T.setTop (mkF m pc Ls [])) := by
  subst eT
  obtain ⟨fs, hr, hrun, hended, hW, hsame⟩ := X.leave (v := none) (fun _ => rfl) hlk
  exact ⟨_, _, X.returnOut hx hret hd hr, hrun, hended, _, _, rfl, hQ, ⟨_, rfl⟩, hW, hsame.mono hk hn⟩
def own_FinW (p : Program) (e : Env) (below : List Frame) (s : State) (Q : Option Value → Heap → List Loc → Prop) (k n : Nat) (A : State) : Prop := ∃ s₂ o, Steps p.tables e below A s₂ ∧ s₂.status = .running ∧ Ended s₂ below o ∧ ∃ v L, o = .returned v ∧ Q v s₂.heap L ∧ ReturnedEndW s o s₂ L k n
theorem own_goW {Q : Option Value → Heap → List Loc → Prop} {k n : Nat} {A B : State} (h : ∀ t, Steps p.tables e below B t → Steps p.tables e below A t) (q : own_FinW p e below s Q k n B) : own_FinW p e below s Q k n A := by
  obtain ⟨s₂, o, h1, h2⟩ := q
  exact ⟨s₂, o, h _ h1, h2⟩
theorem own_endW {t : State} {o : Outcome} {L : List Loc} {k n k' n' : Nat} (h : ReturnedEndW s o t L k n) (hk : k ≤ k') (hn : n ≤ n') : ReturnedEndW s o t L k' n' := ⟨h.1, h.2.1, h.2.2.1, h.2.2.2.mono hk hn⟩
theorem own_retNW {vm0 : Vm} {k0 : Nat} {Q : Option Value → Heap → List Loc → Prop} {k n : Nat} (X : Stand p l e R (s.setVm vm0) m args below meth c T locs cells slots) (hx : p.tables.exec = Jvm.exec) (hS : s.Since vm0 k0) (hlk : meth.locks = false) {pc : Nat} {Ls : Array Slot} {z w : Int32} {t : FieldType} {rest : List Value} (hret : meth.sig.returnType = some t) (ht : t = .boolean ∨ t = .byte ∨ t = .char ∨ t = .short)
    (hd : decode c.code pc = .ok (.ireturn, 1)) {h : Heap} (eT : T.heap = h) (hb : k0 ≤ h.size) (hz : nar t z = w) (hQ : Q (some (.int w)) h locs) (hk : cells ≤ k) (hn : slots ≤ n) : own_FinW p e below s Q k n (T.setTop (mkF m pc Ls (.int z :: rest))) := by
  subst hz eT
  obtain ⟨fs, hr, hrun, hended, hE⟩ := X.leaveW hS hb (v := some (.int (nar t z))) (fun h => by rw [hret] at h; cases h) hlk
  exact ⟨_, _, retN X hx hret ht hd hr, hrun, hended, _, _, rfl, hQ, own_endW hE hk hn⟩
theorem own_retOW {vm0 : Vm} {k0 : Nat} {Q : Option Value → Heap → List Loc → Prop} {k n : Nat} (X : Stand p l e R (s.setVm vm0) m args below meth c T locs cells slots) (hx : p.tables.exec = Jvm.exec) (hS : s.Since vm0 k0) (hlk : meth.locks = false) {pc : Nat} {Ls : Array Slot} {w : Value} {t : FieldType} {i : Instr} {rest : List Value} (hret : meth.sig.returnType = some t) (hnw : narrow t w = w)
    (hi : (i = .ireturn ∧ (t = .int ∨ t = .boolean ∨ t = .byte ∨ t = .char ∨ t = .short) ∧ ∃ z, w = .int z) ∨ (i = .lreturn ∧ t = .long ∧ ∃ z, w = .long z) ∨ (i = .dreturn ∧ t = .double ∧ ∃ z, w = .double z) ∨ (i = .freturn ∧ t = .float ∧ ∃ z, w = .float z) ∨ (i = .areturn ∧ t.isReference = true ∧ w.isRef = true))
    (hd : decode c.code pc = .ok (i, 1)) {h : Heap} (eT : T.heap = h) (hb : k0 ≤ h.size) (hQ : Q (some w) h locs) (hk : cells ≤ k) (hn : slots ≤ n) : own_FinW p e below s Q k n (T.setTop (mkF m pc Ls (w :: rest))) := by
  subst eT
  obtain ⟨fs, hr, hrun, hended, hE⟩ := X.leaveW hS hb (v := some w) (fun h => by rw [hret] at h; cases h) hlk
  exact ⟨_, _, retOut X hx hret hnw hi hd hr, hrun, hended, _, _, rfl, hQ, own_endW hE hk hn⟩
theorem own_retVW {vm0 : Vm} {k0 : Nat} {Q : Option Value → Heap → List Loc → Prop} {k n : Nat} (X : Stand p l e R (s.setVm vm0) m args below meth c T locs cells slots) (hx : p.tables.exec = Jvm.exec) (hS : s.Since vm0 k0) (hlk : meth.locks = false) {pc : Nat} {Ls : Array Slot} (hret : meth.sig.returnType = none)
    (hd : decode c.code pc = .ok (.return_, 1)) {h : Heap} (eT : T.heap = h) (hb : k0 ≤ h.size) (hQ : Q none h locs) (hk : cells ≤ k) (hn : slots ≤ n) : own_FinW p e below s Q k n (T.setTop (mkF m pc Ls [])) := by
  subst eT
  obtain ⟨fs, hr, hrun, hended, hE⟩ := X.leaveW hS hb (v := none) (fun _ => rfl) hlk
  exact ⟨_, _, X.returnOut hx hret hd hr, hrun, hended, _, _, rfl, hQ, own_endW hE hk hn⟩
end OwnKit
theorem own_strs : ∀ d ∈ Bundle.stringAtoms, d ∈ tables_1 := by
  intro d hd
  simp only [Bundle.stringAtoms, List.mem_cons, List.not_mem_nil, or_false] at hd
  rcases hd with rfl | rfl | rfl | rfl | rfl | rfl | rfl
  · exact List.mem_of_getElem? (i := 3) rfl
  · exact List.mem_of_getElem? (i := 2) rfl
  · exact List.mem_of_getElem? (i := 20) rfl
  · exact List.mem_of_getElem? (i := 30) rfl
  · exact List.mem_of_getElem? (i := 28) rfl
  · exact List.mem_of_getElem? (i := 33) rfl
  · exact List.mem_of_getElem? (i := 34) rfl
section OwnNums
theorem own_iushr (x : Int32) {n : UInt32} {k : Nat} (hn : n.toNat = k) (h0 : 0 < k) (hk : k < 32) : ((x.toUInt32 >>> n).toInt32).toInt = (x.toInt % 4294967296) / 2 ^ k := by
  have e2 : ((x.toUInt32 >>> n).toInt32).toBitVec.toNat = x.toBitVec.toNat / 2 ^ k := by
    simp only [UInt32.toBitVec_toInt32, UInt32.toBitVec_shiftRight, Int32.toBitVec_toUInt32]
    simp [BitVec.toNat_ushiftRight, Nat.shiftRight_eq_div_pow, hn, Nat.mod_eq_of_lt hk]
  have hb := x.toBitVec.isLt
  have hp : 2 ^ 1 ≤ 2 ^ k := Nat.pow_le_pow_right (by decide) h0
  have hle : x.toBitVec.toNat / 2 ^ k ≤ x.toBitVec.toNat / 2 ^ 1 := Nat.div_le_div_left hp (by decide)
  have e3 : ((x.toUInt32 >>> n).toInt32).toInt = ((x.toBitVec.toNat / 2 ^ k : Nat) : Int) := by
    have : ((x.toUInt32 >>> n).toInt32).toInt = ((x.toUInt32 >>> n).toInt32).toBitVec.toInt := rfl
    rw [this, BitVec.toInt_eq_toNat_cond, e2, if_pos (by omega)]
  have e4 : x.toInt % 4294967296 = (x.toBitVec.toNat : Int) := by
    have : x.toInt = x.toBitVec.toInt := rfl
    rw [this, BitVec.toInt_eq_toNat_cond]
    split <;> omega
  rw [e3, e4, Int.natCast_ediv, Int.natCast_pow]
  rfl
theorem own_lushr (x : Int64) {n : UInt64} {k : Nat} (hn : n.toNat = k) (h0 : 0 < k) (hk : k < 64) : ((x.toUInt64 >>> n).toInt64).toInt = (x.toInt % 18446744073709551616) / 2 ^ k := by
  have e2 : ((x.toUInt64 >>> n).toInt64).toBitVec.toNat = x.toBitVec.toNat / 2 ^ k := by
    simp only [UInt64.toBitVec_toInt64, UInt64.toBitVec_shiftRight, Int64.toBitVec_toUInt64]
    simp [BitVec.toNat_ushiftRight, Nat.shiftRight_eq_div_pow, hn, Nat.mod_eq_of_lt hk]
  have hb := x.toBitVec.isLt
  have hp : 2 ^ 1 ≤ 2 ^ k := Nat.pow_le_pow_right (by decide) h0
  have hle : x.toBitVec.toNat / 2 ^ k ≤ x.toBitVec.toNat / 2 ^ 1 := Nat.div_le_div_left hp (by decide)
  have e3 : ((x.toUInt64 >>> n).toInt64).toInt = ((x.toBitVec.toNat / 2 ^ k : Nat) : Int) := by
    have : ((x.toUInt64 >>> n).toInt64).toInt = ((x.toUInt64 >>> n).toInt64).toBitVec.toInt := rfl
    rw [this, BitVec.toInt_eq_toNat_cond, e2, if_pos (by omega)]
  have e4 : x.toInt % 18446744073709551616 = (x.toBitVec.toNat : Int) := by
    have : x.toInt = x.toBitVec.toInt := rfl
    rw [this, BitVec.toInt_eq_toNat_cond]
    split <;> omega
  rw [e3, e4, Int.natCast_ediv, Int.natCast_pow]
  rfl
theorem own_l2i (x : Int64) : (x.toInt32.toInt - x.toInt) % 4294967296 = 0 := by rw [Int64.toInt_toInt32]; exact bm32 _
theorem own_div32 {x y : Int32} (hx : 0 ≤ x.toInt) (hy : 0 < y.toInt) : (x / y).toInt = x.toInt / y.toInt := by
  rw [Jvm.Kit.i32_div (by omega), Int.tdiv_eq_ediv_of_nonneg hx]
theorem own_div64 {x y : Int64} (hx : 0 ≤ x.toInt) (hy : 0 < y.toInt) : (x / y).toInt = x.toInt / y.toInt := by
  rw [Jvm.Kit.i64_div (by omega), Int.tdiv_eq_ediv_of_nonneg hx]
theorem own_i2c (x : Int32) : (x.toUInt32.toUInt16.toUInt32.toInt32).toInt = x.toInt % 65536 := by
  have e2 : (x.toUInt32.toUInt16.toUInt32.toInt32).toBitVec.toNat = x.toBitVec.toNat % 65536 := by
    show (x.toUInt32.toUInt16.toUInt32).toNat = _
    simp
    rfl
  have hb := x.toBitVec.isLt
  have e3 : (x.toUInt32.toUInt16.toUInt32.toInt32).toInt = (x.toUInt32.toUInt16.toUInt32.toInt32).toBitVec.toInt := rfl
  have e4 : x.toInt = x.toBitVec.toInt := rfl
  rw [e3, e4, BitVec.toInt_eq_toNat_cond, BitVec.toInt_eq_toNat_cond, e2]
  split <;> split <;> omega
theorem own_i2b (x : Int32) : ((x.toInt8.toInt32).toInt - x.toInt) % 256 = 0 ∧ -128 ≤ (x.toInt8.toInt32).toInt ∧ (x.toInt8.toInt32).toInt < 128 := by
  have h1 : (x.toInt8.toInt32).toInt = x.toInt8.toInt := Int8.toInt_toInt32 _
  have h2 := x.toInt8.toInt_lt; have h3 := x.toInt8.le_toInt
  have h4 : x.toInt8.toInt = x.toInt.bmod 256 := Int32.toInt_toInt8 x
  have h5 := Int.bmod_emod (x := x.toInt) (m := 256)
  rw [h1]; omega
end OwnNums
theorem own_pd0 : parseMethodDescriptor "(I)I" = some ⟨[.int], some .int⟩ := by decide +kernel
theorem own_pd1 : parseMethodDescriptor "(I)[B" = some ⟨[.int], some (.array .byte)⟩ := by decide +kernel
theorem own_pd2 : parseMethodDescriptor "([BII)V" = some ⟨[(.array .byte), .int, .int], none⟩ := by decide +kernel
theorem own_pd3 : parseMethodDescriptor "([CI[BII)I" = some ⟨[(.array .char), .int, (.array .byte), .int, .int], some .int⟩ := by decide +kernel
theorem own_pd4 : parseMethodDescriptor "([CII)[B" = some ⟨[(.array .char), .int, .int], some (.array .byte)⟩ := by decide +kernel
theorem own_pd5 : parseMethodDescriptor "([BI)B" = some ⟨[(.array .byte), .int], some .byte⟩ := by decide +kernel
theorem own_pd6 : parseMethodDescriptor "([CIILjava/lang/Void;)V" = some ⟨[(.array .char), .int, .int, (.object "java/lang/Void")], none⟩ := by decide +kernel
theorem own_pd7 : parseMethodDescriptor "([BI)C" = some ⟨[(.array .byte), .int], some .char⟩ := by decide +kernel
theorem own_pd8 : parseMethodDescriptor "()B" = some ⟨[], some .byte⟩ := by decide +kernel
theorem own_pd9 : parseMethodDescriptor "(C)Z" = some ⟨[.char], some .boolean⟩ := by decide +kernel
theorem own_pd10 : parseMethodDescriptor "(C)[B" = some ⟨[.char], some (.array .byte)⟩ := by decide +kernel
theorem own_pd11 : parseMethodDescriptor "([BB)V" = some ⟨[(.array .byte), .byte], none⟩ := by decide +kernel
theorem own_pd12 : parseMethodDescriptor "()Z" = some ⟨[], some .boolean⟩ := by decide +kernel
theorem own_pd13 : parseMethodDescriptor "([C)V" = some ⟨[(.array .char)], none⟩ := by decide +kernel
theorem own_pd14 : parseMethodDescriptor "(Ljava/lang/String;Ljava/lang/String;)Ljava/lang/String;" = some ⟨[(.object "java/lang/String"), (.object "java/lang/String")], some (.object "java/lang/String")⟩ := by decide +kernel
theorem own_pd15 : parseMethodDescriptor "()I" = some ⟨[], some .int⟩ := by decide +kernel
theorem own_pd16 : parseMethodDescriptor "(C)Ljava/lang/String;" = some ⟨[.char], some (.object "java/lang/String")⟩ := by decide +kernel
theorem own_i32_255 : (255 : Int32).toInt = 255 := by decide
theorem own_i32_0 : (0 : Int32).toInt = 0 := by decide
theorem own_i32_8 : (8 : Int32).toInt = 8 := by decide
theorem own_i32_1 : (1 : Int32).toInt = 1 := by decide
theorem own_i32_2 : (2 : Int32).toInt = 2 := by decide
theorem own_i32_4 : (4 : Int32).toInt = 4 := by decide
theorem own_i32_3 : (3 : Int32).toInt = 3 := by decide
theorem own_i32_6 : (6 : Int32).toInt = 6 := by decide
theorem own_i32_65535 : (65535 : Int32).toInt = 65535 := by decide
theorem own_i32_2147483647 : (2147483647 : Int32).toInt = 2147483647 := by decide
theorem own_cs {args : Array Value} {s : State} (h0 : (Cond.initializedFor "java/lang/String" "COMPACT_STRINGS" "Z").before args s = true) (h1 : (Cond.isInt (Term.static "java/lang/String" "COMPACT_STRINGS" "Z")).before args s = true)
    (h2 : (Cond.not (Cond.eq (Term.static "java/lang/String" "COMPACT_STRINGS" "Z") (Term.int 0))).before args s = true) : ∃ cs : Int32, Sta s s.heap "java/lang/String" "COMPACT_STRINGS" "Z" (.int cs) ∧ ¬ (cs = (0 : Int32)) := by
  obtain ⟨cs, e1⟩ := is_v (Cond.before_iff.mp h1)
  refine ⟨cs, Sta.start e1 (Or.inl h0), fun q => ?_⟩
  have h3 := Cond.before_iff.mp h2
  subst q
  have ei : (Term.int 0).eval args s none [] s = some (.int 0) := by simp [Term.eval]
  simp [Cond.value, e1, ei] at h3
theorem own_stai {args : Array Value} {s : State} {C f d : String} {n : Int32} (h0 : (Cond.initializedFor C f d).before args s = true) (h1 : (Cond.eq (Term.static C f d) (Term.int n)).before args s = true) : Sta s s.heap C f d (.int n) :=
  Sta.start (Cond.eq_int (show (Cond.eq (Term.static C f d) (Term.int n)).holds args s none s [] = true from h1) (rfl : (Term.int n).eval args s none [] s = some (.int n))) (Or.inl h0)
theorem own_or32 {x y : Int32} {a b : Nat} (hx : x.toInt = a) (hy : y.toInt = 256 * b) (ha : a < 256) (hb : b < 256) : (x ||| y).toInt = 256 * b + a := by
  have nx : x.toBitVec.toNat = a := by
    have e : x.toInt = x.toBitVec.toInt := rfl
    have := x.toBitVec.isLt
    rw [e, BitVec.toInt_eq_toNat_cond] at hx
    split at hx <;> omega
  have ny : y.toBitVec.toNat = 256 * b := by
    have e : y.toInt = y.toBitVec.toInt := rfl
    have := y.toBitVec.isLt
    rw [e, BitVec.toInt_eq_toNat_cond] at hy
    split at hy <;> omega
  have e : (x ||| y).toInt = (x.toBitVec ||| y.toBitVec).toInt := rfl
  have n : (x.toBitVec ||| y.toBitVec).toNat = 256 * b + a := by
    rw [BitVec.toNat_or, nx, ny, Nat.or_comm]
    exact (Nat.two_pow_add_eq_or_of_lt (i := 8) (by omega) b).symm
  rw [e, BitVec.toInt_eq_toNat_cond, n, if_pos (by omega)]
  omega
theorem own_getc (c : Int32) (h0 : 0 ≤ c.toInt) (h1 : c.toInt ≤ 65535) : (((((((c >>> ((0 : Int32) &&& 31)).toInt8.toInt32) &&& (255 : Int32)) <<< ((0 : Int32) &&& 31)) ||| ((((c >>> ((8 : Int32) &&& 31)).toInt8.toInt32) &&& (255 : Int32)) <<< ((8 : Int32) &&& 31))).toUInt32.toUInt16.toUInt32.toInt32)).toInt = c.toInt := by
  have a1 := Jvm.Kit.i32_shr c ((0 : Int32) &&& 31) (k := 0) (by decide)
  have a2 := own_i2b (c >>> ((0 : Int32) &&& 31))
  have a3 := Jvm.Kit.i32_mask ((c >>> ((0 : Int32) &&& 31)).toInt8.toInt32) (255 : Int32) (k := 8) (by decide) (by decide)
  have b1 := Jvm.Kit.i32_shr c ((8 : Int32) &&& 31) (k := 8) (by decide)
  have b2 := own_i2b (c >>> ((8 : Int32) &&& 31))
  have b3 := Jvm.Kit.i32_mask ((c >>> ((8 : Int32) &&& 31)).toInt8.toInt32) (255 : Int32) (k := 8) (by decide) (by decide)
  have a4 := Jvm.Kit.i32_shl (((c >>> ((0 : Int32) &&& 31)).toInt8.toInt32) &&& (255 : Int32)) ((0 : Int32) &&& 31) (k := 0) (by decide) (by omega) (by omega)
  have b4 := Jvm.Kit.i32_shl (((c >>> ((8 : Int32) &&& 31)).toInt8.toInt32) &&& (255 : Int32)) ((8 : Int32) &&& 31) (k := 8) (by decide) (by omega) (by omega)
  have o := own_or32 (x := (((c >>> ((0 : Int32) &&& 31)).toInt8.toInt32) &&& (255 : Int32)) <<< ((0 : Int32) &&& 31)) (y := (((c >>> ((8 : Int32) &&& 31)).toInt8.toInt32) &&& (255 : Int32)) <<< ((8 : Int32) &&& 31)) (a := (c.toInt % 256).toNat) (b := (c.toInt / 256).toNat) (by omega) (by omega) (by omega) (by omega)
  rw [own_i2c, o]; omega
def own_Sz (Z : State) (h : Heap) (t : Addr) (cd : Int32) (n : Nat) : Prop := ∃ cl : Cell, Arr Z h t cl .byte ∧ ((cd = 0 ∧ cl.slots.size = n) ∨ (cd = 1 ∧ cl.slots.size = 2 * n))
theorem own_Sz.lt {Z : State} {h : Heap} {t : Addr} {cd : Int32} {n : Nat} (F : own_Sz Z h t cd n) : t < h.size := by obtain ⟨c, A, -⟩ := F; exact A.lt
theorem own_Sz.ext {Z : State} {h h' : Heap} {t : Addr} {cd : Int32} {n : Nat} (F : own_Sz Z h t cd n) (E : Ext h h') : own_Sz Z h' t cd n := by obtain ⟨c, A, r⟩ := F; exact ⟨c, A.ext E, r⟩
theorem own_Sz.other {Z : State} {h h' : Heap} {t a : Addr} {cd : Int32} {n sl : Nat} {v : Value} (F : own_Sz Z h t cd n) (W : Wr h h' a sl v) (q : t ≠ a) : own_Sz Z h' t cd n := by obtain ⟨c, A, r⟩ := F; exact ⟨c, A.other W q, r⟩
theorem own_Sz.keep {Z : State} {h h' : Heap} {t : Addr} {cd : Int32} {n : Nat} {ws : List Addr} (F : own_Sz Z h t cd n) (K : Keep h h' ws) (q : t ∉ ws) : own_Sz Z h' t cd n := by obtain ⟨c, A, r⟩ := F; exact ⟨c, ⟨K.2.1 _ _ A.1 q, A.2⟩, r⟩
theorem own_Sz0 {Z : State} {h : Heap} {t : Addr} {k : ClassId} {z : Int32} {vs : List Value} {d : Value} {n : Nat} (F : Arv Z h t k .byte z vs d) (e : z.toNatClampNeg = n) : own_Sz Z h t (0 : Int32) n := by obtain ⟨c, A, -, s1, -⟩ := F; exact ⟨c, A, Or.inl ⟨rfl, s1.trans e⟩⟩
theorem own_Sz1 {Z : State} {h : Heap} {t : Addr} {k : ClassId} {z : Int32} {vs : List Value} {d : Value} {n : Nat} (F : Arv Z h t k .byte z vs d) (e : z.toNatClampNeg = 2 * n) : own_Sz Z h t (1 : Int32) n := by obtain ⟨c, A, -, s1, -⟩ := F; exact ⟨c, A, Or.inr ⟨rfl, s1.trans e⟩⟩
theorem own_narcd {cd : Int32} (h : cd = (0 : Int32) ∨ cd = (1 : Int32)) : nar .byte cd = cd := by rcases h with rfl | rfl <;> rfl
theorem own_narcid {c : Int32} (h0 : 0 ≤ c.toInt) (h1 : c.toInt ≤ 65535) : nar .char c = c := by
  have q := own_i2c c
  refine Int32.toInt_inj.mp (show (c.toUInt32.toUInt16.toUInt32.toInt32).toInt = c.toInt from ?_)
  rw [q]; omega
theorem own_fitsc {c : Int32} (h0 : 0 ≤ c.toInt) (h1 : c.toInt ≤ 65535) : fits .char (.int c) = true := by
  have q := fits_nar_char c
  rwa [own_narcid h0 h1] at q
abbrev R_own_nbl1 : Room := { frames := 0, cells := 0, slots := 0, locals := 0 }
theorem d17_0 : decode jdk_52_method_3_code 0 = .ok (.iload_n 0, 1) := by decide +kernel
theorem d17_1 : decode jdk_52_method_3_code 1 = .ok (.ifCond .ge 11, 3) := by decide +kernel
theorem d17_12 : decode jdk_52_method_3_code 12 = .ok (.iload_n 0, 1) := by decide +kernel
theorem d17_13 : decode jdk_52_method_3_code 13 = .ok (.ldc 20, 2) := by decide +kernel
theorem d17_15 : decode jdk_52_method_3_code 15 = .ok (.if_icmp .lt 40, 3) := by decide +kernel
theorem d17_55 : decode jdk_52_method_3_code 55 = .ok (.iload_n 0, 1) := by decide +kernel
theorem d17_56 : decode jdk_52_method_3_code 56 = .ok (.iconst 1, 1) := by decide +kernel
theorem d17_57 : decode jdk_52_method_3_code 57 = .ok (.ishl, 1) := by decide +kernel
theorem d17_58 : decode jdk_52_method_3_code 58 = .ok (.ireturn, 1) := by decide +kernel
theorem own_pn0 : plainName "java/lang/StringUTF16" = true := by first | (simp [plainName, overriddenIn]; done) | decide +kernel
theorem ef_own_nbl1 (m : MethodId)  : entryFrame m #[(.int (1 : Int32))] 1 = mkF m 0 #[.val (.int (1 : Int32))] [] := by first | (simp [entryFrame, mkF, argsToLocals, Value.category]; done) | rfl
def Q_own_nbl1 (Z : State)  (h0 : Heap) (n0 : Nat) (v : Option Value) (h : Heap) (L : List Loc) : Prop := v = some (.int (2 : Int32)) ∧ Fr n0 L ∧ h = h0
set_option maxRecDepth 65536 in
set_option maxHeartbeats 400000000 in
theorem own_nbl1 (l : Launch) (Z : State) (a0 : Array Value) (hw : ∀ d ∈ tables_1, d.before a0 Z = true) (ws : List Jvm.Cond)  (h0 : Heap) (n0 : Nat) (Z0 : n0 ≤ h0.size)  :
    MetFree l (⟨"java/lang/StringUTF16", "newBytesLength", "(I)I"⟩ : MethodName) (head1 (Jvm.Cond.code (⟨"java/lang/StringUTF16", "newBytesLength", "(I)I"⟩ : MethodName) jdk_52_method_3_code 1 (some .int) :: ws) R_own_nbl1) (fun a U => a = #[(.int (1 : Int32))] ∧ Z.Warmed39 U.vm ∧ U.heap = h0) (fun _ _ _ _ _ => True) (fun _ U o U' => ∃ v L, o = .returned v ∧ Q_own_nbl1 Z  h0 n0 v U'.heap L ∧ FrameEnd U o U' L R_own_nbl1.cells R_own_nbl1.slots) := by
  refine MetFree.of_bodySF (plainFor_of_name own_pn0) hisR ?_
  intro p e s m args below meth c s₁ Bd hml0 hP hK
  obtain ⟨rfl, hZ, hh⟩ := hP
  have hx := Bd.exec
  have hby := Bd.bytes
  have hml : c.maxLocals = 1 := hml0
  have hown : s.vm.findClass "java/lang/StringUTF16" = some m.cls := findClass_of_methodNamed Bd.named
  have hnm := (name_of_methodNamed Bd.named Bd.method).1
  have X0 : Stand p l e R_own_nbl1 s m #[(.int (1 : Int32))] below meth c s₁ [] 0 0 := Stand.of_body Bd
  have e0 : s₁.heap = h0 := by rw [← hh, Bd.state]; rfl
  have N0 := Fr.nil n0
  have K0 : Keep h0 h0 [] := Keep.refl h0 []
  show own_Fin p e below s (Q_own_nbl1 Z  h0 n0) R_own_nbl1.cells R_own_nbl1.slots (s₁.setTop (entryFrame m #[(.int (1 : Int32))] 1))
  refine own_go (fun _ k => castTop (ef_own_nbl1 m ) k) ?_
  show own_Fin _ _ _ _ _ _ _ (s₁.setTop (mkF m 0 #[.val (.int (1 : Int32))] []))
  refine own_go (B := s₁.setTop (mkF m 1 #[.val (.int (1 : Int32))] [(.int (1 : Int32))])) (fun _ k => XS.iloadN X0.here hx rfl (hb hby d17_0) rfl  k) ?_
  have hc1 : ¬ ((1 : Int32) < (0 : Int32)) := by decide
  refine own_go (B := s₁.setTop (mkF m 15 #[.val (.int (1 : Int32))] [(.int (1073741823 : Int32)), (.int (1 : Int32))])) (fun _ k => XS.ifYes X0.here hx rfl (pc0 := 1) (pc' := 12) rfl (hb hby d17_1) rfl ((if0 _ _).trans (flt hc1).2.1) (by decide) (by decide) (XS.iloadN X0.here hx rfl (hb hby d17_12) rfl  (X0.ldcInt hx hown (mvT hZ (own_w hw 77 rfl)) (g := (mkF m 13 #[.val (.int (1 : Int32))] [(.int (1 : Int32))])) rfl (hb hby d17_13) _ k))) ?_
  have hc2 : (1 : Int32) < (1073741823 : Int32) := by decide
  refine own_go (B := s₁.setTop (mkF m 58 #[.val (.int (1 : Int32))] [(.int ((1 : Int32) <<< ((1 : Int32) &&& 31)))])) (fun _ k => XS.icmpYes X0.here hx rfl (pc0 := 15) (pc' := 55) rfl (hb hby d17_15) rfl (tlt hc2).1 (by decide) (by decide) (XS.iloadN X0.here hx rfl (hb hby d17_55) rfl  (XS.iconst X0.here hx rfl (hb hby d17_56) (XS.ishl X0.here hx rfl (hb hby d17_57) rfl k)))) ?_
  rw [show ((1 : Int32) <<< ((1 : Int32) &&& 31)) = (2 : Int32) from by decide]
  show own_Fin _ _ _ _ _ _ _ (s₁.setTop (mkF m 58 #[.val (.int (1 : Int32))] [(.int (2 : Int32))]))
  exact own_retI X0 hx Bd.notSynchronized Bd.returns (hb hby d17_58) e0 ⟨rfl, N0, rfl⟩ (by decide) (by decide)
abbrev R_own_nbf1 : Room := { frames := 1, cells := 1, slots := 2, locals := 12 }
theorem d16_0 : decode jdk_52_method_2_code 0 = .ok (.iload_n 0, 1) := by decide +kernel
theorem d16_1 : decode jdk_52_method_2_code 1 = .ok (.invokestatic 11, 3) := by decide +kernel
theorem d16_4 : decode jdk_52_method_2_code 4 = .ok (.newarray .byte, 2) := by decide +kernel
theorem d16_6 : decode jdk_52_method_2_code 6 = .ok (.areturn, 1) := by decide +kernel
theorem ef_own_nbf1 (m : MethodId)  : entryFrame m #[(.int (1 : Int32))] 1 = mkF m 0 #[.val (.int (1 : Int32))] [] := by first | (simp [entryFrame, mkF, argsToLocals, Value.category]; done) | rfl
def Q_own_nbf1 (Z : State)  (h0 : Heap) (n0 : Nat) (v : Option Value) (h : Heap) (L : List Loc) : Prop := ∃ b : Addr, ∃ kb : ClassId, v = some (.ref b) ∧ Fr n0 L ∧ Keep h0 h [] ∧ Arv Z h b kb .byte (2 : Int32) [(.int (0 : Int32)), (.int (0 : Int32))] (.int (0 : Int32)) ∧ (h0.size ≤ b)
set_option maxRecDepth 65536 in
set_option maxHeartbeats 400000000 in
theorem own_nbf1 (l : Launch) (Z : State) (a0 : Array Value) (hw : ∀ d ∈ tables_1, d.before a0 Z = true) (ws : List Jvm.Cond)  (h0 : Heap) (n0 : Nat) (Z0 : n0 ≤ h0.size)  :
    MetFree l (⟨"java/lang/StringUTF16", "newBytesFor", "(I)[B"⟩ : MethodName) (head1 (Jvm.Cond.code (⟨"java/lang/StringUTF16", "newBytesFor", "(I)[B"⟩ : MethodName) jdk_52_method_2_code 1 (some (.array .byte)) :: ws) R_own_nbf1) (fun a U => a = #[(.int (1 : Int32))] ∧ Z.Warmed39 U.vm ∧ U.heap = h0) (fun _ _ _ _ _ => True) (fun _ U o U' => ∃ v L, o = .returned v ∧ Q_own_nbf1 Z  h0 n0 v U'.heap L ∧ FrameEnd U o U' L R_own_nbf1.cells R_own_nbf1.slots) := by
  refine MetFree.of_bodySF (plainFor_of_name own_pn0) hisR ?_
  intro p e s m args below meth c s₁ Bd hml0 hP hK
  obtain ⟨rfl, hZ, hh⟩ := hP
  have hx := Bd.exec
  have hby := Bd.bytes
  have hml : c.maxLocals = 1 := hml0
  have hown : s.vm.findClass "java/lang/StringUTF16" = some m.cls := findClass_of_methodNamed Bd.named
  have hnm := (name_of_methodNamed Bd.named Bd.method).1
  have X0 : Stand p l e R_own_nbf1 s m #[(.int (1 : Int32))] below meth c s₁ [] 0 0 := Stand.of_body Bd
  have e0 : s₁.heap = h0 := by rw [← hh, Bd.state]; rfl
  have N0 := Fr.nil n0
  have K0 : Keep h0 h0 [] := Keep.refl h0 []
  show own_Fin p e below s (Q_own_nbf1 Z  h0 n0) R_own_nbf1.cells R_own_nbf1.slots (s₁.setTop (entryFrame m #[(.int (1 : Int32))] 1))
  refine own_go (fun _ k => castTop (ef_own_nbf1 m ) k) ?_
  show own_Fin _ _ _ _ _ _ _ (s₁.setTop (mkF m 0 #[.val (.int (1 : Int32))] []))
  refine own_go (B := s₁.setTop (mkF m 1 #[.val (.int (1 : Int32))] [(.int (1 : Int32))])) (fun _ k => XS.iloadN X0.here hx rfl (hb hby d16_0) rfl  k) ?_
  obtain ⟨_, _, ⟨T1, L1, k1, n1⟩, -, X1, ⟨Lc1, hQ1, l1, y1, z1⟩, st1⟩ := Jvm.LawKit.callS X0 hx (y := (⟨"java/lang/StringUTF16", "newBytesLength", "(I)I"⟩ : MethodName)) hown (mvT hZ (own_w hw 74 rfl)) (mvT hZ (own_w hw 75 rfl)) (mvT hZ (own_w hw 18 rfl)) (mvT hZ (own_w hw 76 rfl)) (by decide) (backOf (W := 0) (own_nbl1 l Z a0 hw []  h0 n0 (Nat.le_trans Z0 K0.1) ) hZ (own_w hw 76 rfl) (own_w hw 18 rfl) (by decide) (by decide)) (g := (mkF m 1 #[.val (.int (1 : Int32))] [(.int (1 : Int32))])) rfl (by rw [hml]; rfl) (argsL := [(.int (1 : Int32))]) (rest := []) (lenOf own_pd0 rfl) rfl (by show 2 * 0 + _ ≤ _; exact Nat.le_of_eq rfl) (hb hby d16_1) (fun _ _ => ⟨rfl, e0, (by decide : 0 + 0 ≤ _), (by decide : 0 + 0 ≤ _)⟩)
  dsimp only [Pt.U, Pt.locs, Pt.cells, Pt.slots] at X1 l1 y1 z1 st1 hQ1
  subst l1 y1 z1
  obtain ⟨rfl, N1q, e1⟩ := hQ1
  have N1 := Fr.app N0 N1q
  refine own_go (B := T1.setTop (mkF m 4 #[.val (.int (1 : Int32))] [(.int (2 : Int32))])) st1 ?_
  obtain ⟨T2, h2, kc2, X2, e2, E2, A2, st2⟩ := newP X1 hx hZ (own_w hw 20 rfl) e1 (g := (mkF m 4 #[.val (.int (1 : Int32))] [(.int (2 : Int32))])) rfl (hb hby d16_4) rfl (by decide) (cap := 2) (by decide) (by decide) (by decide) (by decide)
  obtain ⟨b2, g2⟩ : ∃ z, z = h0.size := ⟨_, rfl⟩
  rw [← g2] at A2 st2
  have sz_b2 : h0.size ≤ b2 := Nat.le_trans K0.1 (Nat.le_of_eq g2.symm)
  have g_b2 : n0 ≤ b2 := Nat.le_trans Z0 sz_b2
  have V_b2 : Arv Z h2 b2 kc2 .byte (2 : Int32) [(.int (0 : Int32)), (.int (0 : Int32))] (.int (0 : Int32)) := (Arv.new A2 (by decide)).pad (pad_rep [] (.int (0 : Int32)) 2)
  have K4 : Keep h0 h2 [] := K0.ext E2
  refine own_go (B := T2.setTop (mkF m 6 #[.val (.int (1 : Int32))] [(.ref b2)])) st2 ?_
  exact own_retA X2 hx Bd.notSynchronized Bd.returns rfl rfl (hb hby d16_6) e2 ⟨b2, kc2, rfl, N1, K4, V_b2, sz_b2⟩ (by decide) (by decide)
abbrev R_own_put1_0 : Room := { frames := 0, cells := 0, slots := 0, locals := 0 }
theorem d18_0 : decode jdk_52_method_4_code 0 = .ok (.getstatic 44, 3) := by decide +kernel
theorem d18_3 : decode jdk_52_method_4_code 3 = .ok (.ifCond .ne 25, 3) := by decide +kernel
theorem d18_28 : decode jdk_52_method_4_code 28 = .ok (.iload_n 1, 1) := by decide +kernel
theorem d18_29 : decode jdk_52_method_4_code 29 = .ok (.iconst 1, 1) := by decide +kernel
theorem d18_30 : decode jdk_52_method_4_code 30 = .ok (.ishl, 1) := by decide +kernel
theorem d18_31 : decode jdk_52_method_4_code 31 = .ok (.istore_n 1, 1) := by decide +kernel
theorem d18_32 : decode jdk_52_method_4_code 32 = .ok (.aload_n 0, 1) := by decide +kernel
theorem d18_33 : decode jdk_52_method_4_code 33 = .ok (.iload_n 1, 1) := by decide +kernel
theorem d18_34 : decode jdk_52_method_4_code 34 = .ok (.iinc 1 1, 3) := by decide +kernel
theorem d18_37 : decode jdk_52_method_4_code 37 = .ok (.iload_n 2, 1) := by decide +kernel
theorem d18_38 : decode jdk_52_method_4_code 38 = .ok (.getstatic 59, 3) := by decide +kernel
theorem d18_41 : decode jdk_52_method_4_code 41 = .ok (.ishr, 1) := by decide +kernel
theorem d18_42 : decode jdk_52_method_4_code 42 = .ok (.i2b, 1) := by decide +kernel
theorem d18_43 : decode jdk_52_method_4_code 43 = .ok (.bastore, 1) := by decide +kernel
theorem d18_44 : decode jdk_52_method_4_code 44 = .ok (.aload_n 0, 1) := by decide +kernel
theorem d18_45 : decode jdk_52_method_4_code 45 = .ok (.iload_n 1, 1) := by decide +kernel
theorem d18_46 : decode jdk_52_method_4_code 46 = .ok (.iload_n 2, 1) := by decide +kernel
theorem d18_47 : decode jdk_52_method_4_code 47 = .ok (.getstatic 63, 3) := by decide +kernel
theorem d18_50 : decode jdk_52_method_4_code 50 = .ok (.ishr, 1) := by decide +kernel
theorem d18_51 : decode jdk_52_method_4_code 51 = .ok (.i2b, 1) := by decide +kernel
theorem d18_52 : decode jdk_52_method_4_code 52 = .ok (.bastore, 1) := by decide +kernel
theorem d18_53 : decode jdk_52_method_4_code 53 = .ok (.return_, 1) := by decide +kernel
theorem ef_own_put1_0 (m : MethodId) (x0 : Addr) (x2 : Int32) : entryFrame m #[(.ref x0), (.int (0 : Int32)), (.int x2)] 3 = mkF m 0 #[.val (.ref x0), .val (.int (0 : Int32)), .val (.int x2)] [] := by first | (simp [entryFrame, mkF, argsToLocals, Value.category]; done) | rfl
def Q_own_put1_0 (Z : State) (a1 : Addr) (k1 : ClassId) (p3 : Int32) (u0 : Int32) (u1 : Int32) (h0 : Heap) (n0 : Nat) (v : Option Value) (h : Heap) (L : List Loc) : Prop := v = none ∧ Fr n0 L ∧ Keep h0 h [a1] ∧ Arv Z h a1 k1 .byte (2 : Int32) [(.int ((p3 >>> ((0 : Int32) &&& 31)).toInt8.toInt32)), (.int ((p3 >>> ((8 : Int32) &&& 31)).toInt8.toInt32))] (.int (0 : Int32))
set_option maxRecDepth 65536 in
set_option maxHeartbeats 400000000 in
theorem own_put1_0 (l : Launch) (Z : State) (a0 : Array Value) (hw : ∀ d ∈ tables_1, d.before a0 Z = true) (ws : List Jvm.Cond) (a1 : Addr) (k1 : ClassId) (p3 : Int32) (u0 : Int32) (u1 : Int32) (h0 : Heap) (n0 : Nat) (Z0 : n0 ≤ h0.size) (P_V_a1 : Arv Z h0 a1 k1 .byte (2 : Int32) [(.int u0), (.int u1)] (.int (0 : Int32))) (g_a1 : n0 ≤ a1) (P_S_java_lang_StringUTF16__assertionsDisabled : Sta Z h0 "java/lang/StringUTF16" "$assertionsDisabled" "Z" (.int (1 : Int32))) (P_S_java_lang_StringUTF16_HI_BYTE_SHIFT : Sta Z h0 "java/lang/StringUTF16" "HI_BYTE_SHIFT" "I" (.int (0 : Int32))) (P_S_java_lang_StringUTF16_LO_BYTE_SHIFT : Sta Z h0 "java/lang/StringUTF16" "LO_BYTE_SHIFT" "I" (.int (8 : Int32))) :
    MetFree l (⟨"java/lang/StringUTF16", "putChar", "([BII)V"⟩ : MethodName) (head1 (Jvm.Cond.code (⟨"java/lang/StringUTF16", "putChar", "([BII)V"⟩ : MethodName) jdk_52_method_4_code 3 none :: ws) R_own_put1_0) (fun a U => a = #[(.ref a1), (.int (0 : Int32)), (.int p3)] ∧ Z.Warmed39 U.vm ∧ U.heap = h0) (fun _ _ _ _ _ => True) (fun _ U o U' => ∃ v L, o = .returned v ∧ Q_own_put1_0 Z a1 k1 p3 u0 u1 h0 n0 v U'.heap L ∧ FrameEnd U o U' L R_own_put1_0.cells R_own_put1_0.slots) := by
  refine MetFree.of_bodySF (plainFor_of_name own_pn0) hisR ?_
  intro p e s m args below meth c s₁ Bd hml0 hP hK
  obtain ⟨rfl, hZ, hh⟩ := hP
  have hx := Bd.exec
  have hby := Bd.bytes
  have hml : c.maxLocals = 3 := hml0
  have hown : s.vm.findClass "java/lang/StringUTF16" = some m.cls := findClass_of_methodNamed Bd.named
  have hnm := (name_of_methodNamed Bd.named Bd.method).1
  have X0 : Stand p l e R_own_put1_0 s m #[(.ref a1), (.int (0 : Int32)), (.int p3)] below meth c s₁ [] 0 0 := Stand.of_body Bd
  have e0 : s₁.heap = h0 := by rw [← hh, Bd.state]; rfl
  have N0 := Fr.nil n0
  have K0 : Keep h0 h0 [a1] := Keep.refl h0 [a1]
  show own_Fin p e below s (Q_own_put1_0 Z a1 k1 p3 u0 u1 h0 n0) R_own_put1_0.cells R_own_put1_0.slots (s₁.setTop (entryFrame m #[(.ref a1), (.int (0 : Int32)), (.int p3)] 3))
  refine own_go (fun _ k => castTop (ef_own_put1_0 m a1 p3) k) ?_
  show own_Fin _ _ _ _ _ _ _ (s₁.setTop (mkF m 0 #[.val (.ref a1), .val (.int (0 : Int32)), .val (.int p3)] []))
  obtain ⟨T1, X1, e1, st1⟩ := getS2 X0 hx hZ hown (host := "") (Or.inl (own_w hw 81 rfl)) Via.refl e0 P_S_java_lang_StringUTF16__assertionsDisabled (g := (mkF m 0 #[.val (.ref a1), .val (.int (0 : Int32)), .val (.int p3)] [])) rfl (hb hby d18_0)
  refine own_go (B := T1.setTop (mkF m 3 #[.val (.ref a1), .val (.int (0 : Int32)), .val (.int p3)] [(.int (1 : Int32))])) st1 ?_
  have hc2 : ¬ ((1 : Int32) = (0 : Int32)) := by decide
  refine own_go (B := T1.setTop (mkF m 31 #[.val (.ref a1), .val (.int (0 : Int32)), .val (.int p3)] [(.int ((0 : Int32) <<< ((1 : Int32) &&& 31)))])) (fun _ k => XS.ifYes X1.here hx rfl (pc0 := 3) (pc' := 28) rfl (hb hby d18_3) rfl ((if0 _ _).trans (feq hc2).2) (by decide) (by decide) (XS.iloadN X1.here hx rfl (hb hby d18_28) rfl  (XS.iconst X1.here hx rfl (hb hby d18_29) (XS.ishl X1.here hx rfl (hb hby d18_30) rfl k)))) ?_
  rw [show ((0 : Int32) <<< ((1 : Int32) &&& 31)) = (0 : Int32) from by decide]
  show own_Fin _ _ _ _ _ _ _ (T1.setTop (mkF m 31 #[.val (.ref a1), .val (.int (0 : Int32)), .val (.int p3)] [(.int (0 : Int32))]))
  refine own_go (B := T1.setTop (mkF m 37 #[.val (.ref a1), .val (.int ((0 : Int32) + (1 : Int32))), .val (.int p3)] [(.int (0 : Int32)), (.ref a1)])) (fun _ k => XS.istoreN X1.here hx rfl (hb hby d18_31) rfl (l' := #[.val (.ref a1), .val (.int (0 : Int32)), .val (.int p3)]) rfl (XS.aloadN X1.here hx rfl (hb hby d18_32) rfl rfl (XS.iloadN X1.here hx rfl (hb hby d18_33) rfl  (XS.iinc X1.here hx rfl (hb hby d18_34) rfl (l' := #[.val (.ref a1), .val (.int ((0 : Int32) + (1 : Int32))), .val (.int p3)]) rfl k)))) ?_
  rw [show ((0 : Int32) + (1 : Int32)) = (1 : Int32) from by decide]
  show own_Fin _ _ _ _ _ _ _ (T1.setTop (mkF m 37 #[.val (.ref a1), .val (.int (1 : Int32)), .val (.int p3)] [(.int (0 : Int32)), (.ref a1)]))
  refine own_go (B := T1.setTop (mkF m 38 #[.val (.ref a1), .val (.int (1 : Int32)), .val (.int p3)] [(.int p3), (.int (0 : Int32)), (.ref a1)])) (fun _ k => XS.iloadN X1.here hx rfl (hb hby d18_37) rfl  k) ?_
  obtain ⟨T3, X3, e3, st3⟩ := getS2 X1 hx hZ hown (host := "") (Or.inl (own_w hw 82 rfl)) Via.refl e1 P_S_java_lang_StringUTF16_HI_BYTE_SHIFT (g := (mkF m 38 #[.val (.ref a1), .val (.int (1 : Int32)), .val (.int p3)] [(.int p3), (.int (0 : Int32)), (.ref a1)])) rfl (hb hby d18_38)
  refine own_go (B := T3.setTop (mkF m 41 #[.val (.ref a1), .val (.int (1 : Int32)), .val (.int p3)] [(.int (0 : Int32)), (.int p3), (.int (0 : Int32)), (.ref a1)])) st3 ?_
  refine own_go (B := T3.setTop (mkF m 43 #[.val (.ref a1), .val (.int (1 : Int32)), .val (.int p3)] [(.int ((p3 >>> ((0 : Int32) &&& 31)).toInt8.toInt32)), (.int (0 : Int32)), (.ref a1)])) (fun _ k => XS.ishr X3.here hx rfl (hb hby d18_41) rfl (XS.i2b X3.here hx rfl (hb hby d18_42) rfl k)) ?_
  obtain ⟨cl4, Ar4, q4, S4, N4n, H4, G4⟩ := id P_V_a1
  have hin5 : ¬ ((0 : Int32) < 0 ∨ cl4.slots.size ≤ ((0 : Int32)).toNatClampNeg) := inb_of S4 ⟨by decide, by decide⟩
  obtain ⟨T5, h5, X5, e5, W5, st5⟩ := stB X3 hx hZ e3 Ar4 (j := (0 : Int32)) hin5 (g := (mkF m 43 #[.val (.ref a1), .val (.int (1 : Int32)), .val (.int p3)] [(.int ((p3 >>> ((0 : Int32) &&& 31)).toInt8.toInt32)), (.int (0 : Int32)), (.ref a1)])) rfl rfl (hb hby d18_43)
  rw [own_narb] at W5
  have V_a1_5 : Arv Z h5 a1 k1 .byte (2 : Int32) [(.int ((p3 >>> ((0 : Int32) &&& 31)).toInt8.toInt32)), (.int u1)] (.int (0 : Int32)) := Arv.set Ar4 q4 S4 N4n H4 G4 (fits_nar_byte _) W5 0 rfl (Nat.le_of_ble_eq_true rfl)
  have S_8 := P_S_java_lang_StringUTF16__assertionsDisabled.wr W5
  have S_9 := P_S_java_lang_StringUTF16_HI_BYTE_SHIFT.wr W5
  have S_10 := P_S_java_lang_StringUTF16_LO_BYTE_SHIFT.wr W5
  have K11 : Keep h0 h5 [a1] := K0.wr W5 (Or.inl (List.mem_of_getElem? (i := 0) rfl))
  have N5 := Fr.snoc X5 N0 g_a1
  refine own_go (B := T5.setTop (mkF m 44 #[.val (.ref a1), .val (.int (1 : Int32)), .val (.int p3)] [])) st5 ?_
  refine own_go (B := T5.setTop (mkF m 47 #[.val (.ref a1), .val (.int (1 : Int32)), .val (.int p3)] [(.int p3), (.int (1 : Int32)), (.ref a1)])) (fun _ k => XS.aloadN X5.here hx rfl (hb hby d18_44) rfl rfl (XS.iloadN X5.here hx rfl (hb hby d18_45) rfl  (XS.iloadN X5.here hx rfl (hb hby d18_46) rfl  k))) ?_
  obtain ⟨T12, X12, e12, st12⟩ := getS2 X5 hx hZ hown (host := "") (Or.inl (own_w hw 83 rfl)) Via.refl e5 S_10 (g := (mkF m 47 #[.val (.ref a1), .val (.int (1 : Int32)), .val (.int p3)] [(.int p3), (.int (1 : Int32)), (.ref a1)])) rfl (hb hby d18_47)
  refine own_go (B := T12.setTop (mkF m 50 #[.val (.ref a1), .val (.int (1 : Int32)), .val (.int p3)] [(.int (8 : Int32)), (.int p3), (.int (1 : Int32)), (.ref a1)])) st12 ?_
  refine own_go (B := T12.setTop (mkF m 52 #[.val (.ref a1), .val (.int (1 : Int32)), .val (.int p3)] [(.int ((p3 >>> ((8 : Int32) &&& 31)).toInt8.toInt32)), (.int (1 : Int32)), (.ref a1)])) (fun _ k => XS.ishr X12.here hx rfl (hb hby d18_50) rfl (XS.i2b X12.here hx rfl (hb hby d18_51) rfl k)) ?_
  obtain ⟨cl13, Ar13, q13, S13, N13n, H13, G13⟩ := id V_a1_5
  have hin14 : ¬ ((1 : Int32) < 0 ∨ cl13.slots.size ≤ ((1 : Int32)).toNatClampNeg) := inb_of S13 ⟨by decide, by decide⟩
  obtain ⟨T14, h14, X14, e14, W14, st14⟩ := stB X12 hx hZ e12 Ar13 (j := (1 : Int32)) hin14 (g := (mkF m 52 #[.val (.ref a1), .val (.int (1 : Int32)), .val (.int p3)] [(.int ((p3 >>> ((8 : Int32) &&& 31)).toInt8.toInt32)), (.int (1 : Int32)), (.ref a1)])) rfl rfl (hb hby d18_52)
  rw [own_narb] at W14
  have V_a1_14 : Arv Z h14 a1 k1 .byte (2 : Int32) [(.int ((p3 >>> ((0 : Int32) &&& 31)).toInt8.toInt32)), (.int ((p3 >>> ((8 : Int32) &&& 31)).toInt8.toInt32))] (.int (0 : Int32)) := Arv.set Ar13 q13 S13 N13n H13 G13 (fits_nar_byte _) W14 1 rfl (Nat.le_of_ble_eq_true rfl)
  have S_16 := S_8.wr W14
  have S_17 := S_9.wr W14
  have S_18 := S_10.wr W14
  have K20 : Keep h0 h14 [a1] := K11.wr W14 (Or.inl (List.mem_of_getElem? (i := 0) rfl))
  have N14 := Fr.snoc X14 N5 g_a1
  refine own_go (B := T14.setTop (mkF m 53 #[.val (.ref a1), .val (.int (1 : Int32)), .val (.int p3)] [])) st14 ?_
  exact own_retV X14 hx Bd.notSynchronized Bd.returns (hb hby d18_53) e14 ⟨rfl, N14, K20, V_a1_14⟩ (by decide) (by decide)
abbrev R_own_get1_0 : Room := { frames := 0, cells := 0, slots := 0, locals := 0 }
theorem d19_0 : decode jdk_52_method_5_code 0 = .ok (.getstatic 44, 3) := by decide +kernel
theorem d19_3 : decode jdk_52_method_5_code 3 = .ok (.ifCond .ne 25, 3) := by decide +kernel
theorem d19_28 : decode jdk_52_method_5_code 28 = .ok (.iload_n 1, 1) := by decide +kernel
theorem d19_29 : decode jdk_52_method_5_code 29 = .ok (.iconst 1, 1) := by decide +kernel
theorem d19_30 : decode jdk_52_method_5_code 30 = .ok (.ishl, 1) := by decide +kernel
theorem d19_31 : decode jdk_52_method_5_code 31 = .ok (.istore_n 1, 1) := by decide +kernel
theorem d19_32 : decode jdk_52_method_5_code 32 = .ok (.aload_n 0, 1) := by decide +kernel
theorem d19_33 : decode jdk_52_method_5_code 33 = .ok (.iload_n 1, 1) := by decide +kernel
theorem d19_34 : decode jdk_52_method_5_code 34 = .ok (.iinc 1 1, 3) := by decide +kernel
theorem d19_37 : decode jdk_52_method_5_code 37 = .ok (.baload, 1) := by decide +kernel
theorem d19_38 : decode jdk_52_method_5_code 38 = .ok (.sipush 255, 3) := by decide +kernel
theorem d19_41 : decode jdk_52_method_5_code 41 = .ok (.iand, 1) := by decide +kernel
theorem d19_42 : decode jdk_52_method_5_code 42 = .ok (.getstatic 59, 3) := by decide +kernel
theorem d19_45 : decode jdk_52_method_5_code 45 = .ok (.ishl, 1) := by decide +kernel
theorem d19_46 : decode jdk_52_method_5_code 46 = .ok (.aload_n 0, 1) := by decide +kernel
theorem d19_47 : decode jdk_52_method_5_code 47 = .ok (.iload_n 1, 1) := by decide +kernel
theorem d19_48 : decode jdk_52_method_5_code 48 = .ok (.baload, 1) := by decide +kernel
theorem d19_49 : decode jdk_52_method_5_code 49 = .ok (.sipush 255, 3) := by decide +kernel
theorem d19_52 : decode jdk_52_method_5_code 52 = .ok (.iand, 1) := by decide +kernel
theorem d19_53 : decode jdk_52_method_5_code 53 = .ok (.getstatic 63, 3) := by decide +kernel
theorem d19_56 : decode jdk_52_method_5_code 56 = .ok (.ishl, 1) := by decide +kernel
theorem d19_57 : decode jdk_52_method_5_code 57 = .ok (.ior, 1) := by decide +kernel
theorem d19_58 : decode jdk_52_method_5_code 58 = .ok (.i2c, 1) := by decide +kernel
theorem d19_59 : decode jdk_52_method_5_code 59 = .ok (.ireturn, 1) := by decide +kernel
theorem ef_own_get1_0 (m : MethodId) (x0 : Addr) : entryFrame m #[(.ref x0), (.int (0 : Int32))] 2 = mkF m 0 #[.val (.ref x0), .val (.int (0 : Int32))] [] := by first | (simp [entryFrame, mkF, argsToLocals, Value.category]; done) | rfl
def Q_own_get1_0 (Z : State) (a1 : Addr) (k1 : ClassId) (u0 : Int32) (u1 : Int32) (h0 : Heap) (n0 : Nat) (v : Option Value) (h : Heap) (L : List Loc) : Prop := v = some (.int ((((u0 &&& (255 : Int32)) <<< ((0 : Int32) &&& 31)) ||| ((u1 &&& (255 : Int32)) <<< ((8 : Int32) &&& 31))).toUInt32.toUInt16.toUInt32.toInt32)) ∧ Fr n0 L ∧ h = h0
set_option maxRecDepth 65536 in
set_option maxHeartbeats 400000000 in
theorem own_get1_0 (l : Launch) (Z : State) (a0 : Array Value) (hw : ∀ d ∈ tables_1, d.before a0 Z = true) (ws : List Jvm.Cond) (a1 : Addr) (k1 : ClassId) (u0 : Int32) (u1 : Int32) (h0 : Heap) (n0 : Nat) (Z0 : n0 ≤ h0.size) (P_V_a1 : Arv Z h0 a1 k1 .byte (2 : Int32) [(.int u0), (.int u1)] (.int (0 : Int32))) (P_S_java_lang_StringUTF16__assertionsDisabled : Sta Z h0 "java/lang/StringUTF16" "$assertionsDisabled" "Z" (.int (1 : Int32))) (P_S_java_lang_StringUTF16_HI_BYTE_SHIFT : Sta Z h0 "java/lang/StringUTF16" "HI_BYTE_SHIFT" "I" (.int (0 : Int32))) (P_S_java_lang_StringUTF16_LO_BYTE_SHIFT : Sta Z h0 "java/lang/StringUTF16" "LO_BYTE_SHIFT" "I" (.int (8 : Int32))) :
    MetFree l (⟨"java/lang/StringUTF16", "getChar", "([BI)C"⟩ : MethodName) (head1 (Jvm.Cond.code (⟨"java/lang/StringUTF16", "getChar", "([BI)C"⟩ : MethodName) jdk_52_method_5_code 2 (some .char) :: ws) R_own_get1_0) (fun a U => a = #[(.ref a1), (.int (0 : Int32))] ∧ Z.Warmed39 U.vm ∧ U.heap = h0) (fun _ _ _ _ _ => True) (fun _ U o U' => ∃ v L, o = .returned v ∧ Q_own_get1_0 Z a1 k1 u0 u1 h0 n0 v U'.heap L ∧ FrameEnd U o U' L R_own_get1_0.cells R_own_get1_0.slots) := by
  refine MetFree.of_bodySF (plainFor_of_name own_pn0) hisR ?_
  intro p e s m args below meth c s₁ Bd hml0 hP hK
  obtain ⟨rfl, hZ, hh⟩ := hP
  have hx := Bd.exec
  have hby := Bd.bytes
  have hml : c.maxLocals = 2 := hml0
  have hown : s.vm.findClass "java/lang/StringUTF16" = some m.cls := findClass_of_methodNamed Bd.named
  have hnm := (name_of_methodNamed Bd.named Bd.method).1
  have X0 : Stand p l e R_own_get1_0 s m #[(.ref a1), (.int (0 : Int32))] below meth c s₁ [] 0 0 := Stand.of_body Bd
  have e0 : s₁.heap = h0 := by rw [← hh, Bd.state]; rfl
  have N0 := Fr.nil n0
  have K0 : Keep h0 h0 [] := Keep.refl h0 []
  show own_Fin p e below s (Q_own_get1_0 Z a1 k1 u0 u1 h0 n0) R_own_get1_0.cells R_own_get1_0.slots (s₁.setTop (entryFrame m #[(.ref a1), (.int (0 : Int32))] 2))
  refine own_go (fun _ k => castTop (ef_own_get1_0 m a1) k) ?_
  show own_Fin _ _ _ _ _ _ _ (s₁.setTop (mkF m 0 #[.val (.ref a1), .val (.int (0 : Int32))] []))
  obtain ⟨T1, X1, e1, st1⟩ := getS2 X0 hx hZ hown (host := "") (Or.inl (own_w hw 81 rfl)) Via.refl e0 P_S_java_lang_StringUTF16__assertionsDisabled (g := (mkF m 0 #[.val (.ref a1), .val (.int (0 : Int32))] [])) rfl (hb hby d19_0)
  refine own_go (B := T1.setTop (mkF m 3 #[.val (.ref a1), .val (.int (0 : Int32))] [(.int (1 : Int32))])) st1 ?_
  have hc2 : ¬ ((1 : Int32) = (0 : Int32)) := by decide
  refine own_go (B := T1.setTop (mkF m 31 #[.val (.ref a1), .val (.int (0 : Int32))] [(.int ((0 : Int32) <<< ((1 : Int32) &&& 31)))])) (fun _ k => XS.ifYes X1.here hx rfl (pc0 := 3) (pc' := 28) rfl (hb hby d19_3) rfl ((if0 _ _).trans (feq hc2).2) (by decide) (by decide) (XS.iloadN X1.here hx rfl (hb hby d19_28) rfl  (XS.iconst X1.here hx rfl (hb hby d19_29) (XS.ishl X1.here hx rfl (hb hby d19_30) rfl k)))) ?_
  rw [show ((0 : Int32) <<< ((1 : Int32) &&& 31)) = (0 : Int32) from by decide]
  show own_Fin _ _ _ _ _ _ _ (T1.setTop (mkF m 31 #[.val (.ref a1), .val (.int (0 : Int32))] [(.int (0 : Int32))]))
  refine own_go (B := T1.setTop (mkF m 37 #[.val (.ref a1), .val (.int ((0 : Int32) + (1 : Int32)))] [(.int (0 : Int32)), (.ref a1)])) (fun _ k => XS.istoreN X1.here hx rfl (hb hby d19_31) rfl (l' := #[.val (.ref a1), .val (.int (0 : Int32))]) rfl (XS.aloadN X1.here hx rfl (hb hby d19_32) rfl rfl (XS.iloadN X1.here hx rfl (hb hby d19_33) rfl  (XS.iinc X1.here hx rfl (hb hby d19_34) rfl (l' := #[.val (.ref a1), .val (.int ((0 : Int32) + (1 : Int32)))]) rfl k)))) ?_
  rw [show ((0 : Int32) + (1 : Int32)) = (1 : Int32) from by decide]
  show own_Fin _ _ _ _ _ _ _ (T1.setTop (mkF m 37 #[.val (.ref a1), .val (.int (1 : Int32))] [(.int (0 : Int32)), (.ref a1)]))
  obtain ⟨cl3, Ar3, q3, S3, N3n, H3, G3⟩ := id P_V_a1
  have hin4 : ¬ ((0 : Int32) < 0 ∨ cl3.slots.size ≤ ((0 : Int32)).toNatClampNeg) := inb_of S3 ⟨by decide, by decide⟩
  have hat4 : cl3.slots[((0 : Int32)).toNatClampNeg]? = some (.int u0) := H3.at hin4 rfl
  refine own_go (B := T1.setTop (mkF m 42 #[.val (.ref a1), .val (.int (1 : Int32))] [(.int (u0 &&& (255 : Int32)))])) (fun _ k => X1.baloadBytes hx (j := (0 : Int32)) (v := (.int u0)) (own_hc e1 Ar3.1) (State.isArrayOf_alike hZ.alike Ar3.2.1) Ar3.2.2 hin4 hat4 (g := (mkF m 37 #[.val (.ref a1), .val (.int (1 : Int32))] [(.int (0 : Int32)), (.ref a1)])) rfl rfl (hb hby d19_37) _ (XS.sipush X1.here hx rfl (hb hby d19_38) (XS.iand X1.here hx rfl (hb hby d19_41) rfl k))) ?_
  obtain ⟨T5, X5, e5, st5⟩ := getS2 X1 hx hZ hown (host := "") (Or.inl (own_w hw 82 rfl)) Via.refl e1 P_S_java_lang_StringUTF16_HI_BYTE_SHIFT (g := (mkF m 42 #[.val (.ref a1), .val (.int (1 : Int32))] [(.int (u0 &&& (255 : Int32)))])) rfl (hb hby d19_42)
  refine own_go (B := T5.setTop (mkF m 45 #[.val (.ref a1), .val (.int (1 : Int32))] [(.int (0 : Int32)), (.int (u0 &&& (255 : Int32)))])) st5 ?_
  refine own_go (B := T5.setTop (mkF m 48 #[.val (.ref a1), .val (.int (1 : Int32))] [(.int (1 : Int32)), (.ref a1), (.int ((u0 &&& (255 : Int32)) <<< ((0 : Int32) &&& 31)))])) (fun _ k => XS.ishl X5.here hx rfl (hb hby d19_45) rfl (XS.aloadN X5.here hx rfl (hb hby d19_46) rfl rfl (XS.iloadN X5.here hx rfl (hb hby d19_47) rfl  k))) ?_
  obtain ⟨cl6, Ar6, q6, S6, N6n, H6, G6⟩ := id P_V_a1
  have hin7 : ¬ ((1 : Int32) < 0 ∨ cl6.slots.size ≤ ((1 : Int32)).toNatClampNeg) := inb_of S6 ⟨by decide, by decide⟩
  have hat7 : cl6.slots[((1 : Int32)).toNatClampNeg]? = some (.int u1) := H6.at hin7 rfl
  refine own_go (B := T5.setTop (mkF m 53 #[.val (.ref a1), .val (.int (1 : Int32))] [(.int (u1 &&& (255 : Int32))), (.int ((u0 &&& (255 : Int32)) <<< ((0 : Int32) &&& 31)))])) (fun _ k => X5.baloadBytes hx (j := (1 : Int32)) (v := (.int u1)) (own_hc e5 Ar6.1) (State.isArrayOf_alike hZ.alike Ar6.2.1) Ar6.2.2 hin7 hat7 (g := (mkF m 48 #[.val (.ref a1), .val (.int (1 : Int32))] [(.int (1 : Int32)), (.ref a1), (.int ((u0 &&& (255 : Int32)) <<< ((0 : Int32) &&& 31)))])) rfl rfl (hb hby d19_48) _ (XS.sipush X5.here hx rfl (hb hby d19_49) (XS.iand X5.here hx rfl (hb hby d19_52) rfl k))) ?_
  obtain ⟨T8, X8, e8, st8⟩ := getS2 X5 hx hZ hown (host := "") (Or.inl (own_w hw 83 rfl)) Via.refl e5 P_S_java_lang_StringUTF16_LO_BYTE_SHIFT (g := (mkF m 53 #[.val (.ref a1), .val (.int (1 : Int32))] [(.int (u1 &&& (255 : Int32))), (.int ((u0 &&& (255 : Int32)) <<< ((0 : Int32) &&& 31)))])) rfl (hb hby d19_53)
  refine own_go (B := T8.setTop (mkF m 56 #[.val (.ref a1), .val (.int (1 : Int32))] [(.int (8 : Int32)), (.int (u1 &&& (255 : Int32))), (.int ((u0 &&& (255 : Int32)) <<< ((0 : Int32) &&& 31)))])) st8 ?_
  refine own_go (B := T8.setTop (mkF m 59 #[.val (.ref a1), .val (.int (1 : Int32))] [(.int ((((u0 &&& (255 : Int32)) <<< ((0 : Int32) &&& 31)) ||| ((u1 &&& (255 : Int32)) <<< ((8 : Int32) &&& 31))).toUInt32.toUInt16.toUInt32.toInt32))])) (fun _ k => XS.ishl X8.here hx rfl (hb hby d19_56) rfl (XS.ior X8.here hx rfl (hb hby d19_57) rfl (XS.i2c X8.here hx rfl (hb hby d19_58) rfl k))) ?_
  exact own_retN X8 hx Bd.notSynchronized (t := .char) (w := ((((u0 &&& (255 : Int32)) <<< ((0 : Int32) &&& 31)) ||| ((u1 &&& (255 : Int32)) <<< ((8 : Int32) &&& 31))).toUInt32.toUInt16.toUInt32.toInt32)) Bd.returns (by simp) (hb hby d19_59) e8 (own_narc _) ⟨rfl, N0, rfl⟩ (by decide) (by decide)
abbrev R_own_tob1 : Room := { frames := 2, cells := 1, slots := 2, locals := 24 }
theorem d15_0 : decode jdk_52_method_14_code 0 = .ok (.iload_n 2, 1) := by decide +kernel
theorem d15_1 : decode jdk_52_method_14_code 1 = .ok (.invokestatic 107, 3) := by decide +kernel
theorem d15_4 : decode jdk_52_method_14_code 4 = .ok (.astore_n 3, 1) := by decide +kernel
theorem d15_5 : decode jdk_52_method_14_code 5 = .ok (.iconst 0, 1) := by decide +kernel
theorem d15_6 : decode jdk_52_method_14_code 6 = .ok (.istore 4, 2) := by decide +kernel
theorem d15_8 : decode jdk_52_method_14_code 8 = .ok (.iload 4, 2) := by decide +kernel
theorem d15_10 : decode jdk_52_method_14_code 10 = .ok (.iload_n 2, 1) := by decide +kernel
theorem d15_11 : decode jdk_52_method_14_code 11 = .ok (.if_icmp .ge 21, 3) := by decide +kernel
theorem d15_14 : decode jdk_52_method_14_code 14 = .ok (.aload_n 3, 1) := by decide +kernel
theorem d15_15 : decode jdk_52_method_14_code 15 = .ok (.iload 4, 2) := by decide +kernel
theorem d15_17 : decode jdk_52_method_14_code 17 = .ok (.aload_n 0, 1) := by decide +kernel
theorem d15_18 : decode jdk_52_method_14_code 18 = .ok (.iload_n 1, 1) := by decide +kernel
theorem d15_19 : decode jdk_52_method_14_code 19 = .ok (.caload, 1) := by decide +kernel
theorem d15_20 : decode jdk_52_method_14_code 20 = .ok (.invokestatic 111, 3) := by decide +kernel
theorem d15_23 : decode jdk_52_method_14_code 23 = .ok (.iinc 1 1, 3) := by decide +kernel
theorem d15_26 : decode jdk_52_method_14_code 26 = .ok (.iinc 4 1, 3) := by decide +kernel
theorem d15_29 : decode jdk_52_method_14_code 29 = .ok (.goto (-21), 3) := by decide +kernel
theorem d15_32 : decode jdk_52_method_14_code 32 = .ok (.aload_n 3, 1) := by decide +kernel
theorem d15_33 : decode jdk_52_method_14_code 33 = .ok (.areturn, 1) := by decide +kernel
theorem ef_own_tob1 (m : MethodId) (x0 : Addr) : entryFrame m #[(.ref x0), (.int (0 : Int32)), (.int (1 : Int32))] 5 = mkF m 0 #[.val (.ref x0), .val (.int (0 : Int32)), .val (.int (1 : Int32)), .unset, .unset] [] := by first | (simp [entryFrame, mkF, argsToLocals, Value.category]; done) | rfl
def Q_own_tob1 (Z : State) (a1 : Addr) (k1 : ClassId) (c0 : Int32) (h0 : Heap) (n0 : Nat) (v : Option Value) (h : Heap) (L : List Loc) : Prop := ∃ b : Addr, ∃ kb : ClassId, v = some (.ref b) ∧ Fr n0 L ∧ Keep h0 h [] ∧ Arv Z h b kb .byte (2 : Int32) [(.int ((c0 >>> ((0 : Int32) &&& 31)).toInt8.toInt32)), (.int ((c0 >>> ((8 : Int32) &&& 31)).toInt8.toInt32))] (.int (0 : Int32)) ∧ (h0.size ≤ b)
set_option maxRecDepth 65536 in
set_option maxHeartbeats 400000000 in
theorem own_tob1 (l : Launch) (Z : State) (a0 : Array Value) (hw : ∀ d ∈ tables_1, d.before a0 Z = true) (ws : List Jvm.Cond) (a1 : Addr) (k1 : ClassId) (c0 : Int32) (h0 : Heap) (n0 : Nat) (Z0 : n0 ≤ h0.size) (P_V_a1 : Arv Z h0 a1 k1 .char (1 : Int32) [(.int c0)] (.int (0 : Int32))) (P_S_java_lang_StringUTF16__assertionsDisabled : Sta Z h0 "java/lang/StringUTF16" "$assertionsDisabled" "Z" (.int (1 : Int32))) (P_S_java_lang_StringUTF16_HI_BYTE_SHIFT : Sta Z h0 "java/lang/StringUTF16" "HI_BYTE_SHIFT" "I" (.int (0 : Int32))) (P_S_java_lang_StringUTF16_LO_BYTE_SHIFT : Sta Z h0 "java/lang/StringUTF16" "LO_BYTE_SHIFT" "I" (.int (8 : Int32))) :
    MetFree l (⟨"java/lang/StringUTF16", "toBytes", "([CII)[B"⟩ : MethodName) (head1 (Jvm.Cond.code (⟨"java/lang/StringUTF16", "toBytes", "([CII)[B"⟩ : MethodName) jdk_52_method_14_code 5 (some (.array .byte)) :: ws) R_own_tob1) (fun a U => a = #[(.ref a1), (.int (0 : Int32)), (.int (1 : Int32))] ∧ Z.Warmed39 U.vm ∧ U.heap = h0) (fun _ _ _ _ _ => True) (fun _ U o U' => ∃ v L, o = .returned v ∧ Q_own_tob1 Z a1 k1 c0 h0 n0 v U'.heap L ∧ FrameEnd U o U' L R_own_tob1.cells R_own_tob1.slots) := by
  refine MetFree.of_bodySF (plainFor_of_name own_pn0) hisR ?_
  intro p e s m args below meth c s₁ Bd hml0 hP hK
  obtain ⟨rfl, hZ, hh⟩ := hP
  have hx := Bd.exec
  have hby := Bd.bytes
  have hml : c.maxLocals = 5 := hml0
  have hown : s.vm.findClass "java/lang/StringUTF16" = some m.cls := findClass_of_methodNamed Bd.named
  have hnm := (name_of_methodNamed Bd.named Bd.method).1
  have X0 : Stand p l e R_own_tob1 s m #[(.ref a1), (.int (0 : Int32)), (.int (1 : Int32))] below meth c s₁ [] 0 0 := Stand.of_body Bd
  have e0 : s₁.heap = h0 := by rw [← hh, Bd.state]; rfl
  have N0 := Fr.nil n0
  have K0 : Keep h0 h0 [] := Keep.refl h0 []
  show own_Fin p e below s (Q_own_tob1 Z a1 k1 c0 h0 n0) R_own_tob1.cells R_own_tob1.slots (s₁.setTop (entryFrame m #[(.ref a1), (.int (0 : Int32)), (.int (1 : Int32))] 5))
  refine own_go (fun _ k => castTop (ef_own_tob1 m a1) k) ?_
  show own_Fin _ _ _ _ _ _ _ (s₁.setTop (mkF m 0 #[.val (.ref a1), .val (.int (0 : Int32)), .val (.int (1 : Int32)), .unset, .unset] []))
  refine own_go (B := s₁.setTop (mkF m 1 #[.val (.ref a1), .val (.int (0 : Int32)), .val (.int (1 : Int32)), .unset, .unset] [(.int (1 : Int32))])) (fun _ k => XS.iloadN X0.here hx rfl (hb hby d15_0) rfl  k) ?_
  obtain ⟨_, _, ⟨T1, L1, k1, n1⟩, -, X1, ⟨Lc1, hQ1, l1, y1, z1⟩, st1⟩ := Jvm.LawKit.callS X0 hx (y := (⟨"java/lang/StringUTF16", "newBytesFor", "(I)[B"⟩ : MethodName)) hown (mvT hZ (own_w hw 71 rfl)) (mvT hZ (own_w hw 72 rfl)) (mvT hZ (own_w hw 18 rfl)) (mvT hZ (own_w hw 73 rfl)) (by decide) (backOf (W := 0) (own_nbf1 l Z a0 hw []  h0 n0 (Nat.le_trans Z0 K0.1) ) hZ (own_w hw 73 rfl) (own_w hw 18 rfl) (by decide) (by decide)) (g := (mkF m 1 #[.val (.ref a1), .val (.int (0 : Int32)), .val (.int (1 : Int32)), .unset, .unset] [(.int (1 : Int32))])) rfl (by rw [hml]; rfl) (argsL := [(.int (1 : Int32))]) (rest := []) (lenOf own_pd1 rfl) rfl (by show 2 * 0 + _ ≤ _; exact Nat.le_of_eq rfl) (hb hby d15_1) (fun _ _ => ⟨rfl, e0, (by decide : 0 + 1 ≤ _), (by decide : 0 + 2 ≤ _)⟩)
  dsimp only [Pt.U, Pt.locs, Pt.cells, Pt.slots] at X1 l1 y1 z1 st1 hQ1
  subst l1 y1 z1
  obtain ⟨b_1, kb_1, rfl, N1q, K1q, Q1_0, x1_0⟩ := hQ1
  have N1 := Fr.app N0 N1q
  have ne_a1_b_1_2 : a1 ≠ b_1 := Nat.ne_of_lt (Nat.lt_of_lt_of_le P_V_a1.lt x1_0)
  have sz_b_1 : h0.size ≤ b_1 := Nat.le_trans K0.1 x1_0
  have g_b_1 : n0 ≤ b_1 := Nat.le_trans Z0 sz_b_1
  have V_4 := P_V_a1.keep K1q nin0
  have S_5 := own_Sta_keep P_S_java_lang_StringUTF16__assertionsDisabled K1q all0
  have S_6 := own_Sta_keep P_S_java_lang_StringUTF16_HI_BYTE_SHIFT K1q all0
  have S_7 := own_Sta_keep P_S_java_lang_StringUTF16_LO_BYTE_SHIFT K1q all0
  have K8 : Keep h0 T1.heap [] := K0.trans K1q all0
  refine own_go (B := T1.setTop (mkF m 4 #[.val (.ref a1), .val (.int (0 : Int32)), .val (.int (1 : Int32)), .unset, .unset] [(.ref b_1)])) st1 ?_
  refine own_go (B := T1.setTop (mkF m 11 #[.val (.ref a1), .val (.int (0 : Int32)), .val (.int (1 : Int32)), .val (.ref b_1), .val (.int (0 : Int32))] [(.int (1 : Int32)), (.int (0 : Int32))])) (fun _ k => XS.astoreN X1.here hx rfl (hb hby d15_4) rfl rfl (l' := #[.val (.ref a1), .val (.int (0 : Int32)), .val (.int (1 : Int32)), .val (.ref b_1), .unset]) rfl (XS.iconst X1.here hx rfl (hb hby d15_5) (XS.istore X1.here hx rfl (hb hby d15_6) rfl (l' := #[.val (.ref a1), .val (.int (0 : Int32)), .val (.int (1 : Int32)), .val (.ref b_1), .val (.int (0 : Int32))]) rfl (XS.iload X1.here hx rfl (hb hby d15_8) rfl  (XS.iloadN X1.here hx rfl (hb hby d15_10) rfl  k))))) ?_
  have hc9 : (0 : Int32) < (1 : Int32) := by decide
  refine own_go (B := T1.setTop (mkF m 19 #[.val (.ref a1), .val (.int (0 : Int32)), .val (.int (1 : Int32)), .val (.ref b_1), .val (.int (0 : Int32))] [(.int (0 : Int32)), (.ref a1), (.int (0 : Int32)), (.ref b_1)])) (fun _ k => XS.icmpNo X1.here hx rfl (hb hby d15_11) rfl (tlt hc9).2.1 (XS.aloadN X1.here hx rfl (hb hby d15_14) rfl rfl (XS.iload X1.here hx rfl (hb hby d15_15) rfl  (XS.aloadN X1.here hx rfl (hb hby d15_17) rfl rfl (XS.iloadN X1.here hx rfl (hb hby d15_18) rfl  k))))) ?_
  obtain ⟨cl10, Ar10, q10, S10, N10n, H10, G10⟩ := id V_4
  have hin11 : ¬ ((0 : Int32) < 0 ∨ cl10.slots.size ≤ ((0 : Int32)).toNatClampNeg) := inb_of S10 ⟨by decide, by decide⟩
  have hat11 : cl10.slots[((0 : Int32)).toNatClampNeg]? = some (.int c0) := H10.at hin11 rfl
  refine own_go (B := T1.setTop (mkF m 20 #[.val (.ref a1), .val (.int (0 : Int32)), .val (.int (1 : Int32)), .val (.ref b_1), .val (.int (0 : Int32))] [(.int c0), (.int (0 : Int32)), (.ref b_1)])) (fun _ k => X1.caload hx (j := (0 : Int32)) (v := (.int c0)) (own_hc rfl Ar10.1) (State.isArrayOf_alike hZ.alike Ar10.2.1) Ar10.2.2 hin11 hat11 (g := (mkF m 19 #[.val (.ref a1), .val (.int (0 : Int32)), .val (.int (1 : Int32)), .val (.ref b_1), .val (.int (0 : Int32))] [(.int (0 : Int32)), (.ref a1), (.int (0 : Int32)), (.ref b_1)])) rfl rfl (hb hby d15_19) _ k) ?_
  obtain ⟨_, _, ⟨T12, L12, k12, n12⟩, -, X12, ⟨Lc12, hQ12, l12, y12, z12⟩, st12⟩ := Jvm.LawKit.callS X1 hx (y := (⟨"java/lang/StringUTF16", "putChar", "([BII)V"⟩ : MethodName)) hown (mvT hZ (own_w hw 78 rfl)) (mvT hZ (own_w hw 79 rfl)) (mvT hZ (own_w hw 18 rfl)) (mvT hZ (own_w hw 80 rfl)) (by decide) (backOf (W := 0) (own_put1_0 l Z a0 hw [] b_1 kb_1 c0 (0 : Int32) (0 : Int32) T1.heap n0 (Nat.le_trans Z0 K8.1) Q1_0 g_b_1 S_5 S_6 S_7) hZ (own_w hw 80 rfl) (own_w hw 18 rfl) (by decide) (by decide)) (g := (mkF m 20 #[.val (.ref a1), .val (.int (0 : Int32)), .val (.int (1 : Int32)), .val (.ref b_1), .val (.int (0 : Int32))] [(.int c0), (.int (0 : Int32)), (.ref b_1)])) rfl (by rw [hml]; rfl) (argsL := [(.ref b_1), (.int (0 : Int32)), (.int c0)]) (rest := []) (lenOf own_pd2 rfl) rfl (by show 2 * 0 + _ ≤ _; exact Nat.le_of_eq rfl) (hb hby d15_20) (fun _ _ => ⟨rfl, rfl, (by decide : 1 + 0 ≤ _), (by decide : 2 + 0 ≤ _)⟩)
  dsimp only [Pt.U, Pt.locs, Pt.cells, Pt.slots] at X12 l12 y12 z12 st12 hQ12
  subst l12 y12 z12
  obtain ⟨rfl, N12q, K12q, Q12_0⟩ := hQ12
  have N12 := Fr.app N1 N12q
  have V_14 := V_4.keep K12q (ninS ne_a1_b_1_2 nin0)
  have S_15 := own_Sta_keep S_5 K12q (allS (own_plainV Q1_0) all0)
  have S_16 := own_Sta_keep S_6 K12q (allS (own_plainV Q1_0) all0)
  have S_17 := own_Sta_keep S_7 K12q (allS (own_plainV Q1_0) all0)
  have K19 : Keep h0 T12.heap [] := K8.trans K12q (allS (Or.inr sz_b_1) all0)
  refine own_go (B := T12.setTop (mkF m 23 #[.val (.ref a1), .val (.int (0 : Int32)), .val (.int (1 : Int32)), .val (.ref b_1), .val (.int (0 : Int32))] [])) st12 ?_
  refine own_go (B := T12.setTop (mkF m 26 #[.val (.ref a1), .val (.int ((0 : Int32) + (1 : Int32))), .val (.int (1 : Int32)), .val (.ref b_1), .val (.int (0 : Int32))] [])) (fun _ k => XS.iinc X12.here hx rfl (hb hby d15_23) rfl (l' := #[.val (.ref a1), .val (.int ((0 : Int32) + (1 : Int32))), .val (.int (1 : Int32)), .val (.ref b_1), .val (.int (0 : Int32))]) rfl k) ?_
  rw [show ((0 : Int32) + (1 : Int32)) = (1 : Int32) from by decide]
  show own_Fin _ _ _ _ _ _ _ (T12.setTop (mkF m 26 #[.val (.ref a1), .val (.int (1 : Int32)), .val (.int (1 : Int32)), .val (.ref b_1), .val (.int (0 : Int32))] []))
  refine own_go (B := T12.setTop (mkF m 29 #[.val (.ref a1), .val (.int (1 : Int32)), .val (.int (1 : Int32)), .val (.ref b_1), .val (.int ((0 : Int32) + (1 : Int32)))] [])) (fun _ k => XS.iinc X12.here hx rfl (hb hby d15_26) rfl (l' := #[.val (.ref a1), .val (.int (1 : Int32)), .val (.int (1 : Int32)), .val (.ref b_1), .val (.int ((0 : Int32) + (1 : Int32)))]) rfl k) ?_
  rw [show ((0 : Int32) + (1 : Int32)) = (1 : Int32) from by decide]
  show own_Fin _ _ _ _ _ _ _ (T12.setTop (mkF m 29 #[.val (.ref a1), .val (.int (1 : Int32)), .val (.int (1 : Int32)), .val (.ref b_1), .val (.int (1 : Int32))] []))
  refine own_go (B := T12.setTop (mkF m 11 #[.val (.ref a1), .val (.int (1 : Int32)), .val (.int (1 : Int32)), .val (.ref b_1), .val (.int (1 : Int32))] [(.int (1 : Int32)), (.int (1 : Int32))])) (fun _ k => XS.goto X12.here hx rfl (pc0 := 29) (pc' := 8) rfl (hb hby d15_29) (by decide) (by decide) (XS.iload X12.here hx rfl (hb hby d15_8) rfl  (XS.iloadN X12.here hx rfl (hb hby d15_10) rfl  k))) ?_
  have hc20 : ¬ ((1 : Int32) < (1 : Int32)) := by decide
  refine own_go (B := T12.setTop (mkF m 33 #[.val (.ref a1), .val (.int (1 : Int32)), .val (.int (1 : Int32)), .val (.ref b_1), .val (.int (1 : Int32))] [(.ref b_1)])) (fun _ k => XS.icmpYes X12.here hx rfl (pc0 := 11) (pc' := 32) rfl (hb hby d15_11) rfl (flt hc20).2.1 (by decide) (by decide) (XS.aloadN X12.here hx rfl (hb hby d15_32) rfl rfl k)) ?_
  exact own_retA X12 hx Bd.notSynchronized Bd.returns rfl rfl (hb hby d15_33) rfl ⟨b_1, kb_1, rfl, N12, K19, Q12_0, x1_0⟩ (by decide) (by decide)
abbrev R_own_nbl2 : Room := { frames := 0, cells := 0, slots := 0, locals := 0 }
theorem ef_own_nbl2 (m : MethodId)  : entryFrame m #[(.int (2 : Int32))] 1 = mkF m 0 #[.val (.int (2 : Int32))] [] := by first | (simp [entryFrame, mkF, argsToLocals, Value.category]; done) | rfl
def Q_own_nbl2 (Z : State)  (h0 : Heap) (n0 : Nat) (v : Option Value) (h : Heap) (L : List Loc) : Prop := v = some (.int (4 : Int32)) ∧ Fr n0 L ∧ h = h0
set_option maxRecDepth 65536 in
set_option maxHeartbeats 400000000 in
theorem own_nbl2 (l : Launch) (Z : State) (a0 : Array Value) (hw : ∀ d ∈ tables_1, d.before a0 Z = true) (ws : List Jvm.Cond)  (h0 : Heap) (n0 : Nat) (Z0 : n0 ≤ h0.size)  :
    MetFree l (⟨"java/lang/StringUTF16", "newBytesLength", "(I)I"⟩ : MethodName) (head1 (Jvm.Cond.code (⟨"java/lang/StringUTF16", "newBytesLength", "(I)I"⟩ : MethodName) jdk_52_method_3_code 1 (some .int) :: ws) R_own_nbl2) (fun a U => a = #[(.int (2 : Int32))] ∧ Z.Warmed39 U.vm ∧ U.heap = h0) (fun _ _ _ _ _ => True) (fun _ U o U' => ∃ v L, o = .returned v ∧ Q_own_nbl2 Z  h0 n0 v U'.heap L ∧ FrameEnd U o U' L R_own_nbl2.cells R_own_nbl2.slots) := by
  refine MetFree.of_bodySF (plainFor_of_name own_pn0) hisR ?_
  intro p e s m args below meth c s₁ Bd hml0 hP hK
  obtain ⟨rfl, hZ, hh⟩ := hP
  have hx := Bd.exec
  have hby := Bd.bytes
  have hml : c.maxLocals = 1 := hml0
  have hown : s.vm.findClass "java/lang/StringUTF16" = some m.cls := findClass_of_methodNamed Bd.named
  have hnm := (name_of_methodNamed Bd.named Bd.method).1
  have X0 : Stand p l e R_own_nbl2 s m #[(.int (2 : Int32))] below meth c s₁ [] 0 0 := Stand.of_body Bd
  have e0 : s₁.heap = h0 := by rw [← hh, Bd.state]; rfl
  have N0 := Fr.nil n0
  have K0 : Keep h0 h0 [] := Keep.refl h0 []
  show own_Fin p e below s (Q_own_nbl2 Z  h0 n0) R_own_nbl2.cells R_own_nbl2.slots (s₁.setTop (entryFrame m #[(.int (2 : Int32))] 1))
  refine own_go (fun _ k => castTop (ef_own_nbl2 m ) k) ?_
  show own_Fin _ _ _ _ _ _ _ (s₁.setTop (mkF m 0 #[.val (.int (2 : Int32))] []))
  refine own_go (B := s₁.setTop (mkF m 1 #[.val (.int (2 : Int32))] [(.int (2 : Int32))])) (fun _ k => XS.iloadN X0.here hx rfl (hb hby d17_0) rfl  k) ?_
  have hc1 : ¬ ((2 : Int32) < (0 : Int32)) := by decide
  refine own_go (B := s₁.setTop (mkF m 15 #[.val (.int (2 : Int32))] [(.int (1073741823 : Int32)), (.int (2 : Int32))])) (fun _ k => XS.ifYes X0.here hx rfl (pc0 := 1) (pc' := 12) rfl (hb hby d17_1) rfl ((if0 _ _).trans (flt hc1).2.1) (by decide) (by decide) (XS.iloadN X0.here hx rfl (hb hby d17_12) rfl  (X0.ldcInt hx hown (mvT hZ (own_w hw 77 rfl)) (g := (mkF m 13 #[.val (.int (2 : Int32))] [(.int (2 : Int32))])) rfl (hb hby d17_13) _ k))) ?_
  have hc2 : (2 : Int32) < (1073741823 : Int32) := by decide
  refine own_go (B := s₁.setTop (mkF m 58 #[.val (.int (2 : Int32))] [(.int ((2 : Int32) <<< ((1 : Int32) &&& 31)))])) (fun _ k => XS.icmpYes X0.here hx rfl (pc0 := 15) (pc' := 55) rfl (hb hby d17_15) rfl (tlt hc2).1 (by decide) (by decide) (XS.iloadN X0.here hx rfl (hb hby d17_55) rfl  (XS.iconst X0.here hx rfl (hb hby d17_56) (XS.ishl X0.here hx rfl (hb hby d17_57) rfl k)))) ?_
  rw [show ((2 : Int32) <<< ((1 : Int32) &&& 31)) = (4 : Int32) from by decide]
  show own_Fin _ _ _ _ _ _ _ (s₁.setTop (mkF m 58 #[.val (.int (2 : Int32))] [(.int (4 : Int32))]))
  exact own_retI X0 hx Bd.notSynchronized Bd.returns (hb hby d17_58) e0 ⟨rfl, N0, rfl⟩ (by decide) (by decide)
abbrev R_own_nbf2 : Room := { frames := 1, cells := 1, slots := 4, locals := 12 }
theorem ef_own_nbf2 (m : MethodId)  : entryFrame m #[(.int (2 : Int32))] 1 = mkF m 0 #[.val (.int (2 : Int32))] [] := by first | (simp [entryFrame, mkF, argsToLocals, Value.category]; done) | rfl
def Q_own_nbf2 (Z : State)  (h0 : Heap) (n0 : Nat) (v : Option Value) (h : Heap) (L : List Loc) : Prop := ∃ b : Addr, ∃ kb : ClassId, v = some (.ref b) ∧ Fr n0 L ∧ Keep h0 h [] ∧ Arv Z h b kb .byte (4 : Int32) [(.int (0 : Int32)), (.int (0 : Int32)), (.int (0 : Int32)), (.int (0 : Int32))] (.int (0 : Int32)) ∧ (h0.size ≤ b)
set_option maxRecDepth 65536 in
set_option maxHeartbeats 400000000 in
theorem own_nbf2 (l : Launch) (Z : State) (a0 : Array Value) (hw : ∀ d ∈ tables_1, d.before a0 Z = true) (ws : List Jvm.Cond)  (h0 : Heap) (n0 : Nat) (Z0 : n0 ≤ h0.size)  :
    MetFree l (⟨"java/lang/StringUTF16", "newBytesFor", "(I)[B"⟩ : MethodName) (head1 (Jvm.Cond.code (⟨"java/lang/StringUTF16", "newBytesFor", "(I)[B"⟩ : MethodName) jdk_52_method_2_code 1 (some (.array .byte)) :: ws) R_own_nbf2) (fun a U => a = #[(.int (2 : Int32))] ∧ Z.Warmed39 U.vm ∧ U.heap = h0) (fun _ _ _ _ _ => True) (fun _ U o U' => ∃ v L, o = .returned v ∧ Q_own_nbf2 Z  h0 n0 v U'.heap L ∧ FrameEnd U o U' L R_own_nbf2.cells R_own_nbf2.slots) := by
  refine MetFree.of_bodySF (plainFor_of_name own_pn0) hisR ?_
  intro p e s m args below meth c s₁ Bd hml0 hP hK
  obtain ⟨rfl, hZ, hh⟩ := hP
  have hx := Bd.exec
  have hby := Bd.bytes
  have hml : c.maxLocals = 1 := hml0
  have hown : s.vm.findClass "java/lang/StringUTF16" = some m.cls := findClass_of_methodNamed Bd.named
  have hnm := (name_of_methodNamed Bd.named Bd.method).1
  have X0 : Stand p l e R_own_nbf2 s m #[(.int (2 : Int32))] below meth c s₁ [] 0 0 := Stand.of_body Bd
  have e0 : s₁.heap = h0 := by rw [← hh, Bd.state]; rfl
  have N0 := Fr.nil n0
  have K0 : Keep h0 h0 [] := Keep.refl h0 []
  show own_Fin p e below s (Q_own_nbf2 Z  h0 n0) R_own_nbf2.cells R_own_nbf2.slots (s₁.setTop (entryFrame m #[(.int (2 : Int32))] 1))
  refine own_go (fun _ k => castTop (ef_own_nbf2 m ) k) ?_
  show own_Fin _ _ _ _ _ _ _ (s₁.setTop (mkF m 0 #[.val (.int (2 : Int32))] []))
  refine own_go (B := s₁.setTop (mkF m 1 #[.val (.int (2 : Int32))] [(.int (2 : Int32))])) (fun _ k => XS.iloadN X0.here hx rfl (hb hby d16_0) rfl  k) ?_
  obtain ⟨_, _, ⟨T1, L1, k1, n1⟩, -, X1, ⟨Lc1, hQ1, l1, y1, z1⟩, st1⟩ := Jvm.LawKit.callS X0 hx (y := (⟨"java/lang/StringUTF16", "newBytesLength", "(I)I"⟩ : MethodName)) hown (mvT hZ (own_w hw 74 rfl)) (mvT hZ (own_w hw 75 rfl)) (mvT hZ (own_w hw 18 rfl)) (mvT hZ (own_w hw 76 rfl)) (by decide) (backOf (W := 0) (own_nbl2 l Z a0 hw []  h0 n0 (Nat.le_trans Z0 K0.1) ) hZ (own_w hw 76 rfl) (own_w hw 18 rfl) (by decide) (by decide)) (g := (mkF m 1 #[.val (.int (2 : Int32))] [(.int (2 : Int32))])) rfl (by rw [hml]; rfl) (argsL := [(.int (2 : Int32))]) (rest := []) (lenOf own_pd0 rfl) rfl (by show 2 * 0 + _ ≤ _; exact Nat.le_of_eq rfl) (hb hby d16_1) (fun _ _ => ⟨rfl, e0, (by decide : 0 + 0 ≤ _), (by decide : 0 + 0 ≤ _)⟩)
  dsimp only [Pt.U, Pt.locs, Pt.cells, Pt.slots] at X1 l1 y1 z1 st1 hQ1
  subst l1 y1 z1
  obtain ⟨rfl, N1q, e1⟩ := hQ1
  have N1 := Fr.app N0 N1q
  refine own_go (B := T1.setTop (mkF m 4 #[.val (.int (2 : Int32))] [(.int (4 : Int32))])) st1 ?_
  obtain ⟨T2, h2, kc2, X2, e2, E2, A2, st2⟩ := newP X1 hx hZ (own_w hw 20 rfl) e1 (g := (mkF m 4 #[.val (.int (2 : Int32))] [(.int (4 : Int32))])) rfl (hb hby d16_4) rfl (by decide) (cap := 4) (by decide) (by decide) (by decide) (by decide)
  obtain ⟨b2, g2⟩ : ∃ z, z = h0.size := ⟨_, rfl⟩
  rw [← g2] at A2 st2
  have sz_b2 : h0.size ≤ b2 := Nat.le_trans K0.1 (Nat.le_of_eq g2.symm)
  have g_b2 : n0 ≤ b2 := Nat.le_trans Z0 sz_b2
  have V_b2 : Arv Z h2 b2 kc2 .byte (4 : Int32) [(.int (0 : Int32)), (.int (0 : Int32)), (.int (0 : Int32)), (.int (0 : Int32))] (.int (0 : Int32)) := (Arv.new A2 (by decide)).pad (pad_rep [] (.int (0 : Int32)) 4)
  have K4 : Keep h0 h2 [] := K0.ext E2
  refine own_go (B := T2.setTop (mkF m 6 #[.val (.int (2 : Int32))] [(.ref b2)])) st2 ?_
  exact own_retA X2 hx Bd.notSynchronized Bd.returns rfl rfl (hb hby d16_6) e2 ⟨b2, kc2, rfl, N1, K4, V_b2, sz_b2⟩ (by decide) (by decide)
abbrev R_own_put2_0 : Room := { frames := 0, cells := 0, slots := 0, locals := 0 }
theorem ef_own_put2_0 (m : MethodId) (x0 : Addr) (x2 : Int32) : entryFrame m #[(.ref x0), (.int (0 : Int32)), (.int x2)] 3 = mkF m 0 #[.val (.ref x0), .val (.int (0 : Int32)), .val (.int x2)] [] := by first | (simp [entryFrame, mkF, argsToLocals, Value.category]; done) | rfl
def Q_own_put2_0 (Z : State) (a1 : Addr) (k1 : ClassId) (p3 : Int32) (u0 : Int32) (u1 : Int32) (u2 : Int32) (u3 : Int32) (h0 : Heap) (n0 : Nat) (v : Option Value) (h : Heap) (L : List Loc) : Prop := v = none ∧ Fr n0 L ∧ Keep h0 h [a1] ∧ Arv Z h a1 k1 .byte (4 : Int32) [(.int ((p3 >>> ((0 : Int32) &&& 31)).toInt8.toInt32)), (.int ((p3 >>> ((8 : Int32) &&& 31)).toInt8.toInt32)), (.int u2), (.int u3)] (.int (0 : Int32))
set_option maxRecDepth 65536 in
set_option maxHeartbeats 400000000 in
theorem own_put2_0 (l : Launch) (Z : State) (a0 : Array Value) (hw : ∀ d ∈ tables_1, d.before a0 Z = true) (ws : List Jvm.Cond) (a1 : Addr) (k1 : ClassId) (p3 : Int32) (u0 : Int32) (u1 : Int32) (u2 : Int32) (u3 : Int32) (h0 : Heap) (n0 : Nat) (Z0 : n0 ≤ h0.size) (P_V_a1 : Arv Z h0 a1 k1 .byte (4 : Int32) [(.int u0), (.int u1), (.int u2), (.int u3)] (.int (0 : Int32))) (g_a1 : n0 ≤ a1) (P_S_java_lang_StringUTF16__assertionsDisabled : Sta Z h0 "java/lang/StringUTF16" "$assertionsDisabled" "Z" (.int (1 : Int32))) (P_S_java_lang_StringUTF16_HI_BYTE_SHIFT : Sta Z h0 "java/lang/StringUTF16" "HI_BYTE_SHIFT" "I" (.int (0 : Int32))) (P_S_java_lang_StringUTF16_LO_BYTE_SHIFT : Sta Z h0 "java/lang/StringUTF16" "LO_BYTE_SHIFT" "I" (.int (8 : Int32))) :
    MetFree l (⟨"java/lang/StringUTF16", "putChar", "([BII)V"⟩ : MethodName) (head1 (Jvm.Cond.code (⟨"java/lang/StringUTF16", "putChar", "([BII)V"⟩ : MethodName) jdk_52_method_4_code 3 none :: ws) R_own_put2_0) (fun a U => a = #[(.ref a1), (.int (0 : Int32)), (.int p3)] ∧ Z.Warmed39 U.vm ∧ U.heap = h0) (fun _ _ _ _ _ => True) (fun _ U o U' => ∃ v L, o = .returned v ∧ Q_own_put2_0 Z a1 k1 p3 u0 u1 u2 u3 h0 n0 v U'.heap L ∧ FrameEnd U o U' L R_own_put2_0.cells R_own_put2_0.slots) := by
  refine MetFree.of_bodySF (plainFor_of_name own_pn0) hisR ?_
  intro p e s m args below meth c s₁ Bd hml0 hP hK
  obtain ⟨rfl, hZ, hh⟩ := hP
  have hx := Bd.exec
  have hby := Bd.bytes
  have hml : c.maxLocals = 3 := hml0
  have hown : s.vm.findClass "java/lang/StringUTF16" = some m.cls := findClass_of_methodNamed Bd.named
  have hnm := (name_of_methodNamed Bd.named Bd.method).1
  have X0 : Stand p l e R_own_put2_0 s m #[(.ref a1), (.int (0 : Int32)), (.int p3)] below meth c s₁ [] 0 0 := Stand.of_body Bd
  have e0 : s₁.heap = h0 := by rw [← hh, Bd.state]; rfl
  have N0 := Fr.nil n0
  have K0 : Keep h0 h0 [a1] := Keep.refl h0 [a1]
  show own_Fin p e below s (Q_own_put2_0 Z a1 k1 p3 u0 u1 u2 u3 h0 n0) R_own_put2_0.cells R_own_put2_0.slots (s₁.setTop (entryFrame m #[(.ref a1), (.int (0 : Int32)), (.int p3)] 3))
  refine own_go (fun _ k => castTop (ef_own_put2_0 m a1 p3) k) ?_
  show own_Fin _ _ _ _ _ _ _ (s₁.setTop (mkF m 0 #[.val (.ref a1), .val (.int (0 : Int32)), .val (.int p3)] []))
  obtain ⟨T1, X1, e1, st1⟩ := getS2 X0 hx hZ hown (host := "") (Or.inl (own_w hw 81 rfl)) Via.refl e0 P_S_java_lang_StringUTF16__assertionsDisabled (g := (mkF m 0 #[.val (.ref a1), .val (.int (0 : Int32)), .val (.int p3)] [])) rfl (hb hby d18_0)
  refine own_go (B := T1.setTop (mkF m 3 #[.val (.ref a1), .val (.int (0 : Int32)), .val (.int p3)] [(.int (1 : Int32))])) st1 ?_
  have hc2 : ¬ ((1 : Int32) = (0 : Int32)) := by decide
  refine own_go (B := T1.setTop (mkF m 31 #[.val (.ref a1), .val (.int (0 : Int32)), .val (.int p3)] [(.int ((0 : Int32) <<< ((1 : Int32) &&& 31)))])) (fun _ k => XS.ifYes X1.here hx rfl (pc0 := 3) (pc' := 28) rfl (hb hby d18_3) rfl ((if0 _ _).trans (feq hc2).2) (by decide) (by decide) (XS.iloadN X1.here hx rfl (hb hby d18_28) rfl  (XS.iconst X1.here hx rfl (hb hby d18_29) (XS.ishl X1.here hx rfl (hb hby d18_30) rfl k)))) ?_
  rw [show ((0 : Int32) <<< ((1 : Int32) &&& 31)) = (0 : Int32) from by decide]
  show own_Fin _ _ _ _ _ _ _ (T1.setTop (mkF m 31 #[.val (.ref a1), .val (.int (0 : Int32)), .val (.int p3)] [(.int (0 : Int32))]))
  refine own_go (B := T1.setTop (mkF m 37 #[.val (.ref a1), .val (.int ((0 : Int32) + (1 : Int32))), .val (.int p3)] [(.int (0 : Int32)), (.ref a1)])) (fun _ k => XS.istoreN X1.here hx rfl (hb hby d18_31) rfl (l' := #[.val (.ref a1), .val (.int (0 : Int32)), .val (.int p3)]) rfl (XS.aloadN X1.here hx rfl (hb hby d18_32) rfl rfl (XS.iloadN X1.here hx rfl (hb hby d18_33) rfl  (XS.iinc X1.here hx rfl (hb hby d18_34) rfl (l' := #[.val (.ref a1), .val (.int ((0 : Int32) + (1 : Int32))), .val (.int p3)]) rfl k)))) ?_
  rw [show ((0 : Int32) + (1 : Int32)) = (1 : Int32) from by decide]
  show own_Fin _ _ _ _ _ _ _ (T1.setTop (mkF m 37 #[.val (.ref a1), .val (.int (1 : Int32)), .val (.int p3)] [(.int (0 : Int32)), (.ref a1)]))
  refine own_go (B := T1.setTop (mkF m 38 #[.val (.ref a1), .val (.int (1 : Int32)), .val (.int p3)] [(.int p3), (.int (0 : Int32)), (.ref a1)])) (fun _ k => XS.iloadN X1.here hx rfl (hb hby d18_37) rfl  k) ?_
  obtain ⟨T3, X3, e3, st3⟩ := getS2 X1 hx hZ hown (host := "") (Or.inl (own_w hw 82 rfl)) Via.refl e1 P_S_java_lang_StringUTF16_HI_BYTE_SHIFT (g := (mkF m 38 #[.val (.ref a1), .val (.int (1 : Int32)), .val (.int p3)] [(.int p3), (.int (0 : Int32)), (.ref a1)])) rfl (hb hby d18_38)
  refine own_go (B := T3.setTop (mkF m 41 #[.val (.ref a1), .val (.int (1 : Int32)), .val (.int p3)] [(.int (0 : Int32)), (.int p3), (.int (0 : Int32)), (.ref a1)])) st3 ?_
  refine own_go (B := T3.setTop (mkF m 43 #[.val (.ref a1), .val (.int (1 : Int32)), .val (.int p3)] [(.int ((p3 >>> ((0 : Int32) &&& 31)).toInt8.toInt32)), (.int (0 : Int32)), (.ref a1)])) (fun _ k => XS.ishr X3.here hx rfl (hb hby d18_41) rfl (XS.i2b X3.here hx rfl (hb hby d18_42) rfl k)) ?_
  obtain ⟨cl4, Ar4, q4, S4, N4n, H4, G4⟩ := id P_V_a1
  have hin5 : ¬ ((0 : Int32) < 0 ∨ cl4.slots.size ≤ ((0 : Int32)).toNatClampNeg) := inb_of S4 ⟨by decide, by decide⟩
  obtain ⟨T5, h5, X5, e5, W5, st5⟩ := stB X3 hx hZ e3 Ar4 (j := (0 : Int32)) hin5 (g := (mkF m 43 #[.val (.ref a1), .val (.int (1 : Int32)), .val (.int p3)] [(.int ((p3 >>> ((0 : Int32) &&& 31)).toInt8.toInt32)), (.int (0 : Int32)), (.ref a1)])) rfl rfl (hb hby d18_43)
  rw [own_narb] at W5
  have V_a1_5 : Arv Z h5 a1 k1 .byte (4 : Int32) [(.int ((p3 >>> ((0 : Int32) &&& 31)).toInt8.toInt32)), (.int u1), (.int u2), (.int u3)] (.int (0 : Int32)) := Arv.set Ar4 q4 S4 N4n H4 G4 (fits_nar_byte _) W5 0 rfl (Nat.le_of_ble_eq_true rfl)
  have S_8 := P_S_java_lang_StringUTF16__assertionsDisabled.wr W5
  have S_9 := P_S_java_lang_StringUTF16_HI_BYTE_SHIFT.wr W5
  have S_10 := P_S_java_lang_StringUTF16_LO_BYTE_SHIFT.wr W5
  have K11 : Keep h0 h5 [a1] := K0.wr W5 (Or.inl (List.mem_of_getElem? (i := 0) rfl))
  have N5 := Fr.snoc X5 N0 g_a1
  refine own_go (B := T5.setTop (mkF m 44 #[.val (.ref a1), .val (.int (1 : Int32)), .val (.int p3)] [])) st5 ?_
  refine own_go (B := T5.setTop (mkF m 47 #[.val (.ref a1), .val (.int (1 : Int32)), .val (.int p3)] [(.int p3), (.int (1 : Int32)), (.ref a1)])) (fun _ k => XS.aloadN X5.here hx rfl (hb hby d18_44) rfl rfl (XS.iloadN X5.here hx rfl (hb hby d18_45) rfl  (XS.iloadN X5.here hx rfl (hb hby d18_46) rfl  k))) ?_
  obtain ⟨T12, X12, e12, st12⟩ := getS2 X5 hx hZ hown (host := "") (Or.inl (own_w hw 83 rfl)) Via.refl e5 S_10 (g := (mkF m 47 #[.val (.ref a1), .val (.int (1 : Int32)), .val (.int p3)] [(.int p3), (.int (1 : Int32)), (.ref a1)])) rfl (hb hby d18_47)
  refine own_go (B := T12.setTop (mkF m 50 #[.val (.ref a1), .val (.int (1 : Int32)), .val (.int p3)] [(.int (8 : Int32)), (.int p3), (.int (1 : Int32)), (.ref a1)])) st12 ?_
  refine own_go (B := T12.setTop (mkF m 52 #[.val (.ref a1), .val (.int (1 : Int32)), .val (.int p3)] [(.int ((p3 >>> ((8 : Int32) &&& 31)).toInt8.toInt32)), (.int (1 : Int32)), (.ref a1)])) (fun _ k => XS.ishr X12.here hx rfl (hb hby d18_50) rfl (XS.i2b X12.here hx rfl (hb hby d18_51) rfl k)) ?_
  obtain ⟨cl13, Ar13, q13, S13, N13n, H13, G13⟩ := id V_a1_5
  have hin14 : ¬ ((1 : Int32) < 0 ∨ cl13.slots.size ≤ ((1 : Int32)).toNatClampNeg) := inb_of S13 ⟨by decide, by decide⟩
  obtain ⟨T14, h14, X14, e14, W14, st14⟩ := stB X12 hx hZ e12 Ar13 (j := (1 : Int32)) hin14 (g := (mkF m 52 #[.val (.ref a1), .val (.int (1 : Int32)), .val (.int p3)] [(.int ((p3 >>> ((8 : Int32) &&& 31)).toInt8.toInt32)), (.int (1 : Int32)), (.ref a1)])) rfl rfl (hb hby d18_52)
  rw [own_narb] at W14
  have V_a1_14 : Arv Z h14 a1 k1 .byte (4 : Int32) [(.int ((p3 >>> ((0 : Int32) &&& 31)).toInt8.toInt32)), (.int ((p3 >>> ((8 : Int32) &&& 31)).toInt8.toInt32)), (.int u2), (.int u3)] (.int (0 : Int32)) := Arv.set Ar13 q13 S13 N13n H13 G13 (fits_nar_byte _) W14 1 rfl (Nat.le_of_ble_eq_true rfl)
  have S_16 := S_8.wr W14
  have S_17 := S_9.wr W14
  have S_18 := S_10.wr W14
  have K20 : Keep h0 h14 [a1] := K11.wr W14 (Or.inl (List.mem_of_getElem? (i := 0) rfl))
  have N14 := Fr.snoc X14 N5 g_a1
  refine own_go (B := T14.setTop (mkF m 53 #[.val (.ref a1), .val (.int (1 : Int32)), .val (.int p3)] [])) st14 ?_
  exact own_retV X14 hx Bd.notSynchronized Bd.returns (hb hby d18_53) e14 ⟨rfl, N14, K20, V_a1_14⟩ (by decide) (by decide)
abbrev R_own_get2_0 : Room := { frames := 0, cells := 0, slots := 0, locals := 0 }
theorem ef_own_get2_0 (m : MethodId) (x0 : Addr) : entryFrame m #[(.ref x0), (.int (0 : Int32))] 2 = mkF m 0 #[.val (.ref x0), .val (.int (0 : Int32))] [] := by first | (simp [entryFrame, mkF, argsToLocals, Value.category]; done) | rfl
def Q_own_get2_0 (Z : State) (a1 : Addr) (k1 : ClassId) (u0 : Int32) (u1 : Int32) (u2 : Int32) (u3 : Int32) (h0 : Heap) (n0 : Nat) (v : Option Value) (h : Heap) (L : List Loc) : Prop := v = some (.int ((((u0 &&& (255 : Int32)) <<< ((0 : Int32) &&& 31)) ||| ((u1 &&& (255 : Int32)) <<< ((8 : Int32) &&& 31))).toUInt32.toUInt16.toUInt32.toInt32)) ∧ Fr n0 L ∧ h = h0
set_option maxRecDepth 65536 in
set_option maxHeartbeats 400000000 in
theorem own_get2_0 (l : Launch) (Z : State) (a0 : Array Value) (hw : ∀ d ∈ tables_1, d.before a0 Z = true) (ws : List Jvm.Cond) (a1 : Addr) (k1 : ClassId) (u0 : Int32) (u1 : Int32) (u2 : Int32) (u3 : Int32) (h0 : Heap) (n0 : Nat) (Z0 : n0 ≤ h0.size) (P_V_a1 : Arv Z h0 a1 k1 .byte (4 : Int32) [(.int u0), (.int u1), (.int u2), (.int u3)] (.int (0 : Int32))) (P_S_java_lang_StringUTF16__assertionsDisabled : Sta Z h0 "java/lang/StringUTF16" "$assertionsDisabled" "Z" (.int (1 : Int32))) (P_S_java_lang_StringUTF16_HI_BYTE_SHIFT : Sta Z h0 "java/lang/StringUTF16" "HI_BYTE_SHIFT" "I" (.int (0 : Int32))) (P_S_java_lang_StringUTF16_LO_BYTE_SHIFT : Sta Z h0 "java/lang/StringUTF16" "LO_BYTE_SHIFT" "I" (.int (8 : Int32))) :
    MetFree l (⟨"java/lang/StringUTF16", "getChar", "([BI)C"⟩ : MethodName) (head1 (Jvm.Cond.code (⟨"java/lang/StringUTF16", "getChar", "([BI)C"⟩ : MethodName) jdk_52_method_5_code 2 (some .char) :: ws) R_own_get2_0) (fun a U => a = #[(.ref a1), (.int (0 : Int32))] ∧ Z.Warmed39 U.vm ∧ U.heap = h0) (fun _ _ _ _ _ => True) (fun _ U o U' => ∃ v L, o = .returned v ∧ Q_own_get2_0 Z a1 k1 u0 u1 u2 u3 h0 n0 v U'.heap L ∧ FrameEnd U o U' L R_own_get2_0.cells R_own_get2_0.slots) := by
  refine MetFree.of_bodySF (plainFor_of_name own_pn0) hisR ?_
  intro p e s m args below meth c s₁ Bd hml0 hP hK
  obtain ⟨rfl, hZ, hh⟩ := hP
  have hx := Bd.exec
  have hby := Bd.bytes
  have hml : c.maxLocals = 2 := hml0
  have hown : s.vm.findClass "java/lang/StringUTF16" = some m.cls := findClass_of_methodNamed Bd.named
  have hnm := (name_of_methodNamed Bd.named Bd.method).1
  have X0 : Stand p l e R_own_get2_0 s m #[(.ref a1), (.int (0 : Int32))] below meth c s₁ [] 0 0 := Stand.of_body Bd
  have e0 : s₁.heap = h0 := by rw [← hh, Bd.state]; rfl
  have N0 := Fr.nil n0
  have K0 : Keep h0 h0 [] := Keep.refl h0 []
  show own_Fin p e below s (Q_own_get2_0 Z a1 k1 u0 u1 u2 u3 h0 n0) R_own_get2_0.cells R_own_get2_0.slots (s₁.setTop (entryFrame m #[(.ref a1), (.int (0 : Int32))] 2))
  refine own_go (fun _ k => castTop (ef_own_get2_0 m a1) k) ?_
  show own_Fin _ _ _ _ _ _ _ (s₁.setTop (mkF m 0 #[.val (.ref a1), .val (.int (0 : Int32))] []))
  obtain ⟨T1, X1, e1, st1⟩ := getS2 X0 hx hZ hown (host := "") (Or.inl (own_w hw 81 rfl)) Via.refl e0 P_S_java_lang_StringUTF16__assertionsDisabled (g := (mkF m 0 #[.val (.ref a1), .val (.int (0 : Int32))] [])) rfl (hb hby d19_0)
  refine own_go (B := T1.setTop (mkF m 3 #[.val (.ref a1), .val (.int (0 : Int32))] [(.int (1 : Int32))])) st1 ?_
  have hc2 : ¬ ((1 : Int32) = (0 : Int32)) := by decide
  refine own_go (B := T1.setTop (mkF m 31 #[.val (.ref a1), .val (.int (0 : Int32))] [(.int ((0 : Int32) <<< ((1 : Int32) &&& 31)))])) (fun _ k => XS.ifYes X1.here hx rfl (pc0 := 3) (pc' := 28) rfl (hb hby d19_3) rfl ((if0 _ _).trans (feq hc2).2) (by decide) (by decide) (XS.iloadN X1.here hx rfl (hb hby d19_28) rfl  (XS.iconst X1.here hx rfl (hb hby d19_29) (XS.ishl X1.here hx rfl (hb hby d19_30) rfl k)))) ?_
  rw [show ((0 : Int32) <<< ((1 : Int32) &&& 31)) = (0 : Int32) from by decide]
  show own_Fin _ _ _ _ _ _ _ (T1.setTop (mkF m 31 #[.val (.ref a1), .val (.int (0 : Int32))] [(.int (0 : Int32))]))
  refine own_go (B := T1.setTop (mkF m 37 #[.val (.ref a1), .val (.int ((0 : Int32) + (1 : Int32)))] [(.int (0 : Int32)), (.ref a1)])) (fun _ k => XS.istoreN X1.here hx rfl (hb hby d19_31) rfl (l' := #[.val (.ref a1), .val (.int (0 : Int32))]) rfl (XS.aloadN X1.here hx rfl (hb hby d19_32) rfl rfl (XS.iloadN X1.here hx rfl (hb hby d19_33) rfl  (XS.iinc X1.here hx rfl (hb hby d19_34) rfl (l' := #[.val (.ref a1), .val (.int ((0 : Int32) + (1 : Int32)))]) rfl k)))) ?_
  rw [show ((0 : Int32) + (1 : Int32)) = (1 : Int32) from by decide]
  show own_Fin _ _ _ _ _ _ _ (T1.setTop (mkF m 37 #[.val (.ref a1), .val (.int (1 : Int32))] [(.int (0 : Int32)), (.ref a1)]))
  obtain ⟨cl3, Ar3, q3, S3, N3n, H3, G3⟩ := id P_V_a1
  have hin4 : ¬ ((0 : Int32) < 0 ∨ cl3.slots.size ≤ ((0 : Int32)).toNatClampNeg) := inb_of S3 ⟨by decide, by decide⟩
  have hat4 : cl3.slots[((0 : Int32)).toNatClampNeg]? = some (.int u0) := H3.at hin4 rfl
  refine own_go (B := T1.setTop (mkF m 42 #[.val (.ref a1), .val (.int (1 : Int32))] [(.int (u0 &&& (255 : Int32)))])) (fun _ k => X1.baloadBytes hx (j := (0 : Int32)) (v := (.int u0)) (own_hc e1 Ar3.1) (State.isArrayOf_alike hZ.alike Ar3.2.1) Ar3.2.2 hin4 hat4 (g := (mkF m 37 #[.val (.ref a1), .val (.int (1 : Int32))] [(.int (0 : Int32)), (.ref a1)])) rfl rfl (hb hby d19_37) _ (XS.sipush X1.here hx rfl (hb hby d19_38) (XS.iand X1.here hx rfl (hb hby d19_41) rfl k))) ?_
  obtain ⟨T5, X5, e5, st5⟩ := getS2 X1 hx hZ hown (host := "") (Or.inl (own_w hw 82 rfl)) Via.refl e1 P_S_java_lang_StringUTF16_HI_BYTE_SHIFT (g := (mkF m 42 #[.val (.ref a1), .val (.int (1 : Int32))] [(.int (u0 &&& (255 : Int32)))])) rfl (hb hby d19_42)
  refine own_go (B := T5.setTop (mkF m 45 #[.val (.ref a1), .val (.int (1 : Int32))] [(.int (0 : Int32)), (.int (u0 &&& (255 : Int32)))])) st5 ?_
  refine own_go (B := T5.setTop (mkF m 48 #[.val (.ref a1), .val (.int (1 : Int32))] [(.int (1 : Int32)), (.ref a1), (.int ((u0 &&& (255 : Int32)) <<< ((0 : Int32) &&& 31)))])) (fun _ k => XS.ishl X5.here hx rfl (hb hby d19_45) rfl (XS.aloadN X5.here hx rfl (hb hby d19_46) rfl rfl (XS.iloadN X5.here hx rfl (hb hby d19_47) rfl  k))) ?_
  obtain ⟨cl6, Ar6, q6, S6, N6n, H6, G6⟩ := id P_V_a1
  have hin7 : ¬ ((1 : Int32) < 0 ∨ cl6.slots.size ≤ ((1 : Int32)).toNatClampNeg) := inb_of S6 ⟨by decide, by decide⟩
  have hat7 : cl6.slots[((1 : Int32)).toNatClampNeg]? = some (.int u1) := H6.at hin7 rfl
  refine own_go (B := T5.setTop (mkF m 53 #[.val (.ref a1), .val (.int (1 : Int32))] [(.int (u1 &&& (255 : Int32))), (.int ((u0 &&& (255 : Int32)) <<< ((0 : Int32) &&& 31)))])) (fun _ k => X5.baloadBytes hx (j := (1 : Int32)) (v := (.int u1)) (own_hc e5 Ar6.1) (State.isArrayOf_alike hZ.alike Ar6.2.1) Ar6.2.2 hin7 hat7 (g := (mkF m 48 #[.val (.ref a1), .val (.int (1 : Int32))] [(.int (1 : Int32)), (.ref a1), (.int ((u0 &&& (255 : Int32)) <<< ((0 : Int32) &&& 31)))])) rfl rfl (hb hby d19_48) _ (XS.sipush X5.here hx rfl (hb hby d19_49) (XS.iand X5.here hx rfl (hb hby d19_52) rfl k))) ?_
  obtain ⟨T8, X8, e8, st8⟩ := getS2 X5 hx hZ hown (host := "") (Or.inl (own_w hw 83 rfl)) Via.refl e5 P_S_java_lang_StringUTF16_LO_BYTE_SHIFT (g := (mkF m 53 #[.val (.ref a1), .val (.int (1 : Int32))] [(.int (u1 &&& (255 : Int32))), (.int ((u0 &&& (255 : Int32)) <<< ((0 : Int32) &&& 31)))])) rfl (hb hby d19_53)
  refine own_go (B := T8.setTop (mkF m 56 #[.val (.ref a1), .val (.int (1 : Int32))] [(.int (8 : Int32)), (.int (u1 &&& (255 : Int32))), (.int ((u0 &&& (255 : Int32)) <<< ((0 : Int32) &&& 31)))])) st8 ?_
  refine own_go (B := T8.setTop (mkF m 59 #[.val (.ref a1), .val (.int (1 : Int32))] [(.int ((((u0 &&& (255 : Int32)) <<< ((0 : Int32) &&& 31)) ||| ((u1 &&& (255 : Int32)) <<< ((8 : Int32) &&& 31))).toUInt32.toUInt16.toUInt32.toInt32))])) (fun _ k => XS.ishl X8.here hx rfl (hb hby d19_56) rfl (XS.ior X8.here hx rfl (hb hby d19_57) rfl (XS.i2c X8.here hx rfl (hb hby d19_58) rfl k))) ?_
  exact own_retN X8 hx Bd.notSynchronized (t := .char) (w := ((((u0 &&& (255 : Int32)) <<< ((0 : Int32) &&& 31)) ||| ((u1 &&& (255 : Int32)) <<< ((8 : Int32) &&& 31))).toUInt32.toUInt16.toUInt32.toInt32)) Bd.returns (by simp) (hb hby d19_59) e8 (own_narc _) ⟨rfl, N0, rfl⟩ (by decide) (by decide)
abbrev R_own_put2_1 : Room := { frames := 0, cells := 0, slots := 0, locals := 0 }
theorem ef_own_put2_1 (m : MethodId) (x0 : Addr) (x2 : Int32) : entryFrame m #[(.ref x0), (.int (1 : Int32)), (.int x2)] 3 = mkF m 0 #[.val (.ref x0), .val (.int (1 : Int32)), .val (.int x2)] [] := by first | (simp [entryFrame, mkF, argsToLocals, Value.category]; done) | rfl
def Q_own_put2_1 (Z : State) (a1 : Addr) (k1 : ClassId) (p3 : Int32) (u0 : Int32) (u1 : Int32) (u2 : Int32) (u3 : Int32) (h0 : Heap) (n0 : Nat) (v : Option Value) (h : Heap) (L : List Loc) : Prop := v = none ∧ Fr n0 L ∧ Keep h0 h [a1] ∧ Arv Z h a1 k1 .byte (4 : Int32) [(.int u0), (.int u1), (.int ((p3 >>> ((0 : Int32) &&& 31)).toInt8.toInt32)), (.int ((p3 >>> ((8 : Int32) &&& 31)).toInt8.toInt32))] (.int (0 : Int32))
set_option maxRecDepth 65536 in
set_option maxHeartbeats 400000000 in
theorem own_put2_1 (l : Launch) (Z : State) (a0 : Array Value) (hw : ∀ d ∈ tables_1, d.before a0 Z = true) (ws : List Jvm.Cond) (a1 : Addr) (k1 : ClassId) (p3 : Int32) (u0 : Int32) (u1 : Int32) (u2 : Int32) (u3 : Int32) (h0 : Heap) (n0 : Nat) (Z0 : n0 ≤ h0.size) (P_V_a1 : Arv Z h0 a1 k1 .byte (4 : Int32) [(.int u0), (.int u1), (.int u2), (.int u3)] (.int (0 : Int32))) (g_a1 : n0 ≤ a1) (P_S_java_lang_StringUTF16__assertionsDisabled : Sta Z h0 "java/lang/StringUTF16" "$assertionsDisabled" "Z" (.int (1 : Int32))) (P_S_java_lang_StringUTF16_HI_BYTE_SHIFT : Sta Z h0 "java/lang/StringUTF16" "HI_BYTE_SHIFT" "I" (.int (0 : Int32))) (P_S_java_lang_StringUTF16_LO_BYTE_SHIFT : Sta Z h0 "java/lang/StringUTF16" "LO_BYTE_SHIFT" "I" (.int (8 : Int32))) :
    MetFree l (⟨"java/lang/StringUTF16", "putChar", "([BII)V"⟩ : MethodName) (head1 (Jvm.Cond.code (⟨"java/lang/StringUTF16", "putChar", "([BII)V"⟩ : MethodName) jdk_52_method_4_code 3 none :: ws) R_own_put2_1) (fun a U => a = #[(.ref a1), (.int (1 : Int32)), (.int p3)] ∧ Z.Warmed39 U.vm ∧ U.heap = h0) (fun _ _ _ _ _ => True) (fun _ U o U' => ∃ v L, o = .returned v ∧ Q_own_put2_1 Z a1 k1 p3 u0 u1 u2 u3 h0 n0 v U'.heap L ∧ FrameEnd U o U' L R_own_put2_1.cells R_own_put2_1.slots) := by
  refine MetFree.of_bodySF (plainFor_of_name own_pn0) hisR ?_
  intro p e s m args below meth c s₁ Bd hml0 hP hK
  obtain ⟨rfl, hZ, hh⟩ := hP
  have hx := Bd.exec
  have hby := Bd.bytes
  have hml : c.maxLocals = 3 := hml0
  have hown : s.vm.findClass "java/lang/StringUTF16" = some m.cls := findClass_of_methodNamed Bd.named
  have hnm := (name_of_methodNamed Bd.named Bd.method).1
  have X0 : Stand p l e R_own_put2_1 s m #[(.ref a1), (.int (1 : Int32)), (.int p3)] below meth c s₁ [] 0 0 := Stand.of_body Bd
  have e0 : s₁.heap = h0 := by rw [← hh, Bd.state]; rfl
  have N0 := Fr.nil n0
  have K0 : Keep h0 h0 [a1] := Keep.refl h0 [a1]
  show own_Fin p e below s (Q_own_put2_1 Z a1 k1 p3 u0 u1 u2 u3 h0 n0) R_own_put2_1.cells R_own_put2_1.slots (s₁.setTop (entryFrame m #[(.ref a1), (.int (1 : Int32)), (.int p3)] 3))
  refine own_go (fun _ k => castTop (ef_own_put2_1 m a1 p3) k) ?_
  show own_Fin _ _ _ _ _ _ _ (s₁.setTop (mkF m 0 #[.val (.ref a1), .val (.int (1 : Int32)), .val (.int p3)] []))
  obtain ⟨T1, X1, e1, st1⟩ := getS2 X0 hx hZ hown (host := "") (Or.inl (own_w hw 81 rfl)) Via.refl e0 P_S_java_lang_StringUTF16__assertionsDisabled (g := (mkF m 0 #[.val (.ref a1), .val (.int (1 : Int32)), .val (.int p3)] [])) rfl (hb hby d18_0)
  refine own_go (B := T1.setTop (mkF m 3 #[.val (.ref a1), .val (.int (1 : Int32)), .val (.int p3)] [(.int (1 : Int32))])) st1 ?_
  have hc2 : ¬ ((1 : Int32) = (0 : Int32)) := by decide
  refine own_go (B := T1.setTop (mkF m 31 #[.val (.ref a1), .val (.int (1 : Int32)), .val (.int p3)] [(.int ((1 : Int32) <<< ((1 : Int32) &&& 31)))])) (fun _ k => XS.ifYes X1.here hx rfl (pc0 := 3) (pc' := 28) rfl (hb hby d18_3) rfl ((if0 _ _).trans (feq hc2).2) (by decide) (by decide) (XS.iloadN X1.here hx rfl (hb hby d18_28) rfl  (XS.iconst X1.here hx rfl (hb hby d18_29) (XS.ishl X1.here hx rfl (hb hby d18_30) rfl k)))) ?_
  rw [show ((1 : Int32) <<< ((1 : Int32) &&& 31)) = (2 : Int32) from by decide]
  show own_Fin _ _ _ _ _ _ _ (T1.setTop (mkF m 31 #[.val (.ref a1), .val (.int (1 : Int32)), .val (.int p3)] [(.int (2 : Int32))]))
  refine own_go (B := T1.setTop (mkF m 37 #[.val (.ref a1), .val (.int ((2 : Int32) + (1 : Int32))), .val (.int p3)] [(.int (2 : Int32)), (.ref a1)])) (fun _ k => XS.istoreN X1.here hx rfl (hb hby d18_31) rfl (l' := #[.val (.ref a1), .val (.int (2 : Int32)), .val (.int p3)]) rfl (XS.aloadN X1.here hx rfl (hb hby d18_32) rfl rfl (XS.iloadN X1.here hx rfl (hb hby d18_33) rfl  (XS.iinc X1.here hx rfl (hb hby d18_34) rfl (l' := #[.val (.ref a1), .val (.int ((2 : Int32) + (1 : Int32))), .val (.int p3)]) rfl k)))) ?_
  rw [show ((2 : Int32) + (1 : Int32)) = (3 : Int32) from by decide]
  show own_Fin _ _ _ _ _ _ _ (T1.setTop (mkF m 37 #[.val (.ref a1), .val (.int (3 : Int32)), .val (.int p3)] [(.int (2 : Int32)), (.ref a1)]))
  refine own_go (B := T1.setTop (mkF m 38 #[.val (.ref a1), .val (.int (3 : Int32)), .val (.int p3)] [(.int p3), (.int (2 : Int32)), (.ref a1)])) (fun _ k => XS.iloadN X1.here hx rfl (hb hby d18_37) rfl  k) ?_
  obtain ⟨T3, X3, e3, st3⟩ := getS2 X1 hx hZ hown (host := "") (Or.inl (own_w hw 82 rfl)) Via.refl e1 P_S_java_lang_StringUTF16_HI_BYTE_SHIFT (g := (mkF m 38 #[.val (.ref a1), .val (.int (3 : Int32)), .val (.int p3)] [(.int p3), (.int (2 : Int32)), (.ref a1)])) rfl (hb hby d18_38)
  refine own_go (B := T3.setTop (mkF m 41 #[.val (.ref a1), .val (.int (3 : Int32)), .val (.int p3)] [(.int (0 : Int32)), (.int p3), (.int (2 : Int32)), (.ref a1)])) st3 ?_
  refine own_go (B := T3.setTop (mkF m 43 #[.val (.ref a1), .val (.int (3 : Int32)), .val (.int p3)] [(.int ((p3 >>> ((0 : Int32) &&& 31)).toInt8.toInt32)), (.int (2 : Int32)), (.ref a1)])) (fun _ k => XS.ishr X3.here hx rfl (hb hby d18_41) rfl (XS.i2b X3.here hx rfl (hb hby d18_42) rfl k)) ?_
  obtain ⟨cl4, Ar4, q4, S4, N4n, H4, G4⟩ := id P_V_a1
  have hin5 : ¬ ((2 : Int32) < 0 ∨ cl4.slots.size ≤ ((2 : Int32)).toNatClampNeg) := inb_of S4 ⟨by decide, by decide⟩
  obtain ⟨T5, h5, X5, e5, W5, st5⟩ := stB X3 hx hZ e3 Ar4 (j := (2 : Int32)) hin5 (g := (mkF m 43 #[.val (.ref a1), .val (.int (3 : Int32)), .val (.int p3)] [(.int ((p3 >>> ((0 : Int32) &&& 31)).toInt8.toInt32)), (.int (2 : Int32)), (.ref a1)])) rfl rfl (hb hby d18_43)
  rw [own_narb] at W5
  have V_a1_5 : Arv Z h5 a1 k1 .byte (4 : Int32) [(.int u0), (.int u1), (.int ((p3 >>> ((0 : Int32) &&& 31)).toInt8.toInt32)), (.int u3)] (.int (0 : Int32)) := Arv.set Ar4 q4 S4 N4n H4 G4 (fits_nar_byte _) W5 2 rfl (Nat.le_of_ble_eq_true rfl)
  have S_8 := P_S_java_lang_StringUTF16__assertionsDisabled.wr W5
  have S_9 := P_S_java_lang_StringUTF16_HI_BYTE_SHIFT.wr W5
  have S_10 := P_S_java_lang_StringUTF16_LO_BYTE_SHIFT.wr W5
  have K11 : Keep h0 h5 [a1] := K0.wr W5 (Or.inl (List.mem_of_getElem? (i := 0) rfl))
  have N5 := Fr.snoc X5 N0 g_a1
  refine own_go (B := T5.setTop (mkF m 44 #[.val (.ref a1), .val (.int (3 : Int32)), .val (.int p3)] [])) st5 ?_
  refine own_go (B := T5.setTop (mkF m 47 #[.val (.ref a1), .val (.int (3 : Int32)), .val (.int p3)] [(.int p3), (.int (3 : Int32)), (.ref a1)])) (fun _ k => XS.aloadN X5.here hx rfl (hb hby d18_44) rfl rfl (XS.iloadN X5.here hx rfl (hb hby d18_45) rfl  (XS.iloadN X5.here hx rfl (hb hby d18_46) rfl  k))) ?_
  obtain ⟨T12, X12, e12, st12⟩ := getS2 X5 hx hZ hown (host := "") (Or.inl (own_w hw 83 rfl)) Via.refl e5 S_10 (g := (mkF m 47 #[.val (.ref a1), .val (.int (3 : Int32)), .val (.int p3)] [(.int p3), (.int (3 : Int32)), (.ref a1)])) rfl (hb hby d18_47)
  refine own_go (B := T12.setTop (mkF m 50 #[.val (.ref a1), .val (.int (3 : Int32)), .val (.int p3)] [(.int (8 : Int32)), (.int p3), (.int (3 : Int32)), (.ref a1)])) st12 ?_
  refine own_go (B := T12.setTop (mkF m 52 #[.val (.ref a1), .val (.int (3 : Int32)), .val (.int p3)] [(.int ((p3 >>> ((8 : Int32) &&& 31)).toInt8.toInt32)), (.int (3 : Int32)), (.ref a1)])) (fun _ k => XS.ishr X12.here hx rfl (hb hby d18_50) rfl (XS.i2b X12.here hx rfl (hb hby d18_51) rfl k)) ?_
  obtain ⟨cl13, Ar13, q13, S13, N13n, H13, G13⟩ := id V_a1_5
  have hin14 : ¬ ((3 : Int32) < 0 ∨ cl13.slots.size ≤ ((3 : Int32)).toNatClampNeg) := inb_of S13 ⟨by decide, by decide⟩
  obtain ⟨T14, h14, X14, e14, W14, st14⟩ := stB X12 hx hZ e12 Ar13 (j := (3 : Int32)) hin14 (g := (mkF m 52 #[.val (.ref a1), .val (.int (3 : Int32)), .val (.int p3)] [(.int ((p3 >>> ((8 : Int32) &&& 31)).toInt8.toInt32)), (.int (3 : Int32)), (.ref a1)])) rfl rfl (hb hby d18_52)
  rw [own_narb] at W14
  have V_a1_14 : Arv Z h14 a1 k1 .byte (4 : Int32) [(.int u0), (.int u1), (.int ((p3 >>> ((0 : Int32) &&& 31)).toInt8.toInt32)), (.int ((p3 >>> ((8 : Int32) &&& 31)).toInt8.toInt32))] (.int (0 : Int32)) := Arv.set Ar13 q13 S13 N13n H13 G13 (fits_nar_byte _) W14 3 rfl (Nat.le_of_ble_eq_true rfl)
  have S_16 := S_8.wr W14
  have S_17 := S_9.wr W14
  have S_18 := S_10.wr W14
  have K20 : Keep h0 h14 [a1] := K11.wr W14 (Or.inl (List.mem_of_getElem? (i := 0) rfl))
  have N14 := Fr.snoc X14 N5 g_a1
  refine own_go (B := T14.setTop (mkF m 53 #[.val (.ref a1), .val (.int (3 : Int32)), .val (.int p3)] [])) st14 ?_
  exact own_retV X14 hx Bd.notSynchronized Bd.returns (hb hby d18_53) e14 ⟨rfl, N14, K20, V_a1_14⟩ (by decide) (by decide)
abbrev R_own_get2_1 : Room := { frames := 0, cells := 0, slots := 0, locals := 0 }
theorem ef_own_get2_1 (m : MethodId) (x0 : Addr) : entryFrame m #[(.ref x0), (.int (1 : Int32))] 2 = mkF m 0 #[.val (.ref x0), .val (.int (1 : Int32))] [] := by first | (simp [entryFrame, mkF, argsToLocals, Value.category]; done) | rfl
def Q_own_get2_1 (Z : State) (a1 : Addr) (k1 : ClassId) (u0 : Int32) (u1 : Int32) (u2 : Int32) (u3 : Int32) (h0 : Heap) (n0 : Nat) (v : Option Value) (h : Heap) (L : List Loc) : Prop := v = some (.int ((((u2 &&& (255 : Int32)) <<< ((0 : Int32) &&& 31)) ||| ((u3 &&& (255 : Int32)) <<< ((8 : Int32) &&& 31))).toUInt32.toUInt16.toUInt32.toInt32)) ∧ Fr n0 L ∧ h = h0
set_option maxRecDepth 65536 in
set_option maxHeartbeats 400000000 in
theorem own_get2_1 (l : Launch) (Z : State) (a0 : Array Value) (hw : ∀ d ∈ tables_1, d.before a0 Z = true) (ws : List Jvm.Cond) (a1 : Addr) (k1 : ClassId) (u0 : Int32) (u1 : Int32) (u2 : Int32) (u3 : Int32) (h0 : Heap) (n0 : Nat) (Z0 : n0 ≤ h0.size) (P_V_a1 : Arv Z h0 a1 k1 .byte (4 : Int32) [(.int u0), (.int u1), (.int u2), (.int u3)] (.int (0 : Int32))) (P_S_java_lang_StringUTF16__assertionsDisabled : Sta Z h0 "java/lang/StringUTF16" "$assertionsDisabled" "Z" (.int (1 : Int32))) (P_S_java_lang_StringUTF16_HI_BYTE_SHIFT : Sta Z h0 "java/lang/StringUTF16" "HI_BYTE_SHIFT" "I" (.int (0 : Int32))) (P_S_java_lang_StringUTF16_LO_BYTE_SHIFT : Sta Z h0 "java/lang/StringUTF16" "LO_BYTE_SHIFT" "I" (.int (8 : Int32))) :
    MetFree l (⟨"java/lang/StringUTF16", "getChar", "([BI)C"⟩ : MethodName) (head1 (Jvm.Cond.code (⟨"java/lang/StringUTF16", "getChar", "([BI)C"⟩ : MethodName) jdk_52_method_5_code 2 (some .char) :: ws) R_own_get2_1) (fun a U => a = #[(.ref a1), (.int (1 : Int32))] ∧ Z.Warmed39 U.vm ∧ U.heap = h0) (fun _ _ _ _ _ => True) (fun _ U o U' => ∃ v L, o = .returned v ∧ Q_own_get2_1 Z a1 k1 u0 u1 u2 u3 h0 n0 v U'.heap L ∧ FrameEnd U o U' L R_own_get2_1.cells R_own_get2_1.slots) := by
  refine MetFree.of_bodySF (plainFor_of_name own_pn0) hisR ?_
  intro p e s m args below meth c s₁ Bd hml0 hP hK
  obtain ⟨rfl, hZ, hh⟩ := hP
  have hx := Bd.exec
  have hby := Bd.bytes
  have hml : c.maxLocals = 2 := hml0
  have hown : s.vm.findClass "java/lang/StringUTF16" = some m.cls := findClass_of_methodNamed Bd.named
  have hnm := (name_of_methodNamed Bd.named Bd.method).1
  have X0 : Stand p l e R_own_get2_1 s m #[(.ref a1), (.int (1 : Int32))] below meth c s₁ [] 0 0 := Stand.of_body Bd
  have e0 : s₁.heap = h0 := by rw [← hh, Bd.state]; rfl
  have N0 := Fr.nil n0
  have K0 : Keep h0 h0 [] := Keep.refl h0 []
  show own_Fin p e below s (Q_own_get2_1 Z a1 k1 u0 u1 u2 u3 h0 n0) R_own_get2_1.cells R_own_get2_1.slots (s₁.setTop (entryFrame m #[(.ref a1), (.int (1 : Int32))] 2))
  refine own_go (fun _ k => castTop (ef_own_get2_1 m a1) k) ?_
  show own_Fin _ _ _ _ _ _ _ (s₁.setTop (mkF m 0 #[.val (.ref a1), .val (.int (1 : Int32))] []))
  obtain ⟨T1, X1, e1, st1⟩ := getS2 X0 hx hZ hown (host := "") (Or.inl (own_w hw 81 rfl)) Via.refl e0 P_S_java_lang_StringUTF16__assertionsDisabled (g := (mkF m 0 #[.val (.ref a1), .val (.int (1 : Int32))] [])) rfl (hb hby d19_0)
  refine own_go (B := T1.setTop (mkF m 3 #[.val (.ref a1), .val (.int (1 : Int32))] [(.int (1 : Int32))])) st1 ?_
  have hc2 : ¬ ((1 : Int32) = (0 : Int32)) := by decide
  refine own_go (B := T1.setTop (mkF m 31 #[.val (.ref a1), .val (.int (1 : Int32))] [(.int ((1 : Int32) <<< ((1 : Int32) &&& 31)))])) (fun _ k => XS.ifYes X1.here hx rfl (pc0 := 3) (pc' := 28) rfl (hb hby d19_3) rfl ((if0 _ _).trans (feq hc2).2) (by decide) (by decide) (XS.iloadN X1.here hx rfl (hb hby d19_28) rfl  (XS.iconst X1.here hx rfl (hb hby d19_29) (XS.ishl X1.here hx rfl (hb hby d19_30) rfl k)))) ?_
  rw [show ((1 : Int32) <<< ((1 : Int32) &&& 31)) = (2 : Int32) from by decide]
  show own_Fin _ _ _ _ _ _ _ (T1.setTop (mkF m 31 #[.val (.ref a1), .val (.int (1 : Int32))] [(.int (2 : Int32))]))
  refine own_go (B := T1.setTop (mkF m 37 #[.val (.ref a1), .val (.int ((2 : Int32) + (1 : Int32)))] [(.int (2 : Int32)), (.ref a1)])) (fun _ k => XS.istoreN X1.here hx rfl (hb hby d19_31) rfl (l' := #[.val (.ref a1), .val (.int (2 : Int32))]) rfl (XS.aloadN X1.here hx rfl (hb hby d19_32) rfl rfl (XS.iloadN X1.here hx rfl (hb hby d19_33) rfl  (XS.iinc X1.here hx rfl (hb hby d19_34) rfl (l' := #[.val (.ref a1), .val (.int ((2 : Int32) + (1 : Int32)))]) rfl k)))) ?_
  rw [show ((2 : Int32) + (1 : Int32)) = (3 : Int32) from by decide]
  show own_Fin _ _ _ _ _ _ _ (T1.setTop (mkF m 37 #[.val (.ref a1), .val (.int (3 : Int32))] [(.int (2 : Int32)), (.ref a1)]))
  obtain ⟨cl3, Ar3, q3, S3, N3n, H3, G3⟩ := id P_V_a1
  have hin4 : ¬ ((2 : Int32) < 0 ∨ cl3.slots.size ≤ ((2 : Int32)).toNatClampNeg) := inb_of S3 ⟨by decide, by decide⟩
  have hat4 : cl3.slots[((2 : Int32)).toNatClampNeg]? = some (.int u2) := H3.at hin4 rfl
  refine own_go (B := T1.setTop (mkF m 42 #[.val (.ref a1), .val (.int (3 : Int32))] [(.int (u2 &&& (255 : Int32)))])) (fun _ k => X1.baloadBytes hx (j := (2 : Int32)) (v := (.int u2)) (own_hc e1 Ar3.1) (State.isArrayOf_alike hZ.alike Ar3.2.1) Ar3.2.2 hin4 hat4 (g := (mkF m 37 #[.val (.ref a1), .val (.int (3 : Int32))] [(.int (2 : Int32)), (.ref a1)])) rfl rfl (hb hby d19_37) _ (XS.sipush X1.here hx rfl (hb hby d19_38) (XS.iand X1.here hx rfl (hb hby d19_41) rfl k))) ?_
  obtain ⟨T5, X5, e5, st5⟩ := getS2 X1 hx hZ hown (host := "") (Or.inl (own_w hw 82 rfl)) Via.refl e1 P_S_java_lang_StringUTF16_HI_BYTE_SHIFT (g := (mkF m 42 #[.val (.ref a1), .val (.int (3 : Int32))] [(.int (u2 &&& (255 : Int32)))])) rfl (hb hby d19_42)
  refine own_go (B := T5.setTop (mkF m 45 #[.val (.ref a1), .val (.int (3 : Int32))] [(.int (0 : Int32)), (.int (u2 &&& (255 : Int32)))])) st5 ?_
  refine own_go (B := T5.setTop (mkF m 48 #[.val (.ref a1), .val (.int (3 : Int32))] [(.int (3 : Int32)), (.ref a1), (.int ((u2 &&& (255 : Int32)) <<< ((0 : Int32) &&& 31)))])) (fun _ k => XS.ishl X5.here hx rfl (hb hby d19_45) rfl (XS.aloadN X5.here hx rfl (hb hby d19_46) rfl rfl (XS.iloadN X5.here hx rfl (hb hby d19_47) rfl  k))) ?_
  obtain ⟨cl6, Ar6, q6, S6, N6n, H6, G6⟩ := id P_V_a1
  have hin7 : ¬ ((3 : Int32) < 0 ∨ cl6.slots.size ≤ ((3 : Int32)).toNatClampNeg) := inb_of S6 ⟨by decide, by decide⟩
  have hat7 : cl6.slots[((3 : Int32)).toNatClampNeg]? = some (.int u3) := H6.at hin7 rfl
  refine own_go (B := T5.setTop (mkF m 53 #[.val (.ref a1), .val (.int (3 : Int32))] [(.int (u3 &&& (255 : Int32))), (.int ((u2 &&& (255 : Int32)) <<< ((0 : Int32) &&& 31)))])) (fun _ k => X5.baloadBytes hx (j := (3 : Int32)) (v := (.int u3)) (own_hc e5 Ar6.1) (State.isArrayOf_alike hZ.alike Ar6.2.1) Ar6.2.2 hin7 hat7 (g := (mkF m 48 #[.val (.ref a1), .val (.int (3 : Int32))] [(.int (3 : Int32)), (.ref a1), (.int ((u2 &&& (255 : Int32)) <<< ((0 : Int32) &&& 31)))])) rfl rfl (hb hby d19_48) _ (XS.sipush X5.here hx rfl (hb hby d19_49) (XS.iand X5.here hx rfl (hb hby d19_52) rfl k))) ?_
  obtain ⟨T8, X8, e8, st8⟩ := getS2 X5 hx hZ hown (host := "") (Or.inl (own_w hw 83 rfl)) Via.refl e5 P_S_java_lang_StringUTF16_LO_BYTE_SHIFT (g := (mkF m 53 #[.val (.ref a1), .val (.int (3 : Int32))] [(.int (u3 &&& (255 : Int32))), (.int ((u2 &&& (255 : Int32)) <<< ((0 : Int32) &&& 31)))])) rfl (hb hby d19_53)
  refine own_go (B := T8.setTop (mkF m 56 #[.val (.ref a1), .val (.int (3 : Int32))] [(.int (8 : Int32)), (.int (u3 &&& (255 : Int32))), (.int ((u2 &&& (255 : Int32)) <<< ((0 : Int32) &&& 31)))])) st8 ?_
  refine own_go (B := T8.setTop (mkF m 59 #[.val (.ref a1), .val (.int (3 : Int32))] [(.int ((((u2 &&& (255 : Int32)) <<< ((0 : Int32) &&& 31)) ||| ((u3 &&& (255 : Int32)) <<< ((8 : Int32) &&& 31))).toUInt32.toUInt16.toUInt32.toInt32))])) (fun _ k => XS.ishl X8.here hx rfl (hb hby d19_56) rfl (XS.ior X8.here hx rfl (hb hby d19_57) rfl (XS.i2c X8.here hx rfl (hb hby d19_58) rfl k))) ?_
  exact own_retN X8 hx Bd.notSynchronized (t := .char) (w := ((((u2 &&& (255 : Int32)) <<< ((0 : Int32) &&& 31)) ||| ((u3 &&& (255 : Int32)) <<< ((8 : Int32) &&& 31))).toUInt32.toUInt16.toUInt32.toInt32)) Bd.returns (by simp) (hb hby d19_59) e8 (own_narc _) ⟨rfl, N0, rfl⟩ (by decide) (by decide)
abbrev R_own_tob2 : Room := { frames := 2, cells := 1, slots := 4, locals := 24 }
theorem ef_own_tob2 (m : MethodId) (x0 : Addr) : entryFrame m #[(.ref x0), (.int (0 : Int32)), (.int (2 : Int32))] 5 = mkF m 0 #[.val (.ref x0), .val (.int (0 : Int32)), .val (.int (2 : Int32)), .unset, .unset] [] := by first | (simp [entryFrame, mkF, argsToLocals, Value.category]; done) | rfl
def Q_own_tob2 (Z : State) (a1 : Addr) (k1 : ClassId) (c0 : Int32) (c1 : Int32) (h0 : Heap) (n0 : Nat) (v : Option Value) (h : Heap) (L : List Loc) : Prop := ∃ b : Addr, ∃ kb : ClassId, v = some (.ref b) ∧ Fr n0 L ∧ Keep h0 h [] ∧ Arv Z h b kb .byte (4 : Int32) [(.int ((c0 >>> ((0 : Int32) &&& 31)).toInt8.toInt32)), (.int ((c0 >>> ((8 : Int32) &&& 31)).toInt8.toInt32)), (.int ((c1 >>> ((0 : Int32) &&& 31)).toInt8.toInt32)), (.int ((c1 >>> ((8 : Int32) &&& 31)).toInt8.toInt32))] (.int (0 : Int32)) ∧ (h0.size ≤ b)
set_option maxRecDepth 65536 in
set_option maxHeartbeats 400000000 in
theorem own_tob2 (l : Launch) (Z : State) (a0 : Array Value) (hw : ∀ d ∈ tables_1, d.before a0 Z = true) (ws : List Jvm.Cond) (a1 : Addr) (k1 : ClassId) (c0 : Int32) (c1 : Int32) (h0 : Heap) (n0 : Nat) (Z0 : n0 ≤ h0.size) (P_V_a1 : Arv Z h0 a1 k1 .char (2 : Int32) [(.int c0), (.int c1)] (.int (0 : Int32))) (P_S_java_lang_StringUTF16__assertionsDisabled : Sta Z h0 "java/lang/StringUTF16" "$assertionsDisabled" "Z" (.int (1 : Int32))) (P_S_java_lang_StringUTF16_HI_BYTE_SHIFT : Sta Z h0 "java/lang/StringUTF16" "HI_BYTE_SHIFT" "I" (.int (0 : Int32))) (P_S_java_lang_StringUTF16_LO_BYTE_SHIFT : Sta Z h0 "java/lang/StringUTF16" "LO_BYTE_SHIFT" "I" (.int (8 : Int32))) :
    MetFree l (⟨"java/lang/StringUTF16", "toBytes", "([CII)[B"⟩ : MethodName) (head1 (Jvm.Cond.code (⟨"java/lang/StringUTF16", "toBytes", "([CII)[B"⟩ : MethodName) jdk_52_method_14_code 5 (some (.array .byte)) :: ws) R_own_tob2) (fun a U => a = #[(.ref a1), (.int (0 : Int32)), (.int (2 : Int32))] ∧ Z.Warmed39 U.vm ∧ U.heap = h0) (fun _ _ _ _ _ => True) (fun _ U o U' => ∃ v L, o = .returned v ∧ Q_own_tob2 Z a1 k1 c0 c1 h0 n0 v U'.heap L ∧ FrameEnd U o U' L R_own_tob2.cells R_own_tob2.slots) := by
  refine MetFree.of_bodySF (plainFor_of_name own_pn0) hisR ?_
  intro p e s m args below meth c s₁ Bd hml0 hP hK
  obtain ⟨rfl, hZ, hh⟩ := hP
  have hx := Bd.exec
  have hby := Bd.bytes
  have hml : c.maxLocals = 5 := hml0
  have hown : s.vm.findClass "java/lang/StringUTF16" = some m.cls := findClass_of_methodNamed Bd.named
  have hnm := (name_of_methodNamed Bd.named Bd.method).1
  have X0 : Stand p l e R_own_tob2 s m #[(.ref a1), (.int (0 : Int32)), (.int (2 : Int32))] below meth c s₁ [] 0 0 := Stand.of_body Bd
  have e0 : s₁.heap = h0 := by rw [← hh, Bd.state]; rfl
  have N0 := Fr.nil n0
  have K0 : Keep h0 h0 [] := Keep.refl h0 []
  show own_Fin p e below s (Q_own_tob2 Z a1 k1 c0 c1 h0 n0) R_own_tob2.cells R_own_tob2.slots (s₁.setTop (entryFrame m #[(.ref a1), (.int (0 : Int32)), (.int (2 : Int32))] 5))
  refine own_go (fun _ k => castTop (ef_own_tob2 m a1) k) ?_
  show own_Fin _ _ _ _ _ _ _ (s₁.setTop (mkF m 0 #[.val (.ref a1), .val (.int (0 : Int32)), .val (.int (2 : Int32)), .unset, .unset] []))
  refine own_go (B := s₁.setTop (mkF m 1 #[.val (.ref a1), .val (.int (0 : Int32)), .val (.int (2 : Int32)), .unset, .unset] [(.int (2 : Int32))])) (fun _ k => XS.iloadN X0.here hx rfl (hb hby d15_0) rfl  k) ?_
  obtain ⟨_, _, ⟨T1, L1, k1, n1⟩, -, X1, ⟨Lc1, hQ1, l1, y1, z1⟩, st1⟩ := Jvm.LawKit.callS X0 hx (y := (⟨"java/lang/StringUTF16", "newBytesFor", "(I)[B"⟩ : MethodName)) hown (mvT hZ (own_w hw 71 rfl)) (mvT hZ (own_w hw 72 rfl)) (mvT hZ (own_w hw 18 rfl)) (mvT hZ (own_w hw 73 rfl)) (by decide) (backOf (W := 0) (own_nbf2 l Z a0 hw []  h0 n0 (Nat.le_trans Z0 K0.1) ) hZ (own_w hw 73 rfl) (own_w hw 18 rfl) (by decide) (by decide)) (g := (mkF m 1 #[.val (.ref a1), .val (.int (0 : Int32)), .val (.int (2 : Int32)), .unset, .unset] [(.int (2 : Int32))])) rfl (by rw [hml]; rfl) (argsL := [(.int (2 : Int32))]) (rest := []) (lenOf own_pd1 rfl) rfl (by show 2 * 0 + _ ≤ _; exact Nat.le_of_eq rfl) (hb hby d15_1) (fun _ _ => ⟨rfl, e0, (by decide : 0 + 1 ≤ _), (by decide : 0 + 4 ≤ _)⟩)
  dsimp only [Pt.U, Pt.locs, Pt.cells, Pt.slots] at X1 l1 y1 z1 st1 hQ1
  subst l1 y1 z1
  obtain ⟨b_1, kb_1, rfl, N1q, K1q, Q1_0, x1_0⟩ := hQ1
  have N1 := Fr.app N0 N1q
  have ne_a1_b_1_2 : a1 ≠ b_1 := Nat.ne_of_lt (Nat.lt_of_lt_of_le P_V_a1.lt x1_0)
  have sz_b_1 : h0.size ≤ b_1 := Nat.le_trans K0.1 x1_0
  have g_b_1 : n0 ≤ b_1 := Nat.le_trans Z0 sz_b_1
  have V_4 := P_V_a1.keep K1q nin0
  have S_5 := own_Sta_keep P_S_java_lang_StringUTF16__assertionsDisabled K1q all0
  have S_6 := own_Sta_keep P_S_java_lang_StringUTF16_HI_BYTE_SHIFT K1q all0
  have S_7 := own_Sta_keep P_S_java_lang_StringUTF16_LO_BYTE_SHIFT K1q all0
  have K8 : Keep h0 T1.heap [] := K0.trans K1q all0
  refine own_go (B := T1.setTop (mkF m 4 #[.val (.ref a1), .val (.int (0 : Int32)), .val (.int (2 : Int32)), .unset, .unset] [(.ref b_1)])) st1 ?_
  refine own_go (B := T1.setTop (mkF m 11 #[.val (.ref a1), .val (.int (0 : Int32)), .val (.int (2 : Int32)), .val (.ref b_1), .val (.int (0 : Int32))] [(.int (2 : Int32)), (.int (0 : Int32))])) (fun _ k => XS.astoreN X1.here hx rfl (hb hby d15_4) rfl rfl (l' := #[.val (.ref a1), .val (.int (0 : Int32)), .val (.int (2 : Int32)), .val (.ref b_1), .unset]) rfl (XS.iconst X1.here hx rfl (hb hby d15_5) (XS.istore X1.here hx rfl (hb hby d15_6) rfl (l' := #[.val (.ref a1), .val (.int (0 : Int32)), .val (.int (2 : Int32)), .val (.ref b_1), .val (.int (0 : Int32))]) rfl (XS.iload X1.here hx rfl (hb hby d15_8) rfl  (XS.iloadN X1.here hx rfl (hb hby d15_10) rfl  k))))) ?_
  have hc9 : (0 : Int32) < (2 : Int32) := by decide
  refine own_go (B := T1.setTop (mkF m 19 #[.val (.ref a1), .val (.int (0 : Int32)), .val (.int (2 : Int32)), .val (.ref b_1), .val (.int (0 : Int32))] [(.int (0 : Int32)), (.ref a1), (.int (0 : Int32)), (.ref b_1)])) (fun _ k => XS.icmpNo X1.here hx rfl (hb hby d15_11) rfl (tlt hc9).2.1 (XS.aloadN X1.here hx rfl (hb hby d15_14) rfl rfl (XS.iload X1.here hx rfl (hb hby d15_15) rfl  (XS.aloadN X1.here hx rfl (hb hby d15_17) rfl rfl (XS.iloadN X1.here hx rfl (hb hby d15_18) rfl  k))))) ?_
  obtain ⟨cl10, Ar10, q10, S10, N10n, H10, G10⟩ := id V_4
  have hin11 : ¬ ((0 : Int32) < 0 ∨ cl10.slots.size ≤ ((0 : Int32)).toNatClampNeg) := inb_of S10 ⟨by decide, by decide⟩
  have hat11 : cl10.slots[((0 : Int32)).toNatClampNeg]? = some (.int c0) := H10.at hin11 rfl
  refine own_go (B := T1.setTop (mkF m 20 #[.val (.ref a1), .val (.int (0 : Int32)), .val (.int (2 : Int32)), .val (.ref b_1), .val (.int (0 : Int32))] [(.int c0), (.int (0 : Int32)), (.ref b_1)])) (fun _ k => X1.caload hx (j := (0 : Int32)) (v := (.int c0)) (own_hc rfl Ar10.1) (State.isArrayOf_alike hZ.alike Ar10.2.1) Ar10.2.2 hin11 hat11 (g := (mkF m 19 #[.val (.ref a1), .val (.int (0 : Int32)), .val (.int (2 : Int32)), .val (.ref b_1), .val (.int (0 : Int32))] [(.int (0 : Int32)), (.ref a1), (.int (0 : Int32)), (.ref b_1)])) rfl rfl (hb hby d15_19) _ k) ?_
  obtain ⟨_, _, ⟨T12, L12, k12, n12⟩, -, X12, ⟨Lc12, hQ12, l12, y12, z12⟩, st12⟩ := Jvm.LawKit.callS X1 hx (y := (⟨"java/lang/StringUTF16", "putChar", "([BII)V"⟩ : MethodName)) hown (mvT hZ (own_w hw 78 rfl)) (mvT hZ (own_w hw 79 rfl)) (mvT hZ (own_w hw 18 rfl)) (mvT hZ (own_w hw 80 rfl)) (by decide) (backOf (W := 0) (own_put2_0 l Z a0 hw [] b_1 kb_1 c0 (0 : Int32) (0 : Int32) (0 : Int32) (0 : Int32) T1.heap n0 (Nat.le_trans Z0 K8.1) Q1_0 g_b_1 S_5 S_6 S_7) hZ (own_w hw 80 rfl) (own_w hw 18 rfl) (by decide) (by decide)) (g := (mkF m 20 #[.val (.ref a1), .val (.int (0 : Int32)), .val (.int (2 : Int32)), .val (.ref b_1), .val (.int (0 : Int32))] [(.int c0), (.int (0 : Int32)), (.ref b_1)])) rfl (by rw [hml]; rfl) (argsL := [(.ref b_1), (.int (0 : Int32)), (.int c0)]) (rest := []) (lenOf own_pd2 rfl) rfl (by show 2 * 0 + _ ≤ _; exact Nat.le_of_eq rfl) (hb hby d15_20) (fun _ _ => ⟨rfl, rfl, (by decide : 1 + 0 ≤ _), (by decide : 4 + 0 ≤ _)⟩)
  dsimp only [Pt.U, Pt.locs, Pt.cells, Pt.slots] at X12 l12 y12 z12 st12 hQ12
  subst l12 y12 z12
  obtain ⟨rfl, N12q, K12q, Q12_0⟩ := hQ12
  have N12 := Fr.app N1 N12q
  have V_14 := V_4.keep K12q (ninS ne_a1_b_1_2 nin0)
  have S_15 := own_Sta_keep S_5 K12q (allS (own_plainV Q1_0) all0)
  have S_16 := own_Sta_keep S_6 K12q (allS (own_plainV Q1_0) all0)
  have S_17 := own_Sta_keep S_7 K12q (allS (own_plainV Q1_0) all0)
  have K19 : Keep h0 T12.heap [] := K8.trans K12q (allS (Or.inr sz_b_1) all0)
  refine own_go (B := T12.setTop (mkF m 23 #[.val (.ref a1), .val (.int (0 : Int32)), .val (.int (2 : Int32)), .val (.ref b_1), .val (.int (0 : Int32))] [])) st12 ?_
  refine own_go (B := T12.setTop (mkF m 26 #[.val (.ref a1), .val (.int ((0 : Int32) + (1 : Int32))), .val (.int (2 : Int32)), .val (.ref b_1), .val (.int (0 : Int32))] [])) (fun _ k => XS.iinc X12.here hx rfl (hb hby d15_23) rfl (l' := #[.val (.ref a1), .val (.int ((0 : Int32) + (1 : Int32))), .val (.int (2 : Int32)), .val (.ref b_1), .val (.int (0 : Int32))]) rfl k) ?_
  rw [show ((0 : Int32) + (1 : Int32)) = (1 : Int32) from by decide]
  show own_Fin _ _ _ _ _ _ _ (T12.setTop (mkF m 26 #[.val (.ref a1), .val (.int (1 : Int32)), .val (.int (2 : Int32)), .val (.ref b_1), .val (.int (0 : Int32))] []))
  refine own_go (B := T12.setTop (mkF m 29 #[.val (.ref a1), .val (.int (1 : Int32)), .val (.int (2 : Int32)), .val (.ref b_1), .val (.int ((0 : Int32) + (1 : Int32)))] [])) (fun _ k => XS.iinc X12.here hx rfl (hb hby d15_26) rfl (l' := #[.val (.ref a1), .val (.int (1 : Int32)), .val (.int (2 : Int32)), .val (.ref b_1), .val (.int ((0 : Int32) + (1 : Int32)))]) rfl k) ?_
  rw [show ((0 : Int32) + (1 : Int32)) = (1 : Int32) from by decide]
  show own_Fin _ _ _ _ _ _ _ (T12.setTop (mkF m 29 #[.val (.ref a1), .val (.int (1 : Int32)), .val (.int (2 : Int32)), .val (.ref b_1), .val (.int (1 : Int32))] []))
  refine own_go (B := T12.setTop (mkF m 11 #[.val (.ref a1), .val (.int (1 : Int32)), .val (.int (2 : Int32)), .val (.ref b_1), .val (.int (1 : Int32))] [(.int (2 : Int32)), (.int (1 : Int32))])) (fun _ k => XS.goto X12.here hx rfl (pc0 := 29) (pc' := 8) rfl (hb hby d15_29) (by decide) (by decide) (XS.iload X12.here hx rfl (hb hby d15_8) rfl  (XS.iloadN X12.here hx rfl (hb hby d15_10) rfl  k))) ?_
  have hc20 : (1 : Int32) < (2 : Int32) := by decide
  refine own_go (B := T12.setTop (mkF m 19 #[.val (.ref a1), .val (.int (1 : Int32)), .val (.int (2 : Int32)), .val (.ref b_1), .val (.int (1 : Int32))] [(.int (1 : Int32)), (.ref a1), (.int (1 : Int32)), (.ref b_1)])) (fun _ k => XS.icmpNo X12.here hx rfl (hb hby d15_11) rfl (tlt hc20).2.1 (XS.aloadN X12.here hx rfl (hb hby d15_14) rfl rfl (XS.iload X12.here hx rfl (hb hby d15_15) rfl  (XS.aloadN X12.here hx rfl (hb hby d15_17) rfl rfl (XS.iloadN X12.here hx rfl (hb hby d15_18) rfl  k))))) ?_
  obtain ⟨cl21, Ar21, q21, S21, N21n, H21, G21⟩ := id V_14
  have hin22 : ¬ ((1 : Int32) < 0 ∨ cl21.slots.size ≤ ((1 : Int32)).toNatClampNeg) := inb_of S21 ⟨by decide, by decide⟩
  have hat22 : cl21.slots[((1 : Int32)).toNatClampNeg]? = some (.int c1) := H21.at hin22 rfl
  refine own_go (B := T12.setTop (mkF m 20 #[.val (.ref a1), .val (.int (1 : Int32)), .val (.int (2 : Int32)), .val (.ref b_1), .val (.int (1 : Int32))] [(.int c1), (.int (1 : Int32)), (.ref b_1)])) (fun _ k => X12.caload hx (j := (1 : Int32)) (v := (.int c1)) (own_hc rfl Ar21.1) (State.isArrayOf_alike hZ.alike Ar21.2.1) Ar21.2.2 hin22 hat22 (g := (mkF m 19 #[.val (.ref a1), .val (.int (1 : Int32)), .val (.int (2 : Int32)), .val (.ref b_1), .val (.int (1 : Int32))] [(.int (1 : Int32)), (.ref a1), (.int (1 : Int32)), (.ref b_1)])) rfl rfl (hb hby d15_19) _ k) ?_
  obtain ⟨_, _, ⟨T23, L23, k23, n23⟩, -, X23, ⟨Lc23, hQ23, l23, y23, z23⟩, st23⟩ := Jvm.LawKit.callS X12 hx (y := (⟨"java/lang/StringUTF16", "putChar", "([BII)V"⟩ : MethodName)) hown (mvT hZ (own_w hw 78 rfl)) (mvT hZ (own_w hw 79 rfl)) (mvT hZ (own_w hw 18 rfl)) (mvT hZ (own_w hw 80 rfl)) (by decide) (backOf (W := 0) (own_put2_1 l Z a0 hw [] b_1 kb_1 c1 ((c0 >>> ((0 : Int32) &&& 31)).toInt8.toInt32) ((c0 >>> ((8 : Int32) &&& 31)).toInt8.toInt32) (0 : Int32) (0 : Int32) T12.heap n0 (Nat.le_trans Z0 K19.1) Q12_0 g_b_1 S_15 S_16 S_17) hZ (own_w hw 80 rfl) (own_w hw 18 rfl) (by decide) (by decide)) (g := (mkF m 20 #[.val (.ref a1), .val (.int (1 : Int32)), .val (.int (2 : Int32)), .val (.ref b_1), .val (.int (1 : Int32))] [(.int c1), (.int (1 : Int32)), (.ref b_1)])) rfl (by rw [hml]; rfl) (argsL := [(.ref b_1), (.int (1 : Int32)), (.int c1)]) (rest := []) (lenOf own_pd2 rfl) rfl (by show 2 * 0 + _ ≤ _; exact Nat.le_of_eq rfl) (hb hby d15_20) (fun _ _ => ⟨rfl, rfl, (by decide : 1 + 0 ≤ _), (by decide : 4 + 0 ≤ _)⟩)
  dsimp only [Pt.U, Pt.locs, Pt.cells, Pt.slots] at X23 l23 y23 z23 st23 hQ23
  subst l23 y23 z23
  obtain ⟨rfl, N23q, K23q, Q23_0⟩ := hQ23
  have N23 := Fr.app N12 N23q
  have V_25 := V_14.keep K23q (ninS ne_a1_b_1_2 nin0)
  have S_26 := own_Sta_keep S_15 K23q (allS (own_plainV Q12_0) all0)
  have S_27 := own_Sta_keep S_16 K23q (allS (own_plainV Q12_0) all0)
  have S_28 := own_Sta_keep S_17 K23q (allS (own_plainV Q12_0) all0)
  have K30 : Keep h0 T23.heap [] := K19.trans K23q (allS (Or.inr sz_b_1) all0)
  refine own_go (B := T23.setTop (mkF m 23 #[.val (.ref a1), .val (.int (1 : Int32)), .val (.int (2 : Int32)), .val (.ref b_1), .val (.int (1 : Int32))] [])) st23 ?_
  refine own_go (B := T23.setTop (mkF m 26 #[.val (.ref a1), .val (.int ((1 : Int32) + (1 : Int32))), .val (.int (2 : Int32)), .val (.ref b_1), .val (.int (1 : Int32))] [])) (fun _ k => XS.iinc X23.here hx rfl (hb hby d15_23) rfl (l' := #[.val (.ref a1), .val (.int ((1 : Int32) + (1 : Int32))), .val (.int (2 : Int32)), .val (.ref b_1), .val (.int (1 : Int32))]) rfl k) ?_
  rw [show ((1 : Int32) + (1 : Int32)) = (2 : Int32) from by decide]
  show own_Fin _ _ _ _ _ _ _ (T23.setTop (mkF m 26 #[.val (.ref a1), .val (.int (2 : Int32)), .val (.int (2 : Int32)), .val (.ref b_1), .val (.int (1 : Int32))] []))
  refine own_go (B := T23.setTop (mkF m 29 #[.val (.ref a1), .val (.int (2 : Int32)), .val (.int (2 : Int32)), .val (.ref b_1), .val (.int ((1 : Int32) + (1 : Int32)))] [])) (fun _ k => XS.iinc X23.here hx rfl (hb hby d15_26) rfl (l' := #[.val (.ref a1), .val (.int (2 : Int32)), .val (.int (2 : Int32)), .val (.ref b_1), .val (.int ((1 : Int32) + (1 : Int32)))]) rfl k) ?_
  rw [show ((1 : Int32) + (1 : Int32)) = (2 : Int32) from by decide]
  show own_Fin _ _ _ _ _ _ _ (T23.setTop (mkF m 29 #[.val (.ref a1), .val (.int (2 : Int32)), .val (.int (2 : Int32)), .val (.ref b_1), .val (.int (2 : Int32))] []))
  refine own_go (B := T23.setTop (mkF m 11 #[.val (.ref a1), .val (.int (2 : Int32)), .val (.int (2 : Int32)), .val (.ref b_1), .val (.int (2 : Int32))] [(.int (2 : Int32)), (.int (2 : Int32))])) (fun _ k => XS.goto X23.here hx rfl (pc0 := 29) (pc' := 8) rfl (hb hby d15_29) (by decide) (by decide) (XS.iload X23.here hx rfl (hb hby d15_8) rfl  (XS.iloadN X23.here hx rfl (hb hby d15_10) rfl  k))) ?_
  have hc31 : ¬ ((2 : Int32) < (2 : Int32)) := by decide
  refine own_go (B := T23.setTop (mkF m 33 #[.val (.ref a1), .val (.int (2 : Int32)), .val (.int (2 : Int32)), .val (.ref b_1), .val (.int (2 : Int32))] [(.ref b_1)])) (fun _ k => XS.icmpYes X23.here hx rfl (pc0 := 11) (pc' := 32) rfl (hb hby d15_11) rfl (flt hc31).2.1 (by decide) (by decide) (XS.aloadN X23.here hx rfl (hb hby d15_32) rfl rfl k)) ?_
  exact own_retA X23 hx Bd.notSynchronized Bd.returns rfl rfl (hb hby d15_33) rfl ⟨b_1, kb_1, rfl, N23, K30, Q23_0, x1_0⟩ (by decide) (by decide)
abbrev R_own_nbl3 : Room := { frames := 0, cells := 0, slots := 0, locals := 0 }
theorem ef_own_nbl3 (m : MethodId)  : entryFrame m #[(.int (3 : Int32))] 1 = mkF m 0 #[.val (.int (3 : Int32))] [] := by first | (simp [entryFrame, mkF, argsToLocals, Value.category]; done) | rfl
def Q_own_nbl3 (Z : State)  (h0 : Heap) (n0 : Nat) (v : Option Value) (h : Heap) (L : List Loc) : Prop := v = some (.int (6 : Int32)) ∧ Fr n0 L ∧ h = h0
set_option maxRecDepth 65536 in
set_option maxHeartbeats 400000000 in
theorem own_nbl3 (l : Launch) (Z : State) (a0 : Array Value) (hw : ∀ d ∈ tables_1, d.before a0 Z = true) (ws : List Jvm.Cond)  (h0 : Heap) (n0 : Nat) (Z0 : n0 ≤ h0.size)  :
    MetFree l (⟨"java/lang/StringUTF16", "newBytesLength", "(I)I"⟩ : MethodName) (head1 (Jvm.Cond.code (⟨"java/lang/StringUTF16", "newBytesLength", "(I)I"⟩ : MethodName) jdk_52_method_3_code 1 (some .int) :: ws) R_own_nbl3) (fun a U => a = #[(.int (3 : Int32))] ∧ Z.Warmed39 U.vm ∧ U.heap = h0) (fun _ _ _ _ _ => True) (fun _ U o U' => ∃ v L, o = .returned v ∧ Q_own_nbl3 Z  h0 n0 v U'.heap L ∧ FrameEnd U o U' L R_own_nbl3.cells R_own_nbl3.slots) := by
  refine MetFree.of_bodySF (plainFor_of_name own_pn0) hisR ?_
  intro p e s m args below meth c s₁ Bd hml0 hP hK
  obtain ⟨rfl, hZ, hh⟩ := hP
  have hx := Bd.exec
  have hby := Bd.bytes
  have hml : c.maxLocals = 1 := hml0
  have hown : s.vm.findClass "java/lang/StringUTF16" = some m.cls := findClass_of_methodNamed Bd.named
  have hnm := (name_of_methodNamed Bd.named Bd.method).1
  have X0 : Stand p l e R_own_nbl3 s m #[(.int (3 : Int32))] below meth c s₁ [] 0 0 := Stand.of_body Bd
  have e0 : s₁.heap = h0 := by rw [← hh, Bd.state]; rfl
  have N0 := Fr.nil n0
  have K0 : Keep h0 h0 [] := Keep.refl h0 []
  show own_Fin p e below s (Q_own_nbl3 Z  h0 n0) R_own_nbl3.cells R_own_nbl3.slots (s₁.setTop (entryFrame m #[(.int (3 : Int32))] 1))
  refine own_go (fun _ k => castTop (ef_own_nbl3 m ) k) ?_
  show own_Fin _ _ _ _ _ _ _ (s₁.setTop (mkF m 0 #[.val (.int (3 : Int32))] []))
  refine own_go (B := s₁.setTop (mkF m 1 #[.val (.int (3 : Int32))] [(.int (3 : Int32))])) (fun _ k => XS.iloadN X0.here hx rfl (hb hby d17_0) rfl  k) ?_
  have hc1 : ¬ ((3 : Int32) < (0 : Int32)) := by decide
  refine own_go (B := s₁.setTop (mkF m 15 #[.val (.int (3 : Int32))] [(.int (1073741823 : Int32)), (.int (3 : Int32))])) (fun _ k => XS.ifYes X0.here hx rfl (pc0 := 1) (pc' := 12) rfl (hb hby d17_1) rfl ((if0 _ _).trans (flt hc1).2.1) (by decide) (by decide) (XS.iloadN X0.here hx rfl (hb hby d17_12) rfl  (X0.ldcInt hx hown (mvT hZ (own_w hw 77 rfl)) (g := (mkF m 13 #[.val (.int (3 : Int32))] [(.int (3 : Int32))])) rfl (hb hby d17_13) _ k))) ?_
  have hc2 : (3 : Int32) < (1073741823 : Int32) := by decide
  refine own_go (B := s₁.setTop (mkF m 58 #[.val (.int (3 : Int32))] [(.int ((3 : Int32) <<< ((1 : Int32) &&& 31)))])) (fun _ k => XS.icmpYes X0.here hx rfl (pc0 := 15) (pc' := 55) rfl (hb hby d17_15) rfl (tlt hc2).1 (by decide) (by decide) (XS.iloadN X0.here hx rfl (hb hby d17_55) rfl  (XS.iconst X0.here hx rfl (hb hby d17_56) (XS.ishl X0.here hx rfl (hb hby d17_57) rfl k)))) ?_
  rw [show ((3 : Int32) <<< ((1 : Int32) &&& 31)) = (6 : Int32) from by decide]
  show own_Fin _ _ _ _ _ _ _ (s₁.setTop (mkF m 58 #[.val (.int (3 : Int32))] [(.int (6 : Int32))]))
  exact own_retI X0 hx Bd.notSynchronized Bd.returns (hb hby d17_58) e0 ⟨rfl, N0, rfl⟩ (by decide) (by decide)
abbrev R_own_nbf3 : Room := { frames := 1, cells := 1, slots := 6, locals := 12 }
theorem ef_own_nbf3 (m : MethodId)  : entryFrame m #[(.int (3 : Int32))] 1 = mkF m 0 #[.val (.int (3 : Int32))] [] := by first | (simp [entryFrame, mkF, argsToLocals, Value.category]; done) | rfl
def Q_own_nbf3 (Z : State)  (h0 : Heap) (n0 : Nat) (v : Option Value) (h : Heap) (L : List Loc) : Prop := ∃ b : Addr, ∃ kb : ClassId, v = some (.ref b) ∧ Fr n0 L ∧ Keep h0 h [] ∧ Arv Z h b kb .byte (6 : Int32) [(.int (0 : Int32)), (.int (0 : Int32)), (.int (0 : Int32)), (.int (0 : Int32)), (.int (0 : Int32)), (.int (0 : Int32))] (.int (0 : Int32)) ∧ (h0.size ≤ b)
set_option maxRecDepth 65536 in
set_option maxHeartbeats 400000000 in
theorem own_nbf3 (l : Launch) (Z : State) (a0 : Array Value) (hw : ∀ d ∈ tables_1, d.before a0 Z = true) (ws : List Jvm.Cond)  (h0 : Heap) (n0 : Nat) (Z0 : n0 ≤ h0.size)  :
    MetFree l (⟨"java/lang/StringUTF16", "newBytesFor", "(I)[B"⟩ : MethodName) (head1 (Jvm.Cond.code (⟨"java/lang/StringUTF16", "newBytesFor", "(I)[B"⟩ : MethodName) jdk_52_method_2_code 1 (some (.array .byte)) :: ws) R_own_nbf3) (fun a U => a = #[(.int (3 : Int32))] ∧ Z.Warmed39 U.vm ∧ U.heap = h0) (fun _ _ _ _ _ => True) (fun _ U o U' => ∃ v L, o = .returned v ∧ Q_own_nbf3 Z  h0 n0 v U'.heap L ∧ FrameEnd U o U' L R_own_nbf3.cells R_own_nbf3.slots) := by
  refine MetFree.of_bodySF (plainFor_of_name own_pn0) hisR ?_
  intro p e s m args below meth c s₁ Bd hml0 hP hK
  obtain ⟨rfl, hZ, hh⟩ := hP
  have hx := Bd.exec
  have hby := Bd.bytes
  have hml : c.maxLocals = 1 := hml0
  have hown : s.vm.findClass "java/lang/StringUTF16" = some m.cls := findClass_of_methodNamed Bd.named
  have hnm := (name_of_methodNamed Bd.named Bd.method).1
  have X0 : Stand p l e R_own_nbf3 s m #[(.int (3 : Int32))] below meth c s₁ [] 0 0 := Stand.of_body Bd
  have e0 : s₁.heap = h0 := by rw [← hh, Bd.state]; rfl
  have N0 := Fr.nil n0
  have K0 : Keep h0 h0 [] := Keep.refl h0 []
  show own_Fin p e below s (Q_own_nbf3 Z  h0 n0) R_own_nbf3.cells R_own_nbf3.slots (s₁.setTop (entryFrame m #[(.int (3 : Int32))] 1))
  refine own_go (fun _ k => castTop (ef_own_nbf3 m ) k) ?_
  show own_Fin _ _ _ _ _ _ _ (s₁.setTop (mkF m 0 #[.val (.int (3 : Int32))] []))
  refine own_go (B := s₁.setTop (mkF m 1 #[.val (.int (3 : Int32))] [(.int (3 : Int32))])) (fun _ k => XS.iloadN X0.here hx rfl (hb hby d16_0) rfl  k) ?_
  obtain ⟨_, _, ⟨T1, L1, k1, n1⟩, -, X1, ⟨Lc1, hQ1, l1, y1, z1⟩, st1⟩ := Jvm.LawKit.callS X0 hx (y := (⟨"java/lang/StringUTF16", "newBytesLength", "(I)I"⟩ : MethodName)) hown (mvT hZ (own_w hw 74 rfl)) (mvT hZ (own_w hw 75 rfl)) (mvT hZ (own_w hw 18 rfl)) (mvT hZ (own_w hw 76 rfl)) (by decide) (backOf (W := 0) (own_nbl3 l Z a0 hw []  h0 n0 (Nat.le_trans Z0 K0.1) ) hZ (own_w hw 76 rfl) (own_w hw 18 rfl) (by decide) (by decide)) (g := (mkF m 1 #[.val (.int (3 : Int32))] [(.int (3 : Int32))])) rfl (by rw [hml]; rfl) (argsL := [(.int (3 : Int32))]) (rest := []) (lenOf own_pd0 rfl) rfl (by show 2 * 0 + _ ≤ _; exact Nat.le_of_eq rfl) (hb hby d16_1) (fun _ _ => ⟨rfl, e0, (by decide : 0 + 0 ≤ _), (by decide : 0 + 0 ≤ _)⟩)
  dsimp only [Pt.U, Pt.locs, Pt.cells, Pt.slots] at X1 l1 y1 z1 st1 hQ1
  subst l1 y1 z1
  obtain ⟨rfl, N1q, e1⟩ := hQ1
  have N1 := Fr.app N0 N1q
  refine own_go (B := T1.setTop (mkF m 4 #[.val (.int (3 : Int32))] [(.int (6 : Int32))])) st1 ?_
  obtain ⟨T2, h2, kc2, X2, e2, E2, A2, st2⟩ := newP X1 hx hZ (own_w hw 20 rfl) e1 (g := (mkF m 4 #[.val (.int (3 : Int32))] [(.int (6 : Int32))])) rfl (hb hby d16_4) rfl (by decide) (cap := 6) (by decide) (by decide) (by decide) (by decide)
  obtain ⟨b2, g2⟩ : ∃ z, z = h0.size := ⟨_, rfl⟩
  rw [← g2] at A2 st2
  have sz_b2 : h0.size ≤ b2 := Nat.le_trans K0.1 (Nat.le_of_eq g2.symm)
  have g_b2 : n0 ≤ b2 := Nat.le_trans Z0 sz_b2
  have V_b2 : Arv Z h2 b2 kc2 .byte (6 : Int32) [(.int (0 : Int32)), (.int (0 : Int32)), (.int (0 : Int32)), (.int (0 : Int32)), (.int (0 : Int32)), (.int (0 : Int32))] (.int (0 : Int32)) := (Arv.new A2 (by decide)).pad (pad_rep [] (.int (0 : Int32)) 6)
  have K4 : Keep h0 h2 [] := K0.ext E2
  refine own_go (B := T2.setTop (mkF m 6 #[.val (.int (3 : Int32))] [(.ref b2)])) st2 ?_
  exact own_retA X2 hx Bd.notSynchronized Bd.returns rfl rfl (hb hby d16_6) e2 ⟨b2, kc2, rfl, N1, K4, V_b2, sz_b2⟩ (by decide) (by decide)
abbrev R_own_put3_0 : Room := { frames := 0, cells := 0, slots := 0, locals := 0 }
theorem ef_own_put3_0 (m : MethodId) (x0 : Addr) (x2 : Int32) : entryFrame m #[(.ref x0), (.int (0 : Int32)), (.int x2)] 3 = mkF m 0 #[.val (.ref x0), .val (.int (0 : Int32)), .val (.int x2)] [] := by first | (simp [entryFrame, mkF, argsToLocals, Value.category]; done) | rfl
def Q_own_put3_0 (Z : State) (a1 : Addr) (k1 : ClassId) (p3 : Int32) (u0 : Int32) (u1 : Int32) (u2 : Int32) (u3 : Int32) (u4 : Int32) (u5 : Int32) (h0 : Heap) (n0 : Nat) (v : Option Value) (h : Heap) (L : List Loc) : Prop := v = none ∧ Fr n0 L ∧ Keep h0 h [a1] ∧ Arv Z h a1 k1 .byte (6 : Int32) [(.int ((p3 >>> ((0 : Int32) &&& 31)).toInt8.toInt32)), (.int ((p3 >>> ((8 : Int32) &&& 31)).toInt8.toInt32)), (.int u2), (.int u3), (.int u4), (.int u5)] (.int (0 : Int32))
set_option maxRecDepth 65536 in
set_option maxHeartbeats 400000000 in
theorem own_put3_0 (l : Launch) (Z : State) (a0 : Array Value) (hw : ∀ d ∈ tables_1, d.before a0 Z = true) (ws : List Jvm.Cond) (a1 : Addr) (k1 : ClassId) (p3 : Int32) (u0 : Int32) (u1 : Int32) (u2 : Int32) (u3 : Int32) (u4 : Int32) (u5 : Int32) (h0 : Heap) (n0 : Nat) (Z0 : n0 ≤ h0.size) (P_V_a1 : Arv Z h0 a1 k1 .byte (6 : Int32) [(.int u0), (.int u1), (.int u2), (.int u3), (.int u4), (.int u5)] (.int (0 : Int32))) (g_a1 : n0 ≤ a1) (P_S_java_lang_StringUTF16__assertionsDisabled : Sta Z h0 "java/lang/StringUTF16" "$assertionsDisabled" "Z" (.int (1 : Int32))) (P_S_java_lang_StringUTF16_HI_BYTE_SHIFT : Sta Z h0 "java/lang/StringUTF16" "HI_BYTE_SHIFT" "I" (.int (0 : Int32))) (P_S_java_lang_StringUTF16_LO_BYTE_SHIFT : Sta Z h0 "java/lang/StringUTF16" "LO_BYTE_SHIFT" "I" (.int (8 : Int32))) :
    MetFree l (⟨"java/lang/StringUTF16", "putChar", "([BII)V"⟩ : MethodName) (head1 (Jvm.Cond.code (⟨"java/lang/StringUTF16", "putChar", "([BII)V"⟩ : MethodName) jdk_52_method_4_code 3 none :: ws) R_own_put3_0) (fun a U => a = #[(.ref a1), (.int (0 : Int32)), (.int p3)] ∧ Z.Warmed39 U.vm ∧ U.heap = h0) (fun _ _ _ _ _ => True) (fun _ U o U' => ∃ v L, o = .returned v ∧ Q_own_put3_0 Z a1 k1 p3 u0 u1 u2 u3 u4 u5 h0 n0 v U'.heap L ∧ FrameEnd U o U' L R_own_put3_0.cells R_own_put3_0.slots) := by
  refine MetFree.of_bodySF (plainFor_of_name own_pn0) hisR ?_
  intro p e s m args below meth c s₁ Bd hml0 hP hK
  obtain ⟨rfl, hZ, hh⟩ := hP
  have hx := Bd.exec
  have hby := Bd.bytes
  have hml : c.maxLocals = 3 := hml0
  have hown : s.vm.findClass "java/lang/StringUTF16" = some m.cls := findClass_of_methodNamed Bd.named
  have hnm := (name_of_methodNamed Bd.named Bd.method).1
  have X0 : Stand p l e R_own_put3_0 s m #[(.ref a1), (.int (0 : Int32)), (.int p3)] below meth c s₁ [] 0 0 := Stand.of_body Bd
  have e0 : s₁.heap = h0 := by rw [← hh, Bd.state]; rfl
  have N0 := Fr.nil n0
  have K0 : Keep h0 h0 [a1] := Keep.refl h0 [a1]
  show own_Fin p e below s (Q_own_put3_0 Z a1 k1 p3 u0 u1 u2 u3 u4 u5 h0 n0) R_own_put3_0.cells R_own_put3_0.slots (s₁.setTop (entryFrame m #[(.ref a1), (.int (0 : Int32)), (.int p3)] 3))
  refine own_go (fun _ k => castTop (ef_own_put3_0 m a1 p3) k) ?_
  show own_Fin _ _ _ _ _ _ _ (s₁.setTop (mkF m 0 #[.val (.ref a1), .val (.int (0 : Int32)), .val (.int p3)] []))
  obtain ⟨T1, X1, e1, st1⟩ := getS2 X0 hx hZ hown (host := "") (Or.inl (own_w hw 81 rfl)) Via.refl e0 P_S_java_lang_StringUTF16__assertionsDisabled (g := (mkF m 0 #[.val (.ref a1), .val (.int (0 : Int32)), .val (.int p3)] [])) rfl (hb hby d18_0)
  refine own_go (B := T1.setTop (mkF m 3 #[.val (.ref a1), .val (.int (0 : Int32)), .val (.int p3)] [(.int (1 : Int32))])) st1 ?_
  have hc2 : ¬ ((1 : Int32) = (0 : Int32)) := by decide
  refine own_go (B := T1.setTop (mkF m 31 #[.val (.ref a1), .val (.int (0 : Int32)), .val (.int p3)] [(.int ((0 : Int32) <<< ((1 : Int32) &&& 31)))])) (fun _ k => XS.ifYes X1.here hx rfl (pc0 := 3) (pc' := 28) rfl (hb hby d18_3) rfl ((if0 _ _).trans (feq hc2).2) (by decide) (by decide) (XS.iloadN X1.here hx rfl (hb hby d18_28) rfl  (XS.iconst X1.here hx rfl (hb hby d18_29) (XS.ishl X1.here hx rfl (hb hby d18_30) rfl k)))) ?_
  rw [show ((0 : Int32) <<< ((1 : Int32) &&& 31)) = (0 : Int32) from by decide]
  show own_Fin _ _ _ _ _ _ _ (T1.setTop (mkF m 31 #[.val (.ref a1), .val (.int (0 : Int32)), .val (.int p3)] [(.int (0 : Int32))]))
  refine own_go (B := T1.setTop (mkF m 37 #[.val (.ref a1), .val (.int ((0 : Int32) + (1 : Int32))), .val (.int p3)] [(.int (0 : Int32)), (.ref a1)])) (fun _ k => XS.istoreN X1.here hx rfl (hb hby d18_31) rfl (l' := #[.val (.ref a1), .val (.int (0 : Int32)), .val (.int p3)]) rfl (XS.aloadN X1.here hx rfl (hb hby d18_32) rfl rfl (XS.iloadN X1.here hx rfl (hb hby d18_33) rfl  (XS.iinc X1.here hx rfl (hb hby d18_34) rfl (l' := #[.val (.ref a1), .val (.int ((0 : Int32) + (1 : Int32))), .val (.int p3)]) rfl k)))) ?_
  rw [show ((0 : Int32) + (1 : Int32)) = (1 : Int32) from by decide]
  show own_Fin _ _ _ _ _ _ _ (T1.setTop (mkF m 37 #[.val (.ref a1), .val (.int (1 : Int32)), .val (.int p3)] [(.int (0 : Int32)), (.ref a1)]))
  refine own_go (B := T1.setTop (mkF m 38 #[.val (.ref a1), .val (.int (1 : Int32)), .val (.int p3)] [(.int p3), (.int (0 : Int32)), (.ref a1)])) (fun _ k => XS.iloadN X1.here hx rfl (hb hby d18_37) rfl  k) ?_
  obtain ⟨T3, X3, e3, st3⟩ := getS2 X1 hx hZ hown (host := "") (Or.inl (own_w hw 82 rfl)) Via.refl e1 P_S_java_lang_StringUTF16_HI_BYTE_SHIFT (g := (mkF m 38 #[.val (.ref a1), .val (.int (1 : Int32)), .val (.int p3)] [(.int p3), (.int (0 : Int32)), (.ref a1)])) rfl (hb hby d18_38)
  refine own_go (B := T3.setTop (mkF m 41 #[.val (.ref a1), .val (.int (1 : Int32)), .val (.int p3)] [(.int (0 : Int32)), (.int p3), (.int (0 : Int32)), (.ref a1)])) st3 ?_
  refine own_go (B := T3.setTop (mkF m 43 #[.val (.ref a1), .val (.int (1 : Int32)), .val (.int p3)] [(.int ((p3 >>> ((0 : Int32) &&& 31)).toInt8.toInt32)), (.int (0 : Int32)), (.ref a1)])) (fun _ k => XS.ishr X3.here hx rfl (hb hby d18_41) rfl (XS.i2b X3.here hx rfl (hb hby d18_42) rfl k)) ?_
  obtain ⟨cl4, Ar4, q4, S4, N4n, H4, G4⟩ := id P_V_a1
  have hin5 : ¬ ((0 : Int32) < 0 ∨ cl4.slots.size ≤ ((0 : Int32)).toNatClampNeg) := inb_of S4 ⟨by decide, by decide⟩
  obtain ⟨T5, h5, X5, e5, W5, st5⟩ := stB X3 hx hZ e3 Ar4 (j := (0 : Int32)) hin5 (g := (mkF m 43 #[.val (.ref a1), .val (.int (1 : Int32)), .val (.int p3)] [(.int ((p3 >>> ((0 : Int32) &&& 31)).toInt8.toInt32)), (.int (0 : Int32)), (.ref a1)])) rfl rfl (hb hby d18_43)
  rw [own_narb] at W5
  have V_a1_5 : Arv Z h5 a1 k1 .byte (6 : Int32) [(.int ((p3 >>> ((0 : Int32) &&& 31)).toInt8.toInt32)), (.int u1), (.int u2), (.int u3), (.int u4), (.int u5)] (.int (0 : Int32)) := Arv.set Ar4 q4 S4 N4n H4 G4 (fits_nar_byte _) W5 0 rfl (Nat.le_of_ble_eq_true rfl)
  have S_8 := P_S_java_lang_StringUTF16__assertionsDisabled.wr W5
  have S_9 := P_S_java_lang_StringUTF16_HI_BYTE_SHIFT.wr W5
  have S_10 := P_S_java_lang_StringUTF16_LO_BYTE_SHIFT.wr W5
  have K11 : Keep h0 h5 [a1] := K0.wr W5 (Or.inl (List.mem_of_getElem? (i := 0) rfl))
  have N5 := Fr.snoc X5 N0 g_a1
  refine own_go (B := T5.setTop (mkF m 44 #[.val (.ref a1), .val (.int (1 : Int32)), .val (.int p3)] [])) st5 ?_
  refine own_go (B := T5.setTop (mkF m 47 #[.val (.ref a1), .val (.int (1 : Int32)), .val (.int p3)] [(.int p3), (.int (1 : Int32)), (.ref a1)])) (fun _ k => XS.aloadN X5.here hx rfl (hb hby d18_44) rfl rfl (XS.iloadN X5.here hx rfl (hb hby d18_45) rfl  (XS.iloadN X5.here hx rfl (hb hby d18_46) rfl  k))) ?_
  obtain ⟨T12, X12, e12, st12⟩ := getS2 X5 hx hZ hown (host := "") (Or.inl (own_w hw 83 rfl)) Via.refl e5 S_10 (g := (mkF m 47 #[.val (.ref a1), .val (.int (1 : Int32)), .val (.int p3)] [(.int p3), (.int (1 : Int32)), (.ref a1)])) rfl (hb hby d18_47)
  refine own_go (B := T12.setTop (mkF m 50 #[.val (.ref a1), .val (.int (1 : Int32)), .val (.int p3)] [(.int (8 : Int32)), (.int p3), (.int (1 : Int32)), (.ref a1)])) st12 ?_
  refine own_go (B := T12.setTop (mkF m 52 #[.val (.ref a1), .val (.int (1 : Int32)), .val (.int p3)] [(.int ((p3 >>> ((8 : Int32) &&& 31)).toInt8.toInt32)), (.int (1 : Int32)), (.ref a1)])) (fun _ k => XS.ishr X12.here hx rfl (hb hby d18_50) rfl (XS.i2b X12.here hx rfl (hb hby d18_51) rfl k)) ?_
  obtain ⟨cl13, Ar13, q13, S13, N13n, H13, G13⟩ := id V_a1_5
  have hin14 : ¬ ((1 : Int32) < 0 ∨ cl13.slots.size ≤ ((1 : Int32)).toNatClampNeg) := inb_of S13 ⟨by decide, by decide⟩
  obtain ⟨T14, h14, X14, e14, W14, st14⟩ := stB X12 hx hZ e12 Ar13 (j := (1 : Int32)) hin14 (g := (mkF m 52 #[.val (.ref a1), .val (.int (1 : Int32)), .val (.int p3)] [(.int ((p3 >>> ((8 : Int32) &&& 31)).toInt8.toInt32)), (.int (1 : Int32)), (.ref a1)])) rfl rfl (hb hby d18_52)
  rw [own_narb] at W14
  have V_a1_14 : Arv Z h14 a1 k1 .byte (6 : Int32) [(.int ((p3 >>> ((0 : Int32) &&& 31)).toInt8.toInt32)), (.int ((p3 >>> ((8 : Int32) &&& 31)).toInt8.toInt32)), (.int u2), (.int u3), (.int u4), (.int u5)] (.int (0 : Int32)) := Arv.set Ar13 q13 S13 N13n H13 G13 (fits_nar_byte _) W14 1 rfl (Nat.le_of_ble_eq_true rfl)
  have S_16 := S_8.wr W14
  have S_17 := S_9.wr W14
  have S_18 := S_10.wr W14
  have K20 : Keep h0 h14 [a1] := K11.wr W14 (Or.inl (List.mem_of_getElem? (i := 0) rfl))
  have N14 := Fr.snoc X14 N5 g_a1
  refine own_go (B := T14.setTop (mkF m 53 #[.val (.ref a1), .val (.int (1 : Int32)), .val (.int p3)] [])) st14 ?_
  exact own_retV X14 hx Bd.notSynchronized Bd.returns (hb hby d18_53) e14 ⟨rfl, N14, K20, V_a1_14⟩ (by decide) (by decide)
abbrev R_own_get3_0 : Room := { frames := 0, cells := 0, slots := 0, locals := 0 }
theorem ef_own_get3_0 (m : MethodId) (x0 : Addr) : entryFrame m #[(.ref x0), (.int (0 : Int32))] 2 = mkF m 0 #[.val (.ref x0), .val (.int (0 : Int32))] [] := by first | (simp [entryFrame, mkF, argsToLocals, Value.category]; done) | rfl
def Q_own_get3_0 (Z : State) (a1 : Addr) (k1 : ClassId) (u0 : Int32) (u1 : Int32) (u2 : Int32) (u3 : Int32) (u4 : Int32) (u5 : Int32) (h0 : Heap) (n0 : Nat) (v : Option Value) (h : Heap) (L : List Loc) : Prop := v = some (.int ((((u0 &&& (255 : Int32)) <<< ((0 : Int32) &&& 31)) ||| ((u1 &&& (255 : Int32)) <<< ((8 : Int32) &&& 31))).toUInt32.toUInt16.toUInt32.toInt32)) ∧ Fr n0 L ∧ h = h0
set_option maxRecDepth 65536 in
set_option maxHeartbeats 400000000 in
theorem own_get3_0 (l : Launch) (Z : State) (a0 : Array Value) (hw : ∀ d ∈ tables_1, d.before a0 Z = true) (ws : List Jvm.Cond) (a1 : Addr) (k1 : ClassId) (u0 : Int32) (u1 : Int32) (u2 : Int32) (u3 : Int32) (u4 : Int32) (u5 : Int32) (h0 : Heap) (n0 : Nat) (Z0 : n0 ≤ h0.size) (P_V_a1 : Arv Z h0 a1 k1 .byte (6 : Int32) [(.int u0), (.int u1), (.int u2), (.int u3), (.int u4), (.int u5)] (.int (0 : Int32))) (P_S_java_lang_StringUTF16__assertionsDisabled : Sta Z h0 "java/lang/StringUTF16" "$assertionsDisabled" "Z" (.int (1 : Int32))) (P_S_java_lang_StringUTF16_HI_BYTE_SHIFT : Sta Z h0 "java/lang/StringUTF16" "HI_BYTE_SHIFT" "I" (.int (0 : Int32))) (P_S_java_lang_StringUTF16_LO_BYTE_SHIFT : Sta Z h0 "java/lang/StringUTF16" "LO_BYTE_SHIFT" "I" (.int (8 : Int32))) :
    MetFree l (⟨"java/lang/StringUTF16", "getChar", "([BI)C"⟩ : MethodName) (head1 (Jvm.Cond.code (⟨"java/lang/StringUTF16", "getChar", "([BI)C"⟩ : MethodName) jdk_52_method_5_code 2 (some .char) :: ws) R_own_get3_0) (fun a U => a = #[(.ref a1), (.int (0 : Int32))] ∧ Z.Warmed39 U.vm ∧ U.heap = h0) (fun _ _ _ _ _ => True) (fun _ U o U' => ∃ v L, o = .returned v ∧ Q_own_get3_0 Z a1 k1 u0 u1 u2 u3 u4 u5 h0 n0 v U'.heap L ∧ FrameEnd U o U' L R_own_get3_0.cells R_own_get3_0.slots) := by
  refine MetFree.of_bodySF (plainFor_of_name own_pn0) hisR ?_
  intro p e s m args below meth c s₁ Bd hml0 hP hK
  obtain ⟨rfl, hZ, hh⟩ := hP
  have hx := Bd.exec
  have hby := Bd.bytes
  have hml : c.maxLocals = 2 := hml0
  have hown : s.vm.findClass "java/lang/StringUTF16" = some m.cls := findClass_of_methodNamed Bd.named
  have hnm := (name_of_methodNamed Bd.named Bd.method).1
  have X0 : Stand p l e R_own_get3_0 s m #[(.ref a1), (.int (0 : Int32))] below meth c s₁ [] 0 0 := Stand.of_body Bd
  have e0 : s₁.heap = h0 := by rw [← hh, Bd.state]; rfl
  have N0 := Fr.nil n0
  have K0 : Keep h0 h0 [] := Keep.refl h0 []
  show own_Fin p e below s (Q_own_get3_0 Z a1 k1 u0 u1 u2 u3 u4 u5 h0 n0) R_own_get3_0.cells R_own_get3_0.slots (s₁.setTop (entryFrame m #[(.ref a1), (.int (0 : Int32))] 2))
  refine own_go (fun _ k => castTop (ef_own_get3_0 m a1) k) ?_
  show own_Fin _ _ _ _ _ _ _ (s₁.setTop (mkF m 0 #[.val (.ref a1), .val (.int (0 : Int32))] []))
  obtain ⟨T1, X1, e1, st1⟩ := getS2 X0 hx hZ hown (host := "") (Or.inl (own_w hw 81 rfl)) Via.refl e0 P_S_java_lang_StringUTF16__assertionsDisabled (g := (mkF m 0 #[.val (.ref a1), .val (.int (0 : Int32))] [])) rfl (hb hby d19_0)
  refine own_go (B := T1.setTop (mkF m 3 #[.val (.ref a1), .val (.int (0 : Int32))] [(.int (1 : Int32))])) st1 ?_
  have hc2 : ¬ ((1 : Int32) = (0 : Int32)) := by decide
  refine own_go (B := T1.setTop (mkF m 31 #[.val (.ref a1), .val (.int (0 : Int32))] [(.int ((0 : Int32) <<< ((1 : Int32) &&& 31)))])) (fun _ k => XS.ifYes X1.here hx rfl (pc0 := 3) (pc' := 28) rfl (hb hby d19_3) rfl ((if0 _ _).trans (feq hc2).2) (by decide) (by decide) (XS.iloadN X1.here hx rfl (hb hby d19_28) rfl  (XS.iconst X1.here hx rfl (hb hby d19_29) (XS.ishl X1.here hx rfl (hb hby d19_30) rfl k)))) ?_
  rw [show ((0 : Int32) <<< ((1 : Int32) &&& 31)) = (0 : Int32) from by decide]
  show own_Fin _ _ _ _ _ _ _ (T1.setTop (mkF m 31 #[.val (.ref a1), .val (.int (0 : Int32))] [(.int (0 : Int32))]))
  refine own_go (B := T1.setTop (mkF m 37 #[.val (.ref a1), .val (.int ((0 : Int32) + (1 : Int32)))] [(.int (0 : Int32)), (.ref a1)])) (fun _ k => XS.istoreN X1.here hx rfl (hb hby d19_31) rfl (l' := #[.val (.ref a1), .val (.int (0 : Int32))]) rfl (XS.aloadN X1.here hx rfl (hb hby d19_32) rfl rfl (XS.iloadN X1.here hx rfl (hb hby d19_33) rfl  (XS.iinc X1.here hx rfl (hb hby d19_34) rfl (l' := #[.val (.ref a1), .val (.int ((0 : Int32) + (1 : Int32)))]) rfl k)))) ?_
  rw [show ((0 : Int32) + (1 : Int32)) = (1 : Int32) from by decide]
  show own_Fin _ _ _ _ _ _ _ (T1.setTop (mkF m 37 #[.val (.ref a1), .val (.int (1 : Int32))] [(.int (0 : Int32)), (.ref a1)]))
  obtain ⟨cl3, Ar3, q3, S3, N3n, H3, G3⟩ := id P_V_a1
  have hin4 : ¬ ((0 : Int32) < 0 ∨ cl3.slots.size ≤ ((0 : Int32)).toNatClampNeg) := inb_of S3 ⟨by decide, by decide⟩
  have hat4 : cl3.slots[((0 : Int32)).toNatClampNeg]? = some (.int u0) := H3.at hin4 rfl
  refine own_go (B := T1.setTop (mkF m 42 #[.val (.ref a1), .val (.int (1 : Int32))] [(.int (u0 &&& (255 : Int32)))])) (fun _ k => X1.baloadBytes hx (j := (0 : Int32)) (v := (.int u0)) (own_hc e1 Ar3.1) (State.isArrayOf_alike hZ.alike Ar3.2.1) Ar3.2.2 hin4 hat4 (g := (mkF m 37 #[.val (.ref a1), .val (.int (1 : Int32))] [(.int (0 : Int32)), (.ref a1)])) rfl rfl (hb hby d19_37) _ (XS.sipush X1.here hx rfl (hb hby d19_38) (XS.iand X1.here hx rfl (hb hby d19_41) rfl k))) ?_
  obtain ⟨T5, X5, e5, st5⟩ := getS2 X1 hx hZ hown (host := "") (Or.inl (own_w hw 82 rfl)) Via.refl e1 P_S_java_lang_StringUTF16_HI_BYTE_SHIFT (g := (mkF m 42 #[.val (.ref a1), .val (.int (1 : Int32))] [(.int (u0 &&& (255 : Int32)))])) rfl (hb hby d19_42)
  refine own_go (B := T5.setTop (mkF m 45 #[.val (.ref a1), .val (.int (1 : Int32))] [(.int (0 : Int32)), (.int (u0 &&& (255 : Int32)))])) st5 ?_
  refine own_go (B := T5.setTop (mkF m 48 #[.val (.ref a1), .val (.int (1 : Int32))] [(.int (1 : Int32)), (.ref a1), (.int ((u0 &&& (255 : Int32)) <<< ((0 : Int32) &&& 31)))])) (fun _ k => XS.ishl X5.here hx rfl (hb hby d19_45) rfl (XS.aloadN X5.here hx rfl (hb hby d19_46) rfl rfl (XS.iloadN X5.here hx rfl (hb hby d19_47) rfl  k))) ?_
  obtain ⟨cl6, Ar6, q6, S6, N6n, H6, G6⟩ := id P_V_a1
  have hin7 : ¬ ((1 : Int32) < 0 ∨ cl6.slots.size ≤ ((1 : Int32)).toNatClampNeg) := inb_of S6 ⟨by decide, by decide⟩
  have hat7 : cl6.slots[((1 : Int32)).toNatClampNeg]? = some (.int u1) := H6.at hin7 rfl
  refine own_go (B := T5.setTop (mkF m 53 #[.val (.ref a1), .val (.int (1 : Int32))] [(.int (u1 &&& (255 : Int32))), (.int ((u0 &&& (255 : Int32)) <<< ((0 : Int32) &&& 31)))])) (fun _ k => X5.baloadBytes hx (j := (1 : Int32)) (v := (.int u1)) (own_hc e5 Ar6.1) (State.isArrayOf_alike hZ.alike Ar6.2.1) Ar6.2.2 hin7 hat7 (g := (mkF m 48 #[.val (.ref a1), .val (.int (1 : Int32))] [(.int (1 : Int32)), (.ref a1), (.int ((u0 &&& (255 : Int32)) <<< ((0 : Int32) &&& 31)))])) rfl rfl (hb hby d19_48) _ (XS.sipush X5.here hx rfl (hb hby d19_49) (XS.iand X5.here hx rfl (hb hby d19_52) rfl k))) ?_
  obtain ⟨T8, X8, e8, st8⟩ := getS2 X5 hx hZ hown (host := "") (Or.inl (own_w hw 83 rfl)) Via.refl e5 P_S_java_lang_StringUTF16_LO_BYTE_SHIFT (g := (mkF m 53 #[.val (.ref a1), .val (.int (1 : Int32))] [(.int (u1 &&& (255 : Int32))), (.int ((u0 &&& (255 : Int32)) <<< ((0 : Int32) &&& 31)))])) rfl (hb hby d19_53)
  refine own_go (B := T8.setTop (mkF m 56 #[.val (.ref a1), .val (.int (1 : Int32))] [(.int (8 : Int32)), (.int (u1 &&& (255 : Int32))), (.int ((u0 &&& (255 : Int32)) <<< ((0 : Int32) &&& 31)))])) st8 ?_
  refine own_go (B := T8.setTop (mkF m 59 #[.val (.ref a1), .val (.int (1 : Int32))] [(.int ((((u0 &&& (255 : Int32)) <<< ((0 : Int32) &&& 31)) ||| ((u1 &&& (255 : Int32)) <<< ((8 : Int32) &&& 31))).toUInt32.toUInt16.toUInt32.toInt32))])) (fun _ k => XS.ishl X8.here hx rfl (hb hby d19_56) rfl (XS.ior X8.here hx rfl (hb hby d19_57) rfl (XS.i2c X8.here hx rfl (hb hby d19_58) rfl k))) ?_
  exact own_retN X8 hx Bd.notSynchronized (t := .char) (w := ((((u0 &&& (255 : Int32)) <<< ((0 : Int32) &&& 31)) ||| ((u1 &&& (255 : Int32)) <<< ((8 : Int32) &&& 31))).toUInt32.toUInt16.toUInt32.toInt32)) Bd.returns (by simp) (hb hby d19_59) e8 (own_narc _) ⟨rfl, N0, rfl⟩ (by decide) (by decide)
abbrev R_own_put3_1 : Room := { frames := 0, cells := 0, slots := 0, locals := 0 }
theorem ef_own_put3_1 (m : MethodId) (x0 : Addr) (x2 : Int32) : entryFrame m #[(.ref x0), (.int (1 : Int32)), (.int x2)] 3 = mkF m 0 #[.val (.ref x0), .val (.int (1 : Int32)), .val (.int x2)] [] := by first | (simp [entryFrame, mkF, argsToLocals, Value.category]; done) | rfl
def Q_own_put3_1 (Z : State) (a1 : Addr) (k1 : ClassId) (p3 : Int32) (u0 : Int32) (u1 : Int32) (u2 : Int32) (u3 : Int32) (u4 : Int32) (u5 : Int32) (h0 : Heap) (n0 : Nat) (v : Option Value) (h : Heap) (L : List Loc) : Prop := v = none ∧ Fr n0 L ∧ Keep h0 h [a1] ∧ Arv Z h a1 k1 .byte (6 : Int32) [(.int u0), (.int u1), (.int ((p3 >>> ((0 : Int32) &&& 31)).toInt8.toInt32)), (.int ((p3 >>> ((8 : Int32) &&& 31)).toInt8.toInt32)), (.int u4), (.int u5)] (.int (0 : Int32))
set_option maxRecDepth 65536 in
set_option maxHeartbeats 400000000 in
theorem own_put3_1 (l : Launch) (Z : State) (a0 : Array Value) (hw : ∀ d ∈ tables_1, d.before a0 Z = true) (ws : List Jvm.Cond) (a1 : Addr) (k1 : ClassId) (p3 : Int32) (u0 : Int32) (u1 : Int32) (u2 : Int32) (u3 : Int32) (u4 : Int32) (u5 : Int32) (h0 : Heap) (n0 : Nat) (Z0 : n0 ≤ h0.size) (P_V_a1 : Arv Z h0 a1 k1 .byte (6 : Int32) [(.int u0), (.int u1), (.int u2), (.int u3), (.int u4), (.int u5)] (.int (0 : Int32))) (g_a1 : n0 ≤ a1) (P_S_java_lang_StringUTF16__assertionsDisabled : Sta Z h0 "java/lang/StringUTF16" "$assertionsDisabled" "Z" (.int (1 : Int32))) (P_S_java_lang_StringUTF16_HI_BYTE_SHIFT : Sta Z h0 "java/lang/StringUTF16" "HI_BYTE_SHIFT" "I" (.int (0 : Int32))) (P_S_java_lang_StringUTF16_LO_BYTE_SHIFT : Sta Z h0 "java/lang/StringUTF16" "LO_BYTE_SHIFT" "I" (.int (8 : Int32))) :
    MetFree l (⟨"java/lang/StringUTF16", "putChar", "([BII)V"⟩ : MethodName) (head1 (Jvm.Cond.code (⟨"java/lang/StringUTF16", "putChar", "([BII)V"⟩ : MethodName) jdk_52_method_4_code 3 none :: ws) R_own_put3_1) (fun a U => a = #[(.ref a1), (.int (1 : Int32)), (.int p3)] ∧ Z.Warmed39 U.vm ∧ U.heap = h0) (fun _ _ _ _ _ => True) (fun _ U o U' => ∃ v L, o = .returned v ∧ Q_own_put3_1 Z a1 k1 p3 u0 u1 u2 u3 u4 u5 h0 n0 v U'.heap L ∧ FrameEnd U o U' L R_own_put3_1.cells R_own_put3_1.slots) := by
  refine MetFree.of_bodySF (plainFor_of_name own_pn0) hisR ?_
  intro p e s m args below meth c s₁ Bd hml0 hP hK
  obtain ⟨rfl, hZ, hh⟩ := hP
  have hx := Bd.exec
  have hby := Bd.bytes
  have hml : c.maxLocals = 3 := hml0
  have hown : s.vm.findClass "java/lang/StringUTF16" = some m.cls := findClass_of_methodNamed Bd.named
  have hnm := (name_of_methodNamed Bd.named Bd.method).1
  have X0 : Stand p l e R_own_put3_1 s m #[(.ref a1), (.int (1 : Int32)), (.int p3)] below meth c s₁ [] 0 0 := Stand.of_body Bd
  have e0 : s₁.heap = h0 := by rw [← hh, Bd.state]; rfl
  have N0 := Fr.nil n0
  have K0 : Keep h0 h0 [a1] := Keep.refl h0 [a1]
  show own_Fin p e below s (Q_own_put3_1 Z a1 k1 p3 u0 u1 u2 u3 u4 u5 h0 n0) R_own_put3_1.cells R_own_put3_1.slots (s₁.setTop (entryFrame m #[(.ref a1), (.int (1 : Int32)), (.int p3)] 3))
  refine own_go (fun _ k => castTop (ef_own_put3_1 m a1 p3) k) ?_
  show own_Fin _ _ _ _ _ _ _ (s₁.setTop (mkF m 0 #[.val (.ref a1), .val (.int (1 : Int32)), .val (.int p3)] []))
  obtain ⟨T1, X1, e1, st1⟩ := getS2 X0 hx hZ hown (host := "") (Or.inl (own_w hw 81 rfl)) Via.refl e0 P_S_java_lang_StringUTF16__assertionsDisabled (g := (mkF m 0 #[.val (.ref a1), .val (.int (1 : Int32)), .val (.int p3)] [])) rfl (hb hby d18_0)
  refine own_go (B := T1.setTop (mkF m 3 #[.val (.ref a1), .val (.int (1 : Int32)), .val (.int p3)] [(.int (1 : Int32))])) st1 ?_
  have hc2 : ¬ ((1 : Int32) = (0 : Int32)) := by decide
  refine own_go (B := T1.setTop (mkF m 31 #[.val (.ref a1), .val (.int (1 : Int32)), .val (.int p3)] [(.int ((1 : Int32) <<< ((1 : Int32) &&& 31)))])) (fun _ k => XS.ifYes X1.here hx rfl (pc0 := 3) (pc' := 28) rfl (hb hby d18_3) rfl ((if0 _ _).trans (feq hc2).2) (by decide) (by decide) (XS.iloadN X1.here hx rfl (hb hby d18_28) rfl  (XS.iconst X1.here hx rfl (hb hby d18_29) (XS.ishl X1.here hx rfl (hb hby d18_30) rfl k)))) ?_
  rw [show ((1 : Int32) <<< ((1 : Int32) &&& 31)) = (2 : Int32) from by decide]
  show own_Fin _ _ _ _ _ _ _ (T1.setTop (mkF m 31 #[.val (.ref a1), .val (.int (1 : Int32)), .val (.int p3)] [(.int (2 : Int32))]))
  refine own_go (B := T1.setTop (mkF m 37 #[.val (.ref a1), .val (.int ((2 : Int32) + (1 : Int32))), .val (.int p3)] [(.int (2 : Int32)), (.ref a1)])) (fun _ k => XS.istoreN X1.here hx rfl (hb hby d18_31) rfl (l' := #[.val (.ref a1), .val (.int (2 : Int32)), .val (.int p3)]) rfl (XS.aloadN X1.here hx rfl (hb hby d18_32) rfl rfl (XS.iloadN X1.here hx rfl (hb hby d18_33) rfl  (XS.iinc X1.here hx rfl (hb hby d18_34) rfl (l' := #[.val (.ref a1), .val (.int ((2 : Int32) + (1 : Int32))), .val (.int p3)]) rfl k)))) ?_
  rw [show ((2 : Int32) + (1 : Int32)) = (3 : Int32) from by decide]
  show own_Fin _ _ _ _ _ _ _ (T1.setTop (mkF m 37 #[.val (.ref a1), .val (.int (3 : Int32)), .val (.int p3)] [(.int (2 : Int32)), (.ref a1)]))
  refine own_go (B := T1.setTop (mkF m 38 #[.val (.ref a1), .val (.int (3 : Int32)), .val (.int p3)] [(.int p3), (.int (2 : Int32)), (.ref a1)])) (fun _ k => XS.iloadN X1.here hx rfl (hb hby d18_37) rfl  k) ?_
  obtain ⟨T3, X3, e3, st3⟩ := getS2 X1 hx hZ hown (host := "") (Or.inl (own_w hw 82 rfl)) Via.refl e1 P_S_java_lang_StringUTF16_HI_BYTE_SHIFT (g := (mkF m 38 #[.val (.ref a1), .val (.int (3 : Int32)), .val (.int p3)] [(.int p3), (.int (2 : Int32)), (.ref a1)])) rfl (hb hby d18_38)
  refine own_go (B := T3.setTop (mkF m 41 #[.val (.ref a1), .val (.int (3 : Int32)), .val (.int p3)] [(.int (0 : Int32)), (.int p3), (.int (2 : Int32)), (.ref a1)])) st3 ?_
  refine own_go (B := T3.setTop (mkF m 43 #[.val (.ref a1), .val (.int (3 : Int32)), .val (.int p3)] [(.int ((p3 >>> ((0 : Int32) &&& 31)).toInt8.toInt32)), (.int (2 : Int32)), (.ref a1)])) (fun _ k => XS.ishr X3.here hx rfl (hb hby d18_41) rfl (XS.i2b X3.here hx rfl (hb hby d18_42) rfl k)) ?_
  obtain ⟨cl4, Ar4, q4, S4, N4n, H4, G4⟩ := id P_V_a1
  have hin5 : ¬ ((2 : Int32) < 0 ∨ cl4.slots.size ≤ ((2 : Int32)).toNatClampNeg) := inb_of S4 ⟨by decide, by decide⟩
  obtain ⟨T5, h5, X5, e5, W5, st5⟩ := stB X3 hx hZ e3 Ar4 (j := (2 : Int32)) hin5 (g := (mkF m 43 #[.val (.ref a1), .val (.int (3 : Int32)), .val (.int p3)] [(.int ((p3 >>> ((0 : Int32) &&& 31)).toInt8.toInt32)), (.int (2 : Int32)), (.ref a1)])) rfl rfl (hb hby d18_43)
  rw [own_narb] at W5
  have V_a1_5 : Arv Z h5 a1 k1 .byte (6 : Int32) [(.int u0), (.int u1), (.int ((p3 >>> ((0 : Int32) &&& 31)).toInt8.toInt32)), (.int u3), (.int u4), (.int u5)] (.int (0 : Int32)) := Arv.set Ar4 q4 S4 N4n H4 G4 (fits_nar_byte _) W5 2 rfl (Nat.le_of_ble_eq_true rfl)
  have S_8 := P_S_java_lang_StringUTF16__assertionsDisabled.wr W5
  have S_9 := P_S_java_lang_StringUTF16_HI_BYTE_SHIFT.wr W5
  have S_10 := P_S_java_lang_StringUTF16_LO_BYTE_SHIFT.wr W5
  have K11 : Keep h0 h5 [a1] := K0.wr W5 (Or.inl (List.mem_of_getElem? (i := 0) rfl))
  have N5 := Fr.snoc X5 N0 g_a1
  refine own_go (B := T5.setTop (mkF m 44 #[.val (.ref a1), .val (.int (3 : Int32)), .val (.int p3)] [])) st5 ?_
  refine own_go (B := T5.setTop (mkF m 47 #[.val (.ref a1), .val (.int (3 : Int32)), .val (.int p3)] [(.int p3), (.int (3 : Int32)), (.ref a1)])) (fun _ k => XS.aloadN X5.here hx rfl (hb hby d18_44) rfl rfl (XS.iloadN X5.here hx rfl (hb hby d18_45) rfl  (XS.iloadN X5.here hx rfl (hb hby d18_46) rfl  k))) ?_
  obtain ⟨T12, X12, e12, st12⟩ := getS2 X5 hx hZ hown (host := "") (Or.inl (own_w hw 83 rfl)) Via.refl e5 S_10 (g := (mkF m 47 #[.val (.ref a1), .val (.int (3 : Int32)), .val (.int p3)] [(.int p3), (.int (3 : Int32)), (.ref a1)])) rfl (hb hby d18_47)
  refine own_go (B := T12.setTop (mkF m 50 #[.val (.ref a1), .val (.int (3 : Int32)), .val (.int p3)] [(.int (8 : Int32)), (.int p3), (.int (3 : Int32)), (.ref a1)])) st12 ?_
  refine own_go (B := T12.setTop (mkF m 52 #[.val (.ref a1), .val (.int (3 : Int32)), .val (.int p3)] [(.int ((p3 >>> ((8 : Int32) &&& 31)).toInt8.toInt32)), (.int (3 : Int32)), (.ref a1)])) (fun _ k => XS.ishr X12.here hx rfl (hb hby d18_50) rfl (XS.i2b X12.here hx rfl (hb hby d18_51) rfl k)) ?_
  obtain ⟨cl13, Ar13, q13, S13, N13n, H13, G13⟩ := id V_a1_5
  have hin14 : ¬ ((3 : Int32) < 0 ∨ cl13.slots.size ≤ ((3 : Int32)).toNatClampNeg) := inb_of S13 ⟨by decide, by decide⟩
  obtain ⟨T14, h14, X14, e14, W14, st14⟩ := stB X12 hx hZ e12 Ar13 (j := (3 : Int32)) hin14 (g := (mkF m 52 #[.val (.ref a1), .val (.int (3 : Int32)), .val (.int p3)] [(.int ((p3 >>> ((8 : Int32) &&& 31)).toInt8.toInt32)), (.int (3 : Int32)), (.ref a1)])) rfl rfl (hb hby d18_52)
  rw [own_narb] at W14
  have V_a1_14 : Arv Z h14 a1 k1 .byte (6 : Int32) [(.int u0), (.int u1), (.int ((p3 >>> ((0 : Int32) &&& 31)).toInt8.toInt32)), (.int ((p3 >>> ((8 : Int32) &&& 31)).toInt8.toInt32)), (.int u4), (.int u5)] (.int (0 : Int32)) := Arv.set Ar13 q13 S13 N13n H13 G13 (fits_nar_byte _) W14 3 rfl (Nat.le_of_ble_eq_true rfl)
  have S_16 := S_8.wr W14
  have S_17 := S_9.wr W14
  have S_18 := S_10.wr W14
  have K20 : Keep h0 h14 [a1] := K11.wr W14 (Or.inl (List.mem_of_getElem? (i := 0) rfl))
  have N14 := Fr.snoc X14 N5 g_a1
  refine own_go (B := T14.setTop (mkF m 53 #[.val (.ref a1), .val (.int (3 : Int32)), .val (.int p3)] [])) st14 ?_
  exact own_retV X14 hx Bd.notSynchronized Bd.returns (hb hby d18_53) e14 ⟨rfl, N14, K20, V_a1_14⟩ (by decide) (by decide)
abbrev R_own_get3_1 : Room := { frames := 0, cells := 0, slots := 0, locals := 0 }
theorem ef_own_get3_1 (m : MethodId) (x0 : Addr) : entryFrame m #[(.ref x0), (.int (1 : Int32))] 2 = mkF m 0 #[.val (.ref x0), .val (.int (1 : Int32))] [] := by first | (simp [entryFrame, mkF, argsToLocals, Value.category]; done) | rfl
def Q_own_get3_1 (Z : State) (a1 : Addr) (k1 : ClassId) (u0 : Int32) (u1 : Int32) (u2 : Int32) (u3 : Int32) (u4 : Int32) (u5 : Int32) (h0 : Heap) (n0 : Nat) (v : Option Value) (h : Heap) (L : List Loc) : Prop := v = some (.int ((((u2 &&& (255 : Int32)) <<< ((0 : Int32) &&& 31)) ||| ((u3 &&& (255 : Int32)) <<< ((8 : Int32) &&& 31))).toUInt32.toUInt16.toUInt32.toInt32)) ∧ Fr n0 L ∧ h = h0
set_option maxRecDepth 65536 in
set_option maxHeartbeats 400000000 in
theorem own_get3_1 (l : Launch) (Z : State) (a0 : Array Value) (hw : ∀ d ∈ tables_1, d.before a0 Z = true) (ws : List Jvm.Cond) (a1 : Addr) (k1 : ClassId) (u0 : Int32) (u1 : Int32) (u2 : Int32) (u3 : Int32) (u4 : Int32) (u5 : Int32) (h0 : Heap) (n0 : Nat) (Z0 : n0 ≤ h0.size) (P_V_a1 : Arv Z h0 a1 k1 .byte (6 : Int32) [(.int u0), (.int u1), (.int u2), (.int u3), (.int u4), (.int u5)] (.int (0 : Int32))) (P_S_java_lang_StringUTF16__assertionsDisabled : Sta Z h0 "java/lang/StringUTF16" "$assertionsDisabled" "Z" (.int (1 : Int32))) (P_S_java_lang_StringUTF16_HI_BYTE_SHIFT : Sta Z h0 "java/lang/StringUTF16" "HI_BYTE_SHIFT" "I" (.int (0 : Int32))) (P_S_java_lang_StringUTF16_LO_BYTE_SHIFT : Sta Z h0 "java/lang/StringUTF16" "LO_BYTE_SHIFT" "I" (.int (8 : Int32))) :
    MetFree l (⟨"java/lang/StringUTF16", "getChar", "([BI)C"⟩ : MethodName) (head1 (Jvm.Cond.code (⟨"java/lang/StringUTF16", "getChar", "([BI)C"⟩ : MethodName) jdk_52_method_5_code 2 (some .char) :: ws) R_own_get3_1) (fun a U => a = #[(.ref a1), (.int (1 : Int32))] ∧ Z.Warmed39 U.vm ∧ U.heap = h0) (fun _ _ _ _ _ => True) (fun _ U o U' => ∃ v L, o = .returned v ∧ Q_own_get3_1 Z a1 k1 u0 u1 u2 u3 u4 u5 h0 n0 v U'.heap L ∧ FrameEnd U o U' L R_own_get3_1.cells R_own_get3_1.slots) := by
  refine MetFree.of_bodySF (plainFor_of_name own_pn0) hisR ?_
  intro p e s m args below meth c s₁ Bd hml0 hP hK
  obtain ⟨rfl, hZ, hh⟩ := hP
  have hx := Bd.exec
  have hby := Bd.bytes
  have hml : c.maxLocals = 2 := hml0
  have hown : s.vm.findClass "java/lang/StringUTF16" = some m.cls := findClass_of_methodNamed Bd.named
  have hnm := (name_of_methodNamed Bd.named Bd.method).1
  have X0 : Stand p l e R_own_get3_1 s m #[(.ref a1), (.int (1 : Int32))] below meth c s₁ [] 0 0 := Stand.of_body Bd
  have e0 : s₁.heap = h0 := by rw [← hh, Bd.state]; rfl
  have N0 := Fr.nil n0
  have K0 : Keep h0 h0 [] := Keep.refl h0 []
  show own_Fin p e below s (Q_own_get3_1 Z a1 k1 u0 u1 u2 u3 u4 u5 h0 n0) R_own_get3_1.cells R_own_get3_1.slots (s₁.setTop (entryFrame m #[(.ref a1), (.int (1 : Int32))] 2))
  refine own_go (fun _ k => castTop (ef_own_get3_1 m a1) k) ?_
  show own_Fin _ _ _ _ _ _ _ (s₁.setTop (mkF m 0 #[.val (.ref a1), .val (.int (1 : Int32))] []))
  obtain ⟨T1, X1, e1, st1⟩ := getS2 X0 hx hZ hown (host := "") (Or.inl (own_w hw 81 rfl)) Via.refl e0 P_S_java_lang_StringUTF16__assertionsDisabled (g := (mkF m 0 #[.val (.ref a1), .val (.int (1 : Int32))] [])) rfl (hb hby d19_0)
  refine own_go (B := T1.setTop (mkF m 3 #[.val (.ref a1), .val (.int (1 : Int32))] [(.int (1 : Int32))])) st1 ?_
  have hc2 : ¬ ((1 : Int32) = (0 : Int32)) := by decide
  refine own_go (B := T1.setTop (mkF m 31 #[.val (.ref a1), .val (.int (1 : Int32))] [(.int ((1 : Int32) <<< ((1 : Int32) &&& 31)))])) (fun _ k => XS.ifYes X1.here hx rfl (pc0 := 3) (pc' := 28) rfl (hb hby d19_3) rfl ((if0 _ _).trans (feq hc2).2) (by decide) (by decide) (XS.iloadN X1.here hx rfl (hb hby d19_28) rfl  (XS.iconst X1.here hx rfl (hb hby d19_29) (XS.ishl X1.here hx rfl (hb hby d19_30) rfl k)))) ?_
  rw [show ((1 : Int32) <<< ((1 : Int32) &&& 31)) = (2 : Int32) from by decide]
  show own_Fin _ _ _ _ _ _ _ (T1.setTop (mkF m 31 #[.val (.ref a1), .val (.int (1 : Int32))] [(.int (2 : Int32))]))
  refine own_go (B := T1.setTop (mkF m 37 #[.val (.ref a1), .val (.int ((2 : Int32) + (1 : Int32)))] [(.int (2 : Int32)), (.ref a1)])) (fun _ k => XS.istoreN X1.here hx rfl (hb hby d19_31) rfl (l' := #[.val (.ref a1), .val (.int (2 : Int32))]) rfl (XS.aloadN X1.here hx rfl (hb hby d19_32) rfl rfl (XS.iloadN X1.here hx rfl (hb hby d19_33) rfl  (XS.iinc X1.here hx rfl (hb hby d19_34) rfl (l' := #[.val (.ref a1), .val (.int ((2 : Int32) + (1 : Int32)))]) rfl k)))) ?_
  rw [show ((2 : Int32) + (1 : Int32)) = (3 : Int32) from by decide]
  show own_Fin _ _ _ _ _ _ _ (T1.setTop (mkF m 37 #[.val (.ref a1), .val (.int (3 : Int32))] [(.int (2 : Int32)), (.ref a1)]))
  obtain ⟨cl3, Ar3, q3, S3, N3n, H3, G3⟩ := id P_V_a1
  have hin4 : ¬ ((2 : Int32) < 0 ∨ cl3.slots.size ≤ ((2 : Int32)).toNatClampNeg) := inb_of S3 ⟨by decide, by decide⟩
  have hat4 : cl3.slots[((2 : Int32)).toNatClampNeg]? = some (.int u2) := H3.at hin4 rfl
  refine own_go (B := T1.setTop (mkF m 42 #[.val (.ref a1), .val (.int (3 : Int32))] [(.int (u2 &&& (255 : Int32)))])) (fun _ k => X1.baloadBytes hx (j := (2 : Int32)) (v := (.int u2)) (own_hc e1 Ar3.1) (State.isArrayOf_alike hZ.alike Ar3.2.1) Ar3.2.2 hin4 hat4 (g := (mkF m 37 #[.val (.ref a1), .val (.int (3 : Int32))] [(.int (2 : Int32)), (.ref a1)])) rfl rfl (hb hby d19_37) _ (XS.sipush X1.here hx rfl (hb hby d19_38) (XS.iand X1.here hx rfl (hb hby d19_41) rfl k))) ?_
  obtain ⟨T5, X5, e5, st5⟩ := getS2 X1 hx hZ hown (host := "") (Or.inl (own_w hw 82 rfl)) Via.refl e1 P_S_java_lang_StringUTF16_HI_BYTE_SHIFT (g := (mkF m 42 #[.val (.ref a1), .val (.int (3 : Int32))] [(.int (u2 &&& (255 : Int32)))])) rfl (hb hby d19_42)
  refine own_go (B := T5.setTop (mkF m 45 #[.val (.ref a1), .val (.int (3 : Int32))] [(.int (0 : Int32)), (.int (u2 &&& (255 : Int32)))])) st5 ?_
  refine own_go (B := T5.setTop (mkF m 48 #[.val (.ref a1), .val (.int (3 : Int32))] [(.int (3 : Int32)), (.ref a1), (.int ((u2 &&& (255 : Int32)) <<< ((0 : Int32) &&& 31)))])) (fun _ k => XS.ishl X5.here hx rfl (hb hby d19_45) rfl (XS.aloadN X5.here hx rfl (hb hby d19_46) rfl rfl (XS.iloadN X5.here hx rfl (hb hby d19_47) rfl  k))) ?_
  obtain ⟨cl6, Ar6, q6, S6, N6n, H6, G6⟩ := id P_V_a1
  have hin7 : ¬ ((3 : Int32) < 0 ∨ cl6.slots.size ≤ ((3 : Int32)).toNatClampNeg) := inb_of S6 ⟨by decide, by decide⟩
  have hat7 : cl6.slots[((3 : Int32)).toNatClampNeg]? = some (.int u3) := H6.at hin7 rfl
  refine own_go (B := T5.setTop (mkF m 53 #[.val (.ref a1), .val (.int (3 : Int32))] [(.int (u3 &&& (255 : Int32))), (.int ((u2 &&& (255 : Int32)) <<< ((0 : Int32) &&& 31)))])) (fun _ k => X5.baloadBytes hx (j := (3 : Int32)) (v := (.int u3)) (own_hc e5 Ar6.1) (State.isArrayOf_alike hZ.alike Ar6.2.1) Ar6.2.2 hin7 hat7 (g := (mkF m 48 #[.val (.ref a1), .val (.int (3 : Int32))] [(.int (3 : Int32)), (.ref a1), (.int ((u2 &&& (255 : Int32)) <<< ((0 : Int32) &&& 31)))])) rfl rfl (hb hby d19_48) _ (XS.sipush X5.here hx rfl (hb hby d19_49) (XS.iand X5.here hx rfl (hb hby d19_52) rfl k))) ?_
  obtain ⟨T8, X8, e8, st8⟩ := getS2 X5 hx hZ hown (host := "") (Or.inl (own_w hw 83 rfl)) Via.refl e5 P_S_java_lang_StringUTF16_LO_BYTE_SHIFT (g := (mkF m 53 #[.val (.ref a1), .val (.int (3 : Int32))] [(.int (u3 &&& (255 : Int32))), (.int ((u2 &&& (255 : Int32)) <<< ((0 : Int32) &&& 31)))])) rfl (hb hby d19_53)
  refine own_go (B := T8.setTop (mkF m 56 #[.val (.ref a1), .val (.int (3 : Int32))] [(.int (8 : Int32)), (.int (u3 &&& (255 : Int32))), (.int ((u2 &&& (255 : Int32)) <<< ((0 : Int32) &&& 31)))])) st8 ?_
  refine own_go (B := T8.setTop (mkF m 59 #[.val (.ref a1), .val (.int (3 : Int32))] [(.int ((((u2 &&& (255 : Int32)) <<< ((0 : Int32) &&& 31)) ||| ((u3 &&& (255 : Int32)) <<< ((8 : Int32) &&& 31))).toUInt32.toUInt16.toUInt32.toInt32))])) (fun _ k => XS.ishl X8.here hx rfl (hb hby d19_56) rfl (XS.ior X8.here hx rfl (hb hby d19_57) rfl (XS.i2c X8.here hx rfl (hb hby d19_58) rfl k))) ?_
  exact own_retN X8 hx Bd.notSynchronized (t := .char) (w := ((((u2 &&& (255 : Int32)) <<< ((0 : Int32) &&& 31)) ||| ((u3 &&& (255 : Int32)) <<< ((8 : Int32) &&& 31))).toUInt32.toUInt16.toUInt32.toInt32)) Bd.returns (by simp) (hb hby d19_59) e8 (own_narc _) ⟨rfl, N0, rfl⟩ (by decide) (by decide)
abbrev R_own_put3_2 : Room := { frames := 0, cells := 0, slots := 0, locals := 0 }
theorem ef_own_put3_2 (m : MethodId) (x0 : Addr) (x2 : Int32) : entryFrame m #[(.ref x0), (.int (2 : Int32)), (.int x2)] 3 = mkF m 0 #[.val (.ref x0), .val (.int (2 : Int32)), .val (.int x2)] [] := by first | (simp [entryFrame, mkF, argsToLocals, Value.category]; done) | rfl
def Q_own_put3_2 (Z : State) (a1 : Addr) (k1 : ClassId) (p3 : Int32) (u0 : Int32) (u1 : Int32) (u2 : Int32) (u3 : Int32) (u4 : Int32) (u5 : Int32) (h0 : Heap) (n0 : Nat) (v : Option Value) (h : Heap) (L : List Loc) : Prop := v = none ∧ Fr n0 L ∧ Keep h0 h [a1] ∧ Arv Z h a1 k1 .byte (6 : Int32) [(.int u0), (.int u1), (.int u2), (.int u3), (.int ((p3 >>> ((0 : Int32) &&& 31)).toInt8.toInt32)), (.int ((p3 >>> ((8 : Int32) &&& 31)).toInt8.toInt32))] (.int (0 : Int32))
set_option maxRecDepth 65536 in
set_option maxHeartbeats 400000000 in
theorem own_put3_2 (l : Launch) (Z : State) (a0 : Array Value) (hw : ∀ d ∈ tables_1, d.before a0 Z = true) (ws : List Jvm.Cond) (a1 : Addr) (k1 : ClassId) (p3 : Int32) (u0 : Int32) (u1 : Int32) (u2 : Int32) (u3 : Int32) (u4 : Int32) (u5 : Int32) (h0 : Heap) (n0 : Nat) (Z0 : n0 ≤ h0.size) (P_V_a1 : Arv Z h0 a1 k1 .byte (6 : Int32) [(.int u0), (.int u1), (.int u2), (.int u3), (.int u4), (.int u5)] (.int (0 : Int32))) (g_a1 : n0 ≤ a1) (P_S_java_lang_StringUTF16__assertionsDisabled : Sta Z h0 "java/lang/StringUTF16" "$assertionsDisabled" "Z" (.int (1 : Int32))) (P_S_java_lang_StringUTF16_HI_BYTE_SHIFT : Sta Z h0 "java/lang/StringUTF16" "HI_BYTE_SHIFT" "I" (.int (0 : Int32))) (P_S_java_lang_StringUTF16_LO_BYTE_SHIFT : Sta Z h0 "java/lang/StringUTF16" "LO_BYTE_SHIFT" "I" (.int (8 : Int32))) :
    MetFree l (⟨"java/lang/StringUTF16", "putChar", "([BII)V"⟩ : MethodName) (head1 (Jvm.Cond.code (⟨"java/lang/StringUTF16", "putChar", "([BII)V"⟩ : MethodName) jdk_52_method_4_code 3 none :: ws) R_own_put3_2) (fun a U => a = #[(.ref a1), (.int (2 : Int32)), (.int p3)] ∧ Z.Warmed39 U.vm ∧ U.heap = h0) (fun _ _ _ _ _ => True) (fun _ U o U' => ∃ v L, o = .returned v ∧ Q_own_put3_2 Z a1 k1 p3 u0 u1 u2 u3 u4 u5 h0 n0 v U'.heap L ∧ FrameEnd U o U' L R_own_put3_2.cells R_own_put3_2.slots) := by
  refine MetFree.of_bodySF (plainFor_of_name own_pn0) hisR ?_
  intro p e s m args below meth c s₁ Bd hml0 hP hK
  obtain ⟨rfl, hZ, hh⟩ := hP
  have hx := Bd.exec
  have hby := Bd.bytes
  have hml : c.maxLocals = 3 := hml0
  have hown : s.vm.findClass "java/lang/StringUTF16" = some m.cls := findClass_of_methodNamed Bd.named
  have hnm := (name_of_methodNamed Bd.named Bd.method).1
  have X0 : Stand p l e R_own_put3_2 s m #[(.ref a1), (.int (2 : Int32)), (.int p3)] below meth c s₁ [] 0 0 := Stand.of_body Bd
  have e0 : s₁.heap = h0 := by rw [← hh, Bd.state]; rfl
  have N0 := Fr.nil n0
  have K0 : Keep h0 h0 [a1] := Keep.refl h0 [a1]
  show own_Fin p e below s (Q_own_put3_2 Z a1 k1 p3 u0 u1 u2 u3 u4 u5 h0 n0) R_own_put3_2.cells R_own_put3_2.slots (s₁.setTop (entryFrame m #[(.ref a1), (.int (2 : Int32)), (.int p3)] 3))
  refine own_go (fun _ k => castTop (ef_own_put3_2 m a1 p3) k) ?_
  show own_Fin _ _ _ _ _ _ _ (s₁.setTop (mkF m 0 #[.val (.ref a1), .val (.int (2 : Int32)), .val (.int p3)] []))
  obtain ⟨T1, X1, e1, st1⟩ := getS2 X0 hx hZ hown (host := "") (Or.inl (own_w hw 81 rfl)) Via.refl e0 P_S_java_lang_StringUTF16__assertionsDisabled (g := (mkF m 0 #[.val (.ref a1), .val (.int (2 : Int32)), .val (.int p3)] [])) rfl (hb hby d18_0)
  refine own_go (B := T1.setTop (mkF m 3 #[.val (.ref a1), .val (.int (2 : Int32)), .val (.int p3)] [(.int (1 : Int32))])) st1 ?_
  have hc2 : ¬ ((1 : Int32) = (0 : Int32)) := by decide
  refine own_go (B := T1.setTop (mkF m 31 #[.val (.ref a1), .val (.int (2 : Int32)), .val (.int p3)] [(.int ((2 : Int32) <<< ((1 : Int32) &&& 31)))])) (fun _ k => XS.ifYes X1.here hx rfl (pc0 := 3) (pc' := 28) rfl (hb hby d18_3) rfl ((if0 _ _).trans (feq hc2).2) (by decide) (by decide) (XS.iloadN X1.here hx rfl (hb hby d18_28) rfl  (XS.iconst X1.here hx rfl (hb hby d18_29) (XS.ishl X1.here hx rfl (hb hby d18_30) rfl k)))) ?_
  rw [show ((2 : Int32) <<< ((1 : Int32) &&& 31)) = (4 : Int32) from by decide]
  show own_Fin _ _ _ _ _ _ _ (T1.setTop (mkF m 31 #[.val (.ref a1), .val (.int (2 : Int32)), .val (.int p3)] [(.int (4 : Int32))]))
  refine own_go (B := T1.setTop (mkF m 37 #[.val (.ref a1), .val (.int ((4 : Int32) + (1 : Int32))), .val (.int p3)] [(.int (4 : Int32)), (.ref a1)])) (fun _ k => XS.istoreN X1.here hx rfl (hb hby d18_31) rfl (l' := #[.val (.ref a1), .val (.int (4 : Int32)), .val (.int p3)]) rfl (XS.aloadN X1.here hx rfl (hb hby d18_32) rfl rfl (XS.iloadN X1.here hx rfl (hb hby d18_33) rfl  (XS.iinc X1.here hx rfl (hb hby d18_34) rfl (l' := #[.val (.ref a1), .val (.int ((4 : Int32) + (1 : Int32))), .val (.int p3)]) rfl k)))) ?_
  rw [show ((4 : Int32) + (1 : Int32)) = (5 : Int32) from by decide]
  show own_Fin _ _ _ _ _ _ _ (T1.setTop (mkF m 37 #[.val (.ref a1), .val (.int (5 : Int32)), .val (.int p3)] [(.int (4 : Int32)), (.ref a1)]))
  refine own_go (B := T1.setTop (mkF m 38 #[.val (.ref a1), .val (.int (5 : Int32)), .val (.int p3)] [(.int p3), (.int (4 : Int32)), (.ref a1)])) (fun _ k => XS.iloadN X1.here hx rfl (hb hby d18_37) rfl  k) ?_
  obtain ⟨T3, X3, e3, st3⟩ := getS2 X1 hx hZ hown (host := "") (Or.inl (own_w hw 82 rfl)) Via.refl e1 P_S_java_lang_StringUTF16_HI_BYTE_SHIFT (g := (mkF m 38 #[.val (.ref a1), .val (.int (5 : Int32)), .val (.int p3)] [(.int p3), (.int (4 : Int32)), (.ref a1)])) rfl (hb hby d18_38)
  refine own_go (B := T3.setTop (mkF m 41 #[.val (.ref a1), .val (.int (5 : Int32)), .val (.int p3)] [(.int (0 : Int32)), (.int p3), (.int (4 : Int32)), (.ref a1)])) st3 ?_
  refine own_go (B := T3.setTop (mkF m 43 #[.val (.ref a1), .val (.int (5 : Int32)), .val (.int p3)] [(.int ((p3 >>> ((0 : Int32) &&& 31)).toInt8.toInt32)), (.int (4 : Int32)), (.ref a1)])) (fun _ k => XS.ishr X3.here hx rfl (hb hby d18_41) rfl (XS.i2b X3.here hx rfl (hb hby d18_42) rfl k)) ?_
  obtain ⟨cl4, Ar4, q4, S4, N4n, H4, G4⟩ := id P_V_a1
  have hin5 : ¬ ((4 : Int32) < 0 ∨ cl4.slots.size ≤ ((4 : Int32)).toNatClampNeg) := inb_of S4 ⟨by decide, by decide⟩
  obtain ⟨T5, h5, X5, e5, W5, st5⟩ := stB X3 hx hZ e3 Ar4 (j := (4 : Int32)) hin5 (g := (mkF m 43 #[.val (.ref a1), .val (.int (5 : Int32)), .val (.int p3)] [(.int ((p3 >>> ((0 : Int32) &&& 31)).toInt8.toInt32)), (.int (4 : Int32)), (.ref a1)])) rfl rfl (hb hby d18_43)
  rw [own_narb] at W5
  have V_a1_5 : Arv Z h5 a1 k1 .byte (6 : Int32) [(.int u0), (.int u1), (.int u2), (.int u3), (.int ((p3 >>> ((0 : Int32) &&& 31)).toInt8.toInt32)), (.int u5)] (.int (0 : Int32)) := Arv.set Ar4 q4 S4 N4n H4 G4 (fits_nar_byte _) W5 4 rfl (Nat.le_of_ble_eq_true rfl)
  have S_8 := P_S_java_lang_StringUTF16__assertionsDisabled.wr W5
  have S_9 := P_S_java_lang_StringUTF16_HI_BYTE_SHIFT.wr W5
  have S_10 := P_S_java_lang_StringUTF16_LO_BYTE_SHIFT.wr W5
  have K11 : Keep h0 h5 [a1] := K0.wr W5 (Or.inl (List.mem_of_getElem? (i := 0) rfl))
  have N5 := Fr.snoc X5 N0 g_a1
  refine own_go (B := T5.setTop (mkF m 44 #[.val (.ref a1), .val (.int (5 : Int32)), .val (.int p3)] [])) st5 ?_
  refine own_go (B := T5.setTop (mkF m 47 #[.val (.ref a1), .val (.int (5 : Int32)), .val (.int p3)] [(.int p3), (.int (5 : Int32)), (.ref a1)])) (fun _ k => XS.aloadN X5.here hx rfl (hb hby d18_44) rfl rfl (XS.iloadN X5.here hx rfl (hb hby d18_45) rfl  (XS.iloadN X5.here hx rfl (hb hby d18_46) rfl  k))) ?_
  obtain ⟨T12, X12, e12, st12⟩ := getS2 X5 hx hZ hown (host := "") (Or.inl (own_w hw 83 rfl)) Via.refl e5 S_10 (g := (mkF m 47 #[.val (.ref a1), .val (.int (5 : Int32)), .val (.int p3)] [(.int p3), (.int (5 : Int32)), (.ref a1)])) rfl (hb hby d18_47)
  refine own_go (B := T12.setTop (mkF m 50 #[.val (.ref a1), .val (.int (5 : Int32)), .val (.int p3)] [(.int (8 : Int32)), (.int p3), (.int (5 : Int32)), (.ref a1)])) st12 ?_
  refine own_go (B := T12.setTop (mkF m 52 #[.val (.ref a1), .val (.int (5 : Int32)), .val (.int p3)] [(.int ((p3 >>> ((8 : Int32) &&& 31)).toInt8.toInt32)), (.int (5 : Int32)), (.ref a1)])) (fun _ k => XS.ishr X12.here hx rfl (hb hby d18_50) rfl (XS.i2b X12.here hx rfl (hb hby d18_51) rfl k)) ?_
  obtain ⟨cl13, Ar13, q13, S13, N13n, H13, G13⟩ := id V_a1_5
  have hin14 : ¬ ((5 : Int32) < 0 ∨ cl13.slots.size ≤ ((5 : Int32)).toNatClampNeg) := inb_of S13 ⟨by decide, by decide⟩
  obtain ⟨T14, h14, X14, e14, W14, st14⟩ := stB X12 hx hZ e12 Ar13 (j := (5 : Int32)) hin14 (g := (mkF m 52 #[.val (.ref a1), .val (.int (5 : Int32)), .val (.int p3)] [(.int ((p3 >>> ((8 : Int32) &&& 31)).toInt8.toInt32)), (.int (5 : Int32)), (.ref a1)])) rfl rfl (hb hby d18_52)
  rw [own_narb] at W14
  have V_a1_14 : Arv Z h14 a1 k1 .byte (6 : Int32) [(.int u0), (.int u1), (.int u2), (.int u3), (.int ((p3 >>> ((0 : Int32) &&& 31)).toInt8.toInt32)), (.int ((p3 >>> ((8 : Int32) &&& 31)).toInt8.toInt32))] (.int (0 : Int32)) := Arv.set Ar13 q13 S13 N13n H13 G13 (fits_nar_byte _) W14 5 rfl (Nat.le_of_ble_eq_true rfl)
  have S_16 := S_8.wr W14
  have S_17 := S_9.wr W14
  have S_18 := S_10.wr W14
  have K20 : Keep h0 h14 [a1] := K11.wr W14 (Or.inl (List.mem_of_getElem? (i := 0) rfl))
  have N14 := Fr.snoc X14 N5 g_a1
  refine own_go (B := T14.setTop (mkF m 53 #[.val (.ref a1), .val (.int (5 : Int32)), .val (.int p3)] [])) st14 ?_
  exact own_retV X14 hx Bd.notSynchronized Bd.returns (hb hby d18_53) e14 ⟨rfl, N14, K20, V_a1_14⟩ (by decide) (by decide)
abbrev R_own_get3_2 : Room := { frames := 0, cells := 0, slots := 0, locals := 0 }
theorem ef_own_get3_2 (m : MethodId) (x0 : Addr) : entryFrame m #[(.ref x0), (.int (2 : Int32))] 2 = mkF m 0 #[.val (.ref x0), .val (.int (2 : Int32))] [] := by first | (simp [entryFrame, mkF, argsToLocals, Value.category]; done) | rfl
def Q_own_get3_2 (Z : State) (a1 : Addr) (k1 : ClassId) (u0 : Int32) (u1 : Int32) (u2 : Int32) (u3 : Int32) (u4 : Int32) (u5 : Int32) (h0 : Heap) (n0 : Nat) (v : Option Value) (h : Heap) (L : List Loc) : Prop := v = some (.int ((((u4 &&& (255 : Int32)) <<< ((0 : Int32) &&& 31)) ||| ((u5 &&& (255 : Int32)) <<< ((8 : Int32) &&& 31))).toUInt32.toUInt16.toUInt32.toInt32)) ∧ Fr n0 L ∧ h = h0
set_option maxRecDepth 65536 in
set_option maxHeartbeats 400000000 in
theorem own_get3_2 (l : Launch) (Z : State) (a0 : Array Value) (hw : ∀ d ∈ tables_1, d.before a0 Z = true) (ws : List Jvm.Cond) (a1 : Addr) (k1 : ClassId) (u0 : Int32) (u1 : Int32) (u2 : Int32) (u3 : Int32) (u4 : Int32) (u5 : Int32) (h0 : Heap) (n0 : Nat) (Z0 : n0 ≤ h0.size) (P_V_a1 : Arv Z h0 a1 k1 .byte (6 : Int32) [(.int u0), (.int u1), (.int u2), (.int u3), (.int u4), (.int u5)] (.int (0 : Int32))) (P_S_java_lang_StringUTF16__assertionsDisabled : Sta Z h0 "java/lang/StringUTF16" "$assertionsDisabled" "Z" (.int (1 : Int32))) (P_S_java_lang_StringUTF16_HI_BYTE_SHIFT : Sta Z h0 "java/lang/StringUTF16" "HI_BYTE_SHIFT" "I" (.int (0 : Int32))) (P_S_java_lang_StringUTF16_LO_BYTE_SHIFT : Sta Z h0 "java/lang/StringUTF16" "LO_BYTE_SHIFT" "I" (.int (8 : Int32))) :
    MetFree l (⟨"java/lang/StringUTF16", "getChar", "([BI)C"⟩ : MethodName) (head1 (Jvm.Cond.code (⟨"java/lang/StringUTF16", "getChar", "([BI)C"⟩ : MethodName) jdk_52_method_5_code 2 (some .char) :: ws) R_own_get3_2) (fun a U => a = #[(.ref a1), (.int (2 : Int32))] ∧ Z.Warmed39 U.vm ∧ U.heap = h0) (fun _ _ _ _ _ => True) (fun _ U o U' => ∃ v L, o = .returned v ∧ Q_own_get3_2 Z a1 k1 u0 u1 u2 u3 u4 u5 h0 n0 v U'.heap L ∧ FrameEnd U o U' L R_own_get3_2.cells R_own_get3_2.slots) := by
  refine MetFree.of_bodySF (plainFor_of_name own_pn0) hisR ?_
  intro p e s m args below meth c s₁ Bd hml0 hP hK
  obtain ⟨rfl, hZ, hh⟩ := hP
  have hx := Bd.exec
  have hby := Bd.bytes
  have hml : c.maxLocals = 2 := hml0
  have hown : s.vm.findClass "java/lang/StringUTF16" = some m.cls := findClass_of_methodNamed Bd.named
  have hnm := (name_of_methodNamed Bd.named Bd.method).1
  have X0 : Stand p l e R_own_get3_2 s m #[(.ref a1), (.int (2 : Int32))] below meth c s₁ [] 0 0 := Stand.of_body Bd
  have e0 : s₁.heap = h0 := by rw [← hh, Bd.state]; rfl
  have N0 := Fr.nil n0
  have K0 : Keep h0 h0 [] := Keep.refl h0 []
  show own_Fin p e below s (Q_own_get3_2 Z a1 k1 u0 u1 u2 u3 u4 u5 h0 n0) R_own_get3_2.cells R_own_get3_2.slots (s₁.setTop (entryFrame m #[(.ref a1), (.int (2 : Int32))] 2))
  refine own_go (fun _ k => castTop (ef_own_get3_2 m a1) k) ?_
  show own_Fin _ _ _ _ _ _ _ (s₁.setTop (mkF m 0 #[.val (.ref a1), .val (.int (2 : Int32))] []))
  obtain ⟨T1, X1, e1, st1⟩ := getS2 X0 hx hZ hown (host := "") (Or.inl (own_w hw 81 rfl)) Via.refl e0 P_S_java_lang_StringUTF16__assertionsDisabled (g := (mkF m 0 #[.val (.ref a1), .val (.int (2 : Int32))] [])) rfl (hb hby d19_0)
  refine own_go (B := T1.setTop (mkF m 3 #[.val (.ref a1), .val (.int (2 : Int32))] [(.int (1 : Int32))])) st1 ?_
  have hc2 : ¬ ((1 : Int32) = (0 : Int32)) := by decide
  refine own_go (B := T1.setTop (mkF m 31 #[.val (.ref a1), .val (.int (2 : Int32))] [(.int ((2 : Int32) <<< ((1 : Int32) &&& 31)))])) (fun _ k => XS.ifYes X1.here hx rfl (pc0 := 3) (pc' := 28) rfl (hb hby d19_3) rfl ((if0 _ _).trans (feq hc2).2) (by decide) (by decide) (XS.iloadN X1.here hx rfl (hb hby d19_28) rfl  (XS.iconst X1.here hx rfl (hb hby d19_29) (XS.ishl X1.here hx rfl (hb hby d19_30) rfl k)))) ?_
  rw [show ((2 : Int32) <<< ((1 : Int32) &&& 31)) = (4 : Int32) from by decide]
  show own_Fin _ _ _ _ _ _ _ (T1.setTop (mkF m 31 #[.val (.ref a1), .val (.int (2 : Int32))] [(.int (4 : Int32))]))
  refine own_go (B := T1.setTop (mkF m 37 #[.val (.ref a1), .val (.int ((4 : Int32) + (1 : Int32)))] [(.int (4 : Int32)), (.ref a1)])) (fun _ k => XS.istoreN X1.here hx rfl (hb hby d19_31) rfl (l' := #[.val (.ref a1), .val (.int (4 : Int32))]) rfl (XS.aloadN X1.here hx rfl (hb hby d19_32) rfl rfl (XS.iloadN X1.here hx rfl (hb hby d19_33) rfl  (XS.iinc X1.here hx rfl (hb hby d19_34) rfl (l' := #[.val (.ref a1), .val (.int ((4 : Int32) + (1 : Int32)))]) rfl k)))) ?_
  rw [show ((4 : Int32) + (1 : Int32)) = (5 : Int32) from by decide]
  show own_Fin _ _ _ _ _ _ _ (T1.setTop (mkF m 37 #[.val (.ref a1), .val (.int (5 : Int32))] [(.int (4 : Int32)), (.ref a1)]))
  obtain ⟨cl3, Ar3, q3, S3, N3n, H3, G3⟩ := id P_V_a1
  have hin4 : ¬ ((4 : Int32) < 0 ∨ cl3.slots.size ≤ ((4 : Int32)).toNatClampNeg) := inb_of S3 ⟨by decide, by decide⟩
  have hat4 : cl3.slots[((4 : Int32)).toNatClampNeg]? = some (.int u4) := H3.at hin4 rfl
  refine own_go (B := T1.setTop (mkF m 42 #[.val (.ref a1), .val (.int (5 : Int32))] [(.int (u4 &&& (255 : Int32)))])) (fun _ k => X1.baloadBytes hx (j := (4 : Int32)) (v := (.int u4)) (own_hc e1 Ar3.1) (State.isArrayOf_alike hZ.alike Ar3.2.1) Ar3.2.2 hin4 hat4 (g := (mkF m 37 #[.val (.ref a1), .val (.int (5 : Int32))] [(.int (4 : Int32)), (.ref a1)])) rfl rfl (hb hby d19_37) _ (XS.sipush X1.here hx rfl (hb hby d19_38) (XS.iand X1.here hx rfl (hb hby d19_41) rfl k))) ?_
  obtain ⟨T5, X5, e5, st5⟩ := getS2 X1 hx hZ hown (host := "") (Or.inl (own_w hw 82 rfl)) Via.refl e1 P_S_java_lang_StringUTF16_HI_BYTE_SHIFT (g := (mkF m 42 #[.val (.ref a1), .val (.int (5 : Int32))] [(.int (u4 &&& (255 : Int32)))])) rfl (hb hby d19_42)
  refine own_go (B := T5.setTop (mkF m 45 #[.val (.ref a1), .val (.int (5 : Int32))] [(.int (0 : Int32)), (.int (u4 &&& (255 : Int32)))])) st5 ?_
  refine own_go (B := T5.setTop (mkF m 48 #[.val (.ref a1), .val (.int (5 : Int32))] [(.int (5 : Int32)), (.ref a1), (.int ((u4 &&& (255 : Int32)) <<< ((0 : Int32) &&& 31)))])) (fun _ k => XS.ishl X5.here hx rfl (hb hby d19_45) rfl (XS.aloadN X5.here hx rfl (hb hby d19_46) rfl rfl (XS.iloadN X5.here hx rfl (hb hby d19_47) rfl  k))) ?_
  obtain ⟨cl6, Ar6, q6, S6, N6n, H6, G6⟩ := id P_V_a1
  have hin7 : ¬ ((5 : Int32) < 0 ∨ cl6.slots.size ≤ ((5 : Int32)).toNatClampNeg) := inb_of S6 ⟨by decide, by decide⟩
  have hat7 : cl6.slots[((5 : Int32)).toNatClampNeg]? = some (.int u5) := H6.at hin7 rfl
  refine own_go (B := T5.setTop (mkF m 53 #[.val (.ref a1), .val (.int (5 : Int32))] [(.int (u5 &&& (255 : Int32))), (.int ((u4 &&& (255 : Int32)) <<< ((0 : Int32) &&& 31)))])) (fun _ k => X5.baloadBytes hx (j := (5 : Int32)) (v := (.int u5)) (own_hc e5 Ar6.1) (State.isArrayOf_alike hZ.alike Ar6.2.1) Ar6.2.2 hin7 hat7 (g := (mkF m 48 #[.val (.ref a1), .val (.int (5 : Int32))] [(.int (5 : Int32)), (.ref a1), (.int ((u4 &&& (255 : Int32)) <<< ((0 : Int32) &&& 31)))])) rfl rfl (hb hby d19_48) _ (XS.sipush X5.here hx rfl (hb hby d19_49) (XS.iand X5.here hx rfl (hb hby d19_52) rfl k))) ?_
  obtain ⟨T8, X8, e8, st8⟩ := getS2 X5 hx hZ hown (host := "") (Or.inl (own_w hw 83 rfl)) Via.refl e5 P_S_java_lang_StringUTF16_LO_BYTE_SHIFT (g := (mkF m 53 #[.val (.ref a1), .val (.int (5 : Int32))] [(.int (u5 &&& (255 : Int32))), (.int ((u4 &&& (255 : Int32)) <<< ((0 : Int32) &&& 31)))])) rfl (hb hby d19_53)
  refine own_go (B := T8.setTop (mkF m 56 #[.val (.ref a1), .val (.int (5 : Int32))] [(.int (8 : Int32)), (.int (u5 &&& (255 : Int32))), (.int ((u4 &&& (255 : Int32)) <<< ((0 : Int32) &&& 31)))])) st8 ?_
  refine own_go (B := T8.setTop (mkF m 59 #[.val (.ref a1), .val (.int (5 : Int32))] [(.int ((((u4 &&& (255 : Int32)) <<< ((0 : Int32) &&& 31)) ||| ((u5 &&& (255 : Int32)) <<< ((8 : Int32) &&& 31))).toUInt32.toUInt16.toUInt32.toInt32))])) (fun _ k => XS.ishl X8.here hx rfl (hb hby d19_56) rfl (XS.ior X8.here hx rfl (hb hby d19_57) rfl (XS.i2c X8.here hx rfl (hb hby d19_58) rfl k))) ?_
  exact own_retN X8 hx Bd.notSynchronized (t := .char) (w := ((((u4 &&& (255 : Int32)) <<< ((0 : Int32) &&& 31)) ||| ((u5 &&& (255 : Int32)) <<< ((8 : Int32) &&& 31))).toUInt32.toUInt16.toUInt32.toInt32)) Bd.returns (by simp) (hb hby d19_59) e8 (own_narc _) ⟨rfl, N0, rfl⟩ (by decide) (by decide)
abbrev R_own_tob3 : Room := { frames := 2, cells := 1, slots := 6, locals := 24 }
theorem ef_own_tob3 (m : MethodId) (x0 : Addr) : entryFrame m #[(.ref x0), (.int (0 : Int32)), (.int (3 : Int32))] 5 = mkF m 0 #[.val (.ref x0), .val (.int (0 : Int32)), .val (.int (3 : Int32)), .unset, .unset] [] := by first | (simp [entryFrame, mkF, argsToLocals, Value.category]; done) | rfl
def Q_own_tob3 (Z : State) (a1 : Addr) (k1 : ClassId) (c0 : Int32) (c1 : Int32) (c2 : Int32) (h0 : Heap) (n0 : Nat) (v : Option Value) (h : Heap) (L : List Loc) : Prop := ∃ b : Addr, ∃ kb : ClassId, v = some (.ref b) ∧ Fr n0 L ∧ Keep h0 h [] ∧ Arv Z h b kb .byte (6 : Int32) [(.int ((c0 >>> ((0 : Int32) &&& 31)).toInt8.toInt32)), (.int ((c0 >>> ((8 : Int32) &&& 31)).toInt8.toInt32)), (.int ((c1 >>> ((0 : Int32) &&& 31)).toInt8.toInt32)), (.int ((c1 >>> ((8 : Int32) &&& 31)).toInt8.toInt32)), (.int ((c2 >>> ((0 : Int32) &&& 31)).toInt8.toInt32)), (.int ((c2 >>> ((8 : Int32) &&& 31)).toInt8.toInt32))] (.int (0 : Int32)) ∧ (h0.size ≤ b)
set_option maxRecDepth 65536 in
set_option maxHeartbeats 400000000 in
theorem own_tob3 (l : Launch) (Z : State) (a0 : Array Value) (hw : ∀ d ∈ tables_1, d.before a0 Z = true) (ws : List Jvm.Cond) (a1 : Addr) (k1 : ClassId) (c0 : Int32) (c1 : Int32) (c2 : Int32) (h0 : Heap) (n0 : Nat) (Z0 : n0 ≤ h0.size) (P_V_a1 : Arv Z h0 a1 k1 .char (3 : Int32) [(.int c0), (.int c1), (.int c2)] (.int (0 : Int32))) (P_S_java_lang_StringUTF16__assertionsDisabled : Sta Z h0 "java/lang/StringUTF16" "$assertionsDisabled" "Z" (.int (1 : Int32))) (P_S_java_lang_StringUTF16_HI_BYTE_SHIFT : Sta Z h0 "java/lang/StringUTF16" "HI_BYTE_SHIFT" "I" (.int (0 : Int32))) (P_S_java_lang_StringUTF16_LO_BYTE_SHIFT : Sta Z h0 "java/lang/StringUTF16" "LO_BYTE_SHIFT" "I" (.int (8 : Int32))) :
    MetFree l (⟨"java/lang/StringUTF16", "toBytes", "([CII)[B"⟩ : MethodName) (head1 (Jvm.Cond.code (⟨"java/lang/StringUTF16", "toBytes", "([CII)[B"⟩ : MethodName) jdk_52_method_14_code 5 (some (.array .byte)) :: ws) R_own_tob3) (fun a U => a = #[(.ref a1), (.int (0 : Int32)), (.int (3 : Int32))] ∧ Z.Warmed39 U.vm ∧ U.heap = h0) (fun _ _ _ _ _ => True) (fun _ U o U' => ∃ v L, o = .returned v ∧ Q_own_tob3 Z a1 k1 c0 c1 c2 h0 n0 v U'.heap L ∧ FrameEnd U o U' L R_own_tob3.cells R_own_tob3.slots) := by
  refine MetFree.of_bodySF (plainFor_of_name own_pn0) hisR ?_
  intro p e s m args below meth c s₁ Bd hml0 hP hK
  obtain ⟨rfl, hZ, hh⟩ := hP
  have hx := Bd.exec
  have hby := Bd.bytes
  have hml : c.maxLocals = 5 := hml0
  have hown : s.vm.findClass "java/lang/StringUTF16" = some m.cls := findClass_of_methodNamed Bd.named
  have hnm := (name_of_methodNamed Bd.named Bd.method).1
  have X0 : Stand p l e R_own_tob3 s m #[(.ref a1), (.int (0 : Int32)), (.int (3 : Int32))] below meth c s₁ [] 0 0 := Stand.of_body Bd
  have e0 : s₁.heap = h0 := by rw [← hh, Bd.state]; rfl
  have N0 := Fr.nil n0
  have K0 : Keep h0 h0 [] := Keep.refl h0 []
  show own_Fin p e below s (Q_own_tob3 Z a1 k1 c0 c1 c2 h0 n0) R_own_tob3.cells R_own_tob3.slots (s₁.setTop (entryFrame m #[(.ref a1), (.int (0 : Int32)), (.int (3 : Int32))] 5))
  refine own_go (fun _ k => castTop (ef_own_tob3 m a1) k) ?_
  show own_Fin _ _ _ _ _ _ _ (s₁.setTop (mkF m 0 #[.val (.ref a1), .val (.int (0 : Int32)), .val (.int (3 : Int32)), .unset, .unset] []))
  refine own_go (B := s₁.setTop (mkF m 1 #[.val (.ref a1), .val (.int (0 : Int32)), .val (.int (3 : Int32)), .unset, .unset] [(.int (3 : Int32))])) (fun _ k => XS.iloadN X0.here hx rfl (hb hby d15_0) rfl  k) ?_
  obtain ⟨_, _, ⟨T1, L1, k1, n1⟩, -, X1, ⟨Lc1, hQ1, l1, y1, z1⟩, st1⟩ := Jvm.LawKit.callS X0 hx (y := (⟨"java/lang/StringUTF16", "newBytesFor", "(I)[B"⟩ : MethodName)) hown (mvT hZ (own_w hw 71 rfl)) (mvT hZ (own_w hw 72 rfl)) (mvT hZ (own_w hw 18 rfl)) (mvT hZ (own_w hw 73 rfl)) (by decide) (backOf (W := 0) (own_nbf3 l Z a0 hw []  h0 n0 (Nat.le_trans Z0 K0.1) ) hZ (own_w hw 73 rfl) (own_w hw 18 rfl) (by decide) (by decide)) (g := (mkF m 1 #[.val (.ref a1), .val (.int (0 : Int32)), .val (.int (3 : Int32)), .unset, .unset] [(.int (3 : Int32))])) rfl (by rw [hml]; rfl) (argsL := [(.int (3 : Int32))]) (rest := []) (lenOf own_pd1 rfl) rfl (by show 2 * 0 + _ ≤ _; exact Nat.le_of_eq rfl) (hb hby d15_1) (fun _ _ => ⟨rfl, e0, (by decide : 0 + 1 ≤ _), (by decide : 0 + 6 ≤ _)⟩)
  dsimp only [Pt.U, Pt.locs, Pt.cells, Pt.slots] at X1 l1 y1 z1 st1 hQ1
  subst l1 y1 z1
  obtain ⟨b_1, kb_1, rfl, N1q, K1q, Q1_0, x1_0⟩ := hQ1
  have N1 := Fr.app N0 N1q
  have ne_a1_b_1_2 : a1 ≠ b_1 := Nat.ne_of_lt (Nat.lt_of_lt_of_le P_V_a1.lt x1_0)
  have sz_b_1 : h0.size ≤ b_1 := Nat.le_trans K0.1 x1_0
  have g_b_1 : n0 ≤ b_1 := Nat.le_trans Z0 sz_b_1
  have V_4 := P_V_a1.keep K1q nin0
  have S_5 := own_Sta_keep P_S_java_lang_StringUTF16__assertionsDisabled K1q all0
  have S_6 := own_Sta_keep P_S_java_lang_StringUTF16_HI_BYTE_SHIFT K1q all0
  have S_7 := own_Sta_keep P_S_java_lang_StringUTF16_LO_BYTE_SHIFT K1q all0
  have K8 : Keep h0 T1.heap [] := K0.trans K1q all0
  refine own_go (B := T1.setTop (mkF m 4 #[.val (.ref a1), .val (.int (0 : Int32)), .val (.int (3 : Int32)), .unset, .unset] [(.ref b_1)])) st1 ?_
  refine own_go (B := T1.setTop (mkF m 11 #[.val (.ref a1), .val (.int (0 : Int32)), .val (.int (3 : Int32)), .val (.ref b_1), .val (.int (0 : Int32))] [(.int (3 : Int32)), (.int (0 : Int32))])) (fun _ k => XS.astoreN X1.here hx rfl (hb hby d15_4) rfl rfl (l' := #[.val (.ref a1), .val (.int (0 : Int32)), .val (.int (3 : Int32)), .val (.ref b_1), .unset]) rfl (XS.iconst X1.here hx rfl (hb hby d15_5) (XS.istore X1.here hx rfl (hb hby d15_6) rfl (l' := #[.val (.ref a1), .val (.int (0 : Int32)), .val (.int (3 : Int32)), .val (.ref b_1), .val (.int (0 : Int32))]) rfl (XS.iload X1.here hx rfl (hb hby d15_8) rfl  (XS.iloadN X1.here hx rfl (hb hby d15_10) rfl  k))))) ?_
  have hc9 : (0 : Int32) < (3 : Int32) := by decide
  refine own_go (B := T1.setTop (mkF m 19 #[.val (.ref a1), .val (.int (0 : Int32)), .val (.int (3 : Int32)), .val (.ref b_1), .val (.int (0 : Int32))] [(.int (0 : Int32)), (.ref a1), (.int (0 : Int32)), (.ref b_1)])) (fun _ k => XS.icmpNo X1.here hx rfl (hb hby d15_11) rfl (tlt hc9).2.1 (XS.aloadN X1.here hx rfl (hb hby d15_14) rfl rfl (XS.iload X1.here hx rfl (hb hby d15_15) rfl  (XS.aloadN X1.here hx rfl (hb hby d15_17) rfl rfl (XS.iloadN X1.here hx rfl (hb hby d15_18) rfl  k))))) ?_
  obtain ⟨cl10, Ar10, q10, S10, N10n, H10, G10⟩ := id V_4
  have hin11 : ¬ ((0 : Int32) < 0 ∨ cl10.slots.size ≤ ((0 : Int32)).toNatClampNeg) := inb_of S10 ⟨by decide, by decide⟩
  have hat11 : cl10.slots[((0 : Int32)).toNatClampNeg]? = some (.int c0) := H10.at hin11 rfl
  refine own_go (B := T1.setTop (mkF m 20 #[.val (.ref a1), .val (.int (0 : Int32)), .val (.int (3 : Int32)), .val (.ref b_1), .val (.int (0 : Int32))] [(.int c0), (.int (0 : Int32)), (.ref b_1)])) (fun _ k => X1.caload hx (j := (0 : Int32)) (v := (.int c0)) (own_hc rfl Ar10.1) (State.isArrayOf_alike hZ.alike Ar10.2.1) Ar10.2.2 hin11 hat11 (g := (mkF m 19 #[.val (.ref a1), .val (.int (0 : Int32)), .val (.int (3 : Int32)), .val (.ref b_1), .val (.int (0 : Int32))] [(.int (0 : Int32)), (.ref a1), (.int (0 : Int32)), (.ref b_1)])) rfl rfl (hb hby d15_19) _ k) ?_
  obtain ⟨_, _, ⟨T12, L12, k12, n12⟩, -, X12, ⟨Lc12, hQ12, l12, y12, z12⟩, st12⟩ := Jvm.LawKit.callS X1 hx (y := (⟨"java/lang/StringUTF16", "putChar", "([BII)V"⟩ : MethodName)) hown (mvT hZ (own_w hw 78 rfl)) (mvT hZ (own_w hw 79 rfl)) (mvT hZ (own_w hw 18 rfl)) (mvT hZ (own_w hw 80 rfl)) (by decide) (backOf (W := 0) (own_put3_0 l Z a0 hw [] b_1 kb_1 c0 (0 : Int32) (0 : Int32) (0 : Int32) (0 : Int32) (0 : Int32) (0 : Int32) T1.heap n0 (Nat.le_trans Z0 K8.1) Q1_0 g_b_1 S_5 S_6 S_7) hZ (own_w hw 80 rfl) (own_w hw 18 rfl) (by decide) (by decide)) (g := (mkF m 20 #[.val (.ref a1), .val (.int (0 : Int32)), .val (.int (3 : Int32)), .val (.ref b_1), .val (.int (0 : Int32))] [(.int c0), (.int (0 : Int32)), (.ref b_1)])) rfl (by rw [hml]; rfl) (argsL := [(.ref b_1), (.int (0 : Int32)), (.int c0)]) (rest := []) (lenOf own_pd2 rfl) rfl (by show 2 * 0 + _ ≤ _; exact Nat.le_of_eq rfl) (hb hby d15_20) (fun _ _ => ⟨rfl, rfl, (by decide : 1 + 0 ≤ _), (by decide : 6 + 0 ≤ _)⟩)
  dsimp only [Pt.U, Pt.locs, Pt.cells, Pt.slots] at X12 l12 y12 z12 st12 hQ12
  subst l12 y12 z12
  obtain ⟨rfl, N12q, K12q, Q12_0⟩ := hQ12
  have N12 := Fr.app N1 N12q
  have V_14 := V_4.keep K12q (ninS ne_a1_b_1_2 nin0)
  have S_15 := own_Sta_keep S_5 K12q (allS (own_plainV Q1_0) all0)
  have S_16 := own_Sta_keep S_6 K12q (allS (own_plainV Q1_0) all0)
  have S_17 := own_Sta_keep S_7 K12q (allS (own_plainV Q1_0) all0)
  have K19 : Keep h0 T12.heap [] := K8.trans K12q (allS (Or.inr sz_b_1) all0)
  refine own_go (B := T12.setTop (mkF m 23 #[.val (.ref a1), .val (.int (0 : Int32)), .val (.int (3 : Int32)), .val (.ref b_1), .val (.int (0 : Int32))] [])) st12 ?_
  refine own_go (B := T12.setTop (mkF m 26 #[.val (.ref a1), .val (.int ((0 : Int32) + (1 : Int32))), .val (.int (3 : Int32)), .val (.ref b_1), .val (.int (0 : Int32))] [])) (fun _ k => XS.iinc X12.here hx rfl (hb hby d15_23) rfl (l' := #[.val (.ref a1), .val (.int ((0 : Int32) + (1 : Int32))), .val (.int (3 : Int32)), .val (.ref b_1), .val (.int (0 : Int32))]) rfl k) ?_
  rw [show ((0 : Int32) + (1 : Int32)) = (1 : Int32) from by decide]
  show own_Fin _ _ _ _ _ _ _ (T12.setTop (mkF m 26 #[.val (.ref a1), .val (.int (1 : Int32)), .val (.int (3 : Int32)), .val (.ref b_1), .val (.int (0 : Int32))] []))
  refine own_go (B := T12.setTop (mkF m 29 #[.val (.ref a1), .val (.int (1 : Int32)), .val (.int (3 : Int32)), .val (.ref b_1), .val (.int ((0 : Int32) + (1 : Int32)))] [])) (fun _ k => XS.iinc X12.here hx rfl (hb hby d15_26) rfl (l' := #[.val (.ref a1), .val (.int (1 : Int32)), .val (.int (3 : Int32)), .val (.ref b_1), .val (.int ((0 : Int32) + (1 : Int32)))]) rfl k) ?_
  rw [show ((0 : Int32) + (1 : Int32)) = (1 : Int32) from by decide]
  show own_Fin _ _ _ _ _ _ _ (T12.setTop (mkF m 29 #[.val (.ref a1), .val (.int (1 : Int32)), .val (.int (3 : Int32)), .val (.ref b_1), .val (.int (1 : Int32))] []))
  refine own_go (B := T12.setTop (mkF m 11 #[.val (.ref a1), .val (.int (1 : Int32)), .val (.int (3 : Int32)), .val (.ref b_1), .val (.int (1 : Int32))] [(.int (3 : Int32)), (.int (1 : Int32))])) (fun _ k => XS.goto X12.here hx rfl (pc0 := 29) (pc' := 8) rfl (hb hby d15_29) (by decide) (by decide) (XS.iload X12.here hx rfl (hb hby d15_8) rfl  (XS.iloadN X12.here hx rfl (hb hby d15_10) rfl  k))) ?_
  have hc20 : (1 : Int32) < (3 : Int32) := by decide
  refine own_go (B := T12.setTop (mkF m 19 #[.val (.ref a1), .val (.int (1 : Int32)), .val (.int (3 : Int32)), .val (.ref b_1), .val (.int (1 : Int32))] [(.int (1 : Int32)), (.ref a1), (.int (1 : Int32)), (.ref b_1)])) (fun _ k => XS.icmpNo X12.here hx rfl (hb hby d15_11) rfl (tlt hc20).2.1 (XS.aloadN X12.here hx rfl (hb hby d15_14) rfl rfl (XS.iload X12.here hx rfl (hb hby d15_15) rfl  (XS.aloadN X12.here hx rfl (hb hby d15_17) rfl rfl (XS.iloadN X12.here hx rfl (hb hby d15_18) rfl  k))))) ?_
  obtain ⟨cl21, Ar21, q21, S21, N21n, H21, G21⟩ := id V_14
  have hin22 : ¬ ((1 : Int32) < 0 ∨ cl21.slots.size ≤ ((1 : Int32)).toNatClampNeg) := inb_of S21 ⟨by decide, by decide⟩
  have hat22 : cl21.slots[((1 : Int32)).toNatClampNeg]? = some (.int c1) := H21.at hin22 rfl
  refine own_go (B := T12.setTop (mkF m 20 #[.val (.ref a1), .val (.int (1 : Int32)), .val (.int (3 : Int32)), .val (.ref b_1), .val (.int (1 : Int32))] [(.int c1), (.int (1 : Int32)), (.ref b_1)])) (fun _ k => X12.caload hx (j := (1 : Int32)) (v := (.int c1)) (own_hc rfl Ar21.1) (State.isArrayOf_alike hZ.alike Ar21.2.1) Ar21.2.2 hin22 hat22 (g := (mkF m 19 #[.val (.ref a1), .val (.int (1 : Int32)), .val (.int (3 : Int32)), .val (.ref b_1), .val (.int (1 : Int32))] [(.int (1 : Int32)), (.ref a1), (.int (1 : Int32)), (.ref b_1)])) rfl rfl (hb hby d15_19) _ k) ?_
  obtain ⟨_, _, ⟨T23, L23, k23, n23⟩, -, X23, ⟨Lc23, hQ23, l23, y23, z23⟩, st23⟩ := Jvm.LawKit.callS X12 hx (y := (⟨"java/lang/StringUTF16", "putChar", "([BII)V"⟩ : MethodName)) hown (mvT hZ (own_w hw 78 rfl)) (mvT hZ (own_w hw 79 rfl)) (mvT hZ (own_w hw 18 rfl)) (mvT hZ (own_w hw 80 rfl)) (by decide) (backOf (W := 0) (own_put3_1 l Z a0 hw [] b_1 kb_1 c1 ((c0 >>> ((0 : Int32) &&& 31)).toInt8.toInt32) ((c0 >>> ((8 : Int32) &&& 31)).toInt8.toInt32) (0 : Int32) (0 : Int32) (0 : Int32) (0 : Int32) T12.heap n0 (Nat.le_trans Z0 K19.1) Q12_0 g_b_1 S_15 S_16 S_17) hZ (own_w hw 80 rfl) (own_w hw 18 rfl) (by decide) (by decide)) (g := (mkF m 20 #[.val (.ref a1), .val (.int (1 : Int32)), .val (.int (3 : Int32)), .val (.ref b_1), .val (.int (1 : Int32))] [(.int c1), (.int (1 : Int32)), (.ref b_1)])) rfl (by rw [hml]; rfl) (argsL := [(.ref b_1), (.int (1 : Int32)), (.int c1)]) (rest := []) (lenOf own_pd2 rfl) rfl (by show 2 * 0 + _ ≤ _; exact Nat.le_of_eq rfl) (hb hby d15_20) (fun _ _ => ⟨rfl, rfl, (by decide : 1 + 0 ≤ _), (by decide : 6 + 0 ≤ _)⟩)
  dsimp only [Pt.U, Pt.locs, Pt.cells, Pt.slots] at X23 l23 y23 z23 st23 hQ23
  subst l23 y23 z23
  obtain ⟨rfl, N23q, K23q, Q23_0⟩ := hQ23
  have N23 := Fr.app N12 N23q
  have V_25 := V_14.keep K23q (ninS ne_a1_b_1_2 nin0)
  have S_26 := own_Sta_keep S_15 K23q (allS (own_plainV Q12_0) all0)
  have S_27 := own_Sta_keep S_16 K23q (allS (own_plainV Q12_0) all0)
  have S_28 := own_Sta_keep S_17 K23q (allS (own_plainV Q12_0) all0)
  have K30 : Keep h0 T23.heap [] := K19.trans K23q (allS (Or.inr sz_b_1) all0)
  refine own_go (B := T23.setTop (mkF m 23 #[.val (.ref a1), .val (.int (1 : Int32)), .val (.int (3 : Int32)), .val (.ref b_1), .val (.int (1 : Int32))] [])) st23 ?_
  refine own_go (B := T23.setTop (mkF m 26 #[.val (.ref a1), .val (.int ((1 : Int32) + (1 : Int32))), .val (.int (3 : Int32)), .val (.ref b_1), .val (.int (1 : Int32))] [])) (fun _ k => XS.iinc X23.here hx rfl (hb hby d15_23) rfl (l' := #[.val (.ref a1), .val (.int ((1 : Int32) + (1 : Int32))), .val (.int (3 : Int32)), .val (.ref b_1), .val (.int (1 : Int32))]) rfl k) ?_
  rw [show ((1 : Int32) + (1 : Int32)) = (2 : Int32) from by decide]
  show own_Fin _ _ _ _ _ _ _ (T23.setTop (mkF m 26 #[.val (.ref a1), .val (.int (2 : Int32)), .val (.int (3 : Int32)), .val (.ref b_1), .val (.int (1 : Int32))] []))
  refine own_go (B := T23.setTop (mkF m 29 #[.val (.ref a1), .val (.int (2 : Int32)), .val (.int (3 : Int32)), .val (.ref b_1), .val (.int ((1 : Int32) + (1 : Int32)))] [])) (fun _ k => XS.iinc X23.here hx rfl (hb hby d15_26) rfl (l' := #[.val (.ref a1), .val (.int (2 : Int32)), .val (.int (3 : Int32)), .val (.ref b_1), .val (.int ((1 : Int32) + (1 : Int32)))]) rfl k) ?_
  rw [show ((1 : Int32) + (1 : Int32)) = (2 : Int32) from by decide]
  show own_Fin _ _ _ _ _ _ _ (T23.setTop (mkF m 29 #[.val (.ref a1), .val (.int (2 : Int32)), .val (.int (3 : Int32)), .val (.ref b_1), .val (.int (2 : Int32))] []))
  refine own_go (B := T23.setTop (mkF m 11 #[.val (.ref a1), .val (.int (2 : Int32)), .val (.int (3 : Int32)), .val (.ref b_1), .val (.int (2 : Int32))] [(.int (3 : Int32)), (.int (2 : Int32))])) (fun _ k => XS.goto X23.here hx rfl (pc0 := 29) (pc' := 8) rfl (hb hby d15_29) (by decide) (by decide) (XS.iload X23.here hx rfl (hb hby d15_8) rfl  (XS.iloadN X23.here hx rfl (hb hby d15_10) rfl  k))) ?_
  have hc31 : (2 : Int32) < (3 : Int32) := by decide
  refine own_go (B := T23.setTop (mkF m 19 #[.val (.ref a1), .val (.int (2 : Int32)), .val (.int (3 : Int32)), .val (.ref b_1), .val (.int (2 : Int32))] [(.int (2 : Int32)), (.ref a1), (.int (2 : Int32)), (.ref b_1)])) (fun _ k => XS.icmpNo X23.here hx rfl (hb hby d15_11) rfl (tlt hc31).2.1 (XS.aloadN X23.here hx rfl (hb hby d15_14) rfl rfl (XS.iload X23.here hx rfl (hb hby d15_15) rfl  (XS.aloadN X23.here hx rfl (hb hby d15_17) rfl rfl (XS.iloadN X23.here hx rfl (hb hby d15_18) rfl  k))))) ?_
  obtain ⟨cl32, Ar32, q32, S32, N32n, H32, G32⟩ := id V_25
  have hin33 : ¬ ((2 : Int32) < 0 ∨ cl32.slots.size ≤ ((2 : Int32)).toNatClampNeg) := inb_of S32 ⟨by decide, by decide⟩
  have hat33 : cl32.slots[((2 : Int32)).toNatClampNeg]? = some (.int c2) := H32.at hin33 rfl
  refine own_go (B := T23.setTop (mkF m 20 #[.val (.ref a1), .val (.int (2 : Int32)), .val (.int (3 : Int32)), .val (.ref b_1), .val (.int (2 : Int32))] [(.int c2), (.int (2 : Int32)), (.ref b_1)])) (fun _ k => X23.caload hx (j := (2 : Int32)) (v := (.int c2)) (own_hc rfl Ar32.1) (State.isArrayOf_alike hZ.alike Ar32.2.1) Ar32.2.2 hin33 hat33 (g := (mkF m 19 #[.val (.ref a1), .val (.int (2 : Int32)), .val (.int (3 : Int32)), .val (.ref b_1), .val (.int (2 : Int32))] [(.int (2 : Int32)), (.ref a1), (.int (2 : Int32)), (.ref b_1)])) rfl rfl (hb hby d15_19) _ k) ?_
  obtain ⟨_, _, ⟨T34, L34, k34, n34⟩, -, X34, ⟨Lc34, hQ34, l34, y34, z34⟩, st34⟩ := Jvm.LawKit.callS X23 hx (y := (⟨"java/lang/StringUTF16", "putChar", "([BII)V"⟩ : MethodName)) hown (mvT hZ (own_w hw 78 rfl)) (mvT hZ (own_w hw 79 rfl)) (mvT hZ (own_w hw 18 rfl)) (mvT hZ (own_w hw 80 rfl)) (by decide) (backOf (W := 0) (own_put3_2 l Z a0 hw [] b_1 kb_1 c2 ((c0 >>> ((0 : Int32) &&& 31)).toInt8.toInt32) ((c0 >>> ((8 : Int32) &&& 31)).toInt8.toInt32) ((c1 >>> ((0 : Int32) &&& 31)).toInt8.toInt32) ((c1 >>> ((8 : Int32) &&& 31)).toInt8.toInt32) (0 : Int32) (0 : Int32) T23.heap n0 (Nat.le_trans Z0 K30.1) Q23_0 g_b_1 S_26 S_27 S_28) hZ (own_w hw 80 rfl) (own_w hw 18 rfl) (by decide) (by decide)) (g := (mkF m 20 #[.val (.ref a1), .val (.int (2 : Int32)), .val (.int (3 : Int32)), .val (.ref b_1), .val (.int (2 : Int32))] [(.int c2), (.int (2 : Int32)), (.ref b_1)])) rfl (by rw [hml]; rfl) (argsL := [(.ref b_1), (.int (2 : Int32)), (.int c2)]) (rest := []) (lenOf own_pd2 rfl) rfl (by show 2 * 0 + _ ≤ _; exact Nat.le_of_eq rfl) (hb hby d15_20) (fun _ _ => ⟨rfl, rfl, (by decide : 1 + 0 ≤ _), (by decide : 6 + 0 ≤ _)⟩)
  dsimp only [Pt.U, Pt.locs, Pt.cells, Pt.slots] at X34 l34 y34 z34 st34 hQ34
  subst l34 y34 z34
  obtain ⟨rfl, N34q, K34q, Q34_0⟩ := hQ34
  have N34 := Fr.app N23 N34q
  have V_36 := V_25.keep K34q (ninS ne_a1_b_1_2 nin0)
  have S_37 := own_Sta_keep S_26 K34q (allS (own_plainV Q23_0) all0)
  have S_38 := own_Sta_keep S_27 K34q (allS (own_plainV Q23_0) all0)
  have S_39 := own_Sta_keep S_28 K34q (allS (own_plainV Q23_0) all0)
  have K41 : Keep h0 T34.heap [] := K30.trans K34q (allS (Or.inr sz_b_1) all0)
  refine own_go (B := T34.setTop (mkF m 23 #[.val (.ref a1), .val (.int (2 : Int32)), .val (.int (3 : Int32)), .val (.ref b_1), .val (.int (2 : Int32))] [])) st34 ?_
  refine own_go (B := T34.setTop (mkF m 26 #[.val (.ref a1), .val (.int ((2 : Int32) + (1 : Int32))), .val (.int (3 : Int32)), .val (.ref b_1), .val (.int (2 : Int32))] [])) (fun _ k => XS.iinc X34.here hx rfl (hb hby d15_23) rfl (l' := #[.val (.ref a1), .val (.int ((2 : Int32) + (1 : Int32))), .val (.int (3 : Int32)), .val (.ref b_1), .val (.int (2 : Int32))]) rfl k) ?_
  rw [show ((2 : Int32) + (1 : Int32)) = (3 : Int32) from by decide]
  show own_Fin _ _ _ _ _ _ _ (T34.setTop (mkF m 26 #[.val (.ref a1), .val (.int (3 : Int32)), .val (.int (3 : Int32)), .val (.ref b_1), .val (.int (2 : Int32))] []))
  refine own_go (B := T34.setTop (mkF m 29 #[.val (.ref a1), .val (.int (3 : Int32)), .val (.int (3 : Int32)), .val (.ref b_1), .val (.int ((2 : Int32) + (1 : Int32)))] [])) (fun _ k => XS.iinc X34.here hx rfl (hb hby d15_26) rfl (l' := #[.val (.ref a1), .val (.int (3 : Int32)), .val (.int (3 : Int32)), .val (.ref b_1), .val (.int ((2 : Int32) + (1 : Int32)))]) rfl k) ?_
  rw [show ((2 : Int32) + (1 : Int32)) = (3 : Int32) from by decide]
  show own_Fin _ _ _ _ _ _ _ (T34.setTop (mkF m 29 #[.val (.ref a1), .val (.int (3 : Int32)), .val (.int (3 : Int32)), .val (.ref b_1), .val (.int (3 : Int32))] []))
  refine own_go (B := T34.setTop (mkF m 11 #[.val (.ref a1), .val (.int (3 : Int32)), .val (.int (3 : Int32)), .val (.ref b_1), .val (.int (3 : Int32))] [(.int (3 : Int32)), (.int (3 : Int32))])) (fun _ k => XS.goto X34.here hx rfl (pc0 := 29) (pc' := 8) rfl (hb hby d15_29) (by decide) (by decide) (XS.iload X34.here hx rfl (hb hby d15_8) rfl  (XS.iloadN X34.here hx rfl (hb hby d15_10) rfl  k))) ?_
  have hc42 : ¬ ((3 : Int32) < (3 : Int32)) := by decide
  refine own_go (B := T34.setTop (mkF m 33 #[.val (.ref a1), .val (.int (3 : Int32)), .val (.int (3 : Int32)), .val (.ref b_1), .val (.int (3 : Int32))] [(.ref b_1)])) (fun _ k => XS.icmpYes X34.here hx rfl (pc0 := 11) (pc' := 32) rfl (hb hby d15_11) rfl (flt hc42).2.1 (by decide) (by decide) (XS.aloadN X34.here hx rfl (hb hby d15_32) rfl rfl k)) ?_
  exact own_retA X34 hx Bd.notSynchronized Bd.returns rfl rfl (hb hby d15_33) rfl ⟨b_1, kb_1, rfl, N34, K41, Q34_0, x1_0⟩ (by decide) (by decide)
abbrev R_own_cmpI1 : Room := { frames := 0, cells := 0, slots := 0, locals := 0 }
theorem d5_0 : decode jdk_52_method_21_code 0 = .ok (.iconst 0, 1) := by decide +kernel
theorem d5_1 : decode jdk_52_method_21_code 1 = .ok (.istore 5, 2) := by decide +kernel
theorem d5_3 : decode jdk_52_method_21_code 3 = .ok (.iload 5, 2) := by decide +kernel
theorem d5_5 : decode jdk_52_method_21_code 5 = .ok (.iload 4, 2) := by decide +kernel
theorem d5_7 : decode jdk_52_method_21_code 7 = .ok (.if_icmp .ge 37, 3) := by decide +kernel
theorem d5_10 : decode jdk_52_method_21_code 10 = .ok (.aload_n 0, 1) := by decide +kernel
theorem d5_11 : decode jdk_52_method_21_code 11 = .ok (.iload_n 1, 1) := by decide +kernel
theorem d5_12 : decode jdk_52_method_21_code 12 = .ok (.caload, 1) := by decide +kernel
theorem d5_13 : decode jdk_52_method_21_code 13 = .ok (.istore 6, 2) := by decide +kernel
theorem d5_15 : decode jdk_52_method_21_code 15 = .ok (.iload 6, 2) := by decide +kernel
theorem d5_17 : decode jdk_52_method_21_code 17 = .ok (.sipush 255, 3) := by decide +kernel
theorem d5_20 : decode jdk_52_method_21_code 20 = .ok (.if_icmp .le 6, 3) := by decide +kernel
theorem d5_26 : decode jdk_52_method_21_code 26 = .ok (.aload_n 2, 1) := by decide +kernel
theorem d5_27 : decode jdk_52_method_21_code 27 = .ok (.iload_n 3, 1) := by decide +kernel
theorem d5_28 : decode jdk_52_method_21_code 28 = .ok (.iload 6, 2) := by decide +kernel
theorem d5_30 : decode jdk_52_method_21_code 30 = .ok (.i2b, 1) := by decide +kernel
theorem d5_31 : decode jdk_52_method_21_code 31 = .ok (.bastore, 1) := by decide +kernel
theorem d5_32 : decode jdk_52_method_21_code 32 = .ok (.iinc 1 1, 3) := by decide +kernel
theorem d5_35 : decode jdk_52_method_21_code 35 = .ok (.iinc 3 1, 3) := by decide +kernel
theorem d5_38 : decode jdk_52_method_21_code 38 = .ok (.iinc 5 1, 3) := by decide +kernel
theorem d5_41 : decode jdk_52_method_21_code 41 = .ok (.goto (-38), 3) := by decide +kernel
theorem d5_44 : decode jdk_52_method_21_code 44 = .ok (.iload 4, 2) := by decide +kernel
theorem d5_46 : decode jdk_52_method_21_code 46 = .ok (.ireturn, 1) := by decide +kernel
theorem ef_own_cmpI1 (m : MethodId) (x0 : Addr) (x2 : Addr) : entryFrame m #[(.ref x0), (.int (0 : Int32)), (.ref x2), (.int (0 : Int32)), (.int (1 : Int32))] 7 = mkF m 0 #[.val (.ref x0), .val (.int (0 : Int32)), .val (.ref x2), .val (.int (0 : Int32)), .val (.int (1 : Int32)), .unset, .unset] [] := by first | (simp [entryFrame, mkF, argsToLocals, Value.category]; done) | rfl
set_option maxRecDepth 65536 in
set_option maxHeartbeats 4000000 in
theorem own_pl_cmpI1_1 (c0 : Int32) (hh0 : c0.toInt ≤ 255) : ¬ ((255 : Int32) < c0) := by
  have := rng32 c0
  try simp only [own_i32_255] at *
  have := own_i32_255
  try simp only [Int32.lt_iff_toInt_lt, Int32.le_iff_toInt_le, Int64.lt_iff_toInt_lt, Int64.le_iff_toInt_le, ← Int32.toInt_inj, ← Int64.toInt_inj, true_and, and_true, true_or, or_true, false_or, or_false, not_true_eq_false, not_false_eq_true, false_and, and_false, ne_eq] at *
  all_goals first | omega | (simp; done)
def Q_own_cmpI1 (Z : State) (a1 : Addr) (a3 : Addr) (k1 : ClassId) (k3 : ClassId) (c0 : Int32) (h0 : Heap) (n0 : Nat) (v : Option Value) (h : Heap) (L : List Loc) : Prop := v = some (.int (1 : Int32)) ∧ Fr n0 L ∧ Keep h0 h [a3] ∧ Arv Z h a3 k3 .byte (1 : Int32) [(.int (c0.toInt8.toInt32))] (.int (0 : Int32))
set_option maxRecDepth 65536 in
set_option maxHeartbeats 400000000 in
theorem own_cmpI1 (l : Launch) (Z : State) (a0 : Array Value) (hw : ∀ d ∈ tables_1, d.before a0 Z = true) (ws : List Jvm.Cond) (a1 : Addr) (a3 : Addr) (k1 : ClassId) (k3 : ClassId) (c0 : Int32) (h0 : Heap) (n0 : Nat) (Z0 : n0 ≤ h0.size) (P_V_a1 : Arv Z h0 a1 k1 .char (1 : Int32) [(.int c0)] (.int (0 : Int32))) (P_V_a3 : Arv Z h0 a3 k3 .byte (1 : Int32) [(.int (0 : Int32))] (.int (0 : Int32))) (g_a3 : n0 ≤ a3) (ne_a1_a3 : a1 ≠ a3) (hh0 : c0.toInt ≤ 255) :
    MetFree l (⟨"java/lang/StringUTF16", "compress", "([CI[BII)I"⟩ : MethodName) (head1 (Jvm.Cond.code (⟨"java/lang/StringUTF16", "compress", "([CI[BII)I"⟩ : MethodName) jdk_52_method_21_code 7 (some .int) :: ws) R_own_cmpI1) (fun a U => a = #[(.ref a1), (.int (0 : Int32)), (.ref a3), (.int (0 : Int32)), (.int (1 : Int32))] ∧ Z.Warmed39 U.vm ∧ U.heap = h0) (fun _ _ _ _ _ => True) (fun _ U o U' => ∃ v L, o = .returned v ∧ Q_own_cmpI1 Z a1 a3 k1 k3 c0 h0 n0 v U'.heap L ∧ FrameEnd U o U' L R_own_cmpI1.cells R_own_cmpI1.slots) := by
  refine MetFree.of_bodySF (plainFor_of_name own_pn0) hisR ?_
  intro p e s m args below meth c s₁ Bd hml0 hP hK
  obtain ⟨rfl, hZ, hh⟩ := hP
  have hx := Bd.exec
  have hby := Bd.bytes
  have hml : c.maxLocals = 7 := hml0
  have hown : s.vm.findClass "java/lang/StringUTF16" = some m.cls := findClass_of_methodNamed Bd.named
  have hnm := (name_of_methodNamed Bd.named Bd.method).1
  have X0 : Stand p l e R_own_cmpI1 s m #[(.ref a1), (.int (0 : Int32)), (.ref a3), (.int (0 : Int32)), (.int (1 : Int32))] below meth c s₁ [] 0 0 := Stand.of_body Bd
  have e0 : s₁.heap = h0 := by rw [← hh, Bd.state]; rfl
  have N0 := Fr.nil n0
  have K0 : Keep h0 h0 [a3] := Keep.refl h0 [a3]
  show own_Fin p e below s (Q_own_cmpI1 Z a1 a3 k1 k3 c0 h0 n0) R_own_cmpI1.cells R_own_cmpI1.slots (s₁.setTop (entryFrame m #[(.ref a1), (.int (0 : Int32)), (.ref a3), (.int (0 : Int32)), (.int (1 : Int32))] 7))
  refine own_go (fun _ k => castTop (ef_own_cmpI1 m a1 a3) k) ?_
  show own_Fin _ _ _ _ _ _ _ (s₁.setTop (mkF m 0 #[.val (.ref a1), .val (.int (0 : Int32)), .val (.ref a3), .val (.int (0 : Int32)), .val (.int (1 : Int32)), .unset, .unset] []))
  refine own_go (B := s₁.setTop (mkF m 7 #[.val (.ref a1), .val (.int (0 : Int32)), .val (.ref a3), .val (.int (0 : Int32)), .val (.int (1 : Int32)), .val (.int (0 : Int32)), .unset] [(.int (1 : Int32)), (.int (0 : Int32))])) (fun _ k => XS.iconst X0.here hx rfl (hb hby d5_0) (XS.istore X0.here hx rfl (hb hby d5_1) rfl (l' := #[.val (.ref a1), .val (.int (0 : Int32)), .val (.ref a3), .val (.int (0 : Int32)), .val (.int (1 : Int32)), .val (.int (0 : Int32)), .unset]) rfl (XS.iload X0.here hx rfl (hb hby d5_3) rfl  (XS.iload X0.here hx rfl (hb hby d5_5) rfl  k)))) ?_
  have hc1 : (0 : Int32) < (1 : Int32) := by decide
  refine own_go (B := s₁.setTop (mkF m 12 #[.val (.ref a1), .val (.int (0 : Int32)), .val (.ref a3), .val (.int (0 : Int32)), .val (.int (1 : Int32)), .val (.int (0 : Int32)), .unset] [(.int (0 : Int32)), (.ref a1)])) (fun _ k => XS.icmpNo X0.here hx rfl (hb hby d5_7) rfl (tlt hc1).2.1 (XS.aloadN X0.here hx rfl (hb hby d5_10) rfl rfl (XS.iloadN X0.here hx rfl (hb hby d5_11) rfl  k))) ?_
  obtain ⟨cl2, Ar2, q2, S2, N2n, H2, G2⟩ := id P_V_a1
  have hin3 : ¬ ((0 : Int32) < 0 ∨ cl2.slots.size ≤ ((0 : Int32)).toNatClampNeg) := inb_of S2 ⟨by decide, by decide⟩
  have hat3 : cl2.slots[((0 : Int32)).toNatClampNeg]? = some (.int c0) := H2.at hin3 rfl
  refine own_go (B := s₁.setTop (mkF m 20 #[.val (.ref a1), .val (.int (0 : Int32)), .val (.ref a3), .val (.int (0 : Int32)), .val (.int (1 : Int32)), .val (.int (0 : Int32)), .val (.int c0)] [(.int (255 : Int32)), (.int c0)])) (fun _ k => X0.caload hx (j := (0 : Int32)) (v := (.int c0)) (own_hc e0 Ar2.1) (State.isArrayOf_alike hZ.alike Ar2.2.1) Ar2.2.2 hin3 hat3 (g := (mkF m 12 #[.val (.ref a1), .val (.int (0 : Int32)), .val (.ref a3), .val (.int (0 : Int32)), .val (.int (1 : Int32)), .val (.int (0 : Int32)), .unset] [(.int (0 : Int32)), (.ref a1)])) rfl rfl (hb hby d5_12) _ (XS.istore X0.here hx rfl (hb hby d5_13) rfl (l' := #[.val (.ref a1), .val (.int (0 : Int32)), .val (.ref a3), .val (.int (0 : Int32)), .val (.int (1 : Int32)), .val (.int (0 : Int32)), .val (.int c0)]) rfl (XS.iload X0.here hx rfl (hb hby d5_15) rfl  (XS.sipush X0.here hx rfl (hb hby d5_17) k)))) ?_
  have hc4 : ¬ ((255 : Int32) < c0) := (own_pl_cmpI1_1 c0 hh0)
  refine own_go (B := s₁.setTop (mkF m 31 #[.val (.ref a1), .val (.int (0 : Int32)), .val (.ref a3), .val (.int (0 : Int32)), .val (.int (1 : Int32)), .val (.int (0 : Int32)), .val (.int c0)] [(.int (c0.toInt8.toInt32)), (.int (0 : Int32)), (.ref a3)])) (fun _ k => XS.icmpYes X0.here hx rfl (pc0 := 20) (pc' := 26) rfl (hb hby d5_20) rfl (flt hc4).2.2.2 (by decide) (by decide) (XS.aloadN X0.here hx rfl (hb hby d5_26) rfl rfl (XS.iloadN X0.here hx rfl (hb hby d5_27) rfl  (XS.iload X0.here hx rfl (hb hby d5_28) rfl  (XS.i2b X0.here hx rfl (hb hby d5_30) rfl k))))) ?_
  obtain ⟨cl5, Ar5, q5, S5, N5n, H5, G5⟩ := id P_V_a3
  have hin6 : ¬ ((0 : Int32) < 0 ∨ cl5.slots.size ≤ ((0 : Int32)).toNatClampNeg) := inb_of S5 ⟨by decide, by decide⟩
  obtain ⟨T6, h6, X6, e6, W6, st6⟩ := stB X0 hx hZ e0 Ar5 (j := (0 : Int32)) hin6 (g := (mkF m 31 #[.val (.ref a1), .val (.int (0 : Int32)), .val (.ref a3), .val (.int (0 : Int32)), .val (.int (1 : Int32)), .val (.int (0 : Int32)), .val (.int c0)] [(.int (c0.toInt8.toInt32)), (.int (0 : Int32)), (.ref a3)])) rfl rfl (hb hby d5_31)
  rw [own_narb] at W6
  have V_a3_6 : Arv Z h6 a3 k3 .byte (1 : Int32) [(.int (c0.toInt8.toInt32))] (.int (0 : Int32)) := Arv.set Ar5 q5 S5 N5n H5 G5 (fits_nar_byte _) W6 0 rfl (Nat.le_of_ble_eq_true rfl)
  have V_8 := P_V_a1.other W6 ne_a1_a3
  have K10 : Keep h0 h6 [a3] := K0.wr W6 (Or.inl (List.mem_of_getElem? (i := 0) rfl))
  have N6 := Fr.snoc X6 N0 g_a3
  refine own_go (B := T6.setTop (mkF m 32 #[.val (.ref a1), .val (.int (0 : Int32)), .val (.ref a3), .val (.int (0 : Int32)), .val (.int (1 : Int32)), .val (.int (0 : Int32)), .val (.int c0)] [])) st6 ?_
  refine own_go (B := T6.setTop (mkF m 35 #[.val (.ref a1), .val (.int ((0 : Int32) + (1 : Int32))), .val (.ref a3), .val (.int (0 : Int32)), .val (.int (1 : Int32)), .val (.int (0 : Int32)), .val (.int c0)] [])) (fun _ k => XS.iinc X6.here hx rfl (hb hby d5_32) rfl (l' := #[.val (.ref a1), .val (.int ((0 : Int32) + (1 : Int32))), .val (.ref a3), .val (.int (0 : Int32)), .val (.int (1 : Int32)), .val (.int (0 : Int32)), .val (.int c0)]) rfl k) ?_
  rw [show ((0 : Int32) + (1 : Int32)) = (1 : Int32) from by decide]
  show own_Fin _ _ _ _ _ _ _ (T6.setTop (mkF m 35 #[.val (.ref a1), .val (.int (1 : Int32)), .val (.ref a3), .val (.int (0 : Int32)), .val (.int (1 : Int32)), .val (.int (0 : Int32)), .val (.int c0)] []))
  refine own_go (B := T6.setTop (mkF m 38 #[.val (.ref a1), .val (.int (1 : Int32)), .val (.ref a3), .val (.int ((0 : Int32) + (1 : Int32))), .val (.int (1 : Int32)), .val (.int (0 : Int32)), .val (.int c0)] [])) (fun _ k => XS.iinc X6.here hx rfl (hb hby d5_35) rfl (l' := #[.val (.ref a1), .val (.int (1 : Int32)), .val (.ref a3), .val (.int ((0 : Int32) + (1 : Int32))), .val (.int (1 : Int32)), .val (.int (0 : Int32)), .val (.int c0)]) rfl k) ?_
  rw [show ((0 : Int32) + (1 : Int32)) = (1 : Int32) from by decide]
  show own_Fin _ _ _ _ _ _ _ (T6.setTop (mkF m 38 #[.val (.ref a1), .val (.int (1 : Int32)), .val (.ref a3), .val (.int (1 : Int32)), .val (.int (1 : Int32)), .val (.int (0 : Int32)), .val (.int c0)] []))
  refine own_go (B := T6.setTop (mkF m 41 #[.val (.ref a1), .val (.int (1 : Int32)), .val (.ref a3), .val (.int (1 : Int32)), .val (.int (1 : Int32)), .val (.int ((0 : Int32) + (1 : Int32))), .val (.int c0)] [])) (fun _ k => XS.iinc X6.here hx rfl (hb hby d5_38) rfl (l' := #[.val (.ref a1), .val (.int (1 : Int32)), .val (.ref a3), .val (.int (1 : Int32)), .val (.int (1 : Int32)), .val (.int ((0 : Int32) + (1 : Int32))), .val (.int c0)]) rfl k) ?_
  rw [show ((0 : Int32) + (1 : Int32)) = (1 : Int32) from by decide]
  show own_Fin _ _ _ _ _ _ _ (T6.setTop (mkF m 41 #[.val (.ref a1), .val (.int (1 : Int32)), .val (.ref a3), .val (.int (1 : Int32)), .val (.int (1 : Int32)), .val (.int (1 : Int32)), .val (.int c0)] []))
  refine own_go (B := T6.setTop (mkF m 7 #[.val (.ref a1), .val (.int (1 : Int32)), .val (.ref a3), .val (.int (1 : Int32)), .val (.int (1 : Int32)), .val (.int (1 : Int32)), .val (.int c0)] [(.int (1 : Int32)), (.int (1 : Int32))])) (fun _ k => XS.goto X6.here hx rfl (pc0 := 41) (pc' := 3) rfl (hb hby d5_41) (by decide) (by decide) (XS.iload X6.here hx rfl (hb hby d5_3) rfl  (XS.iload X6.here hx rfl (hb hby d5_5) rfl  k))) ?_
  have hc11 : ¬ ((1 : Int32) < (1 : Int32)) := by decide
  refine own_go (B := T6.setTop (mkF m 46 #[.val (.ref a1), .val (.int (1 : Int32)), .val (.ref a3), .val (.int (1 : Int32)), .val (.int (1 : Int32)), .val (.int (1 : Int32)), .val (.int c0)] [(.int (1 : Int32))])) (fun _ k => XS.icmpYes X6.here hx rfl (pc0 := 7) (pc' := 44) rfl (hb hby d5_7) rfl (flt hc11).2.1 (by decide) (by decide) (XS.iload X6.here hx rfl (hb hby d5_44) rfl  k)) ?_
  exact own_retI X6 hx Bd.notSynchronized Bd.returns (hb hby d5_46) e6 ⟨rfl, N6, K10, V_a3_6⟩ (by decide) (by decide)
abbrev R_own_cmpB1 : Room := { frames := 1, cells := 1, slots := 1, locals := 18 }
theorem d4_0 : decode jdk_52_method_16_code 0 = .ok (.iload_n 2, 1) := by decide +kernel
theorem d4_1 : decode jdk_52_method_16_code 1 = .ok (.newarray .byte, 2) := by decide +kernel
theorem d4_3 : decode jdk_52_method_16_code 3 = .ok (.astore_n 3, 1) := by decide +kernel
theorem d4_4 : decode jdk_52_method_16_code 4 = .ok (.aload_n 0, 1) := by decide +kernel
theorem d4_5 : decode jdk_52_method_16_code 5 = .ok (.iload_n 1, 1) := by decide +kernel
theorem d4_6 : decode jdk_52_method_16_code 6 = .ok (.aload_n 3, 1) := by decide +kernel
theorem d4_7 : decode jdk_52_method_16_code 7 = .ok (.iconst 0, 1) := by decide +kernel
theorem d4_8 : decode jdk_52_method_16_code 8 = .ok (.iload_n 2, 1) := by decide +kernel
theorem d4_9 : decode jdk_52_method_16_code 9 = .ok (.invokestatic 115, 3) := by decide +kernel
theorem d4_12 : decode jdk_52_method_16_code 12 = .ok (.istore 4, 2) := by decide +kernel
theorem d4_14 : decode jdk_52_method_16_code 14 = .ok (.iload 4, 2) := by decide +kernel
theorem d4_16 : decode jdk_52_method_16_code 16 = .ok (.iload_n 2, 1) := by decide +kernel
theorem d4_17 : decode jdk_52_method_16_code 17 = .ok (.if_icmp .eq 40, 3) := by decide +kernel
theorem d4_57 : decode jdk_52_method_16_code 57 = .ok (.aload_n 3, 1) := by decide +kernel
theorem d4_58 : decode jdk_52_method_16_code 58 = .ok (.areturn, 1) := by decide +kernel
theorem ef_own_cmpB1 (m : MethodId) (x0 : Addr) : entryFrame m #[(.ref x0), (.int (0 : Int32)), (.int (1 : Int32))] 6 = mkF m 0 #[.val (.ref x0), .val (.int (0 : Int32)), .val (.int (1 : Int32)), .unset, .unset, .unset] [] := by first | (simp [entryFrame, mkF, argsToLocals, Value.category]; done) | rfl
def Q_own_cmpB1 (Z : State) (a1 : Addr) (k1 : ClassId) (c0 : Int32) (h0 : Heap) (n0 : Nat) (v : Option Value) (h : Heap) (L : List Loc) : Prop := ∃ b : Addr, ∃ kb : ClassId, v = some (.ref b) ∧ Fr n0 L ∧ Keep h0 h [] ∧ Arv Z h b kb .byte (1 : Int32) [(.int (c0.toInt8.toInt32))] (.int (0 : Int32)) ∧ (h0.size ≤ b)
set_option maxRecDepth 65536 in
set_option maxHeartbeats 400000000 in
theorem own_cmpB1 (l : Launch) (Z : State) (a0 : Array Value) (hw : ∀ d ∈ tables_1, d.before a0 Z = true) (ws : List Jvm.Cond) (a1 : Addr) (k1 : ClassId) (c0 : Int32) (h0 : Heap) (n0 : Nat) (Z0 : n0 ≤ h0.size) (P_V_a1 : Arv Z h0 a1 k1 .char (1 : Int32) [(.int c0)] (.int (0 : Int32))) (hh0 : c0.toInt ≤ 255) :
    MetFree l (⟨"java/lang/StringUTF16", "compress", "([CII)[B"⟩ : MethodName) (head1 (Jvm.Cond.code (⟨"java/lang/StringUTF16", "compress", "([CII)[B"⟩ : MethodName) jdk_52_method_16_code 6 (some (.array .byte)) :: ws) R_own_cmpB1) (fun a U => a = #[(.ref a1), (.int (0 : Int32)), (.int (1 : Int32))] ∧ Z.Warmed39 U.vm ∧ U.heap = h0) (fun _ _ _ _ _ => True) (fun _ U o U' => ∃ v L, o = .returned v ∧ Q_own_cmpB1 Z a1 k1 c0 h0 n0 v U'.heap L ∧ FrameEnd U o U' L R_own_cmpB1.cells R_own_cmpB1.slots) := by
  refine MetFree.of_bodySF (plainFor_of_name own_pn0) hisR ?_
  intro p e s m args below meth c s₁ Bd hml0 hP hK
  obtain ⟨rfl, hZ, hh⟩ := hP
  have hx := Bd.exec
  have hby := Bd.bytes
  have hml : c.maxLocals = 6 := hml0
  have hown : s.vm.findClass "java/lang/StringUTF16" = some m.cls := findClass_of_methodNamed Bd.named
  have hnm := (name_of_methodNamed Bd.named Bd.method).1
  have X0 : Stand p l e R_own_cmpB1 s m #[(.ref a1), (.int (0 : Int32)), (.int (1 : Int32))] below meth c s₁ [] 0 0 := Stand.of_body Bd
  have e0 : s₁.heap = h0 := by rw [← hh, Bd.state]; rfl
  have N0 := Fr.nil n0
  have K0 : Keep h0 h0 [] := Keep.refl h0 []
  show own_Fin p e below s (Q_own_cmpB1 Z a1 k1 c0 h0 n0) R_own_cmpB1.cells R_own_cmpB1.slots (s₁.setTop (entryFrame m #[(.ref a1), (.int (0 : Int32)), (.int (1 : Int32))] 6))
  refine own_go (fun _ k => castTop (ef_own_cmpB1 m a1) k) ?_
  show own_Fin _ _ _ _ _ _ _ (s₁.setTop (mkF m 0 #[.val (.ref a1), .val (.int (0 : Int32)), .val (.int (1 : Int32)), .unset, .unset, .unset] []))
  refine own_go (B := s₁.setTop (mkF m 1 #[.val (.ref a1), .val (.int (0 : Int32)), .val (.int (1 : Int32)), .unset, .unset, .unset] [(.int (1 : Int32))])) (fun _ k => XS.iloadN X0.here hx rfl (hb hby d4_0) rfl  k) ?_
  obtain ⟨T1, h1, kc1, X1, e1, E1, A1, st1⟩ := newP X0 hx hZ (own_w hw 20 rfl) e0 (g := (mkF m 1 #[.val (.ref a1), .val (.int (0 : Int32)), .val (.int (1 : Int32)), .unset, .unset, .unset] [(.int (1 : Int32))])) rfl (hb hby d4_1) rfl (by decide) (cap := 1) (by decide) (by decide) (by decide) (by decide)
  obtain ⟨b1, g1⟩ : ∃ z, z = h0.size := ⟨_, rfl⟩
  rw [← g1] at A1 st1
  have ne_a1_b1_2 : a1 ≠ b1 := Nat.ne_of_lt (Nat.lt_of_lt_of_le P_V_a1.lt (Nat.le_of_eq g1.symm))
  have sz_b1 : h0.size ≤ b1 := Nat.le_trans K0.1 (Nat.le_of_eq g1.symm)
  have g_b1 : n0 ≤ b1 := Nat.le_trans Z0 sz_b1
  have V_4 := P_V_a1.ext E1
  have V_b1 : Arv Z h1 b1 kc1 .byte (1 : Int32) [(.int (0 : Int32))] (.int (0 : Int32)) := (Arv.new A1 (by decide)).pad (pad_rep [] (.int (0 : Int32)) 1)
  have K5 : Keep h0 h1 [] := K0.ext E1
  refine own_go (B := T1.setTop (mkF m 3 #[.val (.ref a1), .val (.int (0 : Int32)), .val (.int (1 : Int32)), .unset, .unset, .unset] [(.ref b1)])) st1 ?_
  refine own_go (B := T1.setTop (mkF m 9 #[.val (.ref a1), .val (.int (0 : Int32)), .val (.int (1 : Int32)), .val (.ref b1), .unset, .unset] [(.int (1 : Int32)), (.int (0 : Int32)), (.ref b1), (.int (0 : Int32)), (.ref a1)])) (fun _ k => XS.astoreN X1.here hx rfl (hb hby d4_3) rfl rfl (l' := #[.val (.ref a1), .val (.int (0 : Int32)), .val (.int (1 : Int32)), .val (.ref b1), .unset, .unset]) rfl (XS.aloadN X1.here hx rfl (hb hby d4_4) rfl rfl (XS.iloadN X1.here hx rfl (hb hby d4_5) rfl  (XS.aloadN X1.here hx rfl (hb hby d4_6) rfl rfl (XS.iconst X1.here hx rfl (hb hby d4_7) (XS.iloadN X1.here hx rfl (hb hby d4_8) rfl  k)))))) ?_
  obtain ⟨_, _, ⟨T6, L6, k6, n6⟩, -, X6, ⟨Lc6, hQ6, l6, y6, z6⟩, st6⟩ := Jvm.LawKit.callS X1 hx (y := (⟨"java/lang/StringUTF16", "compress", "([CI[BII)I"⟩ : MethodName)) hown (mvT hZ (own_w hw 21 rfl)) (mvT hZ (own_w hw 22 rfl)) (mvT hZ (own_w hw 18 rfl)) (mvT hZ (own_w hw 23 rfl)) (by decide) (backOf (W := 0) (own_cmpI1 l Z a0 hw [] a1 b1 k1 kc1 c0 h1 n0 (Nat.le_trans Z0 K5.1) V_4 V_b1 g_b1 ne_a1_b1_2 hh0) hZ (own_w hw 23 rfl) (own_w hw 18 rfl) (by decide) (by decide)) (g := (mkF m 9 #[.val (.ref a1), .val (.int (0 : Int32)), .val (.int (1 : Int32)), .val (.ref b1), .unset, .unset] [(.int (1 : Int32)), (.int (0 : Int32)), (.ref b1), (.int (0 : Int32)), (.ref a1)])) rfl (by rw [hml]; rfl) (argsL := [(.ref a1), (.int (0 : Int32)), (.ref b1), (.int (0 : Int32)), (.int (1 : Int32))]) (rest := []) (lenOf own_pd3 rfl) rfl (by show 2 * 0 + _ ≤ _; exact Nat.le_of_eq rfl) (hb hby d4_9) (fun _ _ => ⟨rfl, e1, (by decide : 1 + 0 ≤ _), (by decide : 1 + 0 ≤ _)⟩)
  dsimp only [Pt.U, Pt.locs, Pt.cells, Pt.slots] at X6 l6 y6 z6 st6 hQ6
  subst l6 y6 z6
  obtain ⟨rfl, N6q, K6q, Q6_0⟩ := hQ6
  have N6 := Fr.app N0 N6q
  have V_8 := V_4.keep K6q (ninS ne_a1_b1_2 nin0)
  have K10 : Keep h0 T6.heap [] := K5.trans K6q (allS (Or.inr sz_b1) all0)
  refine own_go (B := T6.setTop (mkF m 12 #[.val (.ref a1), .val (.int (0 : Int32)), .val (.int (1 : Int32)), .val (.ref b1), .unset, .unset] [(.int (1 : Int32))])) st6 ?_
  refine own_go (B := T6.setTop (mkF m 17 #[.val (.ref a1), .val (.int (0 : Int32)), .val (.int (1 : Int32)), .val (.ref b1), .val (.int (1 : Int32)), .unset] [(.int (1 : Int32)), (.int (1 : Int32))])) (fun _ k => XS.istore X6.here hx rfl (hb hby d4_12) rfl (l' := #[.val (.ref a1), .val (.int (0 : Int32)), .val (.int (1 : Int32)), .val (.ref b1), .val (.int (1 : Int32)), .unset]) rfl (XS.iload X6.here hx rfl (hb hby d4_14) rfl  (XS.iloadN X6.here hx rfl (hb hby d4_16) rfl  k))) ?_
  have hc11 : (1 : Int32) = (1 : Int32) := by decide
  refine own_go (B := T6.setTop (mkF m 58 #[.val (.ref a1), .val (.int (0 : Int32)), .val (.int (1 : Int32)), .val (.ref b1), .val (.int (1 : Int32)), .unset] [(.ref b1)])) (fun _ k => XS.icmpYes X6.here hx rfl (pc0 := 17) (pc' := 57) rfl (hb hby d4_17) rfl (teq hc11).1 (by decide) (by decide) (XS.aloadN X6.here hx rfl (hb hby d4_57) rfl rfl k)) ?_
  exact own_retA X6 hx Bd.notSynchronized Bd.returns rfl rfl (hb hby d4_58) rfl ⟨b1, kc1, rfl, N6, K10, Q6_0, sz_b1⟩ (by decide) (by decide)
abbrev R_own_cod1 : Room := { frames := 0, cells := 0, slots := 0, locals := 0 }
theorem d6_0 : decode jdk_52_method_15_code 0 = .ok (.iload_n 1, 1) := by decide +kernel
theorem d6_1 : decode jdk_52_method_15_code 1 = .ok (.aload_n 0, 1) := by decide +kernel
theorem d6_2 : decode jdk_52_method_15_code 2 = .ok (.arraylength, 1) := by decide +kernel
theorem d6_3 : decode jdk_52_method_15_code 3 = .ok (.isub, 1) := by decide +kernel
theorem d6_4 : decode jdk_52_method_15_code 4 = .ok (.bipush 31, 2) := by decide +kernel
theorem d6_6 : decode jdk_52_method_15_code 6 = .ok (.iushr, 1) := by decide +kernel
theorem d6_7 : decode jdk_52_method_15_code 7 = .ok (.i2b, 1) := by decide +kernel
theorem d6_8 : decode jdk_52_method_15_code 8 = .ok (.ireturn, 1) := by decide +kernel
theorem ef_own_cod1 (m : MethodId) (x0 : Addr) : entryFrame m #[(.ref x0), (.int (1 : Int32))] 2 = mkF m 0 #[.val (.ref x0), .val (.int (1 : Int32))] [] := by first | (simp [entryFrame, mkF, argsToLocals, Value.category]; done) | rfl
def Q_own_cod1 (Z : State) (a1 : Addr) (k1 : ClassId) (v0 : Int32) (h0 : Heap) (n0 : Nat) (v : Option Value) (h : Heap) (L : List Loc) : Prop := v = some (.int (0 : Int32)) ∧ Fr n0 L ∧ h = h0
set_option maxRecDepth 65536 in
set_option maxHeartbeats 400000000 in
theorem own_cod1 (l : Launch) (Z : State) (a0 : Array Value) (hw : ∀ d ∈ tables_1, d.before a0 Z = true) (ws : List Jvm.Cond) (a1 : Addr) (k1 : ClassId) (v0 : Int32) (h0 : Heap) (n0 : Nat) (Z0 : n0 ≤ h0.size) (P_V_a1 : Arv Z h0 a1 k1 .byte (1 : Int32) [(.int v0)] (.int (0 : Int32))) :
    MetFree l (⟨"java/lang/StringUTF16", "coderFromArrayLen", "([BI)B"⟩ : MethodName) (head1 (Jvm.Cond.code (⟨"java/lang/StringUTF16", "coderFromArrayLen", "([BI)B"⟩ : MethodName) jdk_52_method_15_code 2 (some .byte) :: ws) R_own_cod1) (fun a U => a = #[(.ref a1), (.int (1 : Int32))] ∧ Z.Warmed39 U.vm ∧ U.heap = h0) (fun _ _ _ _ _ => True) (fun _ U o U' => ∃ v L, o = .returned v ∧ Q_own_cod1 Z a1 k1 v0 h0 n0 v U'.heap L ∧ FrameEnd U o U' L R_own_cod1.cells R_own_cod1.slots) := by
  refine MetFree.of_bodySF (plainFor_of_name own_pn0) hisR ?_
  intro p e s m args below meth c s₁ Bd hml0 hP hK
  obtain ⟨rfl, hZ, hh⟩ := hP
  have hx := Bd.exec
  have hby := Bd.bytes
  have hml : c.maxLocals = 2 := hml0
  have hown : s.vm.findClass "java/lang/StringUTF16" = some m.cls := findClass_of_methodNamed Bd.named
  have hnm := (name_of_methodNamed Bd.named Bd.method).1
  have X0 : Stand p l e R_own_cod1 s m #[(.ref a1), (.int (1 : Int32))] below meth c s₁ [] 0 0 := Stand.of_body Bd
  have e0 : s₁.heap = h0 := by rw [← hh, Bd.state]; rfl
  have N0 := Fr.nil n0
  have K0 : Keep h0 h0 [] := Keep.refl h0 []
  show own_Fin p e below s (Q_own_cod1 Z a1 k1 v0 h0 n0) R_own_cod1.cells R_own_cod1.slots (s₁.setTop (entryFrame m #[(.ref a1), (.int (1 : Int32))] 2))
  refine own_go (fun _ k => castTop (ef_own_cod1 m a1) k) ?_
  show own_Fin _ _ _ _ _ _ _ (s₁.setTop (mkF m 0 #[.val (.ref a1), .val (.int (1 : Int32))] []))
  refine own_go (B := s₁.setTop (mkF m 2 #[.val (.ref a1), .val (.int (1 : Int32))] [(.ref a1), (.int (1 : Int32))])) (fun _ k => XS.iloadN X0.here hx rfl (hb hby d6_0) rfl  (XS.aloadN X0.here hx rfl (hb hby d6_1) rfl rfl k)) ?_
  obtain ⟨cl1, Ar1, q1, S1, N1n, H1, G1⟩ := id P_V_a1
  refine own_go (fun _ k => X0.arraylength hx (own_hc e0 Ar1.1) (State.isArrayOf_alike hZ.alike Ar1.2.1) (g := (mkF m 2 #[.val (.ref a1), .val (.int (1 : Int32))] [(.ref a1), (.int (1 : Int32))])) rfl rfl (hb hby d6_2) _ k) ?_
  rw [len_of S1 N1n]
  show own_Fin _ _ _ _ _ _ _ (s₁.setTop (mkF m 3 #[.val (.ref a1), .val (.int (1 : Int32))] [(.int (1 : Int32)), (.int (1 : Int32))]))
  refine own_go (B := s₁.setTop (mkF m 4 #[.val (.ref a1), .val (.int (1 : Int32))] [(.int ((1 : Int32) - (1 : Int32)))])) (fun _ k => XS.isub X0.here hx rfl (hb hby d6_3) rfl k) ?_
  rw [show ((1 : Int32) - (1 : Int32)) = (0 : Int32) from by decide]
  show own_Fin _ _ _ _ _ _ _ (s₁.setTop (mkF m 4 #[.val (.ref a1), .val (.int (1 : Int32))] [(.int (0 : Int32))]))
  refine own_go (B := s₁.setTop (mkF m 7 #[.val (.ref a1), .val (.int (1 : Int32))] [(.int (((0 : Int32).toUInt32 >>> ((31 : Int32) &&& 31).toUInt32).toInt32))])) (fun _ k => XS.bipush X0.here hx rfl (hb hby d6_4) (XS.iushr X0.here hx rfl (hb hby d6_6) rfl k)) ?_
  rw [show (((0 : Int32).toUInt32 >>> ((31 : Int32) &&& 31).toUInt32).toInt32) = (0 : Int32) from by decide]
  show own_Fin _ _ _ _ _ _ _ (s₁.setTop (mkF m 7 #[.val (.ref a1), .val (.int (1 : Int32))] [(.int (0 : Int32))]))
  refine own_go (B := s₁.setTop (mkF m 8 #[.val (.ref a1), .val (.int (1 : Int32))] [(.int ((0 : Int32).toInt8.toInt32))])) (fun _ k => XS.i2b X0.here hx rfl (hb hby d6_7) rfl k) ?_
  rw [show ((0 : Int32).toInt8.toInt32) = (0 : Int32) from by decide]
  show own_Fin _ _ _ _ _ _ _ (s₁.setTop (mkF m 8 #[.val (.ref a1), .val (.int (1 : Int32))] [(.int (0 : Int32))]))
  exact own_retN X0 hx Bd.notSynchronized (t := .byte) (w := (0 : Int32)) Bd.returns (by simp) (hb hby d6_8) e0 rfl ⟨rfl, N0, rfl⟩ (by decide) (by decide)
abbrev R_own_str4_1 : Room := { frames := 2, cells := 1, slots := 1, locals := 35 }
theorem d2_0 : decode jdk_42_method_149_code 0 = .ok (.aload_n 0, 1) := by decide +kernel
theorem d2_1 : decode jdk_42_method_149_code 1 = .ok (.invokespecial 1, 3) := by decide +kernel
theorem d2_4 : decode jdk_42_method_149_code 4 = .ok (.iload_n 3, 1) := by decide +kernel
theorem d2_5 : decode jdk_42_method_149_code 5 = .ok (.ifCond .ne 22, 3) := by decide +kernel
theorem d2_27 : decode jdk_42_method_149_code 27 = .ok (.getstatic 38, 3) := by decide +kernel
theorem d2_30 : decode jdk_42_method_149_code 30 = .ok (.ifCond .eq 28, 3) := by decide +kernel
theorem d2_33 : decode jdk_42_method_149_code 33 = .ok (.aload_n 1, 1) := by decide +kernel
theorem d2_34 : decode jdk_42_method_149_code 34 = .ok (.iload_n 2, 1) := by decide +kernel
theorem d2_35 : decode jdk_42_method_149_code 35 = .ok (.iload_n 3, 1) := by decide +kernel
theorem d2_36 : decode jdk_42_method_149_code 36 = .ok (.invokestatic 177, 3) := by decide +kernel
theorem d2_39 : decode jdk_42_method_149_code 39 = .ok (.astore 5, 2) := by decide +kernel
theorem d2_41 : decode jdk_42_method_149_code 41 = .ok (.aload_n 0, 1) := by decide +kernel
theorem d2_42 : decode jdk_42_method_149_code 42 = .ok (.aload 5, 2) := by decide +kernel
theorem d2_44 : decode jdk_42_method_149_code 44 = .ok (.iload_n 3, 1) := by decide +kernel
theorem d2_45 : decode jdk_42_method_149_code 45 = .ok (.invokestatic 47, 3) := by decide +kernel
theorem d2_48 : decode jdk_42_method_149_code 48 = .ok (.putfield 15, 3) := by decide +kernel
theorem d2_51 : decode jdk_42_method_149_code 51 = .ok (.aload_n 0, 1) := by decide +kernel
theorem d2_52 : decode jdk_42_method_149_code 52 = .ok (.aload 5, 2) := by decide +kernel
theorem d2_54 : decode jdk_42_method_149_code 54 = .ok (.putfield 9, 3) := by decide +kernel
theorem d2_57 : decode jdk_42_method_149_code 57 = .ok (.return_, 1) := by decide +kernel
theorem own_pn1 : plainName "java/lang/String" = true := by first | (simp [plainName, overriddenIn]; done) | decide +kernel
theorem ef_own_str4_1 (m : MethodId) (x0 : Addr) (x1 : Addr) : entryFrame m #[(.ref x0), (.ref x1), (.int (0 : Int32)), (.int (1 : Int32)), .null] 6 = mkF m 0 #[.val (.ref x0), .val (.ref x1), .val (.int (0 : Int32)), .val (.int (1 : Int32)), .val .null, .unset] [] := by first | (simp [entryFrame, mkF, argsToLocals, Value.category]; done) | rfl
def Q_own_str4_1 (Z : State) (a1 : Addr) (a2 : Addr) (k2 : ClassId) (c0 : Int32) (cs : Int32) (h0 : Heap) (n0 : Nat) (v : Option Value) (h : Heap) (L : List Loc) : Prop := ∃ t : Addr, ∃ kt : ClassId, v = none ∧ Fr n0 L ∧ Keep h0 h [a1] ∧ Exa Z h a1 "java/lang/String" ∧ Fld Z h a1 "java/lang/String" "value" "[B" (.ref t) ∧ Fld Z h a1 "java/lang/String" "coder" "B" (.int (0 : Int32)) ∧ Arv Z h t kt .byte (1 : Int32) [(.int (c0.toInt8.toInt32))] (.int (0 : Int32)) ∧ (h0.size ≤ t)
set_option maxRecDepth 65536 in
set_option maxHeartbeats 400000000 in
theorem own_str4_1 (l : Launch) (Z : State) (a0 : Array Value) (hw : ∀ d ∈ tables_1, d.before a0 Z = true) (ws : List Jvm.Cond) (a1 : Addr) (a2 : Addr) (k2 : ClassId) (c0 : Int32) (cs : Int32) (h0 : Heap) (n0 : Nat) (Z0 : n0 ≤ h0.size) (P_E_a1 : Exa Z h0 a1 "java/lang/String") (P_F_a1_value : Fld Z h0 a1 "java/lang/String" "value" "[B" .null) (P_F_a1_coder : Fld Z h0 a1 "java/lang/String" "coder" "B" (.int (0 : Int32))) (P_V_a2 : Arv Z h0 a2 k2 .char (1 : Int32) [(.int c0)] (.int (0 : Int32))) (g_a1 : n0 ≤ a1) (ne_a1_a2 : a1 ≠ a2) (P_S_java_lang_String_COMPACT_STRINGS : Sta Z h0 "java/lang/String" "COMPACT_STRINGS" "Z" (.int cs)) (hcs : ¬ (cs = (0 : Int32))) (hh0 : c0.toInt ≤ 255) :
    MetFree l (⟨"java/lang/String", "<init>", "([CIILjava/lang/Void;)V"⟩ : MethodName) (head1 (Jvm.Cond.code (⟨"java/lang/String", "<init>", "([CIILjava/lang/Void;)V"⟩ : MethodName) jdk_42_method_149_code 6 none :: ws) R_own_str4_1) (fun a U => a = #[(.ref a1), (.ref a2), (.int (0 : Int32)), (.int (1 : Int32)), .null] ∧ Z.Warmed39 U.vm ∧ U.heap = h0) (fun _ _ _ _ _ => True) (fun _ U o U' => ∃ v L, o = .returned v ∧ Q_own_str4_1 Z a1 a2 k2 c0 cs h0 n0 v U'.heap L ∧ FrameEnd U o U' L R_own_str4_1.cells R_own_str4_1.slots) := by
  refine MetFree.of_bodySF (plainFor_of_name own_pn1) hisR ?_
  intro p e s m args below meth c s₁ Bd hml0 hP hK
  obtain ⟨rfl, hZ, hh⟩ := hP
  have hx := Bd.exec
  have hby := Bd.bytes
  have hml : c.maxLocals = 6 := hml0
  have hown : s.vm.findClass "java/lang/String" = some m.cls := findClass_of_methodNamed Bd.named
  have hnm := (name_of_methodNamed Bd.named Bd.method).1
  have X0 : Stand p l e R_own_str4_1 s m #[(.ref a1), (.ref a2), (.int (0 : Int32)), (.int (1 : Int32)), .null] below meth c s₁ [] 0 0 := Stand.of_body Bd
  have e0 : s₁.heap = h0 := by rw [← hh, Bd.state]; rfl
  have N0 := Fr.nil n0
  have K0 : Keep h0 h0 [a1] := Keep.refl h0 [a1]
  show own_Fin p e below s (Q_own_str4_1 Z a1 a2 k2 c0 cs h0 n0) R_own_str4_1.cells R_own_str4_1.slots (s₁.setTop (entryFrame m #[(.ref a1), (.ref a2), (.int (0 : Int32)), (.int (1 : Int32)), .null] 6))
  refine own_go (fun _ k => castTop (ef_own_str4_1 m a1 a2) k) ?_
  show own_Fin _ _ _ _ _ _ _ (s₁.setTop (mkF m 0 #[.val (.ref a1), .val (.ref a2), .val (.int (0 : Int32)), .val (.int (1 : Int32)), .val .null, .unset] []))
  refine own_go (B := s₁.setTop (mkF m 1 #[.val (.ref a1), .val (.ref a2), .val (.int (0 : Int32)), .val (.int (1 : Int32)), .val .null, .unset] [(.ref a1)])) (fun _ k => XS.aloadN X0.here hx rfl (hb hby d2_0) rfl rfl k) ?_
  obtain ⟨T1, X1, e1, st1⟩ := initO X0 hx hZ hown (own_w hw 12 rfl) (own_w hw 13 rfl) (own_w hw 14 rfl) e0 (g := (mkF m 1 #[.val (.ref a1), .val (.ref a2), .val (.int (0 : Int32)), .val (.int (1 : Int32)), .val .null, .unset] [(.ref a1)])) rfl (by rw [hml]; rfl) rfl (hb hby d2_1) (by decide) (W := 0) (by show 2 * 0 + _ ≤ _; exact Nat.le_of_eq rfl) (by decide)
  refine own_go (B := T1.setTop (mkF m 4 #[.val (.ref a1), .val (.ref a2), .val (.int (0 : Int32)), .val (.int (1 : Int32)), .val .null, .unset] [])) st1 ?_
  refine own_go (B := T1.setTop (mkF m 5 #[.val (.ref a1), .val (.ref a2), .val (.int (0 : Int32)), .val (.int (1 : Int32)), .val .null, .unset] [(.int (1 : Int32))])) (fun _ k => XS.iloadN X1.here hx rfl (hb hby d2_4) rfl  k) ?_
  have hc2 : ¬ ((1 : Int32) = (0 : Int32)) := by decide
  refine own_go (B := T1.setTop (mkF m 27 #[.val (.ref a1), .val (.ref a2), .val (.int (0 : Int32)), .val (.int (1 : Int32)), .val .null, .unset] [])) (fun _ k => XS.ifYes X1.here hx rfl (pc0 := 5) (pc' := 27) rfl (hb hby d2_5) rfl ((if0 _ _).trans (feq hc2).2) (by decide) (by decide) k) ?_
  obtain ⟨T3, X3, e3, st3⟩ := getS2 X1 hx hZ hown (host := "") (Or.inl (own_w hw 15 rfl)) Via.refl e1 P_S_java_lang_String_COMPACT_STRINGS (g := (mkF m 27 #[.val (.ref a1), .val (.ref a2), .val (.int (0 : Int32)), .val (.int (1 : Int32)), .val .null, .unset] [])) rfl (hb hby d2_27)
  refine own_go (B := T3.setTop (mkF m 30 #[.val (.ref a1), .val (.ref a2), .val (.int (0 : Int32)), .val (.int (1 : Int32)), .val .null, .unset] [(.int cs)])) st3 ?_
  refine own_go (B := T3.setTop (mkF m 36 #[.val (.ref a1), .val (.ref a2), .val (.int (0 : Int32)), .val (.int (1 : Int32)), .val .null, .unset] [(.int (1 : Int32)), (.int (0 : Int32)), (.ref a2)])) (fun _ k => XS.ifNo X3.here hx rfl (hb hby d2_30) rfl ((if0 _ _).trans (feq hcs).1) (XS.aloadN X3.here hx rfl (hb hby d2_33) rfl rfl (XS.iloadN X3.here hx rfl (hb hby d2_34) rfl  (XS.iloadN X3.here hx rfl (hb hby d2_35) rfl  k)))) ?_
  obtain ⟨_, _, ⟨T4, L4, k4, n4⟩, -, X4, ⟨Lc4, hQ4, l4, y4, z4⟩, st4⟩ := Jvm.LawKit.callS X3 hx (y := (⟨"java/lang/StringUTF16", "compress", "([CII)[B"⟩ : MethodName)) hown (mvT hZ (own_w hw 16 rfl)) (mvT hZ (own_w hw 17 rfl)) (mvT hZ (own_w hw 18 rfl)) (mvT hZ (own_w hw 19 rfl)) (by decide) (backOf (W := 0) (own_cmpB1 l Z a0 hw [] a2 k2 c0 h0 n0 (Nat.le_trans Z0 K0.1) P_V_a2 hh0) hZ (own_w hw 19 rfl) (own_w hw 18 rfl) (by decide) (by decide)) (g := (mkF m 36 #[.val (.ref a1), .val (.ref a2), .val (.int (0 : Int32)), .val (.int (1 : Int32)), .val .null, .unset] [(.int (1 : Int32)), (.int (0 : Int32)), (.ref a2)])) rfl (by rw [hml]; rfl) (argsL := [(.ref a2), (.int (0 : Int32)), (.int (1 : Int32))]) (rest := []) (lenOf own_pd4 rfl) rfl (by show 2 * 0 + _ ≤ _; exact Nat.le_of_eq rfl) (hb hby d2_36) (fun _ _ => ⟨rfl, e3, (by decide : 0 + 1 ≤ _), (by decide : 0 + 1 ≤ _)⟩)
  dsimp only [Pt.U, Pt.locs, Pt.cells, Pt.slots] at X4 l4 y4 z4 st4 hQ4
  subst l4 y4 z4
  obtain ⟨b_4, kb_4, rfl, N4q, K4q, Q4_0, x4_0⟩ := hQ4
  have N4 := Fr.app N0 N4q
  have ne_a1_b_4_5 : a1 ≠ b_4 := Nat.ne_of_lt (Nat.lt_of_lt_of_le P_E_a1.lt x4_0)
  have ne_a2_b_4_6 : a2 ≠ b_4 := Nat.ne_of_lt (Nat.lt_of_lt_of_le P_V_a2.lt x4_0)
  have sz_b_4 : h0.size ≤ b_4 := Nat.le_trans K0.1 x4_0
  have g_b_4 : n0 ≤ b_4 := Nat.le_trans Z0 sz_b_4
  have E_8 := P_E_a1.keep K4q
  have F_9 := P_F_a1_value.keep K4q nin0
  have F_10 := P_F_a1_coder.keep K4q nin0
  have V_11 := P_V_a2.keep K4q nin0
  have S_12 := own_Sta_keep P_S_java_lang_String_COMPACT_STRINGS K4q all0
  have K13 : Keep h0 T4.heap [a1] := K0.trans K4q all0
  refine own_go (B := T4.setTop (mkF m 39 #[.val (.ref a1), .val (.ref a2), .val (.int (0 : Int32)), .val (.int (1 : Int32)), .val .null, .unset] [(.ref b_4)])) st4 ?_
  refine own_go (B := T4.setTop (mkF m 45 #[.val (.ref a1), .val (.ref a2), .val (.int (0 : Int32)), .val (.int (1 : Int32)), .val .null, .val (.ref b_4)] [(.int (1 : Int32)), (.ref b_4), (.ref a1)])) (fun _ k => XS.astore X4.here hx rfl (hb hby d2_39) rfl rfl (l' := #[.val (.ref a1), .val (.ref a2), .val (.int (0 : Int32)), .val (.int (1 : Int32)), .val .null, .val (.ref b_4)]) rfl (XS.aloadN X4.here hx rfl (hb hby d2_41) rfl rfl (XS.aload X4.here hx rfl (hb hby d2_42) rfl rfl (XS.iloadN X4.here hx rfl (hb hby d2_44) rfl  k)))) ?_
  obtain ⟨_, _, ⟨T14, L14, k14, n14⟩, -, X14, ⟨Lc14, hQ14, l14, y14, z14⟩, st14⟩ := Jvm.LawKit.callS X4 hx (y := (⟨"java/lang/StringUTF16", "coderFromArrayLen", "([BI)B"⟩ : MethodName)) hown (mvT hZ (own_w hw 24 rfl)) (mvT hZ (own_w hw 25 rfl)) (mvT hZ (own_w hw 18 rfl)) (mvT hZ (own_w hw 26 rfl)) (by decide) (backOf (W := 1) (own_cod1 l Z a0 hw [] b_4 kb_4 (c0.toInt8.toInt32) T4.heap n0 (Nat.le_trans Z0 K13.1) Q4_0) hZ (own_w hw 26 rfl) (own_w hw 18 rfl) (by decide) (by decide)) (g := (mkF m 45 #[.val (.ref a1), .val (.ref a2), .val (.int (0 : Int32)), .val (.int (1 : Int32)), .val .null, .val (.ref b_4)] [(.int (1 : Int32)), (.ref b_4), (.ref a1)])) rfl (by rw [hml]; rfl) (argsL := [(.ref b_4), (.int (1 : Int32))]) (rest := [(.ref a1)]) (lenOf own_pd5 rfl) rfl (by show 2 * 0 + _ ≤ _; exact Nat.le_of_eq rfl) (hb hby d2_45) (fun _ _ => ⟨rfl, rfl, (by decide : 1 + 0 ≤ _), (by decide : 1 + 0 ≤ _)⟩)
  dsimp only [Pt.U, Pt.locs, Pt.cells, Pt.slots] at X14 l14 y14 z14 st14 hQ14
  subst l14 y14 z14
  obtain ⟨rfl, N14q, e14⟩ := hQ14
  have N14 := Fr.app N4 N14q
  refine own_go (B := T14.setTop (mkF m 48 #[.val (.ref a1), .val (.ref a2), .val (.int (0 : Int32)), .val (.int (1 : Int32)), .val .null, .val (.ref b_4)] [(.int (0 : Int32)), (.ref a1)])) st14 ?_
  obtain ⟨T15, h15, X15, e15, W15, st15⟩ := putFN X14 hx hZ hown (own_w hw 27 rfl) Via.refl e14 F_10 E_8 (Or.inr ⟨(own_w hw 28 rfl), rfl, hnm⟩) (own_w hw 2 rfl) (ty := .byte) (v' := (.int (0 : Int32))) (by decide) rfl rfl (g := (mkF m 48 #[.val (.ref a1), .val (.ref a2), .val (.int (0 : Int32)), .val (.int (1 : Int32)), .val .null, .val (.ref b_4)] [(.int (0 : Int32)), (.ref a1)])) rfl rfl (hb hby d2_48)
  have F_w15 : Fld Z h15 a1 "java/lang/String" "coder" "B" (.int (0 : Int32)) := F_10.same W15
  have E_17 := E_8.wr W15
  have F_18 := F_9.other W15 (Or.inr (slot_ne (Or.inr (own_w hw 30 rfl)) (Or.inr (own_w hw 28 rfl)) (by decide) (t := (.array .byte)) (t' := .byte) (by decide) (by decide)))
  have V_20 := V_11.other W15 (Ne.symm ne_a1_a2)
  have S_21 := S_12.wr W15
  have V_22 := Q4_0.other W15 (Ne.symm ne_a1_b_4_5)
  have K23 : Keep h0 h15 [a1] := K13.wr W15 (Or.inl (List.mem_of_getElem? (i := 0) rfl))
  have N15 := Fr.snoc X15 N14 g_a1
  refine own_go (B := T15.setTop (mkF m 51 #[.val (.ref a1), .val (.ref a2), .val (.int (0 : Int32)), .val (.int (1 : Int32)), .val .null, .val (.ref b_4)] [])) st15 ?_
  refine own_go (B := T15.setTop (mkF m 54 #[.val (.ref a1), .val (.ref a2), .val (.int (0 : Int32)), .val (.int (1 : Int32)), .val .null, .val (.ref b_4)] [(.ref b_4), (.ref a1)])) (fun _ k => XS.aloadN X15.here hx rfl (hb hby d2_51) rfl rfl (XS.aload X15.here hx rfl (hb hby d2_52) rfl rfl k)) ?_
  obtain ⟨T24, h24, X24, e24, W24, st24⟩ := putF X15 hx hZ hown (host := "") (Or.inl (own_w hw 29 rfl)) Via.refl e15 F_18 E_17 (Or.inr ⟨(own_w hw 30 rfl), rfl, hnm⟩) (own_w hw 2 rfl) (ty := (.array .byte)) (by decide) rfl rfl (g := (mkF m 54 #[.val (.ref a1), .val (.ref a2), .val (.int (0 : Int32)), .val (.int (1 : Int32)), .val .null, .val (.ref b_4)] [(.ref b_4), (.ref a1)])) rfl rfl (hb hby d2_54)
  have F_w24 : Fld Z h24 a1 "java/lang/String" "value" "[B" (.ref b_4) := F_18.same W24
  have E_26 := E_17.wr W24
  have V_28 := V_20.other W24 (Ne.symm ne_a1_a2)
  have S_29 := S_21.wr W24
  have V_30 := V_22.other W24 (Ne.symm ne_a1_b_4_5)
  have F_31 := F_w15.other W24 (Or.inr (slot_ne (Or.inr (own_w hw 28 rfl)) (Or.inr (own_w hw 30 rfl)) (by decide) (t := .byte) (t' := (.array .byte)) (by decide) (by decide)))
  have K32 : Keep h0 h24 [a1] := K23.wr W24 (Or.inl (List.mem_of_getElem? (i := 0) rfl))
  have N24 := Fr.snoc X24 N15 g_a1
  refine own_go (B := T24.setTop (mkF m 57 #[.val (.ref a1), .val (.ref a2), .val (.int (0 : Int32)), .val (.int (1 : Int32)), .val .null, .val (.ref b_4)] [])) st24 ?_
  exact own_retV X24 hx Bd.notSynchronized Bd.returns (hb hby d2_57) e24 ⟨b_4, kb_4, rfl, N24, K32, E_26, F_w24, F_31, V_30, x4_0⟩ (by decide) (by decide)
abbrev R_own_str1 : Room := { frames := 3, cells := 1, slots := 1, locals := 52 }
theorem d1_0 : decode jdk_42_method_3_code 0 = .ok (.aload_n 0, 1) := by decide +kernel
theorem d1_1 : decode jdk_42_method_3_code 1 = .ok (.aload_n 1, 1) := by decide +kernel
theorem d1_2 : decode jdk_42_method_3_code 2 = .ok (.iconst 0, 1) := by decide +kernel
theorem d1_3 : decode jdk_42_method_3_code 3 = .ok (.aload_n 1, 1) := by decide +kernel
theorem d1_4 : decode jdk_42_method_3_code 4 = .ok (.arraylength, 1) := by decide +kernel
theorem d1_5 : decode jdk_42_method_3_code 5 = .ok (.aconst_null, 1) := by decide +kernel
theorem d1_6 : decode jdk_42_method_3_code 6 = .ok (.invokespecial 27, 3) := by decide +kernel
theorem d1_9 : decode jdk_42_method_3_code 9 = .ok (.return_, 1) := by decide +kernel
theorem ef_own_str1 (m : MethodId) (x0 : Addr) (x1 : Addr) : entryFrame m #[(.ref x0), (.ref x1)] 2 = mkF m 0 #[.val (.ref x0), .val (.ref x1)] [] := by first | (simp [entryFrame, mkF, argsToLocals, Value.category]; done) | rfl
def Q_own_str1 (Z : State) (a1 : Addr) (a2 : Addr) (k2 : ClassId) (c0 : Int32) (cs : Int32) (h0 : Heap) (n0 : Nat) (v : Option Value) (h : Heap) (L : List Loc) : Prop := ∃ t : Addr, ∃ kt : ClassId, v = none ∧ Fr n0 L ∧ Keep h0 h [a1] ∧ Exa Z h a1 "java/lang/String" ∧ Fld Z h a1 "java/lang/String" "value" "[B" (.ref t) ∧ Fld Z h a1 "java/lang/String" "coder" "B" (.int (0 : Int32)) ∧ Arv Z h t kt .byte (1 : Int32) [(.int (c0.toInt8.toInt32))] (.int (0 : Int32)) ∧ (h0.size ≤ t)
set_option maxRecDepth 65536 in
set_option maxHeartbeats 400000000 in
theorem own_str1 (l : Launch) (Z : State) (a0 : Array Value) (hw : ∀ d ∈ tables_1, d.before a0 Z = true) (ws : List Jvm.Cond) (a1 : Addr) (a2 : Addr) (k2 : ClassId) (c0 : Int32) (cs : Int32) (h0 : Heap) (n0 : Nat) (Z0 : n0 ≤ h0.size) (P_E_a1 : Exa Z h0 a1 "java/lang/String") (P_F_a1_value : Fld Z h0 a1 "java/lang/String" "value" "[B" .null) (P_F_a1_coder : Fld Z h0 a1 "java/lang/String" "coder" "B" (.int (0 : Int32))) (P_V_a2 : Arv Z h0 a2 k2 .char (1 : Int32) [(.int c0)] (.int (0 : Int32))) (g_a1 : n0 ≤ a1) (ne_a1_a2 : a1 ≠ a2) (P_S_java_lang_String_COMPACT_STRINGS : Sta Z h0 "java/lang/String" "COMPACT_STRINGS" "Z" (.int cs)) (hcs : ¬ (cs = (0 : Int32))) (hh0 : c0.toInt ≤ 255) :
    MetFree l (⟨"java/lang/String", "<init>", "([C)V"⟩ : MethodName) (head1 (Jvm.Cond.code (⟨"java/lang/String", "<init>", "([C)V"⟩ : MethodName) jdk_42_method_3_code 2 none :: ws) R_own_str1) (fun a U => a = #[(.ref a1), (.ref a2)] ∧ Z.Warmed39 U.vm ∧ U.heap = h0) (fun _ _ _ _ _ => True) (fun _ U o U' => ∃ v L, o = .returned v ∧ Q_own_str1 Z a1 a2 k2 c0 cs h0 n0 v U'.heap L ∧ FrameEnd U o U' L R_own_str1.cells R_own_str1.slots) := by
  refine MetFree.of_bodySF (plainFor_of_name own_pn1) hisR ?_
  intro p e s m args below meth c s₁ Bd hml0 hP hK
  obtain ⟨rfl, hZ, hh⟩ := hP
  have hx := Bd.exec
  have hby := Bd.bytes
  have hml : c.maxLocals = 2 := hml0
  have hown : s.vm.findClass "java/lang/String" = some m.cls := findClass_of_methodNamed Bd.named
  have hnm := (name_of_methodNamed Bd.named Bd.method).1
  have X0 : Stand p l e R_own_str1 s m #[(.ref a1), (.ref a2)] below meth c s₁ [] 0 0 := Stand.of_body Bd
  have e0 : s₁.heap = h0 := by rw [← hh, Bd.state]; rfl
  have N0 := Fr.nil n0
  have K0 : Keep h0 h0 [a1] := Keep.refl h0 [a1]
  show own_Fin p e below s (Q_own_str1 Z a1 a2 k2 c0 cs h0 n0) R_own_str1.cells R_own_str1.slots (s₁.setTop (entryFrame m #[(.ref a1), (.ref a2)] 2))
  refine own_go (fun _ k => castTop (ef_own_str1 m a1 a2) k) ?_
  show own_Fin _ _ _ _ _ _ _ (s₁.setTop (mkF m 0 #[.val (.ref a1), .val (.ref a2)] []))
  refine own_go (B := s₁.setTop (mkF m 4 #[.val (.ref a1), .val (.ref a2)] [(.ref a2), (.int (0 : Int32)), (.ref a2), (.ref a1)])) (fun _ k => XS.aloadN X0.here hx rfl (hb hby d1_0) rfl rfl (XS.aloadN X0.here hx rfl (hb hby d1_1) rfl rfl (XS.iconst X0.here hx rfl (hb hby d1_2) (XS.aloadN X0.here hx rfl (hb hby d1_3) rfl rfl k)))) ?_
  obtain ⟨cl1, Ar1, q1, S1, N1n, H1, G1⟩ := id P_V_a2
  refine own_go (fun _ k => X0.arraylength hx (own_hc e0 Ar1.1) (State.isArrayOf_alike hZ.alike Ar1.2.1) (g := (mkF m 4 #[.val (.ref a1), .val (.ref a2)] [(.ref a2), (.int (0 : Int32)), (.ref a2), (.ref a1)])) rfl rfl (hb hby d1_4) _ k) ?_
  rw [len_of S1 N1n]
  show own_Fin _ _ _ _ _ _ _ (s₁.setTop (mkF m 5 #[.val (.ref a1), .val (.ref a2)] [(.int (1 : Int32)), (.int (0 : Int32)), (.ref a2), (.ref a1)]))
  refine own_go (B := s₁.setTop (mkF m 6 #[.val (.ref a1), .val (.ref a2)] [.null, (.int (1 : Int32)), (.int (0 : Int32)), (.ref a2), (.ref a1)])) (fun _ k => XS.aconstNull X0.here hx rfl (hb hby d1_5) k) ?_
  obtain ⟨_, _, ⟨T2, L2, k2, n2⟩, -, X2, ⟨Lc2, hQ2, l2, y2, z2⟩, st2⟩ := X0.specialBack hx (y := (⟨"java/lang/String", "<init>", "([CIILjava/lang/Void;)V"⟩ : MethodName)) rfl hown (mvT hZ (own_w hw 8 rfl)) (mvT hZ (own_w hw 9 rfl)) (mvT hZ (own_w hw 11 rfl)) (by decide) (backOf (W := 0) (own_str4_1 l Z a0 hw [] a1 a2 k2 c0 cs h0 n0 (Nat.le_trans Z0 K0.1) P_E_a1 P_F_a1_value P_F_a1_coder P_V_a2 g_a1 ne_a1_a2 P_S_java_lang_String_COMPACT_STRINGS hcs hh0) hZ (own_w hw 11 rfl) (own_w hw 3 rfl) (by decide) (by decide)) (g := (mkF m 6 #[.val (.ref a1), .val (.ref a2)] [.null, (.int (1 : Int32)), (.int (0 : Int32)), (.ref a2), (.ref a1)])) rfl (by rw [hml]; rfl) (Steps.refl _) (a := a1) (argsL := [(.ref a2), (.int (0 : Int32)), (.int (1 : Int32)), .null]) (rest := []) (lenOf own_pd6 rfl) rfl (by show 2 * 0 + _ ≤ _; exact Nat.le_of_eq rfl) (hb hby d1_6) (fun _ _ => ⟨rfl, e0, (by decide : 0 + 1 ≤ _), (by decide : 0 + 1 ≤ _)⟩)
  dsimp only [Pt.U, Pt.locs, Pt.cells, Pt.slots] at X2 l2 y2 z2 st2 hQ2
  subst l2 y2 z2
  obtain ⟨t_2, kt_2, rfl, N2q, K2q, Q2_0, Q2_1, Q2_2, Q2_3, x2_0⟩ := hQ2
  have N2 := Fr.app N0 N2q
  have ne_a1_t_2_3 : a1 ≠ t_2 := Nat.ne_of_lt (Nat.lt_of_lt_of_le P_E_a1.lt x2_0)
  have ne_a2_t_2_4 : a2 ≠ t_2 := Nat.ne_of_lt (Nat.lt_of_lt_of_le P_V_a2.lt x2_0)
  have sz_t_2 : h0.size ≤ t_2 := Nat.le_trans K0.1 x2_0
  have g_t_2 : n0 ≤ t_2 := Nat.le_trans Z0 sz_t_2
  have V_9 := P_V_a2.keep K2q (ninS (Ne.symm ne_a1_a2) nin0)
  have S_10 := own_Sta_keep P_S_java_lang_String_COMPACT_STRINGS K2q (allS (own_plain P_E_a1) all0)
  have K11 : Keep h0 T2.heap [a1] := K0.trans K2q (allS (Or.inl (List.mem_of_getElem? (i := 0) rfl)) all0)
  refine own_go (B := T2.setTop (mkF m 9 #[.val (.ref a1), .val (.ref a2)] [])) (fun _ k => st2.trans k) ?_
  exact own_retV X2 hx Bd.notSynchronized Bd.returns (hb hby d1_9) rfl ⟨t_2, kt_2, rfl, N2, K11, Q2_0, Q2_1, Q2_2, Q2_3, x2_0⟩ (by decide) (by decide)
abbrev R_own_cmpI1_0 : Room := { frames := 0, cells := 0, slots := 0, locals := 0 }
theorem d5_23 : decode jdk_52_method_21_code 23 = .ok (.iload 5, 2) := by decide +kernel
theorem d5_25 : decode jdk_52_method_21_code 25 = .ok (.ireturn, 1) := by decide +kernel
theorem ef_own_cmpI1_0 (m : MethodId) (x0 : Addr) (x2 : Addr) : entryFrame m #[(.ref x0), (.int (0 : Int32)), (.ref x2), (.int (0 : Int32)), (.int (1 : Int32))] 7 = mkF m 0 #[.val (.ref x0), .val (.int (0 : Int32)), .val (.ref x2), .val (.int (0 : Int32)), .val (.int (1 : Int32)), .unset, .unset] [] := by first | (simp [entryFrame, mkF, argsToLocals, Value.category]; done) | rfl
set_option maxRecDepth 65536 in
set_option maxHeartbeats 4000000 in
theorem own_pl_cmpI1_0_1 (c0 : Int32) (hg : ¬ (c0.toInt ≤ 255)) : (255 : Int32) < c0 := by
  have := rng32 c0
  try simp only [own_i32_255] at *
  have := own_i32_255
  try simp only [Int32.lt_iff_toInt_lt, Int32.le_iff_toInt_le, Int64.lt_iff_toInt_lt, Int64.le_iff_toInt_le, ← Int32.toInt_inj, ← Int64.toInt_inj, true_and, and_true, true_or, or_true, false_or, or_false, not_true_eq_false, not_false_eq_true, false_and, and_false, ne_eq] at *
  all_goals first | omega | (simp; done)
def Q_own_cmpI1_0 (Z : State) (a1 : Addr) (a3 : Addr) (k1 : ClassId) (k3 : ClassId) (c0 : Int32) (h0 : Heap) (n0 : Nat) (v : Option Value) (h : Heap) (L : List Loc) : Prop := v = some (.int (0 : Int32)) ∧ Fr n0 L ∧ Keep h0 h [a3]
set_option maxRecDepth 65536 in
set_option maxHeartbeats 400000000 in
theorem own_cmpI1_0 (l : Launch) (Z : State) (a0 : Array Value) (hw : ∀ d ∈ tables_1, d.before a0 Z = true) (ws : List Jvm.Cond) (a1 : Addr) (a3 : Addr) (k1 : ClassId) (k3 : ClassId) (c0 : Int32) (h0 : Heap) (n0 : Nat) (Z0 : n0 ≤ h0.size) (P_V_a1 : Arv Z h0 a1 k1 .char (1 : Int32) [(.int c0)] (.int (0 : Int32))) (P_V_a3 : Arv Z h0 a3 k3 .byte (1 : Int32) [(.int (0 : Int32))] (.int (0 : Int32))) (g_a3 : n0 ≤ a3) (ne_a1_a3 : a1 ≠ a3) (hg : ¬ (c0.toInt ≤ 255)) :
    MetFree l (⟨"java/lang/StringUTF16", "compress", "([CI[BII)I"⟩ : MethodName) (head1 (Jvm.Cond.code (⟨"java/lang/StringUTF16", "compress", "([CI[BII)I"⟩ : MethodName) jdk_52_method_21_code 7 (some .int) :: ws) R_own_cmpI1_0) (fun a U => a = #[(.ref a1), (.int (0 : Int32)), (.ref a3), (.int (0 : Int32)), (.int (1 : Int32))] ∧ Z.Warmed39 U.vm ∧ U.heap = h0) (fun _ _ _ _ _ => True) (fun _ U o U' => ∃ v L, o = .returned v ∧ Q_own_cmpI1_0 Z a1 a3 k1 k3 c0 h0 n0 v U'.heap L ∧ FrameEnd U o U' L R_own_cmpI1_0.cells R_own_cmpI1_0.slots) := by
  refine MetFree.of_bodySF (plainFor_of_name own_pn0) hisR ?_
  intro p e s m args below meth c s₁ Bd hml0 hP hK
  obtain ⟨rfl, hZ, hh⟩ := hP
  have hx := Bd.exec
  have hby := Bd.bytes
  have hml : c.maxLocals = 7 := hml0
  have hown : s.vm.findClass "java/lang/StringUTF16" = some m.cls := findClass_of_methodNamed Bd.named
  have hnm := (name_of_methodNamed Bd.named Bd.method).1
  have X0 : Stand p l e R_own_cmpI1_0 s m #[(.ref a1), (.int (0 : Int32)), (.ref a3), (.int (0 : Int32)), (.int (1 : Int32))] below meth c s₁ [] 0 0 := Stand.of_body Bd
  have e0 : s₁.heap = h0 := by rw [← hh, Bd.state]; rfl
  have N0 := Fr.nil n0
  have K0 : Keep h0 h0 [a3] := Keep.refl h0 [a3]
  show own_Fin p e below s (Q_own_cmpI1_0 Z a1 a3 k1 k3 c0 h0 n0) R_own_cmpI1_0.cells R_own_cmpI1_0.slots (s₁.setTop (entryFrame m #[(.ref a1), (.int (0 : Int32)), (.ref a3), (.int (0 : Int32)), (.int (1 : Int32))] 7))
  refine own_go (fun _ k => castTop (ef_own_cmpI1_0 m a1 a3) k) ?_
  show own_Fin _ _ _ _ _ _ _ (s₁.setTop (mkF m 0 #[.val (.ref a1), .val (.int (0 : Int32)), .val (.ref a3), .val (.int (0 : Int32)), .val (.int (1 : Int32)), .unset, .unset] []))
  refine own_go (B := s₁.setTop (mkF m 7 #[.val (.ref a1), .val (.int (0 : Int32)), .val (.ref a3), .val (.int (0 : Int32)), .val (.int (1 : Int32)), .val (.int (0 : Int32)), .unset] [(.int (1 : Int32)), (.int (0 : Int32))])) (fun _ k => XS.iconst X0.here hx rfl (hb hby d5_0) (XS.istore X0.here hx rfl (hb hby d5_1) rfl (l' := #[.val (.ref a1), .val (.int (0 : Int32)), .val (.ref a3), .val (.int (0 : Int32)), .val (.int (1 : Int32)), .val (.int (0 : Int32)), .unset]) rfl (XS.iload X0.here hx rfl (hb hby d5_3) rfl  (XS.iload X0.here hx rfl (hb hby d5_5) rfl  k)))) ?_
  have hc1 : (0 : Int32) < (1 : Int32) := by decide
  refine own_go (B := s₁.setTop (mkF m 12 #[.val (.ref a1), .val (.int (0 : Int32)), .val (.ref a3), .val (.int (0 : Int32)), .val (.int (1 : Int32)), .val (.int (0 : Int32)), .unset] [(.int (0 : Int32)), (.ref a1)])) (fun _ k => XS.icmpNo X0.here hx rfl (hb hby d5_7) rfl (tlt hc1).2.1 (XS.aloadN X0.here hx rfl (hb hby d5_10) rfl rfl (XS.iloadN X0.here hx rfl (hb hby d5_11) rfl  k))) ?_
  obtain ⟨cl2, Ar2, q2, S2, N2n, H2, G2⟩ := id P_V_a1
  have hin3 : ¬ ((0 : Int32) < 0 ∨ cl2.slots.size ≤ ((0 : Int32)).toNatClampNeg) := inb_of S2 ⟨by decide, by decide⟩
  have hat3 : cl2.slots[((0 : Int32)).toNatClampNeg]? = some (.int c0) := H2.at hin3 rfl
  refine own_go (B := s₁.setTop (mkF m 20 #[.val (.ref a1), .val (.int (0 : Int32)), .val (.ref a3), .val (.int (0 : Int32)), .val (.int (1 : Int32)), .val (.int (0 : Int32)), .val (.int c0)] [(.int (255 : Int32)), (.int c0)])) (fun _ k => X0.caload hx (j := (0 : Int32)) (v := (.int c0)) (own_hc e0 Ar2.1) (State.isArrayOf_alike hZ.alike Ar2.2.1) Ar2.2.2 hin3 hat3 (g := (mkF m 12 #[.val (.ref a1), .val (.int (0 : Int32)), .val (.ref a3), .val (.int (0 : Int32)), .val (.int (1 : Int32)), .val (.int (0 : Int32)), .unset] [(.int (0 : Int32)), (.ref a1)])) rfl rfl (hb hby d5_12) _ (XS.istore X0.here hx rfl (hb hby d5_13) rfl (l' := #[.val (.ref a1), .val (.int (0 : Int32)), .val (.ref a3), .val (.int (0 : Int32)), .val (.int (1 : Int32)), .val (.int (0 : Int32)), .val (.int c0)]) rfl (XS.iload X0.here hx rfl (hb hby d5_15) rfl  (XS.sipush X0.here hx rfl (hb hby d5_17) k)))) ?_
  have hc4 : (255 : Int32) < c0 := (own_pl_cmpI1_0_1 c0 hg)
  refine own_go (B := s₁.setTop (mkF m 25 #[.val (.ref a1), .val (.int (0 : Int32)), .val (.ref a3), .val (.int (0 : Int32)), .val (.int (1 : Int32)), .val (.int (0 : Int32)), .val (.int c0)] [(.int (0 : Int32))])) (fun _ k => XS.icmpNo X0.here hx rfl (hb hby d5_20) rfl (tlt hc4).2.2.2 (XS.iload X0.here hx rfl (hb hby d5_23) rfl  k)) ?_
  exact own_retI X0 hx Bd.notSynchronized Bd.returns (hb hby d5_25) e0 ⟨rfl, N0, K0⟩ (by decide) (by decide)
abbrev R_own_cmpB1_0 : Room := { frames := 3, cells := 2, slots := 3, locals := 40 }
theorem d4_20 : decode jdk_52_method_16_code 20 = .ok (.aload_n 0, 1) := by decide +kernel
theorem d4_21 : decode jdk_52_method_16_code 21 = .ok (.iload_n 1, 1) := by decide +kernel
theorem d4_22 : decode jdk_52_method_16_code 22 = .ok (.iload_n 2, 1) := by decide +kernel
theorem d4_23 : decode jdk_52_method_16_code 23 = .ok (.invokestatic 119, 3) := by decide +kernel
theorem d4_26 : decode jdk_52_method_16_code 26 = .ok (.astore 5, 2) := by decide +kernel
theorem d4_28 : decode jdk_52_method_16_code 28 = .ok (.aload 5, 2) := by decide +kernel
theorem d4_30 : decode jdk_52_method_16_code 30 = .ok (.iload 4, 2) := by decide +kernel
theorem d4_32 : decode jdk_52_method_16_code 32 = .ok (.invokestatic 71, 3) := by decide +kernel
theorem d4_35 : decode jdk_52_method_16_code 35 = .ok (.sipush 255, 3) := by decide +kernel
theorem d4_38 : decode jdk_52_method_16_code 38 = .ok (.if_icmp .gt 16, 3) := by decide +kernel
theorem d4_54 : decode jdk_52_method_16_code 54 = .ok (.aload 5, 2) := by decide +kernel
theorem d4_56 : decode jdk_52_method_16_code 56 = .ok (.areturn, 1) := by decide +kernel
theorem ef_own_cmpB1_0 (m : MethodId) (x0 : Addr) : entryFrame m #[(.ref x0), (.int (0 : Int32)), (.int (1 : Int32))] 6 = mkF m 0 #[.val (.ref x0), .val (.int (0 : Int32)), .val (.int (1 : Int32)), .unset, .unset, .unset] [] := by first | (simp [entryFrame, mkF, argsToLocals, Value.category]; done) | rfl
set_option maxRecDepth 65536 in
set_option maxHeartbeats 4000000 in
theorem own_pl_cmpB1_0_1 (c0 : Int32) (hg : ¬ (c0.toInt ≤ 255)) (hl : 0 ≤ c0.toInt) (hu : c0.toInt ≤ 65535) : (255 : Int32) < ((((((c0 >>> ((0 : Int32) &&& 31)).toInt8.toInt32) &&& (255 : Int32)) <<< ((0 : Int32) &&& 31)) ||| ((((c0 >>> ((8 : Int32) &&& 31)).toInt8.toInt32) &&& (255 : Int32)) <<< ((8 : Int32) &&& 31))).toUInt32.toUInt16.toUInt32.toInt32) := by
  have q := own_getc c0 hl hu
  simp only [Int32.lt_iff_toInt_lt]
  rw [q]
  simp only [Int32.reduceToInt]
  omega
def Q_own_cmpB1_0 (Z : State) (a1 : Addr) (k1 : ClassId) (c0 : Int32) (h0 : Heap) (n0 : Nat) (v : Option Value) (h : Heap) (L : List Loc) : Prop := ∃ b : Addr, ∃ kb : ClassId, ∃ u0 : Int32, ∃ u1 : Int32, v = some (.ref b) ∧ Fr n0 L ∧ Keep h0 h [] ∧ Arv Z h b kb .byte (2 : Int32) [(.int u0), (.int u1)] (.int (0 : Int32)) ∧ (h0.size ≤ b)
set_option maxRecDepth 65536 in
set_option maxHeartbeats 400000000 in
theorem own_cmpB1_0 (l : Launch) (Z : State) (a0 : Array Value) (hw : ∀ d ∈ tables_1, d.before a0 Z = true) (ws : List Jvm.Cond) (a1 : Addr) (k1 : ClassId) (c0 : Int32) (h0 : Heap) (n0 : Nat) (Z0 : n0 ≤ h0.size) (P_V_a1 : Arv Z h0 a1 k1 .char (1 : Int32) [(.int c0)] (.int (0 : Int32))) (P_S_java_lang_StringUTF16__assertionsDisabled : Sta Z h0 "java/lang/StringUTF16" "$assertionsDisabled" "Z" (.int (1 : Int32))) (P_S_java_lang_StringUTF16_HI_BYTE_SHIFT : Sta Z h0 "java/lang/StringUTF16" "HI_BYTE_SHIFT" "I" (.int (0 : Int32))) (P_S_java_lang_StringUTF16_LO_BYTE_SHIFT : Sta Z h0 "java/lang/StringUTF16" "LO_BYTE_SHIFT" "I" (.int (8 : Int32))) (hg : ¬ (c0.toInt ≤ 255)) (hl : 0 ≤ c0.toInt) (hu : c0.toInt ≤ 65535) :
    MetFree l (⟨"java/lang/StringUTF16", "compress", "([CII)[B"⟩ : MethodName) (head1 (Jvm.Cond.code (⟨"java/lang/StringUTF16", "compress", "([CII)[B"⟩ : MethodName) jdk_52_method_16_code 6 (some (.array .byte)) :: ws) R_own_cmpB1_0) (fun a U => a = #[(.ref a1), (.int (0 : Int32)), (.int (1 : Int32))] ∧ Z.Warmed39 U.vm ∧ U.heap = h0) (fun _ _ _ _ _ => True) (fun _ U o U' => ∃ v L, o = .returned v ∧ Q_own_cmpB1_0 Z a1 k1 c0 h0 n0 v U'.heap L ∧ FrameEnd U o U' L R_own_cmpB1_0.cells R_own_cmpB1_0.slots) := by
  refine MetFree.of_bodySF (plainFor_of_name own_pn0) hisR ?_
  intro p e s m args below meth c s₁ Bd hml0 hP hK
  obtain ⟨rfl, hZ, hh⟩ := hP
  have hx := Bd.exec
  have hby := Bd.bytes
  have hml : c.maxLocals = 6 := hml0
  have hown : s.vm.findClass "java/lang/StringUTF16" = some m.cls := findClass_of_methodNamed Bd.named
  have hnm := (name_of_methodNamed Bd.named Bd.method).1
  have X0 : Stand p l e R_own_cmpB1_0 s m #[(.ref a1), (.int (0 : Int32)), (.int (1 : Int32))] below meth c s₁ [] 0 0 := Stand.of_body Bd
  have e0 : s₁.heap = h0 := by rw [← hh, Bd.state]; rfl
  have N0 := Fr.nil n0
  have K0 : Keep h0 h0 [] := Keep.refl h0 []
  show own_Fin p e below s (Q_own_cmpB1_0 Z a1 k1 c0 h0 n0) R_own_cmpB1_0.cells R_own_cmpB1_0.slots (s₁.setTop (entryFrame m #[(.ref a1), (.int (0 : Int32)), (.int (1 : Int32))] 6))
  refine own_go (fun _ k => castTop (ef_own_cmpB1_0 m a1) k) ?_
  show own_Fin _ _ _ _ _ _ _ (s₁.setTop (mkF m 0 #[.val (.ref a1), .val (.int (0 : Int32)), .val (.int (1 : Int32)), .unset, .unset, .unset] []))
  refine own_go (B := s₁.setTop (mkF m 1 #[.val (.ref a1), .val (.int (0 : Int32)), .val (.int (1 : Int32)), .unset, .unset, .unset] [(.int (1 : Int32))])) (fun _ k => XS.iloadN X0.here hx rfl (hb hby d4_0) rfl  k) ?_
  obtain ⟨T1, h1, kc1, X1, e1, E1, A1, st1⟩ := newP X0 hx hZ (own_w hw 20 rfl) e0 (g := (mkF m 1 #[.val (.ref a1), .val (.int (0 : Int32)), .val (.int (1 : Int32)), .unset, .unset, .unset] [(.int (1 : Int32))])) rfl (hb hby d4_1) rfl (by decide) (cap := 1) (by decide) (by decide) (by decide) (by decide)
  obtain ⟨b1, g1⟩ : ∃ z, z = h0.size := ⟨_, rfl⟩
  rw [← g1] at A1 st1
  have ne_a1_b1_2 : a1 ≠ b1 := Nat.ne_of_lt (Nat.lt_of_lt_of_le P_V_a1.lt (Nat.le_of_eq g1.symm))
  have sz_b1 : h0.size ≤ b1 := Nat.le_trans K0.1 (Nat.le_of_eq g1.symm)
  have g_b1 : n0 ≤ b1 := Nat.le_trans Z0 sz_b1
  have V_4 := P_V_a1.ext E1
  have S_5 := P_S_java_lang_StringUTF16__assertionsDisabled.ext E1
  have S_6 := P_S_java_lang_StringUTF16_HI_BYTE_SHIFT.ext E1
  have S_7 := P_S_java_lang_StringUTF16_LO_BYTE_SHIFT.ext E1
  have V_b1 : Arv Z h1 b1 kc1 .byte (1 : Int32) [(.int (0 : Int32))] (.int (0 : Int32)) := (Arv.new A1 (by decide)).pad (pad_rep [] (.int (0 : Int32)) 1)
  have K8 : Keep h0 h1 [] := K0.ext E1
  refine own_go (B := T1.setTop (mkF m 3 #[.val (.ref a1), .val (.int (0 : Int32)), .val (.int (1 : Int32)), .unset, .unset, .unset] [(.ref b1)])) st1 ?_
  refine own_go (B := T1.setTop (mkF m 9 #[.val (.ref a1), .val (.int (0 : Int32)), .val (.int (1 : Int32)), .val (.ref b1), .unset, .unset] [(.int (1 : Int32)), (.int (0 : Int32)), (.ref b1), (.int (0 : Int32)), (.ref a1)])) (fun _ k => XS.astoreN X1.here hx rfl (hb hby d4_3) rfl rfl (l' := #[.val (.ref a1), .val (.int (0 : Int32)), .val (.int (1 : Int32)), .val (.ref b1), .unset, .unset]) rfl (XS.aloadN X1.here hx rfl (hb hby d4_4) rfl rfl (XS.iloadN X1.here hx rfl (hb hby d4_5) rfl  (XS.aloadN X1.here hx rfl (hb hby d4_6) rfl rfl (XS.iconst X1.here hx rfl (hb hby d4_7) (XS.iloadN X1.here hx rfl (hb hby d4_8) rfl  k)))))) ?_
  obtain ⟨_, _, ⟨T9, L9, k9, n9⟩, -, X9, ⟨Lc9, hQ9, l9, y9, z9⟩, st9⟩ := Jvm.LawKit.callS X1 hx (y := (⟨"java/lang/StringUTF16", "compress", "([CI[BII)I"⟩ : MethodName)) hown (mvT hZ (own_w hw 21 rfl)) (mvT hZ (own_w hw 22 rfl)) (mvT hZ (own_w hw 18 rfl)) (mvT hZ (own_w hw 23 rfl)) (by decide) (backOf (W := 0) (own_cmpI1_0 l Z a0 hw [] a1 b1 k1 kc1 c0 h1 n0 (Nat.le_trans Z0 K8.1) V_4 V_b1 g_b1 ne_a1_b1_2 hg) hZ (own_w hw 23 rfl) (own_w hw 18 rfl) (by decide) (by decide)) (g := (mkF m 9 #[.val (.ref a1), .val (.int (0 : Int32)), .val (.int (1 : Int32)), .val (.ref b1), .unset, .unset] [(.int (1 : Int32)), (.int (0 : Int32)), (.ref b1), (.int (0 : Int32)), (.ref a1)])) rfl (by rw [hml]; rfl) (argsL := [(.ref a1), (.int (0 : Int32)), (.ref b1), (.int (0 : Int32)), (.int (1 : Int32))]) (rest := []) (lenOf own_pd3 rfl) rfl (by show 2 * 0 + _ ≤ _; exact Nat.le_of_eq rfl) (hb hby d4_9) (fun _ _ => ⟨rfl, e1, (by decide : 1 + 0 ≤ _), (by decide : 1 + 0 ≤ _)⟩)
  dsimp only [Pt.U, Pt.locs, Pt.cells, Pt.slots] at X9 l9 y9 z9 st9 hQ9
  subst l9 y9 z9
  obtain ⟨rfl, N9q, K9q⟩ := hQ9
  have N9 := Fr.app N0 N9q
  have V_11 := V_4.keep K9q (ninS ne_a1_b1_2 nin0)
  have S_12 := own_Sta_keep S_5 K9q (allS (own_plainV V_b1) all0)
  have S_13 := own_Sta_keep S_6 K9q (allS (own_plainV V_b1) all0)
  have S_14 := own_Sta_keep S_7 K9q (allS (own_plainV V_b1) all0)
  have K16 : Keep h0 T9.heap [] := K8.trans K9q (allS (Or.inr sz_b1) all0)
  refine own_go (B := T9.setTop (mkF m 12 #[.val (.ref a1), .val (.int (0 : Int32)), .val (.int (1 : Int32)), .val (.ref b1), .unset, .unset] [(.int (0 : Int32))])) st9 ?_
  refine own_go (B := T9.setTop (mkF m 17 #[.val (.ref a1), .val (.int (0 : Int32)), .val (.int (1 : Int32)), .val (.ref b1), .val (.int (0 : Int32)), .unset] [(.int (1 : Int32)), (.int (0 : Int32))])) (fun _ k => XS.istore X9.here hx rfl (hb hby d4_12) rfl (l' := #[.val (.ref a1), .val (.int (0 : Int32)), .val (.int (1 : Int32)), .val (.ref b1), .val (.int (0 : Int32)), .unset]) rfl (XS.iload X9.here hx rfl (hb hby d4_14) rfl  (XS.iloadN X9.here hx rfl (hb hby d4_16) rfl  k))) ?_
  have hc17 : ¬ ((0 : Int32) = (1 : Int32)) := by decide
  refine own_go (B := T9.setTop (mkF m 23 #[.val (.ref a1), .val (.int (0 : Int32)), .val (.int (1 : Int32)), .val (.ref b1), .val (.int (0 : Int32)), .unset] [(.int (1 : Int32)), (.int (0 : Int32)), (.ref a1)])) (fun _ k => XS.icmpNo X9.here hx rfl (hb hby d4_17) rfl (feq hc17).1 (XS.aloadN X9.here hx rfl (hb hby d4_20) rfl rfl (XS.iloadN X9.here hx rfl (hb hby d4_21) rfl  (XS.iloadN X9.here hx rfl (hb hby d4_22) rfl  k)))) ?_
  obtain ⟨_, _, ⟨T18, L18, k18, n18⟩, -, X18, ⟨Lc18, hQ18, l18, y18, z18⟩, st18⟩ := Jvm.LawKit.callS X9 hx (y := (⟨"java/lang/StringUTF16", "toBytes", "([CII)[B"⟩ : MethodName)) hown (mvT hZ (own_w hw 68 rfl)) (mvT hZ (own_w hw 69 rfl)) (mvT hZ (own_w hw 18 rfl)) (mvT hZ (own_w hw 70 rfl)) (by decide) (backOf (W := 0) (own_tob1 l Z a0 hw [] a1 k1 c0 T9.heap n0 (Nat.le_trans Z0 K16.1) V_11 S_12 S_13 S_14) hZ (own_w hw 70 rfl) (own_w hw 18 rfl) (by decide) (by decide)) (g := (mkF m 23 #[.val (.ref a1), .val (.int (0 : Int32)), .val (.int (1 : Int32)), .val (.ref b1), .val (.int (0 : Int32)), .unset] [(.int (1 : Int32)), (.int (0 : Int32)), (.ref a1)])) rfl (by rw [hml]; rfl) (argsL := [(.ref a1), (.int (0 : Int32)), (.int (1 : Int32))]) (rest := []) (lenOf own_pd4 rfl) rfl (by show 2 * 0 + _ ≤ _; exact Nat.le_of_eq rfl) (hb hby d4_23) (fun _ _ => ⟨rfl, rfl, (by decide : 1 + 1 ≤ _), (by decide : 1 + 2 ≤ _)⟩)
  dsimp only [Pt.U, Pt.locs, Pt.cells, Pt.slots] at X18 l18 y18 z18 st18 hQ18
  subst l18 y18 z18
  obtain ⟨b_18, kb_18, rfl, N18q, K18q, Q18_0, x18_0⟩ := hQ18
  have N18 := Fr.app N9 N18q
  have ne_a1_b_18_19 : a1 ≠ b_18 := Nat.ne_of_lt (Nat.lt_of_lt_of_le V_11.lt x18_0)
  have sz_b_18 : h0.size ≤ b_18 := Nat.le_trans K16.1 x18_0
  have g_b_18 : n0 ≤ b_18 := Nat.le_trans Z0 sz_b_18
  have V_21 := V_11.keep K18q nin0
  have S_22 := own_Sta_keep S_12 K18q all0
  have S_23 := own_Sta_keep S_13 K18q all0
  have S_24 := own_Sta_keep S_14 K18q all0
  have K25 : Keep h0 T18.heap [] := K16.trans K18q all0
  refine own_go (B := T18.setTop (mkF m 26 #[.val (.ref a1), .val (.int (0 : Int32)), .val (.int (1 : Int32)), .val (.ref b1), .val (.int (0 : Int32)), .unset] [(.ref b_18)])) st18 ?_
  refine own_go (B := T18.setTop (mkF m 32 #[.val (.ref a1), .val (.int (0 : Int32)), .val (.int (1 : Int32)), .val (.ref b1), .val (.int (0 : Int32)), .val (.ref b_18)] [(.int (0 : Int32)), (.ref b_18)])) (fun _ k => XS.astore X18.here hx rfl (hb hby d4_26) rfl rfl (l' := #[.val (.ref a1), .val (.int (0 : Int32)), .val (.int (1 : Int32)), .val (.ref b1), .val (.int (0 : Int32)), .val (.ref b_18)]) rfl (XS.aload X18.here hx rfl (hb hby d4_28) rfl rfl (XS.iload X18.here hx rfl (hb hby d4_30) rfl  k))) ?_
  obtain ⟨_, _, ⟨T26, L26, k26, n26⟩, -, X26, ⟨Lc26, hQ26, l26, y26, z26⟩, st26⟩ := Jvm.LawKit.callS X18 hx (y := (⟨"java/lang/StringUTF16", "getChar", "([BI)C"⟩ : MethodName)) hown (mvT hZ (own_w hw 84 rfl)) (mvT hZ (own_w hw 85 rfl)) (mvT hZ (own_w hw 18 rfl)) (mvT hZ (own_w hw 86 rfl)) (by decide) (backOf (W := 0) (own_get1_0 l Z a0 hw [] b_18 kb_18 ((c0 >>> ((0 : Int32) &&& 31)).toInt8.toInt32) ((c0 >>> ((8 : Int32) &&& 31)).toInt8.toInt32) T18.heap n0 (Nat.le_trans Z0 K25.1) Q18_0 S_22 S_23 S_24) hZ (own_w hw 86 rfl) (own_w hw 18 rfl) (by decide) (by decide)) (g := (mkF m 32 #[.val (.ref a1), .val (.int (0 : Int32)), .val (.int (1 : Int32)), .val (.ref b1), .val (.int (0 : Int32)), .val (.ref b_18)] [(.int (0 : Int32)), (.ref b_18)])) rfl (by rw [hml]; rfl) (argsL := [(.ref b_18), (.int (0 : Int32))]) (rest := []) (lenOf own_pd7 rfl) rfl (by show 2 * 0 + _ ≤ _; exact Nat.le_of_eq rfl) (hb hby d4_32) (fun _ _ => ⟨rfl, rfl, (by decide : 2 + 0 ≤ _), (by decide : 3 + 0 ≤ _)⟩)
  dsimp only [Pt.U, Pt.locs, Pt.cells, Pt.slots] at X26 l26 y26 z26 st26 hQ26
  subst l26 y26 z26
  obtain ⟨rfl, N26q, e26⟩ := hQ26
  have N26 := Fr.app N18 N26q
  refine own_go (B := T26.setTop (mkF m 35 #[.val (.ref a1), .val (.int (0 : Int32)), .val (.int (1 : Int32)), .val (.ref b1), .val (.int (0 : Int32)), .val (.ref b_18)] [(.int ((((((c0 >>> ((0 : Int32) &&& 31)).toInt8.toInt32) &&& (255 : Int32)) <<< ((0 : Int32) &&& 31)) ||| ((((c0 >>> ((8 : Int32) &&& 31)).toInt8.toInt32) &&& (255 : Int32)) <<< ((8 : Int32) &&& 31))).toUInt32.toUInt16.toUInt32.toInt32))])) st26 ?_
  refine own_go (B := T26.setTop (mkF m 38 #[.val (.ref a1), .val (.int (0 : Int32)), .val (.int (1 : Int32)), .val (.ref b1), .val (.int (0 : Int32)), .val (.ref b_18)] [(.int (255 : Int32)), (.int ((((((c0 >>> ((0 : Int32) &&& 31)).toInt8.toInt32) &&& (255 : Int32)) <<< ((0 : Int32) &&& 31)) ||| ((((c0 >>> ((8 : Int32) &&& 31)).toInt8.toInt32) &&& (255 : Int32)) <<< ((8 : Int32) &&& 31))).toUInt32.toUInt16.toUInt32.toInt32))])) (fun _ k => XS.sipush X26.here hx rfl (hb hby d4_35) k) ?_
  have hc27 : (255 : Int32) < ((((((c0 >>> ((0 : Int32) &&& 31)).toInt8.toInt32) &&& (255 : Int32)) <<< ((0 : Int32) &&& 31)) ||| ((((c0 >>> ((8 : Int32) &&& 31)).toInt8.toInt32) &&& (255 : Int32)) <<< ((8 : Int32) &&& 31))).toUInt32.toUInt16.toUInt32.toInt32) := (own_pl_cmpB1_0_1 c0 hg hl hu)
  refine own_go (B := T26.setTop (mkF m 56 #[.val (.ref a1), .val (.int (0 : Int32)), .val (.int (1 : Int32)), .val (.ref b1), .val (.int (0 : Int32)), .val (.ref b_18)] [(.ref b_18)])) (fun _ k => XS.icmpYes X26.here hx rfl (pc0 := 38) (pc' := 54) rfl (hb hby d4_38) rfl (tlt hc27).2.2.1 (by decide) (by decide) (XS.aload X26.here hx rfl (hb hby d4_54) rfl rfl k)) ?_
  exact own_retA X26 hx Bd.notSynchronized Bd.returns rfl rfl (hb hby d4_56) e26 ⟨b_18, kb_18, ((c0 >>> ((0 : Int32) &&& 31)).toInt8.toInt32), ((c0 >>> ((8 : Int32) &&& 31)).toInt8.toInt32), rfl, N26, K25, Q18_0, sz_b_18⟩ (by decide) (by decide)
abbrev R_own_cod16_1 : Room := { frames := 0, cells := 0, slots := 0, locals := 0 }
theorem ef_own_cod16_1 (m : MethodId) (x0 : Addr) : entryFrame m #[(.ref x0), (.int (1 : Int32))] 2 = mkF m 0 #[.val (.ref x0), .val (.int (1 : Int32))] [] := by first | (simp [entryFrame, mkF, argsToLocals, Value.category]; done) | rfl
def Q_own_cod16_1 (Z : State) (a1 : Addr) (k1 : ClassId) (v0 : Int32) (v1 : Int32) (h0 : Heap) (n0 : Nat) (v : Option Value) (h : Heap) (L : List Loc) : Prop := v = some (.int (1 : Int32)) ∧ Fr n0 L ∧ h = h0
set_option maxRecDepth 65536 in
set_option maxHeartbeats 400000000 in
theorem own_cod16_1 (l : Launch) (Z : State) (a0 : Array Value) (hw : ∀ d ∈ tables_1, d.before a0 Z = true) (ws : List Jvm.Cond) (a1 : Addr) (k1 : ClassId) (v0 : Int32) (v1 : Int32) (h0 : Heap) (n0 : Nat) (Z0 : n0 ≤ h0.size) (P_V_a1 : Arv Z h0 a1 k1 .byte (2 : Int32) [(.int v0), (.int v1)] (.int (0 : Int32))) :
    MetFree l (⟨"java/lang/StringUTF16", "coderFromArrayLen", "([BI)B"⟩ : MethodName) (head1 (Jvm.Cond.code (⟨"java/lang/StringUTF16", "coderFromArrayLen", "([BI)B"⟩ : MethodName) jdk_52_method_15_code 2 (some .byte) :: ws) R_own_cod16_1) (fun a U => a = #[(.ref a1), (.int (1 : Int32))] ∧ Z.Warmed39 U.vm ∧ U.heap = h0) (fun _ _ _ _ _ => True) (fun _ U o U' => ∃ v L, o = .returned v ∧ Q_own_cod16_1 Z a1 k1 v0 v1 h0 n0 v U'.heap L ∧ FrameEnd U o U' L R_own_cod16_1.cells R_own_cod16_1.slots) := by
  refine MetFree.of_bodySF (plainFor_of_name own_pn0) hisR ?_
  intro p e s m args below meth c s₁ Bd hml0 hP hK
  obtain ⟨rfl, hZ, hh⟩ := hP
  have hx := Bd.exec
  have hby := Bd.bytes
  have hml : c.maxLocals = 2 := hml0
  have hown : s.vm.findClass "java/lang/StringUTF16" = some m.cls := findClass_of_methodNamed Bd.named
  have hnm := (name_of_methodNamed Bd.named Bd.method).1
  have X0 : Stand p l e R_own_cod16_1 s m #[(.ref a1), (.int (1 : Int32))] below meth c s₁ [] 0 0 := Stand.of_body Bd
  have e0 : s₁.heap = h0 := by rw [← hh, Bd.state]; rfl
  have N0 := Fr.nil n0
  have K0 : Keep h0 h0 [] := Keep.refl h0 []
  show own_Fin p e below s (Q_own_cod16_1 Z a1 k1 v0 v1 h0 n0) R_own_cod16_1.cells R_own_cod16_1.slots (s₁.setTop (entryFrame m #[(.ref a1), (.int (1 : Int32))] 2))
  refine own_go (fun _ k => castTop (ef_own_cod16_1 m a1) k) ?_
  show own_Fin _ _ _ _ _ _ _ (s₁.setTop (mkF m 0 #[.val (.ref a1), .val (.int (1 : Int32))] []))
  refine own_go (B := s₁.setTop (mkF m 2 #[.val (.ref a1), .val (.int (1 : Int32))] [(.ref a1), (.int (1 : Int32))])) (fun _ k => XS.iloadN X0.here hx rfl (hb hby d6_0) rfl  (XS.aloadN X0.here hx rfl (hb hby d6_1) rfl rfl k)) ?_
  obtain ⟨cl1, Ar1, q1, S1, N1n, H1, G1⟩ := id P_V_a1
  refine own_go (fun _ k => X0.arraylength hx (own_hc e0 Ar1.1) (State.isArrayOf_alike hZ.alike Ar1.2.1) (g := (mkF m 2 #[.val (.ref a1), .val (.int (1 : Int32))] [(.ref a1), (.int (1 : Int32))])) rfl rfl (hb hby d6_2) _ k) ?_
  rw [len_of S1 N1n]
  show own_Fin _ _ _ _ _ _ _ (s₁.setTop (mkF m 3 #[.val (.ref a1), .val (.int (1 : Int32))] [(.int (2 : Int32)), (.int (1 : Int32))]))
  refine own_go (B := s₁.setTop (mkF m 4 #[.val (.ref a1), .val (.int (1 : Int32))] [(.int ((1 : Int32) - (2 : Int32)))])) (fun _ k => XS.isub X0.here hx rfl (hb hby d6_3) rfl k) ?_
  rw [show ((1 : Int32) - (2 : Int32)) = (-1 : Int32) from by decide]
  show own_Fin _ _ _ _ _ _ _ (s₁.setTop (mkF m 4 #[.val (.ref a1), .val (.int (1 : Int32))] [(.int (-1 : Int32))]))
  refine own_go (B := s₁.setTop (mkF m 7 #[.val (.ref a1), .val (.int (1 : Int32))] [(.int (((-1 : Int32).toUInt32 >>> ((31 : Int32) &&& 31).toUInt32).toInt32))])) (fun _ k => XS.bipush X0.here hx rfl (hb hby d6_4) (XS.iushr X0.here hx rfl (hb hby d6_6) rfl k)) ?_
  rw [show (((-1 : Int32).toUInt32 >>> ((31 : Int32) &&& 31).toUInt32).toInt32) = (1 : Int32) from by decide]
  show own_Fin _ _ _ _ _ _ _ (s₁.setTop (mkF m 7 #[.val (.ref a1), .val (.int (1 : Int32))] [(.int (1 : Int32))]))
  refine own_go (B := s₁.setTop (mkF m 8 #[.val (.ref a1), .val (.int (1 : Int32))] [(.int ((1 : Int32).toInt8.toInt32))])) (fun _ k => XS.i2b X0.here hx rfl (hb hby d6_7) rfl k) ?_
  rw [show ((1 : Int32).toInt8.toInt32) = (1 : Int32) from by decide]
  show own_Fin _ _ _ _ _ _ _ (s₁.setTop (mkF m 8 #[.val (.ref a1), .val (.int (1 : Int32))] [(.int (1 : Int32))]))
  exact own_retN X0 hx Bd.notSynchronized (t := .byte) (w := (1 : Int32)) Bd.returns (by simp) (hb hby d6_8) e0 rfl ⟨rfl, N0, rfl⟩ (by decide) (by decide)
abbrev R_own_str4_1_0 : Room := { frames := 4, cells := 2, slots := 3, locals := 57 }
theorem ef_own_str4_1_0 (m : MethodId) (x0 : Addr) (x1 : Addr) : entryFrame m #[(.ref x0), (.ref x1), (.int (0 : Int32)), (.int (1 : Int32)), .null] 6 = mkF m 0 #[.val (.ref x0), .val (.ref x1), .val (.int (0 : Int32)), .val (.int (1 : Int32)), .val .null, .unset] [] := by first | (simp [entryFrame, mkF, argsToLocals, Value.category]; done) | rfl
def Q_own_str4_1_0 (Z : State) (a1 : Addr) (a2 : Addr) (k2 : ClassId) (c0 : Int32) (cs : Int32) (h0 : Heap) (n0 : Nat) (v : Option Value) (h : Heap) (L : List Loc) : Prop := ∃ t : Addr, ∃ kt : ClassId, ∃ u0 : Int32, ∃ u1 : Int32, v = none ∧ Fr n0 L ∧ Keep h0 h [a1] ∧ Exa Z h a1 "java/lang/String" ∧ Fld Z h a1 "java/lang/String" "value" "[B" (.ref t) ∧ Fld Z h a1 "java/lang/String" "coder" "B" (.int (1 : Int32)) ∧ Arv Z h t kt .byte (2 : Int32) [(.int u0), (.int u1)] (.int (0 : Int32)) ∧ (h0.size ≤ t)
set_option maxRecDepth 65536 in
set_option maxHeartbeats 400000000 in
theorem own_str4_1_0 (l : Launch) (Z : State) (a0 : Array Value) (hw : ∀ d ∈ tables_1, d.before a0 Z = true) (ws : List Jvm.Cond) (a1 : Addr) (a2 : Addr) (k2 : ClassId) (c0 : Int32) (cs : Int32) (h0 : Heap) (n0 : Nat) (Z0 : n0 ≤ h0.size) (P_E_a1 : Exa Z h0 a1 "java/lang/String") (P_F_a1_value : Fld Z h0 a1 "java/lang/String" "value" "[B" .null) (P_F_a1_coder : Fld Z h0 a1 "java/lang/String" "coder" "B" (.int (0 : Int32))) (P_V_a2 : Arv Z h0 a2 k2 .char (1 : Int32) [(.int c0)] (.int (0 : Int32))) (g_a1 : n0 ≤ a1) (ne_a1_a2 : a1 ≠ a2) (P_S_java_lang_String_COMPACT_STRINGS : Sta Z h0 "java/lang/String" "COMPACT_STRINGS" "Z" (.int cs)) (hcs : ¬ (cs = (0 : Int32))) (P_S_java_lang_StringUTF16__assertionsDisabled : Sta Z h0 "java/lang/StringUTF16" "$assertionsDisabled" "Z" (.int (1 : Int32))) (P_S_java_lang_StringUTF16_HI_BYTE_SHIFT : Sta Z h0 "java/lang/StringUTF16" "HI_BYTE_SHIFT" "I" (.int (0 : Int32))) (P_S_java_lang_StringUTF16_LO_BYTE_SHIFT : Sta Z h0 "java/lang/StringUTF16" "LO_BYTE_SHIFT" "I" (.int (8 : Int32))) (hg : ¬ (c0.toInt ≤ 255)) (hl : 0 ≤ c0.toInt) (hu : c0.toInt ≤ 65535) :
    MetFree l (⟨"java/lang/String", "<init>", "([CIILjava/lang/Void;)V"⟩ : MethodName) (head1 (Jvm.Cond.code (⟨"java/lang/String", "<init>", "([CIILjava/lang/Void;)V"⟩ : MethodName) jdk_42_method_149_code 6 none :: ws) R_own_str4_1_0) (fun a U => a = #[(.ref a1), (.ref a2), (.int (0 : Int32)), (.int (1 : Int32)), .null] ∧ Z.Warmed39 U.vm ∧ U.heap = h0) (fun _ _ _ _ _ => True) (fun _ U o U' => ∃ v L, o = .returned v ∧ Q_own_str4_1_0 Z a1 a2 k2 c0 cs h0 n0 v U'.heap L ∧ FrameEnd U o U' L R_own_str4_1_0.cells R_own_str4_1_0.slots) := by
  refine MetFree.of_bodySF (plainFor_of_name own_pn1) hisR ?_
  intro p e s m args below meth c s₁ Bd hml0 hP hK
  obtain ⟨rfl, hZ, hh⟩ := hP
  have hx := Bd.exec
  have hby := Bd.bytes
  have hml : c.maxLocals = 6 := hml0
  have hown : s.vm.findClass "java/lang/String" = some m.cls := findClass_of_methodNamed Bd.named
  have hnm := (name_of_methodNamed Bd.named Bd.method).1
  have X0 : Stand p l e R_own_str4_1_0 s m #[(.ref a1), (.ref a2), (.int (0 : Int32)), (.int (1 : Int32)), .null] below meth c s₁ [] 0 0 := Stand.of_body Bd
  have e0 : s₁.heap = h0 := by rw [← hh, Bd.state]; rfl
  have N0 := Fr.nil n0
  have K0 : Keep h0 h0 [a1] := Keep.refl h0 [a1]
  show own_Fin p e below s (Q_own_str4_1_0 Z a1 a2 k2 c0 cs h0 n0) R_own_str4_1_0.cells R_own_str4_1_0.slots (s₁.setTop (entryFrame m #[(.ref a1), (.ref a2), (.int (0 : Int32)), (.int (1 : Int32)), .null] 6))
  refine own_go (fun _ k => castTop (ef_own_str4_1_0 m a1 a2) k) ?_
  show own_Fin _ _ _ _ _ _ _ (s₁.setTop (mkF m 0 #[.val (.ref a1), .val (.ref a2), .val (.int (0 : Int32)), .val (.int (1 : Int32)), .val .null, .unset] []))
  refine own_go (B := s₁.setTop (mkF m 1 #[.val (.ref a1), .val (.ref a2), .val (.int (0 : Int32)), .val (.int (1 : Int32)), .val .null, .unset] [(.ref a1)])) (fun _ k => XS.aloadN X0.here hx rfl (hb hby d2_0) rfl rfl k) ?_
  obtain ⟨T1, X1, e1, st1⟩ := initO X0 hx hZ hown (own_w hw 12 rfl) (own_w hw 13 rfl) (own_w hw 14 rfl) e0 (g := (mkF m 1 #[.val (.ref a1), .val (.ref a2), .val (.int (0 : Int32)), .val (.int (1 : Int32)), .val .null, .unset] [(.ref a1)])) rfl (by rw [hml]; rfl) rfl (hb hby d2_1) (by decide) (W := 0) (by show 2 * 0 + _ ≤ _; exact Nat.le_of_eq rfl) (by decide)
  refine own_go (B := T1.setTop (mkF m 4 #[.val (.ref a1), .val (.ref a2), .val (.int (0 : Int32)), .val (.int (1 : Int32)), .val .null, .unset] [])) st1 ?_
  refine own_go (B := T1.setTop (mkF m 5 #[.val (.ref a1), .val (.ref a2), .val (.int (0 : Int32)), .val (.int (1 : Int32)), .val .null, .unset] [(.int (1 : Int32))])) (fun _ k => XS.iloadN X1.here hx rfl (hb hby d2_4) rfl  k) ?_
  have hc2 : ¬ ((1 : Int32) = (0 : Int32)) := by decide
  refine own_go (B := T1.setTop (mkF m 27 #[.val (.ref a1), .val (.ref a2), .val (.int (0 : Int32)), .val (.int (1 : Int32)), .val .null, .unset] [])) (fun _ k => XS.ifYes X1.here hx rfl (pc0 := 5) (pc' := 27) rfl (hb hby d2_5) rfl ((if0 _ _).trans (feq hc2).2) (by decide) (by decide) k) ?_
  obtain ⟨T3, X3, e3, st3⟩ := getS2 X1 hx hZ hown (host := "") (Or.inl (own_w hw 15 rfl)) Via.refl e1 P_S_java_lang_String_COMPACT_STRINGS (g := (mkF m 27 #[.val (.ref a1), .val (.ref a2), .val (.int (0 : Int32)), .val (.int (1 : Int32)), .val .null, .unset] [])) rfl (hb hby d2_27)
  refine own_go (B := T3.setTop (mkF m 30 #[.val (.ref a1), .val (.ref a2), .val (.int (0 : Int32)), .val (.int (1 : Int32)), .val .null, .unset] [(.int cs)])) st3 ?_
  refine own_go (B := T3.setTop (mkF m 36 #[.val (.ref a1), .val (.ref a2), .val (.int (0 : Int32)), .val (.int (1 : Int32)), .val .null, .unset] [(.int (1 : Int32)), (.int (0 : Int32)), (.ref a2)])) (fun _ k => XS.ifNo X3.here hx rfl (hb hby d2_30) rfl ((if0 _ _).trans (feq hcs).1) (XS.aloadN X3.here hx rfl (hb hby d2_33) rfl rfl (XS.iloadN X3.here hx rfl (hb hby d2_34) rfl  (XS.iloadN X3.here hx rfl (hb hby d2_35) rfl  k)))) ?_
  obtain ⟨_, _, ⟨T4, L4, k4, n4⟩, -, X4, ⟨Lc4, hQ4, l4, y4, z4⟩, st4⟩ := Jvm.LawKit.callS X3 hx (y := (⟨"java/lang/StringUTF16", "compress", "([CII)[B"⟩ : MethodName)) hown (mvT hZ (own_w hw 16 rfl)) (mvT hZ (own_w hw 17 rfl)) (mvT hZ (own_w hw 18 rfl)) (mvT hZ (own_w hw 19 rfl)) (by decide) (backOf (W := 0) (own_cmpB1_0 l Z a0 hw [] a2 k2 c0 h0 n0 (Nat.le_trans Z0 K0.1) P_V_a2 P_S_java_lang_StringUTF16__assertionsDisabled P_S_java_lang_StringUTF16_HI_BYTE_SHIFT P_S_java_lang_StringUTF16_LO_BYTE_SHIFT hg hl hu) hZ (own_w hw 19 rfl) (own_w hw 18 rfl) (by decide) (by decide)) (g := (mkF m 36 #[.val (.ref a1), .val (.ref a2), .val (.int (0 : Int32)), .val (.int (1 : Int32)), .val .null, .unset] [(.int (1 : Int32)), (.int (0 : Int32)), (.ref a2)])) rfl (by rw [hml]; rfl) (argsL := [(.ref a2), (.int (0 : Int32)), (.int (1 : Int32))]) (rest := []) (lenOf own_pd4 rfl) rfl (by show 2 * 0 + _ ≤ _; exact Nat.le_of_eq rfl) (hb hby d2_36) (fun _ _ => ⟨rfl, e3, (by decide : 0 + 2 ≤ _), (by decide : 0 + 3 ≤ _)⟩)
  dsimp only [Pt.U, Pt.locs, Pt.cells, Pt.slots] at X4 l4 y4 z4 st4 hQ4
  subst l4 y4 z4
  obtain ⟨b_4, kb_4, u0_4, u1_4, rfl, N4q, K4q, Q4_0, x4_0⟩ := hQ4
  have N4 := Fr.app N0 N4q
  have ne_a1_b_4_5 : a1 ≠ b_4 := Nat.ne_of_lt (Nat.lt_of_lt_of_le P_E_a1.lt x4_0)
  have ne_a2_b_4_6 : a2 ≠ b_4 := Nat.ne_of_lt (Nat.lt_of_lt_of_le P_V_a2.lt x4_0)
  have sz_b_4 : h0.size ≤ b_4 := Nat.le_trans K0.1 x4_0
  have g_b_4 : n0 ≤ b_4 := Nat.le_trans Z0 sz_b_4
  have E_8 := P_E_a1.keep K4q
  have F_9 := P_F_a1_value.keep K4q nin0
  have F_10 := P_F_a1_coder.keep K4q nin0
  have V_11 := P_V_a2.keep K4q nin0
  have S_12 := own_Sta_keep P_S_java_lang_String_COMPACT_STRINGS K4q all0
  have S_13 := own_Sta_keep P_S_java_lang_StringUTF16__assertionsDisabled K4q all0
  have S_14 := own_Sta_keep P_S_java_lang_StringUTF16_HI_BYTE_SHIFT K4q all0
  have S_15 := own_Sta_keep P_S_java_lang_StringUTF16_LO_BYTE_SHIFT K4q all0
  have K16 : Keep h0 T4.heap [a1] := K0.trans K4q all0
  refine own_go (B := T4.setTop (mkF m 39 #[.val (.ref a1), .val (.ref a2), .val (.int (0 : Int32)), .val (.int (1 : Int32)), .val .null, .unset] [(.ref b_4)])) st4 ?_
  refine own_go (B := T4.setTop (mkF m 45 #[.val (.ref a1), .val (.ref a2), .val (.int (0 : Int32)), .val (.int (1 : Int32)), .val .null, .val (.ref b_4)] [(.int (1 : Int32)), (.ref b_4), (.ref a1)])) (fun _ k => XS.astore X4.here hx rfl (hb hby d2_39) rfl rfl (l' := #[.val (.ref a1), .val (.ref a2), .val (.int (0 : Int32)), .val (.int (1 : Int32)), .val .null, .val (.ref b_4)]) rfl (XS.aloadN X4.here hx rfl (hb hby d2_41) rfl rfl (XS.aload X4.here hx rfl (hb hby d2_42) rfl rfl (XS.iloadN X4.here hx rfl (hb hby d2_44) rfl  k)))) ?_
  obtain ⟨_, _, ⟨T17, L17, k17, n17⟩, -, X17, ⟨Lc17, hQ17, l17, y17, z17⟩, st17⟩ := Jvm.LawKit.callS X4 hx (y := (⟨"java/lang/StringUTF16", "coderFromArrayLen", "([BI)B"⟩ : MethodName)) hown (mvT hZ (own_w hw 24 rfl)) (mvT hZ (own_w hw 25 rfl)) (mvT hZ (own_w hw 18 rfl)) (mvT hZ (own_w hw 26 rfl)) (by decide) (backOf (W := 1) (own_cod16_1 l Z a0 hw [] b_4 kb_4 u0_4 u1_4 T4.heap n0 (Nat.le_trans Z0 K16.1) Q4_0) hZ (own_w hw 26 rfl) (own_w hw 18 rfl) (by decide) (by decide)) (g := (mkF m 45 #[.val (.ref a1), .val (.ref a2), .val (.int (0 : Int32)), .val (.int (1 : Int32)), .val .null, .val (.ref b_4)] [(.int (1 : Int32)), (.ref b_4), (.ref a1)])) rfl (by rw [hml]; rfl) (argsL := [(.ref b_4), (.int (1 : Int32))]) (rest := [(.ref a1)]) (lenOf own_pd5 rfl) rfl (by show 2 * 0 + _ ≤ _; exact Nat.le_of_eq rfl) (hb hby d2_45) (fun _ _ => ⟨rfl, rfl, (by decide : 2 + 0 ≤ _), (by decide : 3 + 0 ≤ _)⟩)
  dsimp only [Pt.U, Pt.locs, Pt.cells, Pt.slots] at X17 l17 y17 z17 st17 hQ17
  subst l17 y17 z17
  obtain ⟨rfl, N17q, e17⟩ := hQ17
  have N17 := Fr.app N4 N17q
  refine own_go (B := T17.setTop (mkF m 48 #[.val (.ref a1), .val (.ref a2), .val (.int (0 : Int32)), .val (.int (1 : Int32)), .val .null, .val (.ref b_4)] [(.int (1 : Int32)), (.ref a1)])) st17 ?_
  obtain ⟨T18, h18, X18, e18, W18, st18⟩ := putFN X17 hx hZ hown (own_w hw 27 rfl) Via.refl e17 F_10 E_8 (Or.inr ⟨(own_w hw 28 rfl), rfl, hnm⟩) (own_w hw 2 rfl) (ty := .byte) (v' := (.int (1 : Int32))) (by decide) rfl rfl (g := (mkF m 48 #[.val (.ref a1), .val (.ref a2), .val (.int (0 : Int32)), .val (.int (1 : Int32)), .val .null, .val (.ref b_4)] [(.int (1 : Int32)), (.ref a1)])) rfl rfl (hb hby d2_48)
  have F_w18 : Fld Z h18 a1 "java/lang/String" "coder" "B" (.int (1 : Int32)) := F_10.same W18
  have E_20 := E_8.wr W18
  have F_21 := F_9.other W18 (Or.inr (slot_ne (Or.inr (own_w hw 30 rfl)) (Or.inr (own_w hw 28 rfl)) (by decide) (t := (.array .byte)) (t' := .byte) (by decide) (by decide)))
  have V_23 := V_11.other W18 (Ne.symm ne_a1_a2)
  have S_24 := S_12.wr W18
  have S_25 := S_13.wr W18
  have S_26 := S_14.wr W18
  have S_27 := S_15.wr W18
  have V_28 := Q4_0.other W18 (Ne.symm ne_a1_b_4_5)
  have K29 : Keep h0 h18 [a1] := K16.wr W18 (Or.inl (List.mem_of_getElem? (i := 0) rfl))
  have N18 := Fr.snoc X18 N17 g_a1
  refine own_go (B := T18.setTop (mkF m 51 #[.val (.ref a1), .val (.ref a2), .val (.int (0 : Int32)), .val (.int (1 : Int32)), .val .null, .val (.ref b_4)] [])) st18 ?_
  refine own_go (B := T18.setTop (mkF m 54 #[.val (.ref a1), .val (.ref a2), .val (.int (0 : Int32)), .val (.int (1 : Int32)), .val .null, .val (.ref b_4)] [(.ref b_4), (.ref a1)])) (fun _ k => XS.aloadN X18.here hx rfl (hb hby d2_51) rfl rfl (XS.aload X18.here hx rfl (hb hby d2_52) rfl rfl k)) ?_
  obtain ⟨T30, h30, X30, e30, W30, st30⟩ := putF X18 hx hZ hown (host := "") (Or.inl (own_w hw 29 rfl)) Via.refl e18 F_21 E_20 (Or.inr ⟨(own_w hw 30 rfl), rfl, hnm⟩) (own_w hw 2 rfl) (ty := (.array .byte)) (by decide) rfl rfl (g := (mkF m 54 #[.val (.ref a1), .val (.ref a2), .val (.int (0 : Int32)), .val (.int (1 : Int32)), .val .null, .val (.ref b_4)] [(.ref b_4), (.ref a1)])) rfl rfl (hb hby d2_54)
  have F_w30 : Fld Z h30 a1 "java/lang/String" "value" "[B" (.ref b_4) := F_21.same W30
  have E_32 := E_20.wr W30
  have V_34 := V_23.other W30 (Ne.symm ne_a1_a2)
  have S_35 := S_24.wr W30
  have S_36 := S_25.wr W30
  have S_37 := S_26.wr W30
  have S_38 := S_27.wr W30
  have V_39 := V_28.other W30 (Ne.symm ne_a1_b_4_5)
  have F_40 := F_w18.other W30 (Or.inr (slot_ne (Or.inr (own_w hw 28 rfl)) (Or.inr (own_w hw 30 rfl)) (by decide) (t := .byte) (t' := (.array .byte)) (by decide) (by decide)))
  have K41 : Keep h0 h30 [a1] := K29.wr W30 (Or.inl (List.mem_of_getElem? (i := 0) rfl))
  have N30 := Fr.snoc X30 N18 g_a1
  refine own_go (B := T30.setTop (mkF m 57 #[.val (.ref a1), .val (.ref a2), .val (.int (0 : Int32)), .val (.int (1 : Int32)), .val .null, .val (.ref b_4)] [])) st30 ?_
  exact own_retV X30 hx Bd.notSynchronized Bd.returns (hb hby d2_57) e30 ⟨b_4, kb_4, u0_4, u1_4, rfl, N30, K41, E_32, F_w30, F_40, V_39, x4_0⟩ (by decide) (by decide)
abbrev R_own_strA1 : Room := { frames := 5, cells := 2, slots := 3, locals := 74 }
theorem ef_own_strA1 (m : MethodId) (x0 : Addr) (x1 : Addr) : entryFrame m #[(.ref x0), (.ref x1)] 2 = mkF m 0 #[.val (.ref x0), .val (.ref x1)] [] := by first | (simp [entryFrame, mkF, argsToLocals, Value.category]; done) | rfl
def Q_own_strA1 (Z : State) (a1 : Addr) (a2 : Addr) (k2 : ClassId) (c0 : Int32) (cs : Int32) (h0 : Heap) (n0 : Nat) (v : Option Value) (h : Heap) (L : List Loc) : Prop := ∃ t : Addr, ∃ cd : Int32, v = none ∧ Fr n0 L ∧ Keep h0 h [a1] ∧ Exa Z h a1 "java/lang/String" ∧ Fld Z h a1 "java/lang/String" "value" "[B" (.ref t) ∧ Fld Z h a1 "java/lang/String" "coder" "B" (.int cd) ∧ own_Sz Z h t cd 1 ∧ (h0.size ≤ t)
set_option maxRecDepth 65536 in
set_option maxHeartbeats 400000000 in
theorem own_strA1 (l : Launch) (Z : State) (a0 : Array Value) (hw : ∀ d ∈ tables_1, d.before a0 Z = true) (ws : List Jvm.Cond) (a1 : Addr) (a2 : Addr) (k2 : ClassId) (c0 : Int32) (cs : Int32) (h0 : Heap) (n0 : Nat) (Z0 : n0 ≤ h0.size) (P_E_a1 : Exa Z h0 a1 "java/lang/String") (P_F_a1_value : Fld Z h0 a1 "java/lang/String" "value" "[B" .null) (P_F_a1_coder : Fld Z h0 a1 "java/lang/String" "coder" "B" (.int (0 : Int32))) (P_V_a2 : Arv Z h0 a2 k2 .char (1 : Int32) [(.int c0)] (.int (0 : Int32))) (g_a1 : n0 ≤ a1) (ne_a1_a2 : a1 ≠ a2) (P_S_java_lang_String_COMPACT_STRINGS : Sta Z h0 "java/lang/String" "COMPACT_STRINGS" "Z" (.int cs)) (hcs : ¬ (cs = (0 : Int32))) (P_S_java_lang_StringUTF16__assertionsDisabled : Sta Z h0 "java/lang/StringUTF16" "$assertionsDisabled" "Z" (.int (1 : Int32))) (P_S_java_lang_StringUTF16_HI_BYTE_SHIFT : Sta Z h0 "java/lang/StringUTF16" "HI_BYTE_SHIFT" "I" (.int (0 : Int32))) (P_S_java_lang_StringUTF16_LO_BYTE_SHIFT : Sta Z h0 "java/lang/StringUTF16" "LO_BYTE_SHIFT" "I" (.int (8 : Int32))) (hl0 : 0 ≤ c0.toInt) (hu0 : c0.toInt ≤ 65535) :
    MetFree l (⟨"java/lang/String", "<init>", "([C)V"⟩ : MethodName) (head1 (Jvm.Cond.code (⟨"java/lang/String", "<init>", "([C)V"⟩ : MethodName) jdk_42_method_3_code 2 none :: ws) R_own_strA1) (fun a U => a = #[(.ref a1), (.ref a2)] ∧ Z.Warmed39 U.vm ∧ U.heap = h0) (fun _ _ _ _ _ => True) (fun _ U o U' => ∃ v L, o = .returned v ∧ Q_own_strA1 Z a1 a2 k2 c0 cs h0 n0 v U'.heap L ∧ FrameEnd U o U' L R_own_strA1.cells R_own_strA1.slots) := by
  refine MetFree.of_bodySF (plainFor_of_name own_pn1) hisR ?_
  intro p e s m args below meth c s₁ Bd hml0 hP hK
  obtain ⟨rfl, hZ, hh⟩ := hP
  have hx := Bd.exec
  have hby := Bd.bytes
  have hml : c.maxLocals = 2 := hml0
  have hown : s.vm.findClass "java/lang/String" = some m.cls := findClass_of_methodNamed Bd.named
  have hnm := (name_of_methodNamed Bd.named Bd.method).1
  have X0 : Stand p l e R_own_strA1 s m #[(.ref a1), (.ref a2)] below meth c s₁ [] 0 0 := Stand.of_body Bd
  have e0 : s₁.heap = h0 := by rw [← hh, Bd.state]; rfl
  have N0 := Fr.nil n0
  have K0 : Keep h0 h0 [a1] := Keep.refl h0 [a1]
  show own_Fin p e below s (Q_own_strA1 Z a1 a2 k2 c0 cs h0 n0) R_own_strA1.cells R_own_strA1.slots (s₁.setTop (entryFrame m #[(.ref a1), (.ref a2)] 2))
  refine own_go (fun _ k => castTop (ef_own_strA1 m a1 a2) k) ?_
  show own_Fin _ _ _ _ _ _ _ (s₁.setTop (mkF m 0 #[.val (.ref a1), .val (.ref a2)] []))
  refine own_go (B := s₁.setTop (mkF m 4 #[.val (.ref a1), .val (.ref a2)] [(.ref a2), (.int (0 : Int32)), (.ref a2), (.ref a1)])) (fun _ k => XS.aloadN X0.here hx rfl (hb hby d1_0) rfl rfl (XS.aloadN X0.here hx rfl (hb hby d1_1) rfl rfl (XS.iconst X0.here hx rfl (hb hby d1_2) (XS.aloadN X0.here hx rfl (hb hby d1_3) rfl rfl k)))) ?_
  obtain ⟨cl1, Ar1, q1, S1, N1n, H1, G1⟩ := id P_V_a2
  refine own_go (fun _ k => X0.arraylength hx (own_hc e0 Ar1.1) (State.isArrayOf_alike hZ.alike Ar1.2.1) (g := (mkF m 4 #[.val (.ref a1), .val (.ref a2)] [(.ref a2), (.int (0 : Int32)), (.ref a2), (.ref a1)])) rfl rfl (hb hby d1_4) _ k) ?_
  rw [len_of S1 N1n]
  show own_Fin _ _ _ _ _ _ _ (s₁.setTop (mkF m 5 #[.val (.ref a1), .val (.ref a2)] [(.int (1 : Int32)), (.int (0 : Int32)), (.ref a2), (.ref a1)]))
  refine own_go (B := s₁.setTop (mkF m 6 #[.val (.ref a1), .val (.ref a2)] [.null, (.int (1 : Int32)), (.int (0 : Int32)), (.ref a2), (.ref a1)])) (fun _ k => XS.aconstNull X0.here hx rfl (hb hby d1_5) k) ?_
  by_cases hc2 : c0.toInt ≤ 255
  · skip
    obtain ⟨_, _, ⟨T3, L3, k3, n3⟩, -, X3, ⟨Lc3, hQ3, l3, y3, z3⟩, st3⟩ := X0.specialBack hx (y := (⟨"java/lang/String", "<init>", "([CIILjava/lang/Void;)V"⟩ : MethodName)) rfl hown (mvT hZ (own_w hw 8 rfl)) (mvT hZ (own_w hw 9 rfl)) (mvT hZ (own_w hw 11 rfl)) (by decide) (backOf (W := 0) (own_str4_1 l Z a0 hw [] a1 a2 k2 c0 cs h0 n0 (Nat.le_trans Z0 K0.1) P_E_a1 P_F_a1_value P_F_a1_coder P_V_a2 g_a1 ne_a1_a2 P_S_java_lang_String_COMPACT_STRINGS hcs hc2) hZ (own_w hw 11 rfl) (own_w hw 3 rfl) (by decide) (by decide)) (g := (mkF m 6 #[.val (.ref a1), .val (.ref a2)] [.null, (.int (1 : Int32)), (.int (0 : Int32)), (.ref a2), (.ref a1)])) rfl (by rw [hml]; rfl) (Steps.refl _) (a := a1) (argsL := [(.ref a2), (.int (0 : Int32)), (.int (1 : Int32)), .null]) (rest := []) (lenOf own_pd6 rfl) rfl (by show 2 * 0 + _ ≤ _; exact Nat.le_of_eq rfl) (hb hby d1_6) (fun _ _ => ⟨rfl, e0, (by decide : 0 + 1 ≤ _), (by decide : 0 + 1 ≤ _)⟩)
    dsimp only [Pt.U, Pt.locs, Pt.cells, Pt.slots] at X3 l3 y3 z3 st3 hQ3
    subst l3 y3 z3
    obtain ⟨t_3, kt_3, rfl, N3q, K3q, Q3_0, Q3_1, Q3_2, Q3_3, x3_0⟩ := hQ3
    have N3 := Fr.app N0 N3q
    have ne_a1_t_3_4 : a1 ≠ t_3 := Nat.ne_of_lt (Nat.lt_of_lt_of_le P_E_a1.lt x3_0)
    have ne_a2_t_3_5 : a2 ≠ t_3 := Nat.ne_of_lt (Nat.lt_of_lt_of_le P_V_a2.lt x3_0)
    have sz_t_3 : h0.size ≤ t_3 := Nat.le_trans K0.1 x3_0
    have g_t_3 : n0 ≤ t_3 := Nat.le_trans Z0 sz_t_3
    have V_10 := P_V_a2.keep K3q (ninS (Ne.symm ne_a1_a2) nin0)
    have S_11 := own_Sta_keep P_S_java_lang_String_COMPACT_STRINGS K3q (allS (own_plain P_E_a1) all0)
    have S_12 := own_Sta_keep P_S_java_lang_StringUTF16__assertionsDisabled K3q (allS (own_plain P_E_a1) all0)
    have S_13 := own_Sta_keep P_S_java_lang_StringUTF16_HI_BYTE_SHIFT K3q (allS (own_plain P_E_a1) all0)
    have S_14 := own_Sta_keep P_S_java_lang_StringUTF16_LO_BYTE_SHIFT K3q (allS (own_plain P_E_a1) all0)
    have K15 : Keep h0 T3.heap [a1] := K0.trans K3q (allS (Or.inl (List.mem_of_getElem? (i := 0) rfl)) all0)
    refine own_go (B := T3.setTop (mkF m 9 #[.val (.ref a1), .val (.ref a2)] [])) (fun _ k => st3.trans k) ?_
    exact own_retV X3 hx Bd.notSynchronized Bd.returns (hb hby d1_9) rfl ⟨t_3, (0 : Int32), rfl, N3, K15, Q3_0, Q3_1, Q3_2, (own_Sz0 Q3_3 rfl), x3_0⟩ (by decide) (by decide)
  · skip
    obtain ⟨_, _, ⟨T16, L16, k16, n16⟩, -, X16, ⟨Lc16, hQ16, l16, y16, z16⟩, st16⟩ := X0.specialBack hx (y := (⟨"java/lang/String", "<init>", "([CIILjava/lang/Void;)V"⟩ : MethodName)) rfl hown (mvT hZ (own_w hw 8 rfl)) (mvT hZ (own_w hw 9 rfl)) (mvT hZ (own_w hw 11 rfl)) (by decide) (backOf (W := 0) (own_str4_1_0 l Z a0 hw [] a1 a2 k2 c0 cs h0 n0 (Nat.le_trans Z0 K0.1) P_E_a1 P_F_a1_value P_F_a1_coder P_V_a2 g_a1 ne_a1_a2 P_S_java_lang_String_COMPACT_STRINGS hcs P_S_java_lang_StringUTF16__assertionsDisabled P_S_java_lang_StringUTF16_HI_BYTE_SHIFT P_S_java_lang_StringUTF16_LO_BYTE_SHIFT hc2 hl0 hu0) hZ (own_w hw 11 rfl) (own_w hw 3 rfl) (by decide) (by decide)) (g := (mkF m 6 #[.val (.ref a1), .val (.ref a2)] [.null, (.int (1 : Int32)), (.int (0 : Int32)), (.ref a2), (.ref a1)])) rfl (by rw [hml]; rfl) (Steps.refl _) (a := a1) (argsL := [(.ref a2), (.int (0 : Int32)), (.int (1 : Int32)), .null]) (rest := []) (lenOf own_pd6 rfl) rfl (by show 2 * 0 + _ ≤ _; exact Nat.le_of_eq rfl) (hb hby d1_6) (fun _ _ => ⟨rfl, e0, (by decide : 0 + 2 ≤ _), (by decide : 0 + 3 ≤ _)⟩)
    dsimp only [Pt.U, Pt.locs, Pt.cells, Pt.slots] at X16 l16 y16 z16 st16 hQ16
    subst l16 y16 z16
    obtain ⟨t_16, kt_16, u0_16, u1_16, rfl, N16q, K16q, Q16_0, Q16_1, Q16_2, Q16_3, x16_0⟩ := hQ16
    have N16 := Fr.app N0 N16q
    have ne_a1_t_16_17 : a1 ≠ t_16 := Nat.ne_of_lt (Nat.lt_of_lt_of_le P_E_a1.lt x16_0)
    have ne_a2_t_16_18 : a2 ≠ t_16 := Nat.ne_of_lt (Nat.lt_of_lt_of_le P_V_a2.lt x16_0)
    have sz_t_16 : h0.size ≤ t_16 := Nat.le_trans K0.1 x16_0
    have g_t_16 : n0 ≤ t_16 := Nat.le_trans Z0 sz_t_16
    have V_23 := P_V_a2.keep K16q (ninS (Ne.symm ne_a1_a2) nin0)
    have S_24 := own_Sta_keep P_S_java_lang_String_COMPACT_STRINGS K16q (allS (own_plain P_E_a1) all0)
    have S_25 := own_Sta_keep P_S_java_lang_StringUTF16__assertionsDisabled K16q (allS (own_plain P_E_a1) all0)
    have S_26 := own_Sta_keep P_S_java_lang_StringUTF16_HI_BYTE_SHIFT K16q (allS (own_plain P_E_a1) all0)
    have S_27 := own_Sta_keep P_S_java_lang_StringUTF16_LO_BYTE_SHIFT K16q (allS (own_plain P_E_a1) all0)
    have K28 : Keep h0 T16.heap [a1] := K0.trans K16q (allS (Or.inl (List.mem_of_getElem? (i := 0) rfl)) all0)
    refine own_go (B := T16.setTop (mkF m 9 #[.val (.ref a1), .val (.ref a2)] [])) (fun _ k => st16.trans k) ?_
    exact own_retV X16 hx Bd.notSynchronized Bd.returns (hb hby d1_9) rfl ⟨t_16, (1 : Int32), rfl, N16, K28, Q16_0, Q16_1, Q16_2, (own_Sz1 Q16_3 rfl), x16_0⟩ (by decide) (by decide)
abbrev R_own_coderA : Room := { frames := 0, cells := 0, slots := 0, locals := 0 }
theorem d10_0 : decode jdk_42_method_152_code 0 = .ok (.getstatic 38, 3) := by decide +kernel
theorem d10_3 : decode jdk_42_method_152_code 3 = .ok (.ifCond .eq 10, 3) := by decide +kernel
theorem d10_6 : decode jdk_42_method_152_code 6 = .ok (.aload_n 0, 1) := by decide +kernel
theorem d10_7 : decode jdk_42_method_152_code 7 = .ok (.getfield 15, 3) := by decide +kernel
theorem d10_10 : decode jdk_42_method_152_code 10 = .ok (.goto 4, 3) := by decide +kernel
theorem d10_14 : decode jdk_42_method_152_code 14 = .ok (.ireturn, 1) := by decide +kernel
theorem ef_own_coderA (m : MethodId) (x0 : Addr) : entryFrame m #[(.ref x0)] 1 = mkF m 0 #[.val (.ref x0)] [] := by first | (simp [entryFrame, mkF, argsToLocals, Value.category]; done) | rfl
def Q_own_coderA (Z : State) (a1 : Addr) (cd : Int32) (cs : Int32) (h0 : Heap) (n0 : Nat) (v : Option Value) (h : Heap) (L : List Loc) : Prop := v = some (.int cd) ∧ Fr n0 L ∧ h = h0
set_option maxRecDepth 65536 in
set_option maxHeartbeats 400000000 in
theorem own_coderA (l : Launch) (Z : State) (a0 : Array Value) (hw : ∀ d ∈ tables_1, d.before a0 Z = true) (ws : List Jvm.Cond) (a1 : Addr) (cd : Int32) (cs : Int32) (h0 : Heap) (n0 : Nat) (Z0 : n0 ≤ h0.size) (P_F_a1_coder : Fld Z h0 a1 "java/lang/String" "coder" "B" (.int cd)) (P_S_java_lang_String_COMPACT_STRINGS : Sta Z h0 "java/lang/String" "COMPACT_STRINGS" "Z" (.int cs)) (hcs : ¬ (cs = (0 : Int32))) (h01 : cd = (0 : Int32) ∨ cd = (1 : Int32)) :
    MetFree l (⟨"java/lang/String", "coder", "()B"⟩ : MethodName) (head1 (Jvm.Cond.code (⟨"java/lang/String", "coder", "()B"⟩ : MethodName) jdk_42_method_152_code 1 (some .byte) :: ws) R_own_coderA) (fun a U => a = #[(.ref a1)] ∧ Z.Warmed39 U.vm ∧ U.heap = h0) (fun _ _ _ _ _ => True) (fun _ U o U' => ∃ v L, o = .returned v ∧ Q_own_coderA Z a1 cd cs h0 n0 v U'.heap L ∧ FrameEnd U o U' L R_own_coderA.cells R_own_coderA.slots) := by
  refine MetFree.of_bodySF (plainFor_of_name own_pn1) hisR ?_
  intro p e s m args below meth c s₁ Bd hml0 hP hK
  obtain ⟨rfl, hZ, hh⟩ := hP
  have hx := Bd.exec
  have hby := Bd.bytes
  have hml : c.maxLocals = 1 := hml0
  have hown : s.vm.findClass "java/lang/String" = some m.cls := findClass_of_methodNamed Bd.named
  have hnm := (name_of_methodNamed Bd.named Bd.method).1
  have X0 : Stand p l e R_own_coderA s m #[(.ref a1)] below meth c s₁ [] 0 0 := Stand.of_body Bd
  have e0 : s₁.heap = h0 := by rw [← hh, Bd.state]; rfl
  have N0 := Fr.nil n0
  have K0 : Keep h0 h0 [] := Keep.refl h0 []
  show own_Fin p e below s (Q_own_coderA Z a1 cd cs h0 n0) R_own_coderA.cells R_own_coderA.slots (s₁.setTop (entryFrame m #[(.ref a1)] 1))
  refine own_go (fun _ k => castTop (ef_own_coderA m a1) k) ?_
  show own_Fin _ _ _ _ _ _ _ (s₁.setTop (mkF m 0 #[.val (.ref a1)] []))
  obtain ⟨T1, X1, e1, st1⟩ := getS2 X0 hx hZ hown (host := "") (Or.inl (own_w hw 15 rfl)) Via.refl e0 P_S_java_lang_String_COMPACT_STRINGS (g := (mkF m 0 #[.val (.ref a1)] [])) rfl (hb hby d10_0)
  refine own_go (B := T1.setTop (mkF m 3 #[.val (.ref a1)] [(.int cs)])) st1 ?_
  refine own_go (B := T1.setTop (mkF m 7 #[.val (.ref a1)] [(.ref a1)])) (fun _ k => XS.ifNo X1.here hx rfl (hb hby d10_3) rfl ((if0 _ _).trans (feq hcs).1) (XS.aloadN X1.here hx rfl (hb hby d10_6) rfl rfl k)) ?_
  obtain ⟨T2, X2, e2, st2⟩ := getF X1 hx hZ hown (host := "") (Or.inl (own_w hw 27 rfl)) Via.refl e1 P_F_a1_coder (g := (mkF m 7 #[.val (.ref a1)] [(.ref a1)])) rfl rfl (hb hby d10_7)
  refine own_go (B := T2.setTop (mkF m 10 #[.val (.ref a1)] [(.int cd)])) st2 ?_
  refine own_go (B := T2.setTop (mkF m 14 #[.val (.ref a1)] [(.int cd)])) (fun _ k => XS.goto X2.here hx rfl (pc0 := 10) (pc' := 14) rfl (hb hby d10_10) (by decide) (by decide) k) ?_
  exact own_retN X2 hx Bd.notSynchronized (t := .byte) (w := cd) Bd.returns (by simp) (hb hby d10_14) e2 (own_narcd h01) ⟨rfl, N0, rfl⟩ (by decide) (by decide)
abbrev R_own_lenA1 : Room := { frames := 1, cells := 0, slots := 0, locals := 13 }
theorem d9_0 : decode jdk_42_method_54_code 0 = .ok (.aload_n 0, 1) := by decide +kernel
theorem d9_1 : decode jdk_42_method_54_code 1 = .ok (.getfield 9, 3) := by decide +kernel
theorem d9_4 : decode jdk_42_method_54_code 4 = .ok (.arraylength, 1) := by decide +kernel
theorem d9_5 : decode jdk_42_method_54_code 5 = .ok (.aload_n 0, 1) := by decide +kernel
theorem d9_6 : decode jdk_42_method_54_code 6 = .ok (.invokevirtual 335, 3) := by decide +kernel
theorem d9_9 : decode jdk_42_method_54_code 9 = .ok (.ishr, 1) := by decide +kernel
theorem d9_10 : decode jdk_42_method_54_code 10 = .ok (.ireturn, 1) := by decide +kernel
theorem ef_own_lenA1 (m : MethodId) (x0 : Addr) : entryFrame m #[(.ref x0)] 1 = mkF m 0 #[.val (.ref x0)] [] := by first | (simp [entryFrame, mkF, argsToLocals, Value.category]; done) | rfl
set_option maxRecDepth 65536 in
set_option maxHeartbeats 4000000 in
theorem own_pl_lenA1_1 (cd : Int32) (cs : Int32) (hcs : ¬ (cs = (0 : Int32))) (hcd2 : cd = (0 : Int32)) : cd = (0 : Int32) ∨ cd = (1 : Int32) := by
  subst_vars
  decide
set_option maxRecDepth 65536 in
set_option maxHeartbeats 4000000 in
theorem own_pl_lenA1_2 (cd : Int32) (cs : Int32) (hcs : ¬ (cs = (0 : Int32))) (hcd2 : cd = (0 : Int32)) : ((1 : Int32) >>> (cd &&& 31)) = (1 : Int32) := by
  subst_vars
  decide
set_option maxRecDepth 65536 in
set_option maxHeartbeats 4000000 in
theorem own_pl_lenA1_3 (cd : Int32) (cs : Int32) (hcs : ¬ (cs = (0 : Int32))) (hcd2 : cd = (1 : Int32)) : cd = (0 : Int32) ∨ cd = (1 : Int32) := by
  subst_vars
  decide
set_option maxRecDepth 65536 in
set_option maxHeartbeats 4000000 in
theorem own_pl_lenA1_4 (cd : Int32) (cs : Int32) (hcs : ¬ (cs = (0 : Int32))) (hcd2 : cd = (1 : Int32)) : ((2 : Int32) >>> (cd &&& 31)) = (1 : Int32) := by
  subst_vars
  decide
def Q_own_lenA1 (Z : State) (a1 : Addr) (t : Addr) (cd : Int32) (cs : Int32) (h0 : Heap) (n0 : Nat) (v : Option Value) (h : Heap) (L : List Loc) : Prop := v = some (.int (1 : Int32)) ∧ Fr n0 L ∧ h = h0
set_option maxRecDepth 65536 in
set_option maxHeartbeats 400000000 in
theorem own_lenA1 (l : Launch) (Z : State) (a0 : Array Value) (hw : ∀ d ∈ tables_1, d.before a0 Z = true) (ws : List Jvm.Cond) (a1 : Addr) (t : Addr) (cd : Int32) (cs : Int32) (h0 : Heap) (n0 : Nat) (Z0 : n0 ≤ h0.size) (P_E_a1 : Exa Z h0 a1 "java/lang/String") (P_F_a1_value : Fld Z h0 a1 "java/lang/String" "value" "[B" (.ref t)) (P_F_a1_coder : Fld Z h0 a1 "java/lang/String" "coder" "B" (.int cd)) (P_G_t_sz : own_Sz Z h0 t cd 1) (P_S_java_lang_String_COMPACT_STRINGS : Sta Z h0 "java/lang/String" "COMPACT_STRINGS" "Z" (.int cs)) (hcs : ¬ (cs = (0 : Int32))) :
    MetFree l (⟨"java/lang/String", "length", "()I"⟩ : MethodName) (head1 (Jvm.Cond.code (⟨"java/lang/String", "length", "()I"⟩ : MethodName) jdk_42_method_54_code 1 (some .int) :: ws) R_own_lenA1) (fun a U => a = #[(.ref a1)] ∧ Z.Warmed39 U.vm ∧ U.heap = h0) (fun _ _ _ _ _ => True) (fun _ U o U' => ∃ v L, o = .returned v ∧ Q_own_lenA1 Z a1 t cd cs h0 n0 v U'.heap L ∧ FrameEnd U o U' L R_own_lenA1.cells R_own_lenA1.slots) := by
  refine MetFree.of_bodySF (plainFor_of_name own_pn1) hisR ?_
  intro p e s m args below meth c s₁ Bd hml0 hP hK
  obtain ⟨rfl, hZ, hh⟩ := hP
  have hx := Bd.exec
  have hby := Bd.bytes
  have hml : c.maxLocals = 1 := hml0
  have hown : s.vm.findClass "java/lang/String" = some m.cls := findClass_of_methodNamed Bd.named
  have hnm := (name_of_methodNamed Bd.named Bd.method).1
  have X0 : Stand p l e R_own_lenA1 s m #[(.ref a1)] below meth c s₁ [] 0 0 := Stand.of_body Bd
  have e0 : s₁.heap = h0 := by rw [← hh, Bd.state]; rfl
  have N0 := Fr.nil n0
  have K0 : Keep h0 h0 [] := Keep.refl h0 []
  show own_Fin p e below s (Q_own_lenA1 Z a1 t cd cs h0 n0) R_own_lenA1.cells R_own_lenA1.slots (s₁.setTop (entryFrame m #[(.ref a1)] 1))
  refine own_go (fun _ k => castTop (ef_own_lenA1 m a1) k) ?_
  show own_Fin _ _ _ _ _ _ _ (s₁.setTop (mkF m 0 #[.val (.ref a1)] []))
  refine own_go (B := s₁.setTop (mkF m 1 #[.val (.ref a1)] [(.ref a1)])) (fun _ k => XS.aloadN X0.here hx rfl (hb hby d9_0) rfl rfl k) ?_
  obtain ⟨T1, X1, e1, st1⟩ := getF X0 hx hZ hown (host := "") (Or.inl (own_w hw 29 rfl)) Via.refl e0 P_F_a1_value (g := (mkF m 1 #[.val (.ref a1)] [(.ref a1)])) rfl rfl (hb hby d9_1)
  refine own_go (B := T1.setTop (mkF m 4 #[.val (.ref a1)] [(.ref t)])) st1 ?_
  obtain ⟨cl2, Ar2, hsz2⟩ := id P_G_t_sz
  rcases hsz2 with ⟨hcd2, hs2⟩ | ⟨hcd2, hs2⟩
  · skip
    refine own_go (fun _ k => X1.arraylength hx (own_hc e1 Ar2.1) (State.isArrayOf_alike hZ.alike Ar2.2.1) (g := (mkF m 4 #[.val (.ref a1)] [(.ref t)])) rfl rfl (hb hby d9_4) _ k) ?_
    rw [show cl2.slots.size.toInt32 = (1 : Int32) from by rw [hs2]; rfl]
    show own_Fin _ _ _ _ _ _ _ (T1.setTop (mkF m 5 #[.val (.ref a1)] [(.int (1 : Int32))]))
    refine own_go (B := T1.setTop (mkF m 6 #[.val (.ref a1)] [(.ref a1), (.int (1 : Int32))])) (fun _ k => XS.aloadN X1.here hx rfl (hb hby d9_5) rfl rfl k) ?_
    obtain ⟨cq3, kq3, q3a, q3b, q3c⟩ := isOf hZ e1 P_E_a1
    obtain ⟨_, _, ⟨T3, L3, k3, n3⟩, -, X3, ⟨Lc3, hQ3, l3, y3, z3⟩, st3⟩ := X1.virtualBack hx (y := (⟨"java/lang/String", "coder", "()B"⟩ : MethodName)) (z := (⟨"java/lang/String", "coder", "()B"⟩ : MethodName)) hown (mvT hZ (own_w hw 49 rfl)) (mvT hZ (own_w hw 50 rfl)) (notFace_of_selects (args := #[]) (mvT hZ (own_w hw 52 rfl))) (mvT hZ (own_w hw 52 rfl)) (mvT hZ (own_w hw 51 rfl)) (by decide) (backOf (W := 1) (own_coderA l Z a0 hw [] a1 cd cs h0 n0 (Nat.le_trans Z0 K0.1) P_F_a1_coder P_S_java_lang_String_COMPACT_STRINGS hcs (own_pl_lenA1_1 cd cs hcs hcd2)) hZ (own_w hw 53 rfl) (own_w hw 3 rfl) (by decide) (by decide)) q3a q3c (g := (mkF m 6 #[.val (.ref a1)] [(.ref a1), (.int (1 : Int32))])) rfl (by rw [hml]; rfl) (Steps.refl _) (argsL := []) (rest := [(.int (1 : Int32))]) (lenOf own_pd8 rfl) rfl (by show 2 * 0 + _ ≤ _; exact Nat.le_of_eq rfl) (hb hby d9_6) (fun _ _ => ⟨rfl, e1, (by decide : 0 + 0 ≤ _), (by decide : 0 + 0 ≤ _)⟩)
    dsimp only [Pt.U, Pt.locs, Pt.cells, Pt.slots] at X3 l3 y3 z3 st3 hQ3
    subst l3 y3 z3
    obtain ⟨rfl, N3q, e3⟩ := hQ3
    have N3 := Fr.app N0 N3q
    refine own_go (B := T3.setTop (mkF m 10 #[.val (.ref a1)] [(.int ((1 : Int32) >>> (cd &&& 31)))])) (fun _ k => st3.trans (XS.ishr X3.here hx rfl (hb hby d9_9) rfl k)) ?_
    exact own_retI X3 hx Bd.notSynchronized Bd.returns (hb hby d9_10) e3 ⟨(by rw [(own_pl_lenA1_2 cd cs hcs hcd2)]), N3, rfl⟩ (by decide) (by decide)
  · skip
    refine own_go (fun _ k => X1.arraylength hx (own_hc e1 Ar2.1) (State.isArrayOf_alike hZ.alike Ar2.2.1) (g := (mkF m 4 #[.val (.ref a1)] [(.ref t)])) rfl rfl (hb hby d9_4) _ k) ?_
    rw [show cl2.slots.size.toInt32 = (2 : Int32) from by rw [hs2]; rfl]
    show own_Fin _ _ _ _ _ _ _ (T1.setTop (mkF m 5 #[.val (.ref a1)] [(.int (2 : Int32))]))
    refine own_go (B := T1.setTop (mkF m 6 #[.val (.ref a1)] [(.ref a1), (.int (2 : Int32))])) (fun _ k => XS.aloadN X1.here hx rfl (hb hby d9_5) rfl rfl k) ?_
    obtain ⟨cq4, kq4, q4a, q4b, q4c⟩ := isOf hZ e1 P_E_a1
    obtain ⟨_, _, ⟨T4, L4, k4, n4⟩, -, X4, ⟨Lc4, hQ4, l4, y4, z4⟩, st4⟩ := X1.virtualBack hx (y := (⟨"java/lang/String", "coder", "()B"⟩ : MethodName)) (z := (⟨"java/lang/String", "coder", "()B"⟩ : MethodName)) hown (mvT hZ (own_w hw 49 rfl)) (mvT hZ (own_w hw 50 rfl)) (notFace_of_selects (args := #[]) (mvT hZ (own_w hw 52 rfl))) (mvT hZ (own_w hw 52 rfl)) (mvT hZ (own_w hw 51 rfl)) (by decide) (backOf (W := 1) (own_coderA l Z a0 hw [] a1 cd cs h0 n0 (Nat.le_trans Z0 K0.1) P_F_a1_coder P_S_java_lang_String_COMPACT_STRINGS hcs (own_pl_lenA1_3 cd cs hcs hcd2)) hZ (own_w hw 53 rfl) (own_w hw 3 rfl) (by decide) (by decide)) q4a q4c (g := (mkF m 6 #[.val (.ref a1)] [(.ref a1), (.int (2 : Int32))])) rfl (by rw [hml]; rfl) (Steps.refl _) (argsL := []) (rest := [(.int (2 : Int32))]) (lenOf own_pd8 rfl) rfl (by show 2 * 0 + _ ≤ _; exact Nat.le_of_eq rfl) (hb hby d9_6) (fun _ _ => ⟨rfl, e1, (by decide : 0 + 0 ≤ _), (by decide : 0 + 0 ≤ _)⟩)
    dsimp only [Pt.U, Pt.locs, Pt.cells, Pt.slots] at X4 l4 y4 z4 st4 hQ4
    subst l4 y4 z4
    obtain ⟨rfl, N4q, e4⟩ := hQ4
    have N4 := Fr.app N0 N4q
    refine own_go (B := T4.setTop (mkF m 10 #[.val (.ref a1)] [(.int ((2 : Int32) >>> (cd &&& 31)))])) (fun _ k => st4.trans (XS.ishr X4.here hx rfl (hb hby d9_9) rfl k)) ?_
    exact own_retI X4 hx Bd.notSynchronized Bd.returns (hb hby d9_10) e4 ⟨(by rw [(own_pl_lenA1_4 cd cs hcs hcd2)]), N4, rfl⟩ (by decide) (by decide)
abbrev R_own_empA1 : Room := { frames := 0, cells := 0, slots := 0, locals := 0 }
theorem d8_0 : decode jdk_42_method_55_code 0 = .ok (.aload_n 0, 1) := by decide +kernel
theorem d8_1 : decode jdk_42_method_55_code 1 = .ok (.getfield 9, 3) := by decide +kernel
theorem d8_4 : decode jdk_42_method_55_code 4 = .ok (.arraylength, 1) := by decide +kernel
theorem d8_5 : decode jdk_42_method_55_code 5 = .ok (.ifCond .ne 7, 3) := by decide +kernel
theorem d8_12 : decode jdk_42_method_55_code 12 = .ok (.iconst 0, 1) := by decide +kernel
theorem d8_13 : decode jdk_42_method_55_code 13 = .ok (.ireturn, 1) := by decide +kernel
theorem ef_own_empA1 (m : MethodId) (x0 : Addr) : entryFrame m #[(.ref x0)] 1 = mkF m 0 #[.val (.ref x0)] [] := by first | (simp [entryFrame, mkF, argsToLocals, Value.category]; done) | rfl
def Q_own_empA1 (Z : State) (a1 : Addr) (t : Addr) (cd : Int32) (h0 : Heap) (n0 : Nat) (v : Option Value) (h : Heap) (L : List Loc) : Prop := v = some (.int (0 : Int32)) ∧ Fr n0 L ∧ h = h0
set_option maxRecDepth 65536 in
set_option maxHeartbeats 400000000 in
theorem own_empA1 (l : Launch) (Z : State) (a0 : Array Value) (hw : ∀ d ∈ tables_1, d.before a0 Z = true) (ws : List Jvm.Cond) (a1 : Addr) (t : Addr) (cd : Int32) (h0 : Heap) (n0 : Nat) (Z0 : n0 ≤ h0.size) (P_F_a1_value : Fld Z h0 a1 "java/lang/String" "value" "[B" (.ref t)) (P_G_t_sz : own_Sz Z h0 t cd 1) :
    MetFree l (⟨"java/lang/String", "isEmpty", "()Z"⟩ : MethodName) (head1 (Jvm.Cond.code (⟨"java/lang/String", "isEmpty", "()Z"⟩ : MethodName) jdk_42_method_55_code 1 (some .boolean) :: ws) R_own_empA1) (fun a U => a = #[(.ref a1)] ∧ Z.Warmed39 U.vm ∧ U.heap = h0) (fun _ _ _ _ _ => True) (fun _ U o U' => ∃ v L, o = .returned v ∧ Q_own_empA1 Z a1 t cd h0 n0 v U'.heap L ∧ FrameEnd U o U' L R_own_empA1.cells R_own_empA1.slots) := by
  refine MetFree.of_bodySF (plainFor_of_name own_pn1) hisR ?_
  intro p e s m args below meth c s₁ Bd hml0 hP hK
  obtain ⟨rfl, hZ, hh⟩ := hP
  have hx := Bd.exec
  have hby := Bd.bytes
  have hml : c.maxLocals = 1 := hml0
  have hown : s.vm.findClass "java/lang/String" = some m.cls := findClass_of_methodNamed Bd.named
  have hnm := (name_of_methodNamed Bd.named Bd.method).1
  have X0 : Stand p l e R_own_empA1 s m #[(.ref a1)] below meth c s₁ [] 0 0 := Stand.of_body Bd
  have e0 : s₁.heap = h0 := by rw [← hh, Bd.state]; rfl
  have N0 := Fr.nil n0
  have K0 : Keep h0 h0 [] := Keep.refl h0 []
  show own_Fin p e below s (Q_own_empA1 Z a1 t cd h0 n0) R_own_empA1.cells R_own_empA1.slots (s₁.setTop (entryFrame m #[(.ref a1)] 1))
  refine own_go (fun _ k => castTop (ef_own_empA1 m a1) k) ?_
  show own_Fin _ _ _ _ _ _ _ (s₁.setTop (mkF m 0 #[.val (.ref a1)] []))
  refine own_go (B := s₁.setTop (mkF m 1 #[.val (.ref a1)] [(.ref a1)])) (fun _ k => XS.aloadN X0.here hx rfl (hb hby d8_0) rfl rfl k) ?_
  obtain ⟨T1, X1, e1, st1⟩ := getF X0 hx hZ hown (host := "") (Or.inl (own_w hw 29 rfl)) Via.refl e0 P_F_a1_value (g := (mkF m 1 #[.val (.ref a1)] [(.ref a1)])) rfl rfl (hb hby d8_1)
  refine own_go (B := T1.setTop (mkF m 4 #[.val (.ref a1)] [(.ref t)])) st1 ?_
  obtain ⟨cl2, Ar2, hsz2⟩ := id P_G_t_sz
  rcases hsz2 with ⟨hcd2, hs2⟩ | ⟨hcd2, hs2⟩
  · skip
    refine own_go (fun _ k => X1.arraylength hx (own_hc e1 Ar2.1) (State.isArrayOf_alike hZ.alike Ar2.2.1) (g := (mkF m 4 #[.val (.ref a1)] [(.ref t)])) rfl rfl (hb hby d8_4) _ k) ?_
    rw [show cl2.slots.size.toInt32 = (1 : Int32) from by rw [hs2]; rfl]
    show own_Fin _ _ _ _ _ _ _ (T1.setTop (mkF m 5 #[.val (.ref a1)] [(.int (1 : Int32))]))
    have hc3 : ¬ ((1 : Int32) = (0 : Int32)) := by decide
    refine own_go (B := T1.setTop (mkF m 13 #[.val (.ref a1)] [(.int (0 : Int32))])) (fun _ k => XS.ifYes X1.here hx rfl (pc0 := 5) (pc' := 12) rfl (hb hby d8_5) rfl ((if0 _ _).trans (feq hc3).2) (by decide) (by decide) (XS.iconst X1.here hx rfl (hb hby d8_12) k)) ?_
    exact own_retN X1 hx Bd.notSynchronized (t := .boolean) (w := (0 : Int32)) Bd.returns (by simp) (hb hby d8_13) e1 rfl ⟨rfl, N0, rfl⟩ (by decide) (by decide)
  · skip
    refine own_go (fun _ k => X1.arraylength hx (own_hc e1 Ar2.1) (State.isArrayOf_alike hZ.alike Ar2.2.1) (g := (mkF m 4 #[.val (.ref a1)] [(.ref t)])) rfl rfl (hb hby d8_4) _ k) ?_
    rw [show cl2.slots.size.toInt32 = (2 : Int32) from by rw [hs2]; rfl]
    show own_Fin _ _ _ _ _ _ _ (T1.setTop (mkF m 5 #[.val (.ref a1)] [(.int (2 : Int32))]))
    have hc4 : ¬ ((2 : Int32) = (0 : Int32)) := by decide
    refine own_go (B := T1.setTop (mkF m 13 #[.val (.ref a1)] [(.int (0 : Int32))])) (fun _ k => XS.ifYes X1.here hx rfl (pc0 := 5) (pc' := 12) rfl (hb hby d8_5) rfl ((if0 _ _).trans (feq hc4).2) (by decide) (by decide) (XS.iconst X1.here hx rfl (hb hby d8_12) k)) ?_
    exact own_retN X1 hx Bd.notSynchronized (t := .boolean) (w := (0 : Int32)) Bd.returns (by simp) (hb hby d8_13) e1 rfl ⟨rfl, N0, rfl⟩ (by decide) (by decide)
abbrev R_own_cmpI2 : Room := { frames := 0, cells := 0, slots := 0, locals := 0 }
theorem ef_own_cmpI2 (m : MethodId) (x0 : Addr) (x2 : Addr) : entryFrame m #[(.ref x0), (.int (0 : Int32)), (.ref x2), (.int (0 : Int32)), (.int (2 : Int32))] 7 = mkF m 0 #[.val (.ref x0), .val (.int (0 : Int32)), .val (.ref x2), .val (.int (0 : Int32)), .val (.int (2 : Int32)), .unset, .unset] [] := by first | (simp [entryFrame, mkF, argsToLocals, Value.category]; done) | rfl
set_option maxRecDepth 65536 in
set_option maxHeartbeats 4000000 in
theorem own_pl_cmpI2_1 (c0 : Int32) (c1 : Int32) (hh0 : c0.toInt ≤ 255) (hh1 : c1.toInt ≤ 255) : ¬ ((255 : Int32) < c0) := by
  have := rng32 c0
  have := rng32 c1
  try simp only [own_i32_255] at *
  have := own_i32_255
  try simp only [Int32.lt_iff_toInt_lt, Int32.le_iff_toInt_le, Int64.lt_iff_toInt_lt, Int64.le_iff_toInt_le, ← Int32.toInt_inj, ← Int64.toInt_inj, true_and, and_true, true_or, or_true, false_or, or_false, not_true_eq_false, not_false_eq_true, false_and, and_false, ne_eq] at *
  all_goals first | omega | (simp; done)
set_option maxRecDepth 65536 in
set_option maxHeartbeats 4000000 in
theorem own_pl_cmpI2_2 (c0 : Int32) (c1 : Int32) (hh0 : c0.toInt ≤ 255) (hh1 : c1.toInt ≤ 255) (hc4 : ¬ ((255 : Int32) < c0)) : ¬ ((255 : Int32) < c1) := by
  have := rng32 c0
  have := rng32 c1
  try simp only [own_i32_255] at *
  have := own_i32_255
  try simp only [Int32.lt_iff_toInt_lt, Int32.le_iff_toInt_le, Int64.lt_iff_toInt_lt, Int64.le_iff_toInt_le, ← Int32.toInt_inj, ← Int64.toInt_inj, true_and, and_true, true_or, or_true, false_or, or_false, not_true_eq_false, not_false_eq_true, false_and, and_false, ne_eq] at *
  all_goals first | omega | (simp; done)
def Q_own_cmpI2 (Z : State) (a1 : Addr) (a3 : Addr) (k1 : ClassId) (k3 : ClassId) (c0 : Int32) (c1 : Int32) (h0 : Heap) (n0 : Nat) (v : Option Value) (h : Heap) (L : List Loc) : Prop := v = some (.int (2 : Int32)) ∧ Fr n0 L ∧ Keep h0 h [a3] ∧ Arv Z h a3 k3 .byte (2 : Int32) [(.int (c0.toInt8.toInt32)), (.int (c1.toInt8.toInt32))] (.int (0 : Int32))
set_option maxRecDepth 65536 in
set_option maxHeartbeats 400000000 in
theorem own_cmpI2 (l : Launch) (Z : State) (a0 : Array Value) (hw : ∀ d ∈ tables_1, d.before a0 Z = true) (ws : List Jvm.Cond) (a1 : Addr) (a3 : Addr) (k1 : ClassId) (k3 : ClassId) (c0 : Int32) (c1 : Int32) (h0 : Heap) (n0 : Nat) (Z0 : n0 ≤ h0.size) (P_V_a1 : Arv Z h0 a1 k1 .char (2 : Int32) [(.int c0), (.int c1)] (.int (0 : Int32))) (P_V_a3 : Arv Z h0 a3 k3 .byte (2 : Int32) [(.int (0 : Int32)), (.int (0 : Int32))] (.int (0 : Int32))) (g_a3 : n0 ≤ a3) (ne_a1_a3 : a1 ≠ a3) (hh0 : c0.toInt ≤ 255) (hh1 : c1.toInt ≤ 255) :
    MetFree l (⟨"java/lang/StringUTF16", "compress", "([CI[BII)I"⟩ : MethodName) (head1 (Jvm.Cond.code (⟨"java/lang/StringUTF16", "compress", "([CI[BII)I"⟩ : MethodName) jdk_52_method_21_code 7 (some .int) :: ws) R_own_cmpI2) (fun a U => a = #[(.ref a1), (.int (0 : Int32)), (.ref a3), (.int (0 : Int32)), (.int (2 : Int32))] ∧ Z.Warmed39 U.vm ∧ U.heap = h0) (fun _ _ _ _ _ => True) (fun _ U o U' => ∃ v L, o = .returned v ∧ Q_own_cmpI2 Z a1 a3 k1 k3 c0 c1 h0 n0 v U'.heap L ∧ FrameEnd U o U' L R_own_cmpI2.cells R_own_cmpI2.slots) := by
  refine MetFree.of_bodySF (plainFor_of_name own_pn0) hisR ?_
  intro p e s m args below meth c s₁ Bd hml0 hP hK
  obtain ⟨rfl, hZ, hh⟩ := hP
  have hx := Bd.exec
  have hby := Bd.bytes
  have hml : c.maxLocals = 7 := hml0
  have hown : s.vm.findClass "java/lang/StringUTF16" = some m.cls := findClass_of_methodNamed Bd.named
  have hnm := (name_of_methodNamed Bd.named Bd.method).1
  have X0 : Stand p l e R_own_cmpI2 s m #[(.ref a1), (.int (0 : Int32)), (.ref a3), (.int (0 : Int32)), (.int (2 : Int32))] below meth c s₁ [] 0 0 := Stand.of_body Bd
  have e0 : s₁.heap = h0 := by rw [← hh, Bd.state]; rfl
  have N0 := Fr.nil n0
  have K0 : Keep h0 h0 [a3] := Keep.refl h0 [a3]
  show own_Fin p e below s (Q_own_cmpI2 Z a1 a3 k1 k3 c0 c1 h0 n0) R_own_cmpI2.cells R_own_cmpI2.slots (s₁.setTop (entryFrame m #[(.ref a1), (.int (0 : Int32)), (.ref a3), (.int (0 : Int32)), (.int (2 : Int32))] 7))
  refine own_go (fun _ k => castTop (ef_own_cmpI2 m a1 a3) k) ?_
  show own_Fin _ _ _ _ _ _ _ (s₁.setTop (mkF m 0 #[.val (.ref a1), .val (.int (0 : Int32)), .val (.ref a3), .val (.int (0 : Int32)), .val (.int (2 : Int32)), .unset, .unset] []))
  refine own_go (B := s₁.setTop (mkF m 7 #[.val (.ref a1), .val (.int (0 : Int32)), .val (.ref a3), .val (.int (0 : Int32)), .val (.int (2 : Int32)), .val (.int (0 : Int32)), .unset] [(.int (2 : Int32)), (.int (0 : Int32))])) (fun _ k => XS.iconst X0.here hx rfl (hb hby d5_0) (XS.istore X0.here hx rfl (hb hby d5_1) rfl (l' := #[.val (.ref a1), .val (.int (0 : Int32)), .val (.ref a3), .val (.int (0 : Int32)), .val (.int (2 : Int32)), .val (.int (0 : Int32)), .unset]) rfl (XS.iload X0.here hx rfl (hb hby d5_3) rfl  (XS.iload X0.here hx rfl (hb hby d5_5) rfl  k)))) ?_
  have hc1 : (0 : Int32) < (2 : Int32) := by decide
  refine own_go (B := s₁.setTop (mkF m 12 #[.val (.ref a1), .val (.int (0 : Int32)), .val (.ref a3), .val (.int (0 : Int32)), .val (.int (2 : Int32)), .val (.int (0 : Int32)), .unset] [(.int (0 : Int32)), (.ref a1)])) (fun _ k => XS.icmpNo X0.here hx rfl (hb hby d5_7) rfl (tlt hc1).2.1 (XS.aloadN X0.here hx rfl (hb hby d5_10) rfl rfl (XS.iloadN X0.here hx rfl (hb hby d5_11) rfl  k))) ?_
  obtain ⟨cl2, Ar2, q2, S2, N2n, H2, G2⟩ := id P_V_a1
  have hin3 : ¬ ((0 : Int32) < 0 ∨ cl2.slots.size ≤ ((0 : Int32)).toNatClampNeg) := inb_of S2 ⟨by decide, by decide⟩
  have hat3 : cl2.slots[((0 : Int32)).toNatClampNeg]? = some (.int c0) := H2.at hin3 rfl
  refine own_go (B := s₁.setTop (mkF m 20 #[.val (.ref a1), .val (.int (0 : Int32)), .val (.ref a3), .val (.int (0 : Int32)), .val (.int (2 : Int32)), .val (.int (0 : Int32)), .val (.int c0)] [(.int (255 : Int32)), (.int c0)])) (fun _ k => X0.caload hx (j := (0 : Int32)) (v := (.int c0)) (own_hc e0 Ar2.1) (State.isArrayOf_alike hZ.alike Ar2.2.1) Ar2.2.2 hin3 hat3 (g := (mkF m 12 #[.val (.ref a1), .val (.int (0 : Int32)), .val (.ref a3), .val (.int (0 : Int32)), .val (.int (2 : Int32)), .val (.int (0 : Int32)), .unset] [(.int (0 : Int32)), (.ref a1)])) rfl rfl (hb hby d5_12) _ (XS.istore X0.here hx rfl (hb hby d5_13) rfl (l' := #[.val (.ref a1), .val (.int (0 : Int32)), .val (.ref a3), .val (.int (0 : Int32)), .val (.int (2 : Int32)), .val (.int (0 : Int32)), .val (.int c0)]) rfl (XS.iload X0.here hx rfl (hb hby d5_15) rfl  (XS.sipush X0.here hx rfl (hb hby d5_17) k)))) ?_
  have hc4 : ¬ ((255 : Int32) < c0) := (own_pl_cmpI2_1 c0 c1 hh0 hh1)
  refine own_go (B := s₁.setTop (mkF m 31 #[.val (.ref a1), .val (.int (0 : Int32)), .val (.ref a3), .val (.int (0 : Int32)), .val (.int (2 : Int32)), .val (.int (0 : Int32)), .val (.int c0)] [(.int (c0.toInt8.toInt32)), (.int (0 : Int32)), (.ref a3)])) (fun _ k => XS.icmpYes X0.here hx rfl (pc0 := 20) (pc' := 26) rfl (hb hby d5_20) rfl (flt hc4).2.2.2 (by decide) (by decide) (XS.aloadN X0.here hx rfl (hb hby d5_26) rfl rfl (XS.iloadN X0.here hx rfl (hb hby d5_27) rfl  (XS.iload X0.here hx rfl (hb hby d5_28) rfl  (XS.i2b X0.here hx rfl (hb hby d5_30) rfl k))))) ?_
  obtain ⟨cl5, Ar5, q5, S5, N5n, H5, G5⟩ := id P_V_a3
  have hin6 : ¬ ((0 : Int32) < 0 ∨ cl5.slots.size ≤ ((0 : Int32)).toNatClampNeg) := inb_of S5 ⟨by decide, by decide⟩
  obtain ⟨T6, h6, X6, e6, W6, st6⟩ := stB X0 hx hZ e0 Ar5 (j := (0 : Int32)) hin6 (g := (mkF m 31 #[.val (.ref a1), .val (.int (0 : Int32)), .val (.ref a3), .val (.int (0 : Int32)), .val (.int (2 : Int32)), .val (.int (0 : Int32)), .val (.int c0)] [(.int (c0.toInt8.toInt32)), (.int (0 : Int32)), (.ref a3)])) rfl rfl (hb hby d5_31)
  rw [own_narb] at W6
  have V_a3_6 : Arv Z h6 a3 k3 .byte (2 : Int32) [(.int (c0.toInt8.toInt32)), (.int (0 : Int32))] (.int (0 : Int32)) := Arv.set Ar5 q5 S5 N5n H5 G5 (fits_nar_byte _) W6 0 rfl (Nat.le_of_ble_eq_true rfl)
  have V_8 := P_V_a1.other W6 ne_a1_a3
  have K10 : Keep h0 h6 [a3] := K0.wr W6 (Or.inl (List.mem_of_getElem? (i := 0) rfl))
  have N6 := Fr.snoc X6 N0 g_a3
  refine own_go (B := T6.setTop (mkF m 32 #[.val (.ref a1), .val (.int (0 : Int32)), .val (.ref a3), .val (.int (0 : Int32)), .val (.int (2 : Int32)), .val (.int (0 : Int32)), .val (.int c0)] [])) st6 ?_
  refine own_go (B := T6.setTop (mkF m 35 #[.val (.ref a1), .val (.int ((0 : Int32) + (1 : Int32))), .val (.ref a3), .val (.int (0 : Int32)), .val (.int (2 : Int32)), .val (.int (0 : Int32)), .val (.int c0)] [])) (fun _ k => XS.iinc X6.here hx rfl (hb hby d5_32) rfl (l' := #[.val (.ref a1), .val (.int ((0 : Int32) + (1 : Int32))), .val (.ref a3), .val (.int (0 : Int32)), .val (.int (2 : Int32)), .val (.int (0 : Int32)), .val (.int c0)]) rfl k) ?_
  rw [show ((0 : Int32) + (1 : Int32)) = (1 : Int32) from by decide]
  show own_Fin _ _ _ _ _ _ _ (T6.setTop (mkF m 35 #[.val (.ref a1), .val (.int (1 : Int32)), .val (.ref a3), .val (.int (0 : Int32)), .val (.int (2 : Int32)), .val (.int (0 : Int32)), .val (.int c0)] []))
  refine own_go (B := T6.setTop (mkF m 38 #[.val (.ref a1), .val (.int (1 : Int32)), .val (.ref a3), .val (.int ((0 : Int32) + (1 : Int32))), .val (.int (2 : Int32)), .val (.int (0 : Int32)), .val (.int c0)] [])) (fun _ k => XS.iinc X6.here hx rfl (hb hby d5_35) rfl (l' := #[.val (.ref a1), .val (.int (1 : Int32)), .val (.ref a3), .val (.int ((0 : Int32) + (1 : Int32))), .val (.int (2 : Int32)), .val (.int (0 : Int32)), .val (.int c0)]) rfl k) ?_
  rw [show ((0 : Int32) + (1 : Int32)) = (1 : Int32) from by decide]
  show own_Fin _ _ _ _ _ _ _ (T6.setTop (mkF m 38 #[.val (.ref a1), .val (.int (1 : Int32)), .val (.ref a3), .val (.int (1 : Int32)), .val (.int (2 : Int32)), .val (.int (0 : Int32)), .val (.int c0)] []))
  refine own_go (B := T6.setTop (mkF m 41 #[.val (.ref a1), .val (.int (1 : Int32)), .val (.ref a3), .val (.int (1 : Int32)), .val (.int (2 : Int32)), .val (.int ((0 : Int32) + (1 : Int32))), .val (.int c0)] [])) (fun _ k => XS.iinc X6.here hx rfl (hb hby d5_38) rfl (l' := #[.val (.ref a1), .val (.int (1 : Int32)), .val (.ref a3), .val (.int (1 : Int32)), .val (.int (2 : Int32)), .val (.int ((0 : Int32) + (1 : Int32))), .val (.int c0)]) rfl k) ?_
  rw [show ((0 : Int32) + (1 : Int32)) = (1 : Int32) from by decide]
  show own_Fin _ _ _ _ _ _ _ (T6.setTop (mkF m 41 #[.val (.ref a1), .val (.int (1 : Int32)), .val (.ref a3), .val (.int (1 : Int32)), .val (.int (2 : Int32)), .val (.int (1 : Int32)), .val (.int c0)] []))
  refine own_go (B := T6.setTop (mkF m 7 #[.val (.ref a1), .val (.int (1 : Int32)), .val (.ref a3), .val (.int (1 : Int32)), .val (.int (2 : Int32)), .val (.int (1 : Int32)), .val (.int c0)] [(.int (2 : Int32)), (.int (1 : Int32))])) (fun _ k => XS.goto X6.here hx rfl (pc0 := 41) (pc' := 3) rfl (hb hby d5_41) (by decide) (by decide) (XS.iload X6.here hx rfl (hb hby d5_3) rfl  (XS.iload X6.here hx rfl (hb hby d5_5) rfl  k))) ?_
  have hc11 : (1 : Int32) < (2 : Int32) := by decide
  refine own_go (B := T6.setTop (mkF m 12 #[.val (.ref a1), .val (.int (1 : Int32)), .val (.ref a3), .val (.int (1 : Int32)), .val (.int (2 : Int32)), .val (.int (1 : Int32)), .val (.int c0)] [(.int (1 : Int32)), (.ref a1)])) (fun _ k => XS.icmpNo X6.here hx rfl (hb hby d5_7) rfl (tlt hc11).2.1 (XS.aloadN X6.here hx rfl (hb hby d5_10) rfl rfl (XS.iloadN X6.here hx rfl (hb hby d5_11) rfl  k))) ?_
  obtain ⟨cl12, Ar12, q12, S12, N12n, H12, G12⟩ := id V_8
  have hin13 : ¬ ((1 : Int32) < 0 ∨ cl12.slots.size ≤ ((1 : Int32)).toNatClampNeg) := inb_of S12 ⟨by decide, by decide⟩
  have hat13 : cl12.slots[((1 : Int32)).toNatClampNeg]? = some (.int c1) := H12.at hin13 rfl
  refine own_go (B := T6.setTop (mkF m 20 #[.val (.ref a1), .val (.int (1 : Int32)), .val (.ref a3), .val (.int (1 : Int32)), .val (.int (2 : Int32)), .val (.int (1 : Int32)), .val (.int c1)] [(.int (255 : Int32)), (.int c1)])) (fun _ k => X6.caload hx (j := (1 : Int32)) (v := (.int c1)) (own_hc e6 Ar12.1) (State.isArrayOf_alike hZ.alike Ar12.2.1) Ar12.2.2 hin13 hat13 (g := (mkF m 12 #[.val (.ref a1), .val (.int (1 : Int32)), .val (.ref a3), .val (.int (1 : Int32)), .val (.int (2 : Int32)), .val (.int (1 : Int32)), .val (.int c0)] [(.int (1 : Int32)), (.ref a1)])) rfl rfl (hb hby d5_12) _ (XS.istore X6.here hx rfl (hb hby d5_13) rfl (l' := #[.val (.ref a1), .val (.int (1 : Int32)), .val (.ref a3), .val (.int (1 : Int32)), .val (.int (2 : Int32)), .val (.int (1 : Int32)), .val (.int c1)]) rfl (XS.iload X6.here hx rfl (hb hby d5_15) rfl  (XS.sipush X6.here hx rfl (hb hby d5_17) k)))) ?_
  have hc14 : ¬ ((255 : Int32) < c1) := (own_pl_cmpI2_2 c0 c1 hh0 hh1 hc4)
  refine own_go (B := T6.setTop (mkF m 31 #[.val (.ref a1), .val (.int (1 : Int32)), .val (.ref a3), .val (.int (1 : Int32)), .val (.int (2 : Int32)), .val (.int (1 : Int32)), .val (.int c1)] [(.int (c1.toInt8.toInt32)), (.int (1 : Int32)), (.ref a3)])) (fun _ k => XS.icmpYes X6.here hx rfl (pc0 := 20) (pc' := 26) rfl (hb hby d5_20) rfl (flt hc14).2.2.2 (by decide) (by decide) (XS.aloadN X6.here hx rfl (hb hby d5_26) rfl rfl (XS.iloadN X6.here hx rfl (hb hby d5_27) rfl  (XS.iload X6.here hx rfl (hb hby d5_28) rfl  (XS.i2b X6.here hx rfl (hb hby d5_30) rfl k))))) ?_
  obtain ⟨cl15, Ar15, q15, S15, N15n, H15, G15⟩ := id V_a3_6
  have hin16 : ¬ ((1 : Int32) < 0 ∨ cl15.slots.size ≤ ((1 : Int32)).toNatClampNeg) := inb_of S15 ⟨by decide, by decide⟩
  obtain ⟨T16, h16, X16, e16, W16, st16⟩ := stB X6 hx hZ e6 Ar15 (j := (1 : Int32)) hin16 (g := (mkF m 31 #[.val (.ref a1), .val (.int (1 : Int32)), .val (.ref a3), .val (.int (1 : Int32)), .val (.int (2 : Int32)), .val (.int (1 : Int32)), .val (.int c1)] [(.int (c1.toInt8.toInt32)), (.int (1 : Int32)), (.ref a3)])) rfl rfl (hb hby d5_31)
  rw [own_narb] at W16
  have V_a3_16 : Arv Z h16 a3 k3 .byte (2 : Int32) [(.int (c0.toInt8.toInt32)), (.int (c1.toInt8.toInt32))] (.int (0 : Int32)) := Arv.set Ar15 q15 S15 N15n H15 G15 (fits_nar_byte _) W16 1 rfl (Nat.le_of_ble_eq_true rfl)
  have V_18 := V_8.other W16 ne_a1_a3
  have K20 : Keep h0 h16 [a3] := K10.wr W16 (Or.inl (List.mem_of_getElem? (i := 0) rfl))
  have N16 := Fr.snoc X16 N6 g_a3
  refine own_go (B := T16.setTop (mkF m 32 #[.val (.ref a1), .val (.int (1 : Int32)), .val (.ref a3), .val (.int (1 : Int32)), .val (.int (2 : Int32)), .val (.int (1 : Int32)), .val (.int c1)] [])) st16 ?_
  refine own_go (B := T16.setTop (mkF m 35 #[.val (.ref a1), .val (.int ((1 : Int32) + (1 : Int32))), .val (.ref a3), .val (.int (1 : Int32)), .val (.int (2 : Int32)), .val (.int (1 : Int32)), .val (.int c1)] [])) (fun _ k => XS.iinc X16.here hx rfl (hb hby d5_32) rfl (l' := #[.val (.ref a1), .val (.int ((1 : Int32) + (1 : Int32))), .val (.ref a3), .val (.int (1 : Int32)), .val (.int (2 : Int32)), .val (.int (1 : Int32)), .val (.int c1)]) rfl k) ?_
  rw [show ((1 : Int32) + (1 : Int32)) = (2 : Int32) from by decide]
  show own_Fin _ _ _ _ _ _ _ (T16.setTop (mkF m 35 #[.val (.ref a1), .val (.int (2 : Int32)), .val (.ref a3), .val (.int (1 : Int32)), .val (.int (2 : Int32)), .val (.int (1 : Int32)), .val (.int c1)] []))
  refine own_go (B := T16.setTop (mkF m 38 #[.val (.ref a1), .val (.int (2 : Int32)), .val (.ref a3), .val (.int ((1 : Int32) + (1 : Int32))), .val (.int (2 : Int32)), .val (.int (1 : Int32)), .val (.int c1)] [])) (fun _ k => XS.iinc X16.here hx rfl (hb hby d5_35) rfl (l' := #[.val (.ref a1), .val (.int (2 : Int32)), .val (.ref a3), .val (.int ((1 : Int32) + (1 : Int32))), .val (.int (2 : Int32)), .val (.int (1 : Int32)), .val (.int c1)]) rfl k) ?_
  rw [show ((1 : Int32) + (1 : Int32)) = (2 : Int32) from by decide]
  show own_Fin _ _ _ _ _ _ _ (T16.setTop (mkF m 38 #[.val (.ref a1), .val (.int (2 : Int32)), .val (.ref a3), .val (.int (2 : Int32)), .val (.int (2 : Int32)), .val (.int (1 : Int32)), .val (.int c1)] []))
  refine own_go (B := T16.setTop (mkF m 41 #[.val (.ref a1), .val (.int (2 : Int32)), .val (.ref a3), .val (.int (2 : Int32)), .val (.int (2 : Int32)), .val (.int ((1 : Int32) + (1 : Int32))), .val (.int c1)] [])) (fun _ k => XS.iinc X16.here hx rfl (hb hby d5_38) rfl (l' := #[.val (.ref a1), .val (.int (2 : Int32)), .val (.ref a3), .val (.int (2 : Int32)), .val (.int (2 : Int32)), .val (.int ((1 : Int32) + (1 : Int32))), .val (.int c1)]) rfl k) ?_
  rw [show ((1 : Int32) + (1 : Int32)) = (2 : Int32) from by decide]
  show own_Fin _ _ _ _ _ _ _ (T16.setTop (mkF m 41 #[.val (.ref a1), .val (.int (2 : Int32)), .val (.ref a3), .val (.int (2 : Int32)), .val (.int (2 : Int32)), .val (.int (2 : Int32)), .val (.int c1)] []))
  refine own_go (B := T16.setTop (mkF m 7 #[.val (.ref a1), .val (.int (2 : Int32)), .val (.ref a3), .val (.int (2 : Int32)), .val (.int (2 : Int32)), .val (.int (2 : Int32)), .val (.int c1)] [(.int (2 : Int32)), (.int (2 : Int32))])) (fun _ k => XS.goto X16.here hx rfl (pc0 := 41) (pc' := 3) rfl (hb hby d5_41) (by decide) (by decide) (XS.iload X16.here hx rfl (hb hby d5_3) rfl  (XS.iload X16.here hx rfl (hb hby d5_5) rfl  k))) ?_
  have hc21 : ¬ ((2 : Int32) < (2 : Int32)) := by decide
  refine own_go (B := T16.setTop (mkF m 46 #[.val (.ref a1), .val (.int (2 : Int32)), .val (.ref a3), .val (.int (2 : Int32)), .val (.int (2 : Int32)), .val (.int (2 : Int32)), .val (.int c1)] [(.int (2 : Int32))])) (fun _ k => XS.icmpYes X16.here hx rfl (pc0 := 7) (pc' := 44) rfl (hb hby d5_7) rfl (flt hc21).2.1 (by decide) (by decide) (XS.iload X16.here hx rfl (hb hby d5_44) rfl  k)) ?_
  exact own_retI X16 hx Bd.notSynchronized Bd.returns (hb hby d5_46) e16 ⟨rfl, N16, K20, V_a3_16⟩ (by decide) (by decide)
abbrev R_own_cmpB2 : Room := { frames := 1, cells := 1, slots := 2, locals := 18 }
theorem ef_own_cmpB2 (m : MethodId) (x0 : Addr) : entryFrame m #[(.ref x0), (.int (0 : Int32)), (.int (2 : Int32))] 6 = mkF m 0 #[.val (.ref x0), .val (.int (0 : Int32)), .val (.int (2 : Int32)), .unset, .unset, .unset] [] := by first | (simp [entryFrame, mkF, argsToLocals, Value.category]; done) | rfl
def Q_own_cmpB2 (Z : State) (a1 : Addr) (k1 : ClassId) (c0 : Int32) (c1 : Int32) (h0 : Heap) (n0 : Nat) (v : Option Value) (h : Heap) (L : List Loc) : Prop := ∃ b : Addr, ∃ kb : ClassId, v = some (.ref b) ∧ Fr n0 L ∧ Keep h0 h [] ∧ Arv Z h b kb .byte (2 : Int32) [(.int (c0.toInt8.toInt32)), (.int (c1.toInt8.toInt32))] (.int (0 : Int32)) ∧ (h0.size ≤ b)
set_option maxRecDepth 65536 in
set_option maxHeartbeats 400000000 in
theorem own_cmpB2 (l : Launch) (Z : State) (a0 : Array Value) (hw : ∀ d ∈ tables_1, d.before a0 Z = true) (ws : List Jvm.Cond) (a1 : Addr) (k1 : ClassId) (c0 : Int32) (c1 : Int32) (h0 : Heap) (n0 : Nat) (Z0 : n0 ≤ h0.size) (P_V_a1 : Arv Z h0 a1 k1 .char (2 : Int32) [(.int c0), (.int c1)] (.int (0 : Int32))) (hh0 : c0.toInt ≤ 255) (hh1 : c1.toInt ≤ 255) :
    MetFree l (⟨"java/lang/StringUTF16", "compress", "([CII)[B"⟩ : MethodName) (head1 (Jvm.Cond.code (⟨"java/lang/StringUTF16", "compress", "([CII)[B"⟩ : MethodName) jdk_52_method_16_code 6 (some (.array .byte)) :: ws) R_own_cmpB2) (fun a U => a = #[(.ref a1), (.int (0 : Int32)), (.int (2 : Int32))] ∧ Z.Warmed39 U.vm ∧ U.heap = h0) (fun _ _ _ _ _ => True) (fun _ U o U' => ∃ v L, o = .returned v ∧ Q_own_cmpB2 Z a1 k1 c0 c1 h0 n0 v U'.heap L ∧ FrameEnd U o U' L R_own_cmpB2.cells R_own_cmpB2.slots) := by
  refine MetFree.of_bodySF (plainFor_of_name own_pn0) hisR ?_
  intro p e s m args below meth c s₁ Bd hml0 hP hK
  obtain ⟨rfl, hZ, hh⟩ := hP
  have hx := Bd.exec
  have hby := Bd.bytes
  have hml : c.maxLocals = 6 := hml0
  have hown : s.vm.findClass "java/lang/StringUTF16" = some m.cls := findClass_of_methodNamed Bd.named
  have hnm := (name_of_methodNamed Bd.named Bd.method).1
  have X0 : Stand p l e R_own_cmpB2 s m #[(.ref a1), (.int (0 : Int32)), (.int (2 : Int32))] below meth c s₁ [] 0 0 := Stand.of_body Bd
  have e0 : s₁.heap = h0 := by rw [← hh, Bd.state]; rfl
  have N0 := Fr.nil n0
  have K0 : Keep h0 h0 [] := Keep.refl h0 []
  show own_Fin p e below s (Q_own_cmpB2 Z a1 k1 c0 c1 h0 n0) R_own_cmpB2.cells R_own_cmpB2.slots (s₁.setTop (entryFrame m #[(.ref a1), (.int (0 : Int32)), (.int (2 : Int32))] 6))
  refine own_go (fun _ k => castTop (ef_own_cmpB2 m a1) k) ?_
  show own_Fin _ _ _ _ _ _ _ (s₁.setTop (mkF m 0 #[.val (.ref a1), .val (.int (0 : Int32)), .val (.int (2 : Int32)), .unset, .unset, .unset] []))
  refine own_go (B := s₁.setTop (mkF m 1 #[.val (.ref a1), .val (.int (0 : Int32)), .val (.int (2 : Int32)), .unset, .unset, .unset] [(.int (2 : Int32))])) (fun _ k => XS.iloadN X0.here hx rfl (hb hby d4_0) rfl  k) ?_
  obtain ⟨T1, h1, kc1, X1, e1, E1, A1, st1⟩ := newP X0 hx hZ (own_w hw 20 rfl) e0 (g := (mkF m 1 #[.val (.ref a1), .val (.int (0 : Int32)), .val (.int (2 : Int32)), .unset, .unset, .unset] [(.int (2 : Int32))])) rfl (hb hby d4_1) rfl (by decide) (cap := 2) (by decide) (by decide) (by decide) (by decide)
  obtain ⟨b1, g1⟩ : ∃ z, z = h0.size := ⟨_, rfl⟩
  rw [← g1] at A1 st1
  have ne_a1_b1_2 : a1 ≠ b1 := Nat.ne_of_lt (Nat.lt_of_lt_of_le P_V_a1.lt (Nat.le_of_eq g1.symm))
  have sz_b1 : h0.size ≤ b1 := Nat.le_trans K0.1 (Nat.le_of_eq g1.symm)
  have g_b1 : n0 ≤ b1 := Nat.le_trans Z0 sz_b1
  have V_4 := P_V_a1.ext E1
  have V_b1 : Arv Z h1 b1 kc1 .byte (2 : Int32) [(.int (0 : Int32)), (.int (0 : Int32))] (.int (0 : Int32)) := (Arv.new A1 (by decide)).pad (pad_rep [] (.int (0 : Int32)) 2)
  have K5 : Keep h0 h1 [] := K0.ext E1
  refine own_go (B := T1.setTop (mkF m 3 #[.val (.ref a1), .val (.int (0 : Int32)), .val (.int (2 : Int32)), .unset, .unset, .unset] [(.ref b1)])) st1 ?_
  refine own_go (B := T1.setTop (mkF m 9 #[.val (.ref a1), .val (.int (0 : Int32)), .val (.int (2 : Int32)), .val (.ref b1), .unset, .unset] [(.int (2 : Int32)), (.int (0 : Int32)), (.ref b1), (.int (0 : Int32)), (.ref a1)])) (fun _ k => XS.astoreN X1.here hx rfl (hb hby d4_3) rfl rfl (l' := #[.val (.ref a1), .val (.int (0 : Int32)), .val (.int (2 : Int32)), .val (.ref b1), .unset, .unset]) rfl (XS.aloadN X1.here hx rfl (hb hby d4_4) rfl rfl (XS.iloadN X1.here hx rfl (hb hby d4_5) rfl  (XS.aloadN X1.here hx rfl (hb hby d4_6) rfl rfl (XS.iconst X1.here hx rfl (hb hby d4_7) (XS.iloadN X1.here hx rfl (hb hby d4_8) rfl  k)))))) ?_
  obtain ⟨_, _, ⟨T6, L6, k6, n6⟩, -, X6, ⟨Lc6, hQ6, l6, y6, z6⟩, st6⟩ := Jvm.LawKit.callS X1 hx (y := (⟨"java/lang/StringUTF16", "compress", "([CI[BII)I"⟩ : MethodName)) hown (mvT hZ (own_w hw 21 rfl)) (mvT hZ (own_w hw 22 rfl)) (mvT hZ (own_w hw 18 rfl)) (mvT hZ (own_w hw 23 rfl)) (by decide) (backOf (W := 0) (own_cmpI2 l Z a0 hw [] a1 b1 k1 kc1 c0 c1 h1 n0 (Nat.le_trans Z0 K5.1) V_4 V_b1 g_b1 ne_a1_b1_2 hh0 hh1) hZ (own_w hw 23 rfl) (own_w hw 18 rfl) (by decide) (by decide)) (g := (mkF m 9 #[.val (.ref a1), .val (.int (0 : Int32)), .val (.int (2 : Int32)), .val (.ref b1), .unset, .unset] [(.int (2 : Int32)), (.int (0 : Int32)), (.ref b1), (.int (0 : Int32)), (.ref a1)])) rfl (by rw [hml]; rfl) (argsL := [(.ref a1), (.int (0 : Int32)), (.ref b1), (.int (0 : Int32)), (.int (2 : Int32))]) (rest := []) (lenOf own_pd3 rfl) rfl (by show 2 * 0 + _ ≤ _; exact Nat.le_of_eq rfl) (hb hby d4_9) (fun _ _ => ⟨rfl, e1, (by decide : 1 + 0 ≤ _), (by decide : 2 + 0 ≤ _)⟩)
  dsimp only [Pt.U, Pt.locs, Pt.cells, Pt.slots] at X6 l6 y6 z6 st6 hQ6
  subst l6 y6 z6
  obtain ⟨rfl, N6q, K6q, Q6_0⟩ := hQ6
  have N6 := Fr.app N0 N6q
  have V_8 := V_4.keep K6q (ninS ne_a1_b1_2 nin0)
  have K10 : Keep h0 T6.heap [] := K5.trans K6q (allS (Or.inr sz_b1) all0)
  refine own_go (B := T6.setTop (mkF m 12 #[.val (.ref a1), .val (.int (0 : Int32)), .val (.int (2 : Int32)), .val (.ref b1), .unset, .unset] [(.int (2 : Int32))])) st6 ?_
  refine own_go (B := T6.setTop (mkF m 17 #[.val (.ref a1), .val (.int (0 : Int32)), .val (.int (2 : Int32)), .val (.ref b1), .val (.int (2 : Int32)), .unset] [(.int (2 : Int32)), (.int (2 : Int32))])) (fun _ k => XS.istore X6.here hx rfl (hb hby d4_12) rfl (l' := #[.val (.ref a1), .val (.int (0 : Int32)), .val (.int (2 : Int32)), .val (.ref b1), .val (.int (2 : Int32)), .unset]) rfl (XS.iload X6.here hx rfl (hb hby d4_14) rfl  (XS.iloadN X6.here hx rfl (hb hby d4_16) rfl  k))) ?_
  have hc11 : (2 : Int32) = (2 : Int32) := by decide
  refine own_go (B := T6.setTop (mkF m 58 #[.val (.ref a1), .val (.int (0 : Int32)), .val (.int (2 : Int32)), .val (.ref b1), .val (.int (2 : Int32)), .unset] [(.ref b1)])) (fun _ k => XS.icmpYes X6.here hx rfl (pc0 := 17) (pc' := 57) rfl (hb hby d4_17) rfl (teq hc11).1 (by decide) (by decide) (XS.aloadN X6.here hx rfl (hb hby d4_57) rfl rfl k)) ?_
  exact own_retA X6 hx Bd.notSynchronized Bd.returns rfl rfl (hb hby d4_58) rfl ⟨b1, kc1, rfl, N6, K10, Q6_0, sz_b1⟩ (by decide) (by decide)
abbrev R_own_cod2 : Room := { frames := 0, cells := 0, slots := 0, locals := 0 }
theorem ef_own_cod2 (m : MethodId) (x0 : Addr) : entryFrame m #[(.ref x0), (.int (2 : Int32))] 2 = mkF m 0 #[.val (.ref x0), .val (.int (2 : Int32))] [] := by first | (simp [entryFrame, mkF, argsToLocals, Value.category]; done) | rfl
def Q_own_cod2 (Z : State) (a1 : Addr) (k1 : ClassId) (v0 : Int32) (v1 : Int32) (h0 : Heap) (n0 : Nat) (v : Option Value) (h : Heap) (L : List Loc) : Prop := v = some (.int (0 : Int32)) ∧ Fr n0 L ∧ h = h0
set_option maxRecDepth 65536 in
set_option maxHeartbeats 400000000 in
theorem own_cod2 (l : Launch) (Z : State) (a0 : Array Value) (hw : ∀ d ∈ tables_1, d.before a0 Z = true) (ws : List Jvm.Cond) (a1 : Addr) (k1 : ClassId) (v0 : Int32) (v1 : Int32) (h0 : Heap) (n0 : Nat) (Z0 : n0 ≤ h0.size) (P_V_a1 : Arv Z h0 a1 k1 .byte (2 : Int32) [(.int v0), (.int v1)] (.int (0 : Int32))) :
    MetFree l (⟨"java/lang/StringUTF16", "coderFromArrayLen", "([BI)B"⟩ : MethodName) (head1 (Jvm.Cond.code (⟨"java/lang/StringUTF16", "coderFromArrayLen", "([BI)B"⟩ : MethodName) jdk_52_method_15_code 2 (some .byte) :: ws) R_own_cod2) (fun a U => a = #[(.ref a1), (.int (2 : Int32))] ∧ Z.Warmed39 U.vm ∧ U.heap = h0) (fun _ _ _ _ _ => True) (fun _ U o U' => ∃ v L, o = .returned v ∧ Q_own_cod2 Z a1 k1 v0 v1 h0 n0 v U'.heap L ∧ FrameEnd U o U' L R_own_cod2.cells R_own_cod2.slots) := by
  refine MetFree.of_bodySF (plainFor_of_name own_pn0) hisR ?_
  intro p e s m args below meth c s₁ Bd hml0 hP hK
  obtain ⟨rfl, hZ, hh⟩ := hP
  have hx := Bd.exec
  have hby := Bd.bytes
  have hml : c.maxLocals = 2 := hml0
  have hown : s.vm.findClass "java/lang/StringUTF16" = some m.cls := findClass_of_methodNamed Bd.named
  have hnm := (name_of_methodNamed Bd.named Bd.method).1
  have X0 : Stand p l e R_own_cod2 s m #[(.ref a1), (.int (2 : Int32))] below meth c s₁ [] 0 0 := Stand.of_body Bd
  have e0 : s₁.heap = h0 := by rw [← hh, Bd.state]; rfl
  have N0 := Fr.nil n0
  have K0 : Keep h0 h0 [] := Keep.refl h0 []
  show own_Fin p e below s (Q_own_cod2 Z a1 k1 v0 v1 h0 n0) R_own_cod2.cells R_own_cod2.slots (s₁.setTop (entryFrame m #[(.ref a1), (.int (2 : Int32))] 2))
  refine own_go (fun _ k => castTop (ef_own_cod2 m a1) k) ?_
  show own_Fin _ _ _ _ _ _ _ (s₁.setTop (mkF m 0 #[.val (.ref a1), .val (.int (2 : Int32))] []))
  refine own_go (B := s₁.setTop (mkF m 2 #[.val (.ref a1), .val (.int (2 : Int32))] [(.ref a1), (.int (2 : Int32))])) (fun _ k => XS.iloadN X0.here hx rfl (hb hby d6_0) rfl  (XS.aloadN X0.here hx rfl (hb hby d6_1) rfl rfl k)) ?_
  obtain ⟨cl1, Ar1, q1, S1, N1n, H1, G1⟩ := id P_V_a1
  refine own_go (fun _ k => X0.arraylength hx (own_hc e0 Ar1.1) (State.isArrayOf_alike hZ.alike Ar1.2.1) (g := (mkF m 2 #[.val (.ref a1), .val (.int (2 : Int32))] [(.ref a1), (.int (2 : Int32))])) rfl rfl (hb hby d6_2) _ k) ?_
  rw [len_of S1 N1n]
  show own_Fin _ _ _ _ _ _ _ (s₁.setTop (mkF m 3 #[.val (.ref a1), .val (.int (2 : Int32))] [(.int (2 : Int32)), (.int (2 : Int32))]))
  refine own_go (B := s₁.setTop (mkF m 4 #[.val (.ref a1), .val (.int (2 : Int32))] [(.int ((2 : Int32) - (2 : Int32)))])) (fun _ k => XS.isub X0.here hx rfl (hb hby d6_3) rfl k) ?_
  rw [show ((2 : Int32) - (2 : Int32)) = (0 : Int32) from by decide]
  show own_Fin _ _ _ _ _ _ _ (s₁.setTop (mkF m 4 #[.val (.ref a1), .val (.int (2 : Int32))] [(.int (0 : Int32))]))
  refine own_go (B := s₁.setTop (mkF m 7 #[.val (.ref a1), .val (.int (2 : Int32))] [(.int (((0 : Int32).toUInt32 >>> ((31 : Int32) &&& 31).toUInt32).toInt32))])) (fun _ k => XS.bipush X0.here hx rfl (hb hby d6_4) (XS.iushr X0.here hx rfl (hb hby d6_6) rfl k)) ?_
  rw [show (((0 : Int32).toUInt32 >>> ((31 : Int32) &&& 31).toUInt32).toInt32) = (0 : Int32) from by decide]
  show own_Fin _ _ _ _ _ _ _ (s₁.setTop (mkF m 7 #[.val (.ref a1), .val (.int (2 : Int32))] [(.int (0 : Int32))]))
  refine own_go (B := s₁.setTop (mkF m 8 #[.val (.ref a1), .val (.int (2 : Int32))] [(.int ((0 : Int32).toInt8.toInt32))])) (fun _ k => XS.i2b X0.here hx rfl (hb hby d6_7) rfl k) ?_
  rw [show ((0 : Int32).toInt8.toInt32) = (0 : Int32) from by decide]
  show own_Fin _ _ _ _ _ _ _ (s₁.setTop (mkF m 8 #[.val (.ref a1), .val (.int (2 : Int32))] [(.int (0 : Int32))]))
  exact own_retN X0 hx Bd.notSynchronized (t := .byte) (w := (0 : Int32)) Bd.returns (by simp) (hb hby d6_8) e0 rfl ⟨rfl, N0, rfl⟩ (by decide) (by decide)
abbrev R_own_str4_2 : Room := { frames := 2, cells := 1, slots := 2, locals := 35 }
theorem ef_own_str4_2 (m : MethodId) (x0 : Addr) (x1 : Addr) : entryFrame m #[(.ref x0), (.ref x1), (.int (0 : Int32)), (.int (2 : Int32)), .null] 6 = mkF m 0 #[.val (.ref x0), .val (.ref x1), .val (.int (0 : Int32)), .val (.int (2 : Int32)), .val .null, .unset] [] := by first | (simp [entryFrame, mkF, argsToLocals, Value.category]; done) | rfl
def Q_own_str4_2 (Z : State) (a1 : Addr) (a2 : Addr) (k2 : ClassId) (c0 : Int32) (c1 : Int32) (cs : Int32) (h0 : Heap) (n0 : Nat) (v : Option Value) (h : Heap) (L : List Loc) : Prop := ∃ t : Addr, ∃ kt : ClassId, v = none ∧ Fr n0 L ∧ Keep h0 h [a1] ∧ Exa Z h a1 "java/lang/String" ∧ Fld Z h a1 "java/lang/String" "value" "[B" (.ref t) ∧ Fld Z h a1 "java/lang/String" "coder" "B" (.int (0 : Int32)) ∧ Arv Z h t kt .byte (2 : Int32) [(.int (c0.toInt8.toInt32)), (.int (c1.toInt8.toInt32))] (.int (0 : Int32)) ∧ (h0.size ≤ t)
set_option maxRecDepth 65536 in
set_option maxHeartbeats 400000000 in
theorem own_str4_2 (l : Launch) (Z : State) (a0 : Array Value) (hw : ∀ d ∈ tables_1, d.before a0 Z = true) (ws : List Jvm.Cond) (a1 : Addr) (a2 : Addr) (k2 : ClassId) (c0 : Int32) (c1 : Int32) (cs : Int32) (h0 : Heap) (n0 : Nat) (Z0 : n0 ≤ h0.size) (P_E_a1 : Exa Z h0 a1 "java/lang/String") (P_F_a1_value : Fld Z h0 a1 "java/lang/String" "value" "[B" .null) (P_F_a1_coder : Fld Z h0 a1 "java/lang/String" "coder" "B" (.int (0 : Int32))) (P_V_a2 : Arv Z h0 a2 k2 .char (2 : Int32) [(.int c0), (.int c1)] (.int (0 : Int32))) (g_a1 : n0 ≤ a1) (ne_a1_a2 : a1 ≠ a2) (P_S_java_lang_String_COMPACT_STRINGS : Sta Z h0 "java/lang/String" "COMPACT_STRINGS" "Z" (.int cs)) (hcs : ¬ (cs = (0 : Int32))) (hh0 : c0.toInt ≤ 255) (hh1 : c1.toInt ≤ 255) :
    MetFree l (⟨"java/lang/String", "<init>", "([CIILjava/lang/Void;)V"⟩ : MethodName) (head1 (Jvm.Cond.code (⟨"java/lang/String", "<init>", "([CIILjava/lang/Void;)V"⟩ : MethodName) jdk_42_method_149_code 6 none :: ws) R_own_str4_2) (fun a U => a = #[(.ref a1), (.ref a2), (.int (0 : Int32)), (.int (2 : Int32)), .null] ∧ Z.Warmed39 U.vm ∧ U.heap = h0) (fun _ _ _ _ _ => True) (fun _ U o U' => ∃ v L, o = .returned v ∧ Q_own_str4_2 Z a1 a2 k2 c0 c1 cs h0 n0 v U'.heap L ∧ FrameEnd U o U' L R_own_str4_2.cells R_own_str4_2.slots) := by
  refine MetFree.of_bodySF (plainFor_of_name own_pn1) hisR ?_
  intro p e s m args below meth c s₁ Bd hml0 hP hK
  obtain ⟨rfl, hZ, hh⟩ := hP
  have hx := Bd.exec
  have hby := Bd.bytes
  have hml : c.maxLocals = 6 := hml0
  have hown : s.vm.findClass "java/lang/String" = some m.cls := findClass_of_methodNamed Bd.named
  have hnm := (name_of_methodNamed Bd.named Bd.method).1
  have X0 : Stand p l e R_own_str4_2 s m #[(.ref a1), (.ref a2), (.int (0 : Int32)), (.int (2 : Int32)), .null] below meth c s₁ [] 0 0 := Stand.of_body Bd
  have e0 : s₁.heap = h0 := by rw [← hh, Bd.state]; rfl
  have N0 := Fr.nil n0
  have K0 : Keep h0 h0 [a1] := Keep.refl h0 [a1]
  show own_Fin p e below s (Q_own_str4_2 Z a1 a2 k2 c0 c1 cs h0 n0) R_own_str4_2.cells R_own_str4_2.slots (s₁.setTop (entryFrame m #[(.ref a1), (.ref a2), (.int (0 : Int32)), (.int (2 : Int32)), .null] 6))
  refine own_go (fun _ k => castTop (ef_own_str4_2 m a1 a2) k) ?_
  show own_Fin _ _ _ _ _ _ _ (s₁.setTop (mkF m 0 #[.val (.ref a1), .val (.ref a2), .val (.int (0 : Int32)), .val (.int (2 : Int32)), .val .null, .unset] []))
  refine own_go (B := s₁.setTop (mkF m 1 #[.val (.ref a1), .val (.ref a2), .val (.int (0 : Int32)), .val (.int (2 : Int32)), .val .null, .unset] [(.ref a1)])) (fun _ k => XS.aloadN X0.here hx rfl (hb hby d2_0) rfl rfl k) ?_
  obtain ⟨T1, X1, e1, st1⟩ := initO X0 hx hZ hown (own_w hw 12 rfl) (own_w hw 13 rfl) (own_w hw 14 rfl) e0 (g := (mkF m 1 #[.val (.ref a1), .val (.ref a2), .val (.int (0 : Int32)), .val (.int (2 : Int32)), .val .null, .unset] [(.ref a1)])) rfl (by rw [hml]; rfl) rfl (hb hby d2_1) (by decide) (W := 0) (by show 2 * 0 + _ ≤ _; exact Nat.le_of_eq rfl) (by decide)
  refine own_go (B := T1.setTop (mkF m 4 #[.val (.ref a1), .val (.ref a2), .val (.int (0 : Int32)), .val (.int (2 : Int32)), .val .null, .unset] [])) st1 ?_
  refine own_go (B := T1.setTop (mkF m 5 #[.val (.ref a1), .val (.ref a2), .val (.int (0 : Int32)), .val (.int (2 : Int32)), .val .null, .unset] [(.int (2 : Int32))])) (fun _ k => XS.iloadN X1.here hx rfl (hb hby d2_4) rfl  k) ?_
  have hc2 : ¬ ((2 : Int32) = (0 : Int32)) := by decide
  refine own_go (B := T1.setTop (mkF m 27 #[.val (.ref a1), .val (.ref a2), .val (.int (0 : Int32)), .val (.int (2 : Int32)), .val .null, .unset] [])) (fun _ k => XS.ifYes X1.here hx rfl (pc0 := 5) (pc' := 27) rfl (hb hby d2_5) rfl ((if0 _ _).trans (feq hc2).2) (by decide) (by decide) k) ?_
  obtain ⟨T3, X3, e3, st3⟩ := getS2 X1 hx hZ hown (host := "") (Or.inl (own_w hw 15 rfl)) Via.refl e1 P_S_java_lang_String_COMPACT_STRINGS (g := (mkF m 27 #[.val (.ref a1), .val (.ref a2), .val (.int (0 : Int32)), .val (.int (2 : Int32)), .val .null, .unset] [])) rfl (hb hby d2_27)
  refine own_go (B := T3.setTop (mkF m 30 #[.val (.ref a1), .val (.ref a2), .val (.int (0 : Int32)), .val (.int (2 : Int32)), .val .null, .unset] [(.int cs)])) st3 ?_
  refine own_go (B := T3.setTop (mkF m 36 #[.val (.ref a1), .val (.ref a2), .val (.int (0 : Int32)), .val (.int (2 : Int32)), .val .null, .unset] [(.int (2 : Int32)), (.int (0 : Int32)), (.ref a2)])) (fun _ k => XS.ifNo X3.here hx rfl (hb hby d2_30) rfl ((if0 _ _).trans (feq hcs).1) (XS.aloadN X3.here hx rfl (hb hby d2_33) rfl rfl (XS.iloadN X3.here hx rfl (hb hby d2_34) rfl  (XS.iloadN X3.here hx rfl (hb hby d2_35) rfl  k)))) ?_
  obtain ⟨_, _, ⟨T4, L4, k4, n4⟩, -, X4, ⟨Lc4, hQ4, l4, y4, z4⟩, st4⟩ := Jvm.LawKit.callS X3 hx (y := (⟨"java/lang/StringUTF16", "compress", "([CII)[B"⟩ : MethodName)) hown (mvT hZ (own_w hw 16 rfl)) (mvT hZ (own_w hw 17 rfl)) (mvT hZ (own_w hw 18 rfl)) (mvT hZ (own_w hw 19 rfl)) (by decide) (backOf (W := 0) (own_cmpB2 l Z a0 hw [] a2 k2 c0 c1 h0 n0 (Nat.le_trans Z0 K0.1) P_V_a2 hh0 hh1) hZ (own_w hw 19 rfl) (own_w hw 18 rfl) (by decide) (by decide)) (g := (mkF m 36 #[.val (.ref a1), .val (.ref a2), .val (.int (0 : Int32)), .val (.int (2 : Int32)), .val .null, .unset] [(.int (2 : Int32)), (.int (0 : Int32)), (.ref a2)])) rfl (by rw [hml]; rfl) (argsL := [(.ref a2), (.int (0 : Int32)), (.int (2 : Int32))]) (rest := []) (lenOf own_pd4 rfl) rfl (by show 2 * 0 + _ ≤ _; exact Nat.le_of_eq rfl) (hb hby d2_36) (fun _ _ => ⟨rfl, e3, (by decide : 0 + 1 ≤ _), (by decide : 0 + 2 ≤ _)⟩)
  dsimp only [Pt.U, Pt.locs, Pt.cells, Pt.slots] at X4 l4 y4 z4 st4 hQ4
  subst l4 y4 z4
  obtain ⟨b_4, kb_4, rfl, N4q, K4q, Q4_0, x4_0⟩ := hQ4
  have N4 := Fr.app N0 N4q
  have ne_a1_b_4_5 : a1 ≠ b_4 := Nat.ne_of_lt (Nat.lt_of_lt_of_le P_E_a1.lt x4_0)
  have ne_a2_b_4_6 : a2 ≠ b_4 := Nat.ne_of_lt (Nat.lt_of_lt_of_le P_V_a2.lt x4_0)
  have sz_b_4 : h0.size ≤ b_4 := Nat.le_trans K0.1 x4_0
  have g_b_4 : n0 ≤ b_4 := Nat.le_trans Z0 sz_b_4
  have E_8 := P_E_a1.keep K4q
  have F_9 := P_F_a1_value.keep K4q nin0
  have F_10 := P_F_a1_coder.keep K4q nin0
  have V_11 := P_V_a2.keep K4q nin0
  have S_12 := own_Sta_keep P_S_java_lang_String_COMPACT_STRINGS K4q all0
  have K13 : Keep h0 T4.heap [a1] := K0.trans K4q all0
  refine own_go (B := T4.setTop (mkF m 39 #[.val (.ref a1), .val (.ref a2), .val (.int (0 : Int32)), .val (.int (2 : Int32)), .val .null, .unset] [(.ref b_4)])) st4 ?_
  refine own_go (B := T4.setTop (mkF m 45 #[.val (.ref a1), .val (.ref a2), .val (.int (0 : Int32)), .val (.int (2 : Int32)), .val .null, .val (.ref b_4)] [(.int (2 : Int32)), (.ref b_4), (.ref a1)])) (fun _ k => XS.astore X4.here hx rfl (hb hby d2_39) rfl rfl (l' := #[.val (.ref a1), .val (.ref a2), .val (.int (0 : Int32)), .val (.int (2 : Int32)), .val .null, .val (.ref b_4)]) rfl (XS.aloadN X4.here hx rfl (hb hby d2_41) rfl rfl (XS.aload X4.here hx rfl (hb hby d2_42) rfl rfl (XS.iloadN X4.here hx rfl (hb hby d2_44) rfl  k)))) ?_
  obtain ⟨_, _, ⟨T14, L14, k14, n14⟩, -, X14, ⟨Lc14, hQ14, l14, y14, z14⟩, st14⟩ := Jvm.LawKit.callS X4 hx (y := (⟨"java/lang/StringUTF16", "coderFromArrayLen", "([BI)B"⟩ : MethodName)) hown (mvT hZ (own_w hw 24 rfl)) (mvT hZ (own_w hw 25 rfl)) (mvT hZ (own_w hw 18 rfl)) (mvT hZ (own_w hw 26 rfl)) (by decide) (backOf (W := 1) (own_cod2 l Z a0 hw [] b_4 kb_4 (c0.toInt8.toInt32) (c1.toInt8.toInt32) T4.heap n0 (Nat.le_trans Z0 K13.1) Q4_0) hZ (own_w hw 26 rfl) (own_w hw 18 rfl) (by decide) (by decide)) (g := (mkF m 45 #[.val (.ref a1), .val (.ref a2), .val (.int (0 : Int32)), .val (.int (2 : Int32)), .val .null, .val (.ref b_4)] [(.int (2 : Int32)), (.ref b_4), (.ref a1)])) rfl (by rw [hml]; rfl) (argsL := [(.ref b_4), (.int (2 : Int32))]) (rest := [(.ref a1)]) (lenOf own_pd5 rfl) rfl (by show 2 * 0 + _ ≤ _; exact Nat.le_of_eq rfl) (hb hby d2_45) (fun _ _ => ⟨rfl, rfl, (by decide : 1 + 0 ≤ _), (by decide : 2 + 0 ≤ _)⟩)
  dsimp only [Pt.U, Pt.locs, Pt.cells, Pt.slots] at X14 l14 y14 z14 st14 hQ14
  subst l14 y14 z14
  obtain ⟨rfl, N14q, e14⟩ := hQ14
  have N14 := Fr.app N4 N14q
  refine own_go (B := T14.setTop (mkF m 48 #[.val (.ref a1), .val (.ref a2), .val (.int (0 : Int32)), .val (.int (2 : Int32)), .val .null, .val (.ref b_4)] [(.int (0 : Int32)), (.ref a1)])) st14 ?_
  obtain ⟨T15, h15, X15, e15, W15, st15⟩ := putFN X14 hx hZ hown (own_w hw 27 rfl) Via.refl e14 F_10 E_8 (Or.inr ⟨(own_w hw 28 rfl), rfl, hnm⟩) (own_w hw 2 rfl) (ty := .byte) (v' := (.int (0 : Int32))) (by decide) rfl rfl (g := (mkF m 48 #[.val (.ref a1), .val (.ref a2), .val (.int (0 : Int32)), .val (.int (2 : Int32)), .val .null, .val (.ref b_4)] [(.int (0 : Int32)), (.ref a1)])) rfl rfl (hb hby d2_48)
  have F_w15 : Fld Z h15 a1 "java/lang/String" "coder" "B" (.int (0 : Int32)) := F_10.same W15
  have E_17 := E_8.wr W15
  have F_18 := F_9.other W15 (Or.inr (slot_ne (Or.inr (own_w hw 30 rfl)) (Or.inr (own_w hw 28 rfl)) (by decide) (t := (.array .byte)) (t' := .byte) (by decide) (by decide)))
  have V_20 := V_11.other W15 (Ne.symm ne_a1_a2)
  have S_21 := S_12.wr W15
  have V_22 := Q4_0.other W15 (Ne.symm ne_a1_b_4_5)
  have K23 : Keep h0 h15 [a1] := K13.wr W15 (Or.inl (List.mem_of_getElem? (i := 0) rfl))
  have N15 := Fr.snoc X15 N14 g_a1
  refine own_go (B := T15.setTop (mkF m 51 #[.val (.ref a1), .val (.ref a2), .val (.int (0 : Int32)), .val (.int (2 : Int32)), .val .null, .val (.ref b_4)] [])) st15 ?_
  refine own_go (B := T15.setTop (mkF m 54 #[.val (.ref a1), .val (.ref a2), .val (.int (0 : Int32)), .val (.int (2 : Int32)), .val .null, .val (.ref b_4)] [(.ref b_4), (.ref a1)])) (fun _ k => XS.aloadN X15.here hx rfl (hb hby d2_51) rfl rfl (XS.aload X15.here hx rfl (hb hby d2_52) rfl rfl k)) ?_
  obtain ⟨T24, h24, X24, e24, W24, st24⟩ := putF X15 hx hZ hown (host := "") (Or.inl (own_w hw 29 rfl)) Via.refl e15 F_18 E_17 (Or.inr ⟨(own_w hw 30 rfl), rfl, hnm⟩) (own_w hw 2 rfl) (ty := (.array .byte)) (by decide) rfl rfl (g := (mkF m 54 #[.val (.ref a1), .val (.ref a2), .val (.int (0 : Int32)), .val (.int (2 : Int32)), .val .null, .val (.ref b_4)] [(.ref b_4), (.ref a1)])) rfl rfl (hb hby d2_54)
  have F_w24 : Fld Z h24 a1 "java/lang/String" "value" "[B" (.ref b_4) := F_18.same W24
  have E_26 := E_17.wr W24
  have V_28 := V_20.other W24 (Ne.symm ne_a1_a2)
  have S_29 := S_21.wr W24
  have V_30 := V_22.other W24 (Ne.symm ne_a1_b_4_5)
  have F_31 := F_w15.other W24 (Or.inr (slot_ne (Or.inr (own_w hw 28 rfl)) (Or.inr (own_w hw 30 rfl)) (by decide) (t := .byte) (t' := (.array .byte)) (by decide) (by decide)))
  have K32 : Keep h0 h24 [a1] := K23.wr W24 (Or.inl (List.mem_of_getElem? (i := 0) rfl))
  have N24 := Fr.snoc X24 N15 g_a1
  refine own_go (B := T24.setTop (mkF m 57 #[.val (.ref a1), .val (.ref a2), .val (.int (0 : Int32)), .val (.int (2 : Int32)), .val .null, .val (.ref b_4)] [])) st24 ?_
  exact own_retV X24 hx Bd.notSynchronized Bd.returns (hb hby d2_57) e24 ⟨b_4, kb_4, rfl, N24, K32, E_26, F_w24, F_31, V_30, x4_0⟩ (by decide) (by decide)
abbrev R_own_str2 : Room := { frames := 3, cells := 1, slots := 2, locals := 52 }
theorem ef_own_str2 (m : MethodId) (x0 : Addr) (x1 : Addr) : entryFrame m #[(.ref x0), (.ref x1)] 2 = mkF m 0 #[.val (.ref x0), .val (.ref x1)] [] := by first | (simp [entryFrame, mkF, argsToLocals, Value.category]; done) | rfl
def Q_own_str2 (Z : State) (a1 : Addr) (a2 : Addr) (k2 : ClassId) (c0 : Int32) (c1 : Int32) (cs : Int32) (h0 : Heap) (n0 : Nat) (v : Option Value) (h : Heap) (L : List Loc) : Prop := ∃ t : Addr, ∃ kt : ClassId, v = none ∧ Fr n0 L ∧ Keep h0 h [a1] ∧ Exa Z h a1 "java/lang/String" ∧ Fld Z h a1 "java/lang/String" "value" "[B" (.ref t) ∧ Fld Z h a1 "java/lang/String" "coder" "B" (.int (0 : Int32)) ∧ Arv Z h t kt .byte (2 : Int32) [(.int (c0.toInt8.toInt32)), (.int (c1.toInt8.toInt32))] (.int (0 : Int32)) ∧ (h0.size ≤ t)
set_option maxRecDepth 65536 in
set_option maxHeartbeats 400000000 in
theorem own_str2 (l : Launch) (Z : State) (a0 : Array Value) (hw : ∀ d ∈ tables_1, d.before a0 Z = true) (ws : List Jvm.Cond) (a1 : Addr) (a2 : Addr) (k2 : ClassId) (c0 : Int32) (c1 : Int32) (cs : Int32) (h0 : Heap) (n0 : Nat) (Z0 : n0 ≤ h0.size) (P_E_a1 : Exa Z h0 a1 "java/lang/String") (P_F_a1_value : Fld Z h0 a1 "java/lang/String" "value" "[B" .null) (P_F_a1_coder : Fld Z h0 a1 "java/lang/String" "coder" "B" (.int (0 : Int32))) (P_V_a2 : Arv Z h0 a2 k2 .char (2 : Int32) [(.int c0), (.int c1)] (.int (0 : Int32))) (g_a1 : n0 ≤ a1) (ne_a1_a2 : a1 ≠ a2) (P_S_java_lang_String_COMPACT_STRINGS : Sta Z h0 "java/lang/String" "COMPACT_STRINGS" "Z" (.int cs)) (hcs : ¬ (cs = (0 : Int32))) (hh0 : c0.toInt ≤ 255) (hh1 : c1.toInt ≤ 255) :
    MetFree l (⟨"java/lang/String", "<init>", "([C)V"⟩ : MethodName) (head1 (Jvm.Cond.code (⟨"java/lang/String", "<init>", "([C)V"⟩ : MethodName) jdk_42_method_3_code 2 none :: ws) R_own_str2) (fun a U => a = #[(.ref a1), (.ref a2)] ∧ Z.Warmed39 U.vm ∧ U.heap = h0) (fun _ _ _ _ _ => True) (fun _ U o U' => ∃ v L, o = .returned v ∧ Q_own_str2 Z a1 a2 k2 c0 c1 cs h0 n0 v U'.heap L ∧ FrameEnd U o U' L R_own_str2.cells R_own_str2.slots) := by
  refine MetFree.of_bodySF (plainFor_of_name own_pn1) hisR ?_
  intro p e s m args below meth c s₁ Bd hml0 hP hK
  obtain ⟨rfl, hZ, hh⟩ := hP
  have hx := Bd.exec
  have hby := Bd.bytes
  have hml : c.maxLocals = 2 := hml0
  have hown : s.vm.findClass "java/lang/String" = some m.cls := findClass_of_methodNamed Bd.named
  have hnm := (name_of_methodNamed Bd.named Bd.method).1
  have X0 : Stand p l e R_own_str2 s m #[(.ref a1), (.ref a2)] below meth c s₁ [] 0 0 := Stand.of_body Bd
  have e0 : s₁.heap = h0 := by rw [← hh, Bd.state]; rfl
  have N0 := Fr.nil n0
  have K0 : Keep h0 h0 [a1] := Keep.refl h0 [a1]
  show own_Fin p e below s (Q_own_str2 Z a1 a2 k2 c0 c1 cs h0 n0) R_own_str2.cells R_own_str2.slots (s₁.setTop (entryFrame m #[(.ref a1), (.ref a2)] 2))
  refine own_go (fun _ k => castTop (ef_own_str2 m a1 a2) k) ?_
  show own_Fin _ _ _ _ _ _ _ (s₁.setTop (mkF m 0 #[.val (.ref a1), .val (.ref a2)] []))
  refine own_go (B := s₁.setTop (mkF m 4 #[.val (.ref a1), .val (.ref a2)] [(.ref a2), (.int (0 : Int32)), (.ref a2), (.ref a1)])) (fun _ k => XS.aloadN X0.here hx rfl (hb hby d1_0) rfl rfl (XS.aloadN X0.here hx rfl (hb hby d1_1) rfl rfl (XS.iconst X0.here hx rfl (hb hby d1_2) (XS.aloadN X0.here hx rfl (hb hby d1_3) rfl rfl k)))) ?_
  obtain ⟨cl1, Ar1, q1, S1, N1n, H1, G1⟩ := id P_V_a2
  refine own_go (fun _ k => X0.arraylength hx (own_hc e0 Ar1.1) (State.isArrayOf_alike hZ.alike Ar1.2.1) (g := (mkF m 4 #[.val (.ref a1), .val (.ref a2)] [(.ref a2), (.int (0 : Int32)), (.ref a2), (.ref a1)])) rfl rfl (hb hby d1_4) _ k) ?_
  rw [len_of S1 N1n]
  show own_Fin _ _ _ _ _ _ _ (s₁.setTop (mkF m 5 #[.val (.ref a1), .val (.ref a2)] [(.int (2 : Int32)), (.int (0 : Int32)), (.ref a2), (.ref a1)]))
  refine own_go (B := s₁.setTop (mkF m 6 #[.val (.ref a1), .val (.ref a2)] [.null, (.int (2 : Int32)), (.int (0 : Int32)), (.ref a2), (.ref a1)])) (fun _ k => XS.aconstNull X0.here hx rfl (hb hby d1_5) k) ?_
  obtain ⟨_, _, ⟨T2, L2, k2, n2⟩, -, X2, ⟨Lc2, hQ2, l2, y2, z2⟩, st2⟩ := X0.specialBack hx (y := (⟨"java/lang/String", "<init>", "([CIILjava/lang/Void;)V"⟩ : MethodName)) rfl hown (mvT hZ (own_w hw 8 rfl)) (mvT hZ (own_w hw 9 rfl)) (mvT hZ (own_w hw 11 rfl)) (by decide) (backOf (W := 0) (own_str4_2 l Z a0 hw [] a1 a2 k2 c0 c1 cs h0 n0 (Nat.le_trans Z0 K0.1) P_E_a1 P_F_a1_value P_F_a1_coder P_V_a2 g_a1 ne_a1_a2 P_S_java_lang_String_COMPACT_STRINGS hcs hh0 hh1) hZ (own_w hw 11 rfl) (own_w hw 3 rfl) (by decide) (by decide)) (g := (mkF m 6 #[.val (.ref a1), .val (.ref a2)] [.null, (.int (2 : Int32)), (.int (0 : Int32)), (.ref a2), (.ref a1)])) rfl (by rw [hml]; rfl) (Steps.refl _) (a := a1) (argsL := [(.ref a2), (.int (0 : Int32)), (.int (2 : Int32)), .null]) (rest := []) (lenOf own_pd6 rfl) rfl (by show 2 * 0 + _ ≤ _; exact Nat.le_of_eq rfl) (hb hby d1_6) (fun _ _ => ⟨rfl, e0, (by decide : 0 + 1 ≤ _), (by decide : 0 + 2 ≤ _)⟩)
  dsimp only [Pt.U, Pt.locs, Pt.cells, Pt.slots] at X2 l2 y2 z2 st2 hQ2
  subst l2 y2 z2
  obtain ⟨t_2, kt_2, rfl, N2q, K2q, Q2_0, Q2_1, Q2_2, Q2_3, x2_0⟩ := hQ2
  have N2 := Fr.app N0 N2q
  have ne_a1_t_2_3 : a1 ≠ t_2 := Nat.ne_of_lt (Nat.lt_of_lt_of_le P_E_a1.lt x2_0)
  have ne_a2_t_2_4 : a2 ≠ t_2 := Nat.ne_of_lt (Nat.lt_of_lt_of_le P_V_a2.lt x2_0)
  have sz_t_2 : h0.size ≤ t_2 := Nat.le_trans K0.1 x2_0
  have g_t_2 : n0 ≤ t_2 := Nat.le_trans Z0 sz_t_2
  have V_9 := P_V_a2.keep K2q (ninS (Ne.symm ne_a1_a2) nin0)
  have S_10 := own_Sta_keep P_S_java_lang_String_COMPACT_STRINGS K2q (allS (own_plain P_E_a1) all0)
  have K11 : Keep h0 T2.heap [a1] := K0.trans K2q (allS (Or.inl (List.mem_of_getElem? (i := 0) rfl)) all0)
  refine own_go (B := T2.setTop (mkF m 9 #[.val (.ref a1), .val (.ref a2)] [])) (fun _ k => st2.trans k) ?_
  exact own_retV X2 hx Bd.notSynchronized Bd.returns (hb hby d1_9) rfl ⟨t_2, kt_2, rfl, N2, K11, Q2_0, Q2_1, Q2_2, Q2_3, x2_0⟩ (by decide) (by decide)
abbrev R_own_cmpI2_0 : Room := { frames := 0, cells := 0, slots := 0, locals := 0 }
theorem ef_own_cmpI2_0 (m : MethodId) (x0 : Addr) (x2 : Addr) : entryFrame m #[(.ref x0), (.int (0 : Int32)), (.ref x2), (.int (0 : Int32)), (.int (2 : Int32))] 7 = mkF m 0 #[.val (.ref x0), .val (.int (0 : Int32)), .val (.ref x2), .val (.int (0 : Int32)), .val (.int (2 : Int32)), .unset, .unset] [] := by first | (simp [entryFrame, mkF, argsToLocals, Value.category]; done) | rfl
set_option maxRecDepth 65536 in
set_option maxHeartbeats 4000000 in
theorem own_pl_cmpI2_0_1 (c0 : Int32) (hg : ¬ (c0.toInt ≤ 255)) : (255 : Int32) < c0 := by
  have := rng32 c0
  try simp only [own_i32_255] at *
  have := own_i32_255
  try simp only [Int32.lt_iff_toInt_lt, Int32.le_iff_toInt_le, Int64.lt_iff_toInt_lt, Int64.le_iff_toInt_le, ← Int32.toInt_inj, ← Int64.toInt_inj, true_and, and_true, true_or, or_true, false_or, or_false, not_true_eq_false, not_false_eq_true, false_and, and_false, ne_eq] at *
  all_goals first | omega | (simp; done)
def Q_own_cmpI2_0 (Z : State) (a1 : Addr) (a3 : Addr) (k1 : ClassId) (k3 : ClassId) (c0 : Int32) (c1 : Int32) (h0 : Heap) (n0 : Nat) (v : Option Value) (h : Heap) (L : List Loc) : Prop := v = some (.int (0 : Int32)) ∧ Fr n0 L ∧ Keep h0 h [a3]
set_option maxRecDepth 65536 in
set_option maxHeartbeats 400000000 in
theorem own_cmpI2_0 (l : Launch) (Z : State) (a0 : Array Value) (hw : ∀ d ∈ tables_1, d.before a0 Z = true) (ws : List Jvm.Cond) (a1 : Addr) (a3 : Addr) (k1 : ClassId) (k3 : ClassId) (c0 : Int32) (c1 : Int32) (h0 : Heap) (n0 : Nat) (Z0 : n0 ≤ h0.size) (P_V_a1 : Arv Z h0 a1 k1 .char (2 : Int32) [(.int c0), (.int c1)] (.int (0 : Int32))) (P_V_a3 : Arv Z h0 a3 k3 .byte (2 : Int32) [(.int (0 : Int32)), (.int (0 : Int32))] (.int (0 : Int32))) (g_a3 : n0 ≤ a3) (ne_a1_a3 : a1 ≠ a3) (hg : ¬ (c0.toInt ≤ 255)) :
    MetFree l (⟨"java/lang/StringUTF16", "compress", "([CI[BII)I"⟩ : MethodName) (head1 (Jvm.Cond.code (⟨"java/lang/StringUTF16", "compress", "([CI[BII)I"⟩ : MethodName) jdk_52_method_21_code 7 (some .int) :: ws) R_own_cmpI2_0) (fun a U => a = #[(.ref a1), (.int (0 : Int32)), (.ref a3), (.int (0 : Int32)), (.int (2 : Int32))] ∧ Z.Warmed39 U.vm ∧ U.heap = h0) (fun _ _ _ _ _ => True) (fun _ U o U' => ∃ v L, o = .returned v ∧ Q_own_cmpI2_0 Z a1 a3 k1 k3 c0 c1 h0 n0 v U'.heap L ∧ FrameEnd U o U' L R_own_cmpI2_0.cells R_own_cmpI2_0.slots) := by
  refine MetFree.of_bodySF (plainFor_of_name own_pn0) hisR ?_
  intro p e s m args below meth c s₁ Bd hml0 hP hK
  obtain ⟨rfl, hZ, hh⟩ := hP
  have hx := Bd.exec
  have hby := Bd.bytes
  have hml : c.maxLocals = 7 := hml0
  have hown : s.vm.findClass "java/lang/StringUTF16" = some m.cls := findClass_of_methodNamed Bd.named
  have hnm := (name_of_methodNamed Bd.named Bd.method).1
  have X0 : Stand p l e R_own_cmpI2_0 s m #[(.ref a1), (.int (0 : Int32)), (.ref a3), (.int (0 : Int32)), (.int (2 : Int32))] below meth c s₁ [] 0 0 := Stand.of_body Bd
  have e0 : s₁.heap = h0 := by rw [← hh, Bd.state]; rfl
  have N0 := Fr.nil n0
  have K0 : Keep h0 h0 [a3] := Keep.refl h0 [a3]
  show own_Fin p e below s (Q_own_cmpI2_0 Z a1 a3 k1 k3 c0 c1 h0 n0) R_own_cmpI2_0.cells R_own_cmpI2_0.slots (s₁.setTop (entryFrame m #[(.ref a1), (.int (0 : Int32)), (.ref a3), (.int (0 : Int32)), (.int (2 : Int32))] 7))
  refine own_go (fun _ k => castTop (ef_own_cmpI2_0 m a1 a3) k) ?_
  show own_Fin _ _ _ _ _ _ _ (s₁.setTop (mkF m 0 #[.val (.ref a1), .val (.int (0 : Int32)), .val (.ref a3), .val (.int (0 : Int32)), .val (.int (2 : Int32)), .unset, .unset] []))
  refine own_go (B := s₁.setTop (mkF m 7 #[.val (.ref a1), .val (.int (0 : Int32)), .val (.ref a3), .val (.int (0 : Int32)), .val (.int (2 : Int32)), .val (.int (0 : Int32)), .unset] [(.int (2 : Int32)), (.int (0 : Int32))])) (fun _ k => XS.iconst X0.here hx rfl (hb hby d5_0) (XS.istore X0.here hx rfl (hb hby d5_1) rfl (l' := #[.val (.ref a1), .val (.int (0 : Int32)), .val (.ref a3), .val (.int (0 : Int32)), .val (.int (2 : Int32)), .val (.int (0 : Int32)), .unset]) rfl (XS.iload X0.here hx rfl (hb hby d5_3) rfl  (XS.iload X0.here hx rfl (hb hby d5_5) rfl  k)))) ?_
  have hc1 : (0 : Int32) < (2 : Int32) := by decide
  refine own_go (B := s₁.setTop (mkF m 12 #[.val (.ref a1), .val (.int (0 : Int32)), .val (.ref a3), .val (.int (0 : Int32)), .val (.int (2 : Int32)), .val (.int (0 : Int32)), .unset] [(.int (0 : Int32)), (.ref a1)])) (fun _ k => XS.icmpNo X0.here hx rfl (hb hby d5_7) rfl (tlt hc1).2.1 (XS.aloadN X0.here hx rfl (hb hby d5_10) rfl rfl (XS.iloadN X0.here hx rfl (hb hby d5_11) rfl  k))) ?_
  obtain ⟨cl2, Ar2, q2, S2, N2n, H2, G2⟩ := id P_V_a1
  have hin3 : ¬ ((0 : Int32) < 0 ∨ cl2.slots.size ≤ ((0 : Int32)).toNatClampNeg) := inb_of S2 ⟨by decide, by decide⟩
  have hat3 : cl2.slots[((0 : Int32)).toNatClampNeg]? = some (.int c0) := H2.at hin3 rfl
  refine own_go (B := s₁.setTop (mkF m 20 #[.val (.ref a1), .val (.int (0 : Int32)), .val (.ref a3), .val (.int (0 : Int32)), .val (.int (2 : Int32)), .val (.int (0 : Int32)), .val (.int c0)] [(.int (255 : Int32)), (.int c0)])) (fun _ k => X0.caload hx (j := (0 : Int32)) (v := (.int c0)) (own_hc e0 Ar2.1) (State.isArrayOf_alike hZ.alike Ar2.2.1) Ar2.2.2 hin3 hat3 (g := (mkF m 12 #[.val (.ref a1), .val (.int (0 : Int32)), .val (.ref a3), .val (.int (0 : Int32)), .val (.int (2 : Int32)), .val (.int (0 : Int32)), .unset] [(.int (0 : Int32)), (.ref a1)])) rfl rfl (hb hby d5_12) _ (XS.istore X0.here hx rfl (hb hby d5_13) rfl (l' := #[.val (.ref a1), .val (.int (0 : Int32)), .val (.ref a3), .val (.int (0 : Int32)), .val (.int (2 : Int32)), .val (.int (0 : Int32)), .val (.int c0)]) rfl (XS.iload X0.here hx rfl (hb hby d5_15) rfl  (XS.sipush X0.here hx rfl (hb hby d5_17) k)))) ?_
  have hc4 : (255 : Int32) < c0 := (own_pl_cmpI2_0_1 c0 hg)
  refine own_go (B := s₁.setTop (mkF m 25 #[.val (.ref a1), .val (.int (0 : Int32)), .val (.ref a3), .val (.int (0 : Int32)), .val (.int (2 : Int32)), .val (.int (0 : Int32)), .val (.int c0)] [(.int (0 : Int32))])) (fun _ k => XS.icmpNo X0.here hx rfl (hb hby d5_20) rfl (tlt hc4).2.2.2 (XS.iload X0.here hx rfl (hb hby d5_23) rfl  k)) ?_
  exact own_retI X0 hx Bd.notSynchronized Bd.returns (hb hby d5_25) e0 ⟨rfl, N0, K0⟩ (by decide) (by decide)
abbrev R_own_cmpB2_0 : Room := { frames := 3, cells := 2, slots := 6, locals := 40 }
theorem ef_own_cmpB2_0 (m : MethodId) (x0 : Addr) : entryFrame m #[(.ref x0), (.int (0 : Int32)), (.int (2 : Int32))] 6 = mkF m 0 #[.val (.ref x0), .val (.int (0 : Int32)), .val (.int (2 : Int32)), .unset, .unset, .unset] [] := by first | (simp [entryFrame, mkF, argsToLocals, Value.category]; done) | rfl
set_option maxRecDepth 65536 in
set_option maxHeartbeats 4000000 in
theorem own_pl_cmpB2_0_1 (c0 : Int32) (hg : ¬ (c0.toInt ≤ 255)) (hl : 0 ≤ c0.toInt) (hu : c0.toInt ≤ 65535) : (255 : Int32) < ((((((c0 >>> ((0 : Int32) &&& 31)).toInt8.toInt32) &&& (255 : Int32)) <<< ((0 : Int32) &&& 31)) ||| ((((c0 >>> ((8 : Int32) &&& 31)).toInt8.toInt32) &&& (255 : Int32)) <<< ((8 : Int32) &&& 31))).toUInt32.toUInt16.toUInt32.toInt32) := by
  have q := own_getc c0 hl hu
  simp only [Int32.lt_iff_toInt_lt]
  rw [q]
  simp only [Int32.reduceToInt]
  omega
def Q_own_cmpB2_0 (Z : State) (a1 : Addr) (k1 : ClassId) (c0 : Int32) (c1 : Int32) (h0 : Heap) (n0 : Nat) (v : Option Value) (h : Heap) (L : List Loc) : Prop := ∃ b : Addr, ∃ kb : ClassId, ∃ u0 : Int32, ∃ u1 : Int32, ∃ u2 : Int32, ∃ u3 : Int32, v = some (.ref b) ∧ Fr n0 L ∧ Keep h0 h [] ∧ Arv Z h b kb .byte (4 : Int32) [(.int u0), (.int u1), (.int u2), (.int u3)] (.int (0 : Int32)) ∧ (h0.size ≤ b)
set_option maxRecDepth 65536 in
set_option maxHeartbeats 400000000 in
theorem own_cmpB2_0 (l : Launch) (Z : State) (a0 : Array Value) (hw : ∀ d ∈ tables_1, d.before a0 Z = true) (ws : List Jvm.Cond) (a1 : Addr) (k1 : ClassId) (c0 : Int32) (c1 : Int32) (h0 : Heap) (n0 : Nat) (Z0 : n0 ≤ h0.size) (P_V_a1 : Arv Z h0 a1 k1 .char (2 : Int32) [(.int c0), (.int c1)] (.int (0 : Int32))) (P_S_java_lang_StringUTF16__assertionsDisabled : Sta Z h0 "java/lang/StringUTF16" "$assertionsDisabled" "Z" (.int (1 : Int32))) (P_S_java_lang_StringUTF16_HI_BYTE_SHIFT : Sta Z h0 "java/lang/StringUTF16" "HI_BYTE_SHIFT" "I" (.int (0 : Int32))) (P_S_java_lang_StringUTF16_LO_BYTE_SHIFT : Sta Z h0 "java/lang/StringUTF16" "LO_BYTE_SHIFT" "I" (.int (8 : Int32))) (hg : ¬ (c0.toInt ≤ 255)) (hl : 0 ≤ c0.toInt) (hu : c0.toInt ≤ 65535) :
    MetFree l (⟨"java/lang/StringUTF16", "compress", "([CII)[B"⟩ : MethodName) (head1 (Jvm.Cond.code (⟨"java/lang/StringUTF16", "compress", "([CII)[B"⟩ : MethodName) jdk_52_method_16_code 6 (some (.array .byte)) :: ws) R_own_cmpB2_0) (fun a U => a = #[(.ref a1), (.int (0 : Int32)), (.int (2 : Int32))] ∧ Z.Warmed39 U.vm ∧ U.heap = h0) (fun _ _ _ _ _ => True) (fun _ U o U' => ∃ v L, o = .returned v ∧ Q_own_cmpB2_0 Z a1 k1 c0 c1 h0 n0 v U'.heap L ∧ FrameEnd U o U' L R_own_cmpB2_0.cells R_own_cmpB2_0.slots) := by
  refine MetFree.of_bodySF (plainFor_of_name own_pn0) hisR ?_
  intro p e s m args below meth c s₁ Bd hml0 hP hK
  obtain ⟨rfl, hZ, hh⟩ := hP
  have hx := Bd.exec
  have hby := Bd.bytes
  have hml : c.maxLocals = 6 := hml0
  have hown : s.vm.findClass "java/lang/StringUTF16" = some m.cls := findClass_of_methodNamed Bd.named
  have hnm := (name_of_methodNamed Bd.named Bd.method).1
  have X0 : Stand p l e R_own_cmpB2_0 s m #[(.ref a1), (.int (0 : Int32)), (.int (2 : Int32))] below meth c s₁ [] 0 0 := Stand.of_body Bd
  have e0 : s₁.heap = h0 := by rw [← hh, Bd.state]; rfl
  have N0 := Fr.nil n0
  have K0 : Keep h0 h0 [] := Keep.refl h0 []
  show own_Fin p e below s (Q_own_cmpB2_0 Z a1 k1 c0 c1 h0 n0) R_own_cmpB2_0.cells R_own_cmpB2_0.slots (s₁.setTop (entryFrame m #[(.ref a1), (.int (0 : Int32)), (.int (2 : Int32))] 6))
  refine own_go (fun _ k => castTop (ef_own_cmpB2_0 m a1) k) ?_
  show own_Fin _ _ _ _ _ _ _ (s₁.setTop (mkF m 0 #[.val (.ref a1), .val (.int (0 : Int32)), .val (.int (2 : Int32)), .unset, .unset, .unset] []))
  refine own_go (B := s₁.setTop (mkF m 1 #[.val (.ref a1), .val (.int (0 : Int32)), .val (.int (2 : Int32)), .unset, .unset, .unset] [(.int (2 : Int32))])) (fun _ k => XS.iloadN X0.here hx rfl (hb hby d4_0) rfl  k) ?_
  obtain ⟨T1, h1, kc1, X1, e1, E1, A1, st1⟩ := newP X0 hx hZ (own_w hw 20 rfl) e0 (g := (mkF m 1 #[.val (.ref a1), .val (.int (0 : Int32)), .val (.int (2 : Int32)), .unset, .unset, .unset] [(.int (2 : Int32))])) rfl (hb hby d4_1) rfl (by decide) (cap := 2) (by decide) (by decide) (by decide) (by decide)
  obtain ⟨b1, g1⟩ : ∃ z, z = h0.size := ⟨_, rfl⟩
  rw [← g1] at A1 st1
  have ne_a1_b1_2 : a1 ≠ b1 := Nat.ne_of_lt (Nat.lt_of_lt_of_le P_V_a1.lt (Nat.le_of_eq g1.symm))
  have sz_b1 : h0.size ≤ b1 := Nat.le_trans K0.1 (Nat.le_of_eq g1.symm)
  have g_b1 : n0 ≤ b1 := Nat.le_trans Z0 sz_b1
  have V_4 := P_V_a1.ext E1
  have S_5 := P_S_java_lang_StringUTF16__assertionsDisabled.ext E1
  have S_6 := P_S_java_lang_StringUTF16_HI_BYTE_SHIFT.ext E1
  have S_7 := P_S_java_lang_StringUTF16_LO_BYTE_SHIFT.ext E1
  have V_b1 : Arv Z h1 b1 kc1 .byte (2 : Int32) [(.int (0 : Int32)), (.int (0 : Int32))] (.int (0 : Int32)) := (Arv.new A1 (by decide)).pad (pad_rep [] (.int (0 : Int32)) 2)
  have K8 : Keep h0 h1 [] := K0.ext E1
  refine own_go (B := T1.setTop (mkF m 3 #[.val (.ref a1), .val (.int (0 : Int32)), .val (.int (2 : Int32)), .unset, .unset, .unset] [(.ref b1)])) st1 ?_
  refine own_go (B := T1.setTop (mkF m 9 #[.val (.ref a1), .val (.int (0 : Int32)), .val (.int (2 : Int32)), .val (.ref b1), .unset, .unset] [(.int (2 : Int32)), (.int (0 : Int32)), (.ref b1), (.int (0 : Int32)), (.ref a1)])) (fun _ k => XS.astoreN X1.here hx rfl (hb hby d4_3) rfl rfl (l' := #[.val (.ref a1), .val (.int (0 : Int32)), .val (.int (2 : Int32)), .val (.ref b1), .unset, .unset]) rfl (XS.aloadN X1.here hx rfl (hb hby d4_4) rfl rfl (XS.iloadN X1.here hx rfl (hb hby d4_5) rfl  (XS.aloadN X1.here hx rfl (hb hby d4_6) rfl rfl (XS.iconst X1.here hx rfl (hb hby d4_7) (XS.iloadN X1.here hx rfl (hb hby d4_8) rfl  k)))))) ?_
  obtain ⟨_, _, ⟨T9, L9, k9, n9⟩, -, X9, ⟨Lc9, hQ9, l9, y9, z9⟩, st9⟩ := Jvm.LawKit.callS X1 hx (y := (⟨"java/lang/StringUTF16", "compress", "([CI[BII)I"⟩ : MethodName)) hown (mvT hZ (own_w hw 21 rfl)) (mvT hZ (own_w hw 22 rfl)) (mvT hZ (own_w hw 18 rfl)) (mvT hZ (own_w hw 23 rfl)) (by decide) (backOf (W := 0) (own_cmpI2_0 l Z a0 hw [] a1 b1 k1 kc1 c0 c1 h1 n0 (Nat.le_trans Z0 K8.1) V_4 V_b1 g_b1 ne_a1_b1_2 hg) hZ (own_w hw 23 rfl) (own_w hw 18 rfl) (by decide) (by decide)) (g := (mkF m 9 #[.val (.ref a1), .val (.int (0 : Int32)), .val (.int (2 : Int32)), .val (.ref b1), .unset, .unset] [(.int (2 : Int32)), (.int (0 : Int32)), (.ref b1), (.int (0 : Int32)), (.ref a1)])) rfl (by rw [hml]; rfl) (argsL := [(.ref a1), (.int (0 : Int32)), (.ref b1), (.int (0 : Int32)), (.int (2 : Int32))]) (rest := []) (lenOf own_pd3 rfl) rfl (by show 2 * 0 + _ ≤ _; exact Nat.le_of_eq rfl) (hb hby d4_9) (fun _ _ => ⟨rfl, e1, (by decide : 1 + 0 ≤ _), (by decide : 2 + 0 ≤ _)⟩)
  dsimp only [Pt.U, Pt.locs, Pt.cells, Pt.slots] at X9 l9 y9 z9 st9 hQ9
  subst l9 y9 z9
  obtain ⟨rfl, N9q, K9q⟩ := hQ9
  have N9 := Fr.app N0 N9q
  have V_11 := V_4.keep K9q (ninS ne_a1_b1_2 nin0)
  have S_12 := own_Sta_keep S_5 K9q (allS (own_plainV V_b1) all0)
  have S_13 := own_Sta_keep S_6 K9q (allS (own_plainV V_b1) all0)
  have S_14 := own_Sta_keep S_7 K9q (allS (own_plainV V_b1) all0)
  have K16 : Keep h0 T9.heap [] := K8.trans K9q (allS (Or.inr sz_b1) all0)
  refine own_go (B := T9.setTop (mkF m 12 #[.val (.ref a1), .val (.int (0 : Int32)), .val (.int (2 : Int32)), .val (.ref b1), .unset, .unset] [(.int (0 : Int32))])) st9 ?_
  refine own_go (B := T9.setTop (mkF m 17 #[.val (.ref a1), .val (.int (0 : Int32)), .val (.int (2 : Int32)), .val (.ref b1), .val (.int (0 : Int32)), .unset] [(.int (2 : Int32)), (.int (0 : Int32))])) (fun _ k => XS.istore X9.here hx rfl (hb hby d4_12) rfl (l' := #[.val (.ref a1), .val (.int (0 : Int32)), .val (.int (2 : Int32)), .val (.ref b1), .val (.int (0 : Int32)), .unset]) rfl (XS.iload X9.here hx rfl (hb hby d4_14) rfl  (XS.iloadN X9.here hx rfl (hb hby d4_16) rfl  k))) ?_
  have hc17 : ¬ ((0 : Int32) = (2 : Int32)) := by decide
  refine own_go (B := T9.setTop (mkF m 23 #[.val (.ref a1), .val (.int (0 : Int32)), .val (.int (2 : Int32)), .val (.ref b1), .val (.int (0 : Int32)), .unset] [(.int (2 : Int32)), (.int (0 : Int32)), (.ref a1)])) (fun _ k => XS.icmpNo X9.here hx rfl (hb hby d4_17) rfl (feq hc17).1 (XS.aloadN X9.here hx rfl (hb hby d4_20) rfl rfl (XS.iloadN X9.here hx rfl (hb hby d4_21) rfl  (XS.iloadN X9.here hx rfl (hb hby d4_22) rfl  k)))) ?_
  obtain ⟨_, _, ⟨T18, L18, k18, n18⟩, -, X18, ⟨Lc18, hQ18, l18, y18, z18⟩, st18⟩ := Jvm.LawKit.callS X9 hx (y := (⟨"java/lang/StringUTF16", "toBytes", "([CII)[B"⟩ : MethodName)) hown (mvT hZ (own_w hw 68 rfl)) (mvT hZ (own_w hw 69 rfl)) (mvT hZ (own_w hw 18 rfl)) (mvT hZ (own_w hw 70 rfl)) (by decide) (backOf (W := 0) (own_tob2 l Z a0 hw [] a1 k1 c0 c1 T9.heap n0 (Nat.le_trans Z0 K16.1) V_11 S_12 S_13 S_14) hZ (own_w hw 70 rfl) (own_w hw 18 rfl) (by decide) (by decide)) (g := (mkF m 23 #[.val (.ref a1), .val (.int (0 : Int32)), .val (.int (2 : Int32)), .val (.ref b1), .val (.int (0 : Int32)), .unset] [(.int (2 : Int32)), (.int (0 : Int32)), (.ref a1)])) rfl (by rw [hml]; rfl) (argsL := [(.ref a1), (.int (0 : Int32)), (.int (2 : Int32))]) (rest := []) (lenOf own_pd4 rfl) rfl (by show 2 * 0 + _ ≤ _; exact Nat.le_of_eq rfl) (hb hby d4_23) (fun _ _ => ⟨rfl, rfl, (by decide : 1 + 1 ≤ _), (by decide : 2 + 4 ≤ _)⟩)
  dsimp only [Pt.U, Pt.locs, Pt.cells, Pt.slots] at X18 l18 y18 z18 st18 hQ18
  subst l18 y18 z18
  obtain ⟨b_18, kb_18, rfl, N18q, K18q, Q18_0, x18_0⟩ := hQ18
  have N18 := Fr.app N9 N18q
  have ne_a1_b_18_19 : a1 ≠ b_18 := Nat.ne_of_lt (Nat.lt_of_lt_of_le V_11.lt x18_0)
  have sz_b_18 : h0.size ≤ b_18 := Nat.le_trans K16.1 x18_0
  have g_b_18 : n0 ≤ b_18 := Nat.le_trans Z0 sz_b_18
  have V_21 := V_11.keep K18q nin0
  have S_22 := own_Sta_keep S_12 K18q all0
  have S_23 := own_Sta_keep S_13 K18q all0
  have S_24 := own_Sta_keep S_14 K18q all0
  have K25 : Keep h0 T18.heap [] := K16.trans K18q all0
  refine own_go (B := T18.setTop (mkF m 26 #[.val (.ref a1), .val (.int (0 : Int32)), .val (.int (2 : Int32)), .val (.ref b1), .val (.int (0 : Int32)), .unset] [(.ref b_18)])) st18 ?_
  refine own_go (B := T18.setTop (mkF m 32 #[.val (.ref a1), .val (.int (0 : Int32)), .val (.int (2 : Int32)), .val (.ref b1), .val (.int (0 : Int32)), .val (.ref b_18)] [(.int (0 : Int32)), (.ref b_18)])) (fun _ k => XS.astore X18.here hx rfl (hb hby d4_26) rfl rfl (l' := #[.val (.ref a1), .val (.int (0 : Int32)), .val (.int (2 : Int32)), .val (.ref b1), .val (.int (0 : Int32)), .val (.ref b_18)]) rfl (XS.aload X18.here hx rfl (hb hby d4_28) rfl rfl (XS.iload X18.here hx rfl (hb hby d4_30) rfl  k))) ?_
  obtain ⟨_, _, ⟨T26, L26, k26, n26⟩, -, X26, ⟨Lc26, hQ26, l26, y26, z26⟩, st26⟩ := Jvm.LawKit.callS X18 hx (y := (⟨"java/lang/StringUTF16", "getChar", "([BI)C"⟩ : MethodName)) hown (mvT hZ (own_w hw 84 rfl)) (mvT hZ (own_w hw 85 rfl)) (mvT hZ (own_w hw 18 rfl)) (mvT hZ (own_w hw 86 rfl)) (by decide) (backOf (W := 0) (own_get2_0 l Z a0 hw [] b_18 kb_18 ((c0 >>> ((0 : Int32) &&& 31)).toInt8.toInt32) ((c0 >>> ((8 : Int32) &&& 31)).toInt8.toInt32) ((c1 >>> ((0 : Int32) &&& 31)).toInt8.toInt32) ((c1 >>> ((8 : Int32) &&& 31)).toInt8.toInt32) T18.heap n0 (Nat.le_trans Z0 K25.1) Q18_0 S_22 S_23 S_24) hZ (own_w hw 86 rfl) (own_w hw 18 rfl) (by decide) (by decide)) (g := (mkF m 32 #[.val (.ref a1), .val (.int (0 : Int32)), .val (.int (2 : Int32)), .val (.ref b1), .val (.int (0 : Int32)), .val (.ref b_18)] [(.int (0 : Int32)), (.ref b_18)])) rfl (by rw [hml]; rfl) (argsL := [(.ref b_18), (.int (0 : Int32))]) (rest := []) (lenOf own_pd7 rfl) rfl (by show 2 * 0 + _ ≤ _; exact Nat.le_of_eq rfl) (hb hby d4_32) (fun _ _ => ⟨rfl, rfl, (by decide : 2 + 0 ≤ _), (by decide : 6 + 0 ≤ _)⟩)
  dsimp only [Pt.U, Pt.locs, Pt.cells, Pt.slots] at X26 l26 y26 z26 st26 hQ26
  subst l26 y26 z26
  obtain ⟨rfl, N26q, e26⟩ := hQ26
  have N26 := Fr.app N18 N26q
  refine own_go (B := T26.setTop (mkF m 35 #[.val (.ref a1), .val (.int (0 : Int32)), .val (.int (2 : Int32)), .val (.ref b1), .val (.int (0 : Int32)), .val (.ref b_18)] [(.int ((((((c0 >>> ((0 : Int32) &&& 31)).toInt8.toInt32) &&& (255 : Int32)) <<< ((0 : Int32) &&& 31)) ||| ((((c0 >>> ((8 : Int32) &&& 31)).toInt8.toInt32) &&& (255 : Int32)) <<< ((8 : Int32) &&& 31))).toUInt32.toUInt16.toUInt32.toInt32))])) st26 ?_
  refine own_go (B := T26.setTop (mkF m 38 #[.val (.ref a1), .val (.int (0 : Int32)), .val (.int (2 : Int32)), .val (.ref b1), .val (.int (0 : Int32)), .val (.ref b_18)] [(.int (255 : Int32)), (.int ((((((c0 >>> ((0 : Int32) &&& 31)).toInt8.toInt32) &&& (255 : Int32)) <<< ((0 : Int32) &&& 31)) ||| ((((c0 >>> ((8 : Int32) &&& 31)).toInt8.toInt32) &&& (255 : Int32)) <<< ((8 : Int32) &&& 31))).toUInt32.toUInt16.toUInt32.toInt32))])) (fun _ k => XS.sipush X26.here hx rfl (hb hby d4_35) k) ?_
  have hc27 : (255 : Int32) < ((((((c0 >>> ((0 : Int32) &&& 31)).toInt8.toInt32) &&& (255 : Int32)) <<< ((0 : Int32) &&& 31)) ||| ((((c0 >>> ((8 : Int32) &&& 31)).toInt8.toInt32) &&& (255 : Int32)) <<< ((8 : Int32) &&& 31))).toUInt32.toUInt16.toUInt32.toInt32) := (own_pl_cmpB2_0_1 c0 hg hl hu)
  refine own_go (B := T26.setTop (mkF m 56 #[.val (.ref a1), .val (.int (0 : Int32)), .val (.int (2 : Int32)), .val (.ref b1), .val (.int (0 : Int32)), .val (.ref b_18)] [(.ref b_18)])) (fun _ k => XS.icmpYes X26.here hx rfl (pc0 := 38) (pc' := 54) rfl (hb hby d4_38) rfl (tlt hc27).2.2.1 (by decide) (by decide) (XS.aload X26.here hx rfl (hb hby d4_54) rfl rfl k)) ?_
  exact own_retA X26 hx Bd.notSynchronized Bd.returns rfl rfl (hb hby d4_56) e26 ⟨b_18, kb_18, ((c0 >>> ((0 : Int32) &&& 31)).toInt8.toInt32), ((c0 >>> ((8 : Int32) &&& 31)).toInt8.toInt32), ((c1 >>> ((0 : Int32) &&& 31)).toInt8.toInt32), ((c1 >>> ((8 : Int32) &&& 31)).toInt8.toInt32), rfl, N26, K25, Q18_0, sz_b_18⟩ (by decide) (by decide)
abbrev R_own_cod16_2 : Room := { frames := 0, cells := 0, slots := 0, locals := 0 }
theorem ef_own_cod16_2 (m : MethodId) (x0 : Addr) : entryFrame m #[(.ref x0), (.int (2 : Int32))] 2 = mkF m 0 #[.val (.ref x0), .val (.int (2 : Int32))] [] := by first | (simp [entryFrame, mkF, argsToLocals, Value.category]; done) | rfl
def Q_own_cod16_2 (Z : State) (a1 : Addr) (k1 : ClassId) (v0 : Int32) (v1 : Int32) (v2 : Int32) (v3 : Int32) (h0 : Heap) (n0 : Nat) (v : Option Value) (h : Heap) (L : List Loc) : Prop := v = some (.int (1 : Int32)) ∧ Fr n0 L ∧ h = h0
set_option maxRecDepth 65536 in
set_option maxHeartbeats 400000000 in
theorem own_cod16_2 (l : Launch) (Z : State) (a0 : Array Value) (hw : ∀ d ∈ tables_1, d.before a0 Z = true) (ws : List Jvm.Cond) (a1 : Addr) (k1 : ClassId) (v0 : Int32) (v1 : Int32) (v2 : Int32) (v3 : Int32) (h0 : Heap) (n0 : Nat) (Z0 : n0 ≤ h0.size) (P_V_a1 : Arv Z h0 a1 k1 .byte (4 : Int32) [(.int v0), (.int v1), (.int v2), (.int v3)] (.int (0 : Int32))) :
    MetFree l (⟨"java/lang/StringUTF16", "coderFromArrayLen", "([BI)B"⟩ : MethodName) (head1 (Jvm.Cond.code (⟨"java/lang/StringUTF16", "coderFromArrayLen", "([BI)B"⟩ : MethodName) jdk_52_method_15_code 2 (some .byte) :: ws) R_own_cod16_2) (fun a U => a = #[(.ref a1), (.int (2 : Int32))] ∧ Z.Warmed39 U.vm ∧ U.heap = h0) (fun _ _ _ _ _ => True) (fun _ U o U' => ∃ v L, o = .returned v ∧ Q_own_cod16_2 Z a1 k1 v0 v1 v2 v3 h0 n0 v U'.heap L ∧ FrameEnd U o U' L R_own_cod16_2.cells R_own_cod16_2.slots) := by
  refine MetFree.of_bodySF (plainFor_of_name own_pn0) hisR ?_
  intro p e s m args below meth c s₁ Bd hml0 hP hK
  obtain ⟨rfl, hZ, hh⟩ := hP
  have hx := Bd.exec
  have hby := Bd.bytes
  have hml : c.maxLocals = 2 := hml0
  have hown : s.vm.findClass "java/lang/StringUTF16" = some m.cls := findClass_of_methodNamed Bd.named
  have hnm := (name_of_methodNamed Bd.named Bd.method).1
  have X0 : Stand p l e R_own_cod16_2 s m #[(.ref a1), (.int (2 : Int32))] below meth c s₁ [] 0 0 := Stand.of_body Bd
  have e0 : s₁.heap = h0 := by rw [← hh, Bd.state]; rfl
  have N0 := Fr.nil n0
  have K0 : Keep h0 h0 [] := Keep.refl h0 []
  show own_Fin p e below s (Q_own_cod16_2 Z a1 k1 v0 v1 v2 v3 h0 n0) R_own_cod16_2.cells R_own_cod16_2.slots (s₁.setTop (entryFrame m #[(.ref a1), (.int (2 : Int32))] 2))
  refine own_go (fun _ k => castTop (ef_own_cod16_2 m a1) k) ?_
  show own_Fin _ _ _ _ _ _ _ (s₁.setTop (mkF m 0 #[.val (.ref a1), .val (.int (2 : Int32))] []))
  refine own_go (B := s₁.setTop (mkF m 2 #[.val (.ref a1), .val (.int (2 : Int32))] [(.ref a1), (.int (2 : Int32))])) (fun _ k => XS.iloadN X0.here hx rfl (hb hby d6_0) rfl  (XS.aloadN X0.here hx rfl (hb hby d6_1) rfl rfl k)) ?_
  obtain ⟨cl1, Ar1, q1, S1, N1n, H1, G1⟩ := id P_V_a1
  refine own_go (fun _ k => X0.arraylength hx (own_hc e0 Ar1.1) (State.isArrayOf_alike hZ.alike Ar1.2.1) (g := (mkF m 2 #[.val (.ref a1), .val (.int (2 : Int32))] [(.ref a1), (.int (2 : Int32))])) rfl rfl (hb hby d6_2) _ k) ?_
  rw [len_of S1 N1n]
  show own_Fin _ _ _ _ _ _ _ (s₁.setTop (mkF m 3 #[.val (.ref a1), .val (.int (2 : Int32))] [(.int (4 : Int32)), (.int (2 : Int32))]))
  refine own_go (B := s₁.setTop (mkF m 4 #[.val (.ref a1), .val (.int (2 : Int32))] [(.int ((2 : Int32) - (4 : Int32)))])) (fun _ k => XS.isub X0.here hx rfl (hb hby d6_3) rfl k) ?_
  rw [show ((2 : Int32) - (4 : Int32)) = (-2 : Int32) from by decide]
  show own_Fin _ _ _ _ _ _ _ (s₁.setTop (mkF m 4 #[.val (.ref a1), .val (.int (2 : Int32))] [(.int (-2 : Int32))]))
  refine own_go (B := s₁.setTop (mkF m 7 #[.val (.ref a1), .val (.int (2 : Int32))] [(.int (((-2 : Int32).toUInt32 >>> ((31 : Int32) &&& 31).toUInt32).toInt32))])) (fun _ k => XS.bipush X0.here hx rfl (hb hby d6_4) (XS.iushr X0.here hx rfl (hb hby d6_6) rfl k)) ?_
  rw [show (((-2 : Int32).toUInt32 >>> ((31 : Int32) &&& 31).toUInt32).toInt32) = (1 : Int32) from by decide]
  show own_Fin _ _ _ _ _ _ _ (s₁.setTop (mkF m 7 #[.val (.ref a1), .val (.int (2 : Int32))] [(.int (1 : Int32))]))
  refine own_go (B := s₁.setTop (mkF m 8 #[.val (.ref a1), .val (.int (2 : Int32))] [(.int ((1 : Int32).toInt8.toInt32))])) (fun _ k => XS.i2b X0.here hx rfl (hb hby d6_7) rfl k) ?_
  rw [show ((1 : Int32).toInt8.toInt32) = (1 : Int32) from by decide]
  show own_Fin _ _ _ _ _ _ _ (s₁.setTop (mkF m 8 #[.val (.ref a1), .val (.int (2 : Int32))] [(.int (1 : Int32))]))
  exact own_retN X0 hx Bd.notSynchronized (t := .byte) (w := (1 : Int32)) Bd.returns (by simp) (hb hby d6_8) e0 rfl ⟨rfl, N0, rfl⟩ (by decide) (by decide)
abbrev R_own_str4_2_0 : Room := { frames := 4, cells := 2, slots := 6, locals := 57 }
theorem ef_own_str4_2_0 (m : MethodId) (x0 : Addr) (x1 : Addr) : entryFrame m #[(.ref x0), (.ref x1), (.int (0 : Int32)), (.int (2 : Int32)), .null] 6 = mkF m 0 #[.val (.ref x0), .val (.ref x1), .val (.int (0 : Int32)), .val (.int (2 : Int32)), .val .null, .unset] [] := by first | (simp [entryFrame, mkF, argsToLocals, Value.category]; done) | rfl
def Q_own_str4_2_0 (Z : State) (a1 : Addr) (a2 : Addr) (k2 : ClassId) (c0 : Int32) (c1 : Int32) (cs : Int32) (h0 : Heap) (n0 : Nat) (v : Option Value) (h : Heap) (L : List Loc) : Prop := ∃ t : Addr, ∃ kt : ClassId, ∃ u0 : Int32, ∃ u1 : Int32, ∃ u2 : Int32, ∃ u3 : Int32, v = none ∧ Fr n0 L ∧ Keep h0 h [a1] ∧ Exa Z h a1 "java/lang/String" ∧ Fld Z h a1 "java/lang/String" "value" "[B" (.ref t) ∧ Fld Z h a1 "java/lang/String" "coder" "B" (.int (1 : Int32)) ∧ Arv Z h t kt .byte (4 : Int32) [(.int u0), (.int u1), (.int u2), (.int u3)] (.int (0 : Int32)) ∧ (h0.size ≤ t)
set_option maxRecDepth 65536 in
set_option maxHeartbeats 400000000 in
theorem own_str4_2_0 (l : Launch) (Z : State) (a0 : Array Value) (hw : ∀ d ∈ tables_1, d.before a0 Z = true) (ws : List Jvm.Cond) (a1 : Addr) (a2 : Addr) (k2 : ClassId) (c0 : Int32) (c1 : Int32) (cs : Int32) (h0 : Heap) (n0 : Nat) (Z0 : n0 ≤ h0.size) (P_E_a1 : Exa Z h0 a1 "java/lang/String") (P_F_a1_value : Fld Z h0 a1 "java/lang/String" "value" "[B" .null) (P_F_a1_coder : Fld Z h0 a1 "java/lang/String" "coder" "B" (.int (0 : Int32))) (P_V_a2 : Arv Z h0 a2 k2 .char (2 : Int32) [(.int c0), (.int c1)] (.int (0 : Int32))) (g_a1 : n0 ≤ a1) (ne_a1_a2 : a1 ≠ a2) (P_S_java_lang_String_COMPACT_STRINGS : Sta Z h0 "java/lang/String" "COMPACT_STRINGS" "Z" (.int cs)) (hcs : ¬ (cs = (0 : Int32))) (P_S_java_lang_StringUTF16__assertionsDisabled : Sta Z h0 "java/lang/StringUTF16" "$assertionsDisabled" "Z" (.int (1 : Int32))) (P_S_java_lang_StringUTF16_HI_BYTE_SHIFT : Sta Z h0 "java/lang/StringUTF16" "HI_BYTE_SHIFT" "I" (.int (0 : Int32))) (P_S_java_lang_StringUTF16_LO_BYTE_SHIFT : Sta Z h0 "java/lang/StringUTF16" "LO_BYTE_SHIFT" "I" (.int (8 : Int32))) (hg : ¬ (c0.toInt ≤ 255)) (hl : 0 ≤ c0.toInt) (hu : c0.toInt ≤ 65535) :
    MetFree l (⟨"java/lang/String", "<init>", "([CIILjava/lang/Void;)V"⟩ : MethodName) (head1 (Jvm.Cond.code (⟨"java/lang/String", "<init>", "([CIILjava/lang/Void;)V"⟩ : MethodName) jdk_42_method_149_code 6 none :: ws) R_own_str4_2_0) (fun a U => a = #[(.ref a1), (.ref a2), (.int (0 : Int32)), (.int (2 : Int32)), .null] ∧ Z.Warmed39 U.vm ∧ U.heap = h0) (fun _ _ _ _ _ => True) (fun _ U o U' => ∃ v L, o = .returned v ∧ Q_own_str4_2_0 Z a1 a2 k2 c0 c1 cs h0 n0 v U'.heap L ∧ FrameEnd U o U' L R_own_str4_2_0.cells R_own_str4_2_0.slots) := by
  refine MetFree.of_bodySF (plainFor_of_name own_pn1) hisR ?_
  intro p e s m args below meth c s₁ Bd hml0 hP hK
  obtain ⟨rfl, hZ, hh⟩ := hP
  have hx := Bd.exec
  have hby := Bd.bytes
  have hml : c.maxLocals = 6 := hml0
  have hown : s.vm.findClass "java/lang/String" = some m.cls := findClass_of_methodNamed Bd.named
  have hnm := (name_of_methodNamed Bd.named Bd.method).1
  have X0 : Stand p l e R_own_str4_2_0 s m #[(.ref a1), (.ref a2), (.int (0 : Int32)), (.int (2 : Int32)), .null] below meth c s₁ [] 0 0 := Stand.of_body Bd
  have e0 : s₁.heap = h0 := by rw [← hh, Bd.state]; rfl
  have N0 := Fr.nil n0
  have K0 : Keep h0 h0 [a1] := Keep.refl h0 [a1]
  show own_Fin p e below s (Q_own_str4_2_0 Z a1 a2 k2 c0 c1 cs h0 n0) R_own_str4_2_0.cells R_own_str4_2_0.slots (s₁.setTop (entryFrame m #[(.ref a1), (.ref a2), (.int (0 : Int32)), (.int (2 : Int32)), .null] 6))
  refine own_go (fun _ k => castTop (ef_own_str4_2_0 m a1 a2) k) ?_
  show own_Fin _ _ _ _ _ _ _ (s₁.setTop (mkF m 0 #[.val (.ref a1), .val (.ref a2), .val (.int (0 : Int32)), .val (.int (2 : Int32)), .val .null, .unset] []))
  refine own_go (B := s₁.setTop (mkF m 1 #[.val (.ref a1), .val (.ref a2), .val (.int (0 : Int32)), .val (.int (2 : Int32)), .val .null, .unset] [(.ref a1)])) (fun _ k => XS.aloadN X0.here hx rfl (hb hby d2_0) rfl rfl k) ?_
  obtain ⟨T1, X1, e1, st1⟩ := initO X0 hx hZ hown (own_w hw 12 rfl) (own_w hw 13 rfl) (own_w hw 14 rfl) e0 (g := (mkF m 1 #[.val (.ref a1), .val (.ref a2), .val (.int (0 : Int32)), .val (.int (2 : Int32)), .val .null, .unset] [(.ref a1)])) rfl (by rw [hml]; rfl) rfl (hb hby d2_1) (by decide) (W := 0) (by show 2 * 0 + _ ≤ _; exact Nat.le_of_eq rfl) (by decide)
  refine own_go (B := T1.setTop (mkF m 4 #[.val (.ref a1), .val (.ref a2), .val (.int (0 : Int32)), .val (.int (2 : Int32)), .val .null, .unset] [])) st1 ?_
  refine own_go (B := T1.setTop (mkF m 5 #[.val (.ref a1), .val (.ref a2), .val (.int (0 : Int32)), .val (.int (2 : Int32)), .val .null, .unset] [(.int (2 : Int32))])) (fun _ k => XS.iloadN X1.here hx rfl (hb hby d2_4) rfl  k) ?_
  have hc2 : ¬ ((2 : Int32) = (0 : Int32)) := by decide
  refine own_go (B := T1.setTop (mkF m 27 #[.val (.ref a1), .val (.ref a2), .val (.int (0 : Int32)), .val (.int (2 : Int32)), .val .null, .unset] [])) (fun _ k => XS.ifYes X1.here hx rfl (pc0 := 5) (pc' := 27) rfl (hb hby d2_5) rfl ((if0 _ _).trans (feq hc2).2) (by decide) (by decide) k) ?_
  obtain ⟨T3, X3, e3, st3⟩ := getS2 X1 hx hZ hown (host := "") (Or.inl (own_w hw 15 rfl)) Via.refl e1 P_S_java_lang_String_COMPACT_STRINGS (g := (mkF m 27 #[.val (.ref a1), .val (.ref a2), .val (.int (0 : Int32)), .val (.int (2 : Int32)), .val .null, .unset] [])) rfl (hb hby d2_27)
  refine own_go (B := T3.setTop (mkF m 30 #[.val (.ref a1), .val (.ref a2), .val (.int (0 : Int32)), .val (.int (2 : Int32)), .val .null, .unset] [(.int cs)])) st3 ?_
  refine own_go (B := T3.setTop (mkF m 36 #[.val (.ref a1), .val (.ref a2), .val (.int (0 : Int32)), .val (.int (2 : Int32)), .val .null, .unset] [(.int (2 : Int32)), (.int (0 : Int32)), (.ref a2)])) (fun _ k => XS.ifNo X3.here hx rfl (hb hby d2_30) rfl ((if0 _ _).trans (feq hcs).1) (XS.aloadN X3.here hx rfl (hb hby d2_33) rfl rfl (XS.iloadN X3.here hx rfl (hb hby d2_34) rfl  (XS.iloadN X3.here hx rfl (hb hby d2_35) rfl  k)))) ?_
  obtain ⟨_, _, ⟨T4, L4, k4, n4⟩, -, X4, ⟨Lc4, hQ4, l4, y4, z4⟩, st4⟩ := Jvm.LawKit.callS X3 hx (y := (⟨"java/lang/StringUTF16", "compress", "([CII)[B"⟩ : MethodName)) hown (mvT hZ (own_w hw 16 rfl)) (mvT hZ (own_w hw 17 rfl)) (mvT hZ (own_w hw 18 rfl)) (mvT hZ (own_w hw 19 rfl)) (by decide) (backOf (W := 0) (own_cmpB2_0 l Z a0 hw [] a2 k2 c0 c1 h0 n0 (Nat.le_trans Z0 K0.1) P_V_a2 P_S_java_lang_StringUTF16__assertionsDisabled P_S_java_lang_StringUTF16_HI_BYTE_SHIFT P_S_java_lang_StringUTF16_LO_BYTE_SHIFT hg hl hu) hZ (own_w hw 19 rfl) (own_w hw 18 rfl) (by decide) (by decide)) (g := (mkF m 36 #[.val (.ref a1), .val (.ref a2), .val (.int (0 : Int32)), .val (.int (2 : Int32)), .val .null, .unset] [(.int (2 : Int32)), (.int (0 : Int32)), (.ref a2)])) rfl (by rw [hml]; rfl) (argsL := [(.ref a2), (.int (0 : Int32)), (.int (2 : Int32))]) (rest := []) (lenOf own_pd4 rfl) rfl (by show 2 * 0 + _ ≤ _; exact Nat.le_of_eq rfl) (hb hby d2_36) (fun _ _ => ⟨rfl, e3, (by decide : 0 + 2 ≤ _), (by decide : 0 + 6 ≤ _)⟩)
  dsimp only [Pt.U, Pt.locs, Pt.cells, Pt.slots] at X4 l4 y4 z4 st4 hQ4
  subst l4 y4 z4
  obtain ⟨b_4, kb_4, u0_4, u1_4, u2_4, u3_4, rfl, N4q, K4q, Q4_0, x4_0⟩ := hQ4
  have N4 := Fr.app N0 N4q
  have ne_a1_b_4_5 : a1 ≠ b_4 := Nat.ne_of_lt (Nat.lt_of_lt_of_le P_E_a1.lt x4_0)
  have ne_a2_b_4_6 : a2 ≠ b_4 := Nat.ne_of_lt (Nat.lt_of_lt_of_le P_V_a2.lt x4_0)
  have sz_b_4 : h0.size ≤ b_4 := Nat.le_trans K0.1 x4_0
  have g_b_4 : n0 ≤ b_4 := Nat.le_trans Z0 sz_b_4
  have E_8 := P_E_a1.keep K4q
  have F_9 := P_F_a1_value.keep K4q nin0
  have F_10 := P_F_a1_coder.keep K4q nin0
  have V_11 := P_V_a2.keep K4q nin0
  have S_12 := own_Sta_keep P_S_java_lang_String_COMPACT_STRINGS K4q all0
  have S_13 := own_Sta_keep P_S_java_lang_StringUTF16__assertionsDisabled K4q all0
  have S_14 := own_Sta_keep P_S_java_lang_StringUTF16_HI_BYTE_SHIFT K4q all0
  have S_15 := own_Sta_keep P_S_java_lang_StringUTF16_LO_BYTE_SHIFT K4q all0
  have K16 : Keep h0 T4.heap [a1] := K0.trans K4q all0
  refine own_go (B := T4.setTop (mkF m 39 #[.val (.ref a1), .val (.ref a2), .val (.int (0 : Int32)), .val (.int (2 : Int32)), .val .null, .unset] [(.ref b_4)])) st4 ?_
  refine own_go (B := T4.setTop (mkF m 45 #[.val (.ref a1), .val (.ref a2), .val (.int (0 : Int32)), .val (.int (2 : Int32)), .val .null, .val (.ref b_4)] [(.int (2 : Int32)), (.ref b_4), (.ref a1)])) (fun _ k => XS.astore X4.here hx rfl (hb hby d2_39) rfl rfl (l' := #[.val (.ref a1), .val (.ref a2), .val (.int (0 : Int32)), .val (.int (2 : Int32)), .val .null, .val (.ref b_4)]) rfl (XS.aloadN X4.here hx rfl (hb hby d2_41) rfl rfl (XS.aload X4.here hx rfl (hb hby d2_42) rfl rfl (XS.iloadN X4.here hx rfl (hb hby d2_44) rfl  k)))) ?_
  obtain ⟨_, _, ⟨T17, L17, k17, n17⟩, -, X17, ⟨Lc17, hQ17, l17, y17, z17⟩, st17⟩ := Jvm.LawKit.callS X4 hx (y := (⟨"java/lang/StringUTF16", "coderFromArrayLen", "([BI)B"⟩ : MethodName)) hown (mvT hZ (own_w hw 24 rfl)) (mvT hZ (own_w hw 25 rfl)) (mvT hZ (own_w hw 18 rfl)) (mvT hZ (own_w hw 26 rfl)) (by decide) (backOf (W := 1) (own_cod16_2 l Z a0 hw [] b_4 kb_4 u0_4 u1_4 u2_4 u3_4 T4.heap n0 (Nat.le_trans Z0 K16.1) Q4_0) hZ (own_w hw 26 rfl) (own_w hw 18 rfl) (by decide) (by decide)) (g := (mkF m 45 #[.val (.ref a1), .val (.ref a2), .val (.int (0 : Int32)), .val (.int (2 : Int32)), .val .null, .val (.ref b_4)] [(.int (2 : Int32)), (.ref b_4), (.ref a1)])) rfl (by rw [hml]; rfl) (argsL := [(.ref b_4), (.int (2 : Int32))]) (rest := [(.ref a1)]) (lenOf own_pd5 rfl) rfl (by show 2 * 0 + _ ≤ _; exact Nat.le_of_eq rfl) (hb hby d2_45) (fun _ _ => ⟨rfl, rfl, (by decide : 2 + 0 ≤ _), (by decide : 6 + 0 ≤ _)⟩)
  dsimp only [Pt.U, Pt.locs, Pt.cells, Pt.slots] at X17 l17 y17 z17 st17 hQ17
  subst l17 y17 z17
  obtain ⟨rfl, N17q, e17⟩ := hQ17
  have N17 := Fr.app N4 N17q
  refine own_go (B := T17.setTop (mkF m 48 #[.val (.ref a1), .val (.ref a2), .val (.int (0 : Int32)), .val (.int (2 : Int32)), .val .null, .val (.ref b_4)] [(.int (1 : Int32)), (.ref a1)])) st17 ?_
  obtain ⟨T18, h18, X18, e18, W18, st18⟩ := putFN X17 hx hZ hown (own_w hw 27 rfl) Via.refl e17 F_10 E_8 (Or.inr ⟨(own_w hw 28 rfl), rfl, hnm⟩) (own_w hw 2 rfl) (ty := .byte) (v' := (.int (1 : Int32))) (by decide) rfl rfl (g := (mkF m 48 #[.val (.ref a1), .val (.ref a2), .val (.int (0 : Int32)), .val (.int (2 : Int32)), .val .null, .val (.ref b_4)] [(.int (1 : Int32)), (.ref a1)])) rfl rfl (hb hby d2_48)
  have F_w18 : Fld Z h18 a1 "java/lang/String" "coder" "B" (.int (1 : Int32)) := F_10.same W18
  have E_20 := E_8.wr W18
  have F_21 := F_9.other W18 (Or.inr (slot_ne (Or.inr (own_w hw 30 rfl)) (Or.inr (own_w hw 28 rfl)) (by decide) (t := (.array .byte)) (t' := .byte) (by decide) (by decide)))
  have V_23 := V_11.other W18 (Ne.symm ne_a1_a2)
  have S_24 := S_12.wr W18
  have S_25 := S_13.wr W18
  have S_26 := S_14.wr W18
  have S_27 := S_15.wr W18
  have V_28 := Q4_0.other W18 (Ne.symm ne_a1_b_4_5)
  have K29 : Keep h0 h18 [a1] := K16.wr W18 (Or.inl (List.mem_of_getElem? (i := 0) rfl))
  have N18 := Fr.snoc X18 N17 g_a1
  refine own_go (B := T18.setTop (mkF m 51 #[.val (.ref a1), .val (.ref a2), .val (.int (0 : Int32)), .val (.int (2 : Int32)), .val .null, .val (.ref b_4)] [])) st18 ?_
  refine own_go (B := T18.setTop (mkF m 54 #[.val (.ref a1), .val (.ref a2), .val (.int (0 : Int32)), .val (.int (2 : Int32)), .val .null, .val (.ref b_4)] [(.ref b_4), (.ref a1)])) (fun _ k => XS.aloadN X18.here hx rfl (hb hby d2_51) rfl rfl (XS.aload X18.here hx rfl (hb hby d2_52) rfl rfl k)) ?_
  obtain ⟨T30, h30, X30, e30, W30, st30⟩ := putF X18 hx hZ hown (host := "") (Or.inl (own_w hw 29 rfl)) Via.refl e18 F_21 E_20 (Or.inr ⟨(own_w hw 30 rfl), rfl, hnm⟩) (own_w hw 2 rfl) (ty := (.array .byte)) (by decide) rfl rfl (g := (mkF m 54 #[.val (.ref a1), .val (.ref a2), .val (.int (0 : Int32)), .val (.int (2 : Int32)), .val .null, .val (.ref b_4)] [(.ref b_4), (.ref a1)])) rfl rfl (hb hby d2_54)
  have F_w30 : Fld Z h30 a1 "java/lang/String" "value" "[B" (.ref b_4) := F_21.same W30
  have E_32 := E_20.wr W30
  have V_34 := V_23.other W30 (Ne.symm ne_a1_a2)
  have S_35 := S_24.wr W30
  have S_36 := S_25.wr W30
  have S_37 := S_26.wr W30
  have S_38 := S_27.wr W30
  have V_39 := V_28.other W30 (Ne.symm ne_a1_b_4_5)
  have F_40 := F_w18.other W30 (Or.inr (slot_ne (Or.inr (own_w hw 28 rfl)) (Or.inr (own_w hw 30 rfl)) (by decide) (t := .byte) (t' := (.array .byte)) (by decide) (by decide)))
  have K41 : Keep h0 h30 [a1] := K29.wr W30 (Or.inl (List.mem_of_getElem? (i := 0) rfl))
  have N30 := Fr.snoc X30 N18 g_a1
  refine own_go (B := T30.setTop (mkF m 57 #[.val (.ref a1), .val (.ref a2), .val (.int (0 : Int32)), .val (.int (2 : Int32)), .val .null, .val (.ref b_4)] [])) st30 ?_
  exact own_retV X30 hx Bd.notSynchronized Bd.returns (hb hby d2_57) e30 ⟨b_4, kb_4, u0_4, u1_4, u2_4, u3_4, rfl, N30, K41, E_32, F_w30, F_40, V_39, x4_0⟩ (by decide) (by decide)
abbrev R_own_cmpI2_1 : Room := { frames := 0, cells := 0, slots := 0, locals := 0 }
theorem ef_own_cmpI2_1 (m : MethodId) (x0 : Addr) (x2 : Addr) : entryFrame m #[(.ref x0), (.int (0 : Int32)), (.ref x2), (.int (0 : Int32)), (.int (2 : Int32))] 7 = mkF m 0 #[.val (.ref x0), .val (.int (0 : Int32)), .val (.ref x2), .val (.int (0 : Int32)), .val (.int (2 : Int32)), .unset, .unset] [] := by first | (simp [entryFrame, mkF, argsToLocals, Value.category]; done) | rfl
set_option maxRecDepth 65536 in
set_option maxHeartbeats 4000000 in
theorem own_pl_cmpI2_1_1 (c0 : Int32) (c1 : Int32) (hh0 : c0.toInt ≤ 255) (hg : ¬ (c1.toInt ≤ 255)) : ¬ ((255 : Int32) < c0) := by
  have := rng32 c0
  have := rng32 c1
  try simp only [own_i32_255] at *
  have := own_i32_255
  try simp only [Int32.lt_iff_toInt_lt, Int32.le_iff_toInt_le, Int64.lt_iff_toInt_lt, Int64.le_iff_toInt_le, ← Int32.toInt_inj, ← Int64.toInt_inj, true_and, and_true, true_or, or_true, false_or, or_false, not_true_eq_false, not_false_eq_true, false_and, and_false, ne_eq] at *
  all_goals first | omega | (simp; done)
set_option maxRecDepth 65536 in
set_option maxHeartbeats 4000000 in
theorem own_pl_cmpI2_1_2 (c0 : Int32) (c1 : Int32) (hh0 : c0.toInt ≤ 255) (hg : ¬ (c1.toInt ≤ 255)) (hc4 : ¬ ((255 : Int32) < c0)) : (255 : Int32) < c1 := by
  have := rng32 c0
  have := rng32 c1
  try simp only [own_i32_255] at *
  have := own_i32_255
  try simp only [Int32.lt_iff_toInt_lt, Int32.le_iff_toInt_le, Int64.lt_iff_toInt_lt, Int64.le_iff_toInt_le, ← Int32.toInt_inj, ← Int64.toInt_inj, true_and, and_true, true_or, or_true, false_or, or_false, not_true_eq_false, not_false_eq_true, false_and, and_false, ne_eq] at *
  all_goals first | omega | (simp; done)
def Q_own_cmpI2_1 (Z : State) (a1 : Addr) (a3 : Addr) (k1 : ClassId) (k3 : ClassId) (c0 : Int32) (c1 : Int32) (h0 : Heap) (n0 : Nat) (v : Option Value) (h : Heap) (L : List Loc) : Prop := v = some (.int (1 : Int32)) ∧ Fr n0 L ∧ Keep h0 h [a3]
set_option maxRecDepth 65536 in
set_option maxHeartbeats 400000000 in
theorem own_cmpI2_1 (l : Launch) (Z : State) (a0 : Array Value) (hw : ∀ d ∈ tables_1, d.before a0 Z = true) (ws : List Jvm.Cond) (a1 : Addr) (a3 : Addr) (k1 : ClassId) (k3 : ClassId) (c0 : Int32) (c1 : Int32) (h0 : Heap) (n0 : Nat) (Z0 : n0 ≤ h0.size) (P_V_a1 : Arv Z h0 a1 k1 .char (2 : Int32) [(.int c0), (.int c1)] (.int (0 : Int32))) (P_V_a3 : Arv Z h0 a3 k3 .byte (2 : Int32) [(.int (0 : Int32)), (.int (0 : Int32))] (.int (0 : Int32))) (g_a3 : n0 ≤ a3) (ne_a1_a3 : a1 ≠ a3) (hh0 : c0.toInt ≤ 255) (hg : ¬ (c1.toInt ≤ 255)) :
    MetFree l (⟨"java/lang/StringUTF16", "compress", "([CI[BII)I"⟩ : MethodName) (head1 (Jvm.Cond.code (⟨"java/lang/StringUTF16", "compress", "([CI[BII)I"⟩ : MethodName) jdk_52_method_21_code 7 (some .int) :: ws) R_own_cmpI2_1) (fun a U => a = #[(.ref a1), (.int (0 : Int32)), (.ref a3), (.int (0 : Int32)), (.int (2 : Int32))] ∧ Z.Warmed39 U.vm ∧ U.heap = h0) (fun _ _ _ _ _ => True) (fun _ U o U' => ∃ v L, o = .returned v ∧ Q_own_cmpI2_1 Z a1 a3 k1 k3 c0 c1 h0 n0 v U'.heap L ∧ FrameEnd U o U' L R_own_cmpI2_1.cells R_own_cmpI2_1.slots) := by
  refine MetFree.of_bodySF (plainFor_of_name own_pn0) hisR ?_
  intro p e s m args below meth c s₁ Bd hml0 hP hK
  obtain ⟨rfl, hZ, hh⟩ := hP
  have hx := Bd.exec
  have hby := Bd.bytes
  have hml : c.maxLocals = 7 := hml0
  have hown : s.vm.findClass "java/lang/StringUTF16" = some m.cls := findClass_of_methodNamed Bd.named
  have hnm := (name_of_methodNamed Bd.named Bd.method).1
  have X0 : Stand p l e R_own_cmpI2_1 s m #[(.ref a1), (.int (0 : Int32)), (.ref a3), (.int (0 : Int32)), (.int (2 : Int32))] below meth c s₁ [] 0 0 := Stand.of_body Bd
  have e0 : s₁.heap = h0 := by rw [← hh, Bd.state]; rfl
  have N0 := Fr.nil n0
  have K0 : Keep h0 h0 [a3] := Keep.refl h0 [a3]
  show own_Fin p e below s (Q_own_cmpI2_1 Z a1 a3 k1 k3 c0 c1 h0 n0) R_own_cmpI2_1.cells R_own_cmpI2_1.slots (s₁.setTop (entryFrame m #[(.ref a1), (.int (0 : Int32)), (.ref a3), (.int (0 : Int32)), (.int (2 : Int32))] 7))
  refine own_go (fun _ k => castTop (ef_own_cmpI2_1 m a1 a3) k) ?_
  show own_Fin _ _ _ _ _ _ _ (s₁.setTop (mkF m 0 #[.val (.ref a1), .val (.int (0 : Int32)), .val (.ref a3), .val (.int (0 : Int32)), .val (.int (2 : Int32)), .unset, .unset] []))
  refine own_go (B := s₁.setTop (mkF m 7 #[.val (.ref a1), .val (.int (0 : Int32)), .val (.ref a3), .val (.int (0 : Int32)), .val (.int (2 : Int32)), .val (.int (0 : Int32)), .unset] [(.int (2 : Int32)), (.int (0 : Int32))])) (fun _ k => XS.iconst X0.here hx rfl (hb hby d5_0) (XS.istore X0.here hx rfl (hb hby d5_1) rfl (l' := #[.val (.ref a1), .val (.int (0 : Int32)), .val (.ref a3), .val (.int (0 : Int32)), .val (.int (2 : Int32)), .val (.int (0 : Int32)), .unset]) rfl (XS.iload X0.here hx rfl (hb hby d5_3) rfl  (XS.iload X0.here hx rfl (hb hby d5_5) rfl  k)))) ?_
  have hc1 : (0 : Int32) < (2 : Int32) := by decide
  refine own_go (B := s₁.setTop (mkF m 12 #[.val (.ref a1), .val (.int (0 : Int32)), .val (.ref a3), .val (.int (0 : Int32)), .val (.int (2 : Int32)), .val (.int (0 : Int32)), .unset] [(.int (0 : Int32)), (.ref a1)])) (fun _ k => XS.icmpNo X0.here hx rfl (hb hby d5_7) rfl (tlt hc1).2.1 (XS.aloadN X0.here hx rfl (hb hby d5_10) rfl rfl (XS.iloadN X0.here hx rfl (hb hby d5_11) rfl  k))) ?_
  obtain ⟨cl2, Ar2, q2, S2, N2n, H2, G2⟩ := id P_V_a1
  have hin3 : ¬ ((0 : Int32) < 0 ∨ cl2.slots.size ≤ ((0 : Int32)).toNatClampNeg) := inb_of S2 ⟨by decide, by decide⟩
  have hat3 : cl2.slots[((0 : Int32)).toNatClampNeg]? = some (.int c0) := H2.at hin3 rfl
  refine own_go (B := s₁.setTop (mkF m 20 #[.val (.ref a1), .val (.int (0 : Int32)), .val (.ref a3), .val (.int (0 : Int32)), .val (.int (2 : Int32)), .val (.int (0 : Int32)), .val (.int c0)] [(.int (255 : Int32)), (.int c0)])) (fun _ k => X0.caload hx (j := (0 : Int32)) (v := (.int c0)) (own_hc e0 Ar2.1) (State.isArrayOf_alike hZ.alike Ar2.2.1) Ar2.2.2 hin3 hat3 (g := (mkF m 12 #[.val (.ref a1), .val (.int (0 : Int32)), .val (.ref a3), .val (.int (0 : Int32)), .val (.int (2 : Int32)), .val (.int (0 : Int32)), .unset] [(.int (0 : Int32)), (.ref a1)])) rfl rfl (hb hby d5_12) _ (XS.istore X0.here hx rfl (hb hby d5_13) rfl (l' := #[.val (.ref a1), .val (.int (0 : Int32)), .val (.ref a3), .val (.int (0 : Int32)), .val (.int (2 : Int32)), .val (.int (0 : Int32)), .val (.int c0)]) rfl (XS.iload X0.here hx rfl (hb hby d5_15) rfl  (XS.sipush X0.here hx rfl (hb hby d5_17) k)))) ?_
  have hc4 : ¬ ((255 : Int32) < c0) := (own_pl_cmpI2_1_1 c0 c1 hh0 hg)
  refine own_go (B := s₁.setTop (mkF m 31 #[.val (.ref a1), .val (.int (0 : Int32)), .val (.ref a3), .val (.int (0 : Int32)), .val (.int (2 : Int32)), .val (.int (0 : Int32)), .val (.int c0)] [(.int (c0.toInt8.toInt32)), (.int (0 : Int32)), (.ref a3)])) (fun _ k => XS.icmpYes X0.here hx rfl (pc0 := 20) (pc' := 26) rfl (hb hby d5_20) rfl (flt hc4).2.2.2 (by decide) (by decide) (XS.aloadN X0.here hx rfl (hb hby d5_26) rfl rfl (XS.iloadN X0.here hx rfl (hb hby d5_27) rfl  (XS.iload X0.here hx rfl (hb hby d5_28) rfl  (XS.i2b X0.here hx rfl (hb hby d5_30) rfl k))))) ?_
  obtain ⟨cl5, Ar5, q5, S5, N5n, H5, G5⟩ := id P_V_a3
  have hin6 : ¬ ((0 : Int32) < 0 ∨ cl5.slots.size ≤ ((0 : Int32)).toNatClampNeg) := inb_of S5 ⟨by decide, by decide⟩
  obtain ⟨T6, h6, X6, e6, W6, st6⟩ := stB X0 hx hZ e0 Ar5 (j := (0 : Int32)) hin6 (g := (mkF m 31 #[.val (.ref a1), .val (.int (0 : Int32)), .val (.ref a3), .val (.int (0 : Int32)), .val (.int (2 : Int32)), .val (.int (0 : Int32)), .val (.int c0)] [(.int (c0.toInt8.toInt32)), (.int (0 : Int32)), (.ref a3)])) rfl rfl (hb hby d5_31)
  rw [own_narb] at W6
  have V_a3_6 : Arv Z h6 a3 k3 .byte (2 : Int32) [(.int (c0.toInt8.toInt32)), (.int (0 : Int32))] (.int (0 : Int32)) := Arv.set Ar5 q5 S5 N5n H5 G5 (fits_nar_byte _) W6 0 rfl (Nat.le_of_ble_eq_true rfl)
  have V_8 := P_V_a1.other W6 ne_a1_a3
  have K10 : Keep h0 h6 [a3] := K0.wr W6 (Or.inl (List.mem_of_getElem? (i := 0) rfl))
  have N6 := Fr.snoc X6 N0 g_a3
  refine own_go (B := T6.setTop (mkF m 32 #[.val (.ref a1), .val (.int (0 : Int32)), .val (.ref a3), .val (.int (0 : Int32)), .val (.int (2 : Int32)), .val (.int (0 : Int32)), .val (.int c0)] [])) st6 ?_
  refine own_go (B := T6.setTop (mkF m 35 #[.val (.ref a1), .val (.int ((0 : Int32) + (1 : Int32))), .val (.ref a3), .val (.int (0 : Int32)), .val (.int (2 : Int32)), .val (.int (0 : Int32)), .val (.int c0)] [])) (fun _ k => XS.iinc X6.here hx rfl (hb hby d5_32) rfl (l' := #[.val (.ref a1), .val (.int ((0 : Int32) + (1 : Int32))), .val (.ref a3), .val (.int (0 : Int32)), .val (.int (2 : Int32)), .val (.int (0 : Int32)), .val (.int c0)]) rfl k) ?_
  rw [show ((0 : Int32) + (1 : Int32)) = (1 : Int32) from by decide]
  show own_Fin _ _ _ _ _ _ _ (T6.setTop (mkF m 35 #[.val (.ref a1), .val (.int (1 : Int32)), .val (.ref a3), .val (.int (0 : Int32)), .val (.int (2 : Int32)), .val (.int (0 : Int32)), .val (.int c0)] []))
  refine own_go (B := T6.setTop (mkF m 38 #[.val (.ref a1), .val (.int (1 : Int32)), .val (.ref a3), .val (.int ((0 : Int32) + (1 : Int32))), .val (.int (2 : Int32)), .val (.int (0 : Int32)), .val (.int c0)] [])) (fun _ k => XS.iinc X6.here hx rfl (hb hby d5_35) rfl (l' := #[.val (.ref a1), .val (.int (1 : Int32)), .val (.ref a3), .val (.int ((0 : Int32) + (1 : Int32))), .val (.int (2 : Int32)), .val (.int (0 : Int32)), .val (.int c0)]) rfl k) ?_
  rw [show ((0 : Int32) + (1 : Int32)) = (1 : Int32) from by decide]
  show own_Fin _ _ _ _ _ _ _ (T6.setTop (mkF m 38 #[.val (.ref a1), .val (.int (1 : Int32)), .val (.ref a3), .val (.int (1 : Int32)), .val (.int (2 : Int32)), .val (.int (0 : Int32)), .val (.int c0)] []))
  refine own_go (B := T6.setTop (mkF m 41 #[.val (.ref a1), .val (.int (1 : Int32)), .val (.ref a3), .val (.int (1 : Int32)), .val (.int (2 : Int32)), .val (.int ((0 : Int32) + (1 : Int32))), .val (.int c0)] [])) (fun _ k => XS.iinc X6.here hx rfl (hb hby d5_38) rfl (l' := #[.val (.ref a1), .val (.int (1 : Int32)), .val (.ref a3), .val (.int (1 : Int32)), .val (.int (2 : Int32)), .val (.int ((0 : Int32) + (1 : Int32))), .val (.int c0)]) rfl k) ?_
  rw [show ((0 : Int32) + (1 : Int32)) = (1 : Int32) from by decide]
  show own_Fin _ _ _ _ _ _ _ (T6.setTop (mkF m 41 #[.val (.ref a1), .val (.int (1 : Int32)), .val (.ref a3), .val (.int (1 : Int32)), .val (.int (2 : Int32)), .val (.int (1 : Int32)), .val (.int c0)] []))
  refine own_go (B := T6.setTop (mkF m 7 #[.val (.ref a1), .val (.int (1 : Int32)), .val (.ref a3), .val (.int (1 : Int32)), .val (.int (2 : Int32)), .val (.int (1 : Int32)), .val (.int c0)] [(.int (2 : Int32)), (.int (1 : Int32))])) (fun _ k => XS.goto X6.here hx rfl (pc0 := 41) (pc' := 3) rfl (hb hby d5_41) (by decide) (by decide) (XS.iload X6.here hx rfl (hb hby d5_3) rfl  (XS.iload X6.here hx rfl (hb hby d5_5) rfl  k))) ?_
  have hc11 : (1 : Int32) < (2 : Int32) := by decide
  refine own_go (B := T6.setTop (mkF m 12 #[.val (.ref a1), .val (.int (1 : Int32)), .val (.ref a3), .val (.int (1 : Int32)), .val (.int (2 : Int32)), .val (.int (1 : Int32)), .val (.int c0)] [(.int (1 : Int32)), (.ref a1)])) (fun _ k => XS.icmpNo X6.here hx rfl (hb hby d5_7) rfl (tlt hc11).2.1 (XS.aloadN X6.here hx rfl (hb hby d5_10) rfl rfl (XS.iloadN X6.here hx rfl (hb hby d5_11) rfl  k))) ?_
  obtain ⟨cl12, Ar12, q12, S12, N12n, H12, G12⟩ := id V_8
  have hin13 : ¬ ((1 : Int32) < 0 ∨ cl12.slots.size ≤ ((1 : Int32)).toNatClampNeg) := inb_of S12 ⟨by decide, by decide⟩
  have hat13 : cl12.slots[((1 : Int32)).toNatClampNeg]? = some (.int c1) := H12.at hin13 rfl
  refine own_go (B := T6.setTop (mkF m 20 #[.val (.ref a1), .val (.int (1 : Int32)), .val (.ref a3), .val (.int (1 : Int32)), .val (.int (2 : Int32)), .val (.int (1 : Int32)), .val (.int c1)] [(.int (255 : Int32)), (.int c1)])) (fun _ k => X6.caload hx (j := (1 : Int32)) (v := (.int c1)) (own_hc e6 Ar12.1) (State.isArrayOf_alike hZ.alike Ar12.2.1) Ar12.2.2 hin13 hat13 (g := (mkF m 12 #[.val (.ref a1), .val (.int (1 : Int32)), .val (.ref a3), .val (.int (1 : Int32)), .val (.int (2 : Int32)), .val (.int (1 : Int32)), .val (.int c0)] [(.int (1 : Int32)), (.ref a1)])) rfl rfl (hb hby d5_12) _ (XS.istore X6.here hx rfl (hb hby d5_13) rfl (l' := #[.val (.ref a1), .val (.int (1 : Int32)), .val (.ref a3), .val (.int (1 : Int32)), .val (.int (2 : Int32)), .val (.int (1 : Int32)), .val (.int c1)]) rfl (XS.iload X6.here hx rfl (hb hby d5_15) rfl  (XS.sipush X6.here hx rfl (hb hby d5_17) k)))) ?_
  have hc14 : (255 : Int32) < c1 := (own_pl_cmpI2_1_2 c0 c1 hh0 hg hc4)
  refine own_go (B := T6.setTop (mkF m 25 #[.val (.ref a1), .val (.int (1 : Int32)), .val (.ref a3), .val (.int (1 : Int32)), .val (.int (2 : Int32)), .val (.int (1 : Int32)), .val (.int c1)] [(.int (1 : Int32))])) (fun _ k => XS.icmpNo X6.here hx rfl (hb hby d5_20) rfl (tlt hc14).2.2.2 (XS.iload X6.here hx rfl (hb hby d5_23) rfl  k)) ?_
  exact own_retI X6 hx Bd.notSynchronized Bd.returns (hb hby d5_25) e6 ⟨rfl, N6, K10⟩ (by decide) (by decide)
abbrev R_own_cmpB2_1 : Room := { frames := 3, cells := 2, slots := 6, locals := 40 }
theorem ef_own_cmpB2_1 (m : MethodId) (x0 : Addr) : entryFrame m #[(.ref x0), (.int (0 : Int32)), (.int (2 : Int32))] 6 = mkF m 0 #[.val (.ref x0), .val (.int (0 : Int32)), .val (.int (2 : Int32)), .unset, .unset, .unset] [] := by first | (simp [entryFrame, mkF, argsToLocals, Value.category]; done) | rfl
set_option maxRecDepth 65536 in
set_option maxHeartbeats 4000000 in
theorem own_pl_cmpB2_1_1 (c0 : Int32) (c1 : Int32) (hh0 : c0.toInt ≤ 255) (hg : ¬ (c1.toInt ≤ 255)) (hl : 0 ≤ c1.toInt) (hu : c1.toInt ≤ 65535) : (255 : Int32) < ((((((c1 >>> ((0 : Int32) &&& 31)).toInt8.toInt32) &&& (255 : Int32)) <<< ((0 : Int32) &&& 31)) ||| ((((c1 >>> ((8 : Int32) &&& 31)).toInt8.toInt32) &&& (255 : Int32)) <<< ((8 : Int32) &&& 31))).toUInt32.toUInt16.toUInt32.toInt32) := by
  have q := own_getc c1 hl hu
  simp only [Int32.lt_iff_toInt_lt]
  rw [q]
  simp only [Int32.reduceToInt]
  omega
def Q_own_cmpB2_1 (Z : State) (a1 : Addr) (k1 : ClassId) (c0 : Int32) (c1 : Int32) (h0 : Heap) (n0 : Nat) (v : Option Value) (h : Heap) (L : List Loc) : Prop := ∃ b : Addr, ∃ kb : ClassId, ∃ u0 : Int32, ∃ u1 : Int32, ∃ u2 : Int32, ∃ u3 : Int32, v = some (.ref b) ∧ Fr n0 L ∧ Keep h0 h [] ∧ Arv Z h b kb .byte (4 : Int32) [(.int u0), (.int u1), (.int u2), (.int u3)] (.int (0 : Int32)) ∧ (h0.size ≤ b)
set_option maxRecDepth 65536 in
set_option maxHeartbeats 400000000 in
theorem own_cmpB2_1 (l : Launch) (Z : State) (a0 : Array Value) (hw : ∀ d ∈ tables_1, d.before a0 Z = true) (ws : List Jvm.Cond) (a1 : Addr) (k1 : ClassId) (c0 : Int32) (c1 : Int32) (h0 : Heap) (n0 : Nat) (Z0 : n0 ≤ h0.size) (P_V_a1 : Arv Z h0 a1 k1 .char (2 : Int32) [(.int c0), (.int c1)] (.int (0 : Int32))) (P_S_java_lang_StringUTF16__assertionsDisabled : Sta Z h0 "java/lang/StringUTF16" "$assertionsDisabled" "Z" (.int (1 : Int32))) (P_S_java_lang_StringUTF16_HI_BYTE_SHIFT : Sta Z h0 "java/lang/StringUTF16" "HI_BYTE_SHIFT" "I" (.int (0 : Int32))) (P_S_java_lang_StringUTF16_LO_BYTE_SHIFT : Sta Z h0 "java/lang/StringUTF16" "LO_BYTE_SHIFT" "I" (.int (8 : Int32))) (hh0 : c0.toInt ≤ 255) (hg : ¬ (c1.toInt ≤ 255)) (hl : 0 ≤ c1.toInt) (hu : c1.toInt ≤ 65535) :
    MetFree l (⟨"java/lang/StringUTF16", "compress", "([CII)[B"⟩ : MethodName) (head1 (Jvm.Cond.code (⟨"java/lang/StringUTF16", "compress", "([CII)[B"⟩ : MethodName) jdk_52_method_16_code 6 (some (.array .byte)) :: ws) R_own_cmpB2_1) (fun a U => a = #[(.ref a1), (.int (0 : Int32)), (.int (2 : Int32))] ∧ Z.Warmed39 U.vm ∧ U.heap = h0) (fun _ _ _ _ _ => True) (fun _ U o U' => ∃ v L, o = .returned v ∧ Q_own_cmpB2_1 Z a1 k1 c0 c1 h0 n0 v U'.heap L ∧ FrameEnd U o U' L R_own_cmpB2_1.cells R_own_cmpB2_1.slots) := by
  refine MetFree.of_bodySF (plainFor_of_name own_pn0) hisR ?_
  intro p e s m args below meth c s₁ Bd hml0 hP hK
  obtain ⟨rfl, hZ, hh⟩ := hP
  have hx := Bd.exec
  have hby := Bd.bytes
  have hml : c.maxLocals = 6 := hml0
  have hown : s.vm.findClass "java/lang/StringUTF16" = some m.cls := findClass_of_methodNamed Bd.named
  have hnm := (name_of_methodNamed Bd.named Bd.method).1
  have X0 : Stand p l e R_own_cmpB2_1 s m #[(.ref a1), (.int (0 : Int32)), (.int (2 : Int32))] below meth c s₁ [] 0 0 := Stand.of_body Bd
  have e0 : s₁.heap = h0 := by rw [← hh, Bd.state]; rfl
  have N0 := Fr.nil n0
  have K0 : Keep h0 h0 [] := Keep.refl h0 []
  show own_Fin p e below s (Q_own_cmpB2_1 Z a1 k1 c0 c1 h0 n0) R_own_cmpB2_1.cells R_own_cmpB2_1.slots (s₁.setTop (entryFrame m #[(.ref a1), (.int (0 : Int32)), (.int (2 : Int32))] 6))
  refine own_go (fun _ k => castTop (ef_own_cmpB2_1 m a1) k) ?_
  show own_Fin _ _ _ _ _ _ _ (s₁.setTop (mkF m 0 #[.val (.ref a1), .val (.int (0 : Int32)), .val (.int (2 : Int32)), .unset, .unset, .unset] []))
  refine own_go (B := s₁.setTop (mkF m 1 #[.val (.ref a1), .val (.int (0 : Int32)), .val (.int (2 : Int32)), .unset, .unset, .unset] [(.int (2 : Int32))])) (fun _ k => XS.iloadN X0.here hx rfl (hb hby d4_0) rfl  k) ?_
  obtain ⟨T1, h1, kc1, X1, e1, E1, A1, st1⟩ := newP X0 hx hZ (own_w hw 20 rfl) e0 (g := (mkF m 1 #[.val (.ref a1), .val (.int (0 : Int32)), .val (.int (2 : Int32)), .unset, .unset, .unset] [(.int (2 : Int32))])) rfl (hb hby d4_1) rfl (by decide) (cap := 2) (by decide) (by decide) (by decide) (by decide)
  obtain ⟨b1, g1⟩ : ∃ z, z = h0.size := ⟨_, rfl⟩
  rw [← g1] at A1 st1
  have ne_a1_b1_2 : a1 ≠ b1 := Nat.ne_of_lt (Nat.lt_of_lt_of_le P_V_a1.lt (Nat.le_of_eq g1.symm))
  have sz_b1 : h0.size ≤ b1 := Nat.le_trans K0.1 (Nat.le_of_eq g1.symm)
  have g_b1 : n0 ≤ b1 := Nat.le_trans Z0 sz_b1
  have V_4 := P_V_a1.ext E1
  have S_5 := P_S_java_lang_StringUTF16__assertionsDisabled.ext E1
  have S_6 := P_S_java_lang_StringUTF16_HI_BYTE_SHIFT.ext E1
  have S_7 := P_S_java_lang_StringUTF16_LO_BYTE_SHIFT.ext E1
  have V_b1 : Arv Z h1 b1 kc1 .byte (2 : Int32) [(.int (0 : Int32)), (.int (0 : Int32))] (.int (0 : Int32)) := (Arv.new A1 (by decide)).pad (pad_rep [] (.int (0 : Int32)) 2)
  have K8 : Keep h0 h1 [] := K0.ext E1
  refine own_go (B := T1.setTop (mkF m 3 #[.val (.ref a1), .val (.int (0 : Int32)), .val (.int (2 : Int32)), .unset, .unset, .unset] [(.ref b1)])) st1 ?_
  refine own_go (B := T1.setTop (mkF m 9 #[.val (.ref a1), .val (.int (0 : Int32)), .val (.int (2 : Int32)), .val (.ref b1), .unset, .unset] [(.int (2 : Int32)), (.int (0 : Int32)), (.ref b1), (.int (0 : Int32)), (.ref a1)])) (fun _ k => XS.astoreN X1.here hx rfl (hb hby d4_3) rfl rfl (l' := #[.val (.ref a1), .val (.int (0 : Int32)), .val (.int (2 : Int32)), .val (.ref b1), .unset, .unset]) rfl (XS.aloadN X1.here hx rfl (hb hby d4_4) rfl rfl (XS.iloadN X1.here hx rfl (hb hby d4_5) rfl  (XS.aloadN X1.here hx rfl (hb hby d4_6) rfl rfl (XS.iconst X1.here hx rfl (hb hby d4_7) (XS.iloadN X1.here hx rfl (hb hby d4_8) rfl  k)))))) ?_
  obtain ⟨_, _, ⟨T9, L9, k9, n9⟩, -, X9, ⟨Lc9, hQ9, l9, y9, z9⟩, st9⟩ := Jvm.LawKit.callS X1 hx (y := (⟨"java/lang/StringUTF16", "compress", "([CI[BII)I"⟩ : MethodName)) hown (mvT hZ (own_w hw 21 rfl)) (mvT hZ (own_w hw 22 rfl)) (mvT hZ (own_w hw 18 rfl)) (mvT hZ (own_w hw 23 rfl)) (by decide) (backOf (W := 0) (own_cmpI2_1 l Z a0 hw [] a1 b1 k1 kc1 c0 c1 h1 n0 (Nat.le_trans Z0 K8.1) V_4 V_b1 g_b1 ne_a1_b1_2 hh0 hg) hZ (own_w hw 23 rfl) (own_w hw 18 rfl) (by decide) (by decide)) (g := (mkF m 9 #[.val (.ref a1), .val (.int (0 : Int32)), .val (.int (2 : Int32)), .val (.ref b1), .unset, .unset] [(.int (2 : Int32)), (.int (0 : Int32)), (.ref b1), (.int (0 : Int32)), (.ref a1)])) rfl (by rw [hml]; rfl) (argsL := [(.ref a1), (.int (0 : Int32)), (.ref b1), (.int (0 : Int32)), (.int (2 : Int32))]) (rest := []) (lenOf own_pd3 rfl) rfl (by show 2 * 0 + _ ≤ _; exact Nat.le_of_eq rfl) (hb hby d4_9) (fun _ _ => ⟨rfl, e1, (by decide : 1 + 0 ≤ _), (by decide : 2 + 0 ≤ _)⟩)
  dsimp only [Pt.U, Pt.locs, Pt.cells, Pt.slots] at X9 l9 y9 z9 st9 hQ9
  subst l9 y9 z9
  obtain ⟨rfl, N9q, K9q⟩ := hQ9
  have N9 := Fr.app N0 N9q
  have V_11 := V_4.keep K9q (ninS ne_a1_b1_2 nin0)
  have S_12 := own_Sta_keep S_5 K9q (allS (own_plainV V_b1) all0)
  have S_13 := own_Sta_keep S_6 K9q (allS (own_plainV V_b1) all0)
  have S_14 := own_Sta_keep S_7 K9q (allS (own_plainV V_b1) all0)
  have K16 : Keep h0 T9.heap [] := K8.trans K9q (allS (Or.inr sz_b1) all0)
  refine own_go (B := T9.setTop (mkF m 12 #[.val (.ref a1), .val (.int (0 : Int32)), .val (.int (2 : Int32)), .val (.ref b1), .unset, .unset] [(.int (1 : Int32))])) st9 ?_
  refine own_go (B := T9.setTop (mkF m 17 #[.val (.ref a1), .val (.int (0 : Int32)), .val (.int (2 : Int32)), .val (.ref b1), .val (.int (1 : Int32)), .unset] [(.int (2 : Int32)), (.int (1 : Int32))])) (fun _ k => XS.istore X9.here hx rfl (hb hby d4_12) rfl (l' := #[.val (.ref a1), .val (.int (0 : Int32)), .val (.int (2 : Int32)), .val (.ref b1), .val (.int (1 : Int32)), .unset]) rfl (XS.iload X9.here hx rfl (hb hby d4_14) rfl  (XS.iloadN X9.here hx rfl (hb hby d4_16) rfl  k))) ?_
  have hc17 : ¬ ((1 : Int32) = (2 : Int32)) := by decide
  refine own_go (B := T9.setTop (mkF m 23 #[.val (.ref a1), .val (.int (0 : Int32)), .val (.int (2 : Int32)), .val (.ref b1), .val (.int (1 : Int32)), .unset] [(.int (2 : Int32)), (.int (0 : Int32)), (.ref a1)])) (fun _ k => XS.icmpNo X9.here hx rfl (hb hby d4_17) rfl (feq hc17).1 (XS.aloadN X9.here hx rfl (hb hby d4_20) rfl rfl (XS.iloadN X9.here hx rfl (hb hby d4_21) rfl  (XS.iloadN X9.here hx rfl (hb hby d4_22) rfl  k)))) ?_
  obtain ⟨_, _, ⟨T18, L18, k18, n18⟩, -, X18, ⟨Lc18, hQ18, l18, y18, z18⟩, st18⟩ := Jvm.LawKit.callS X9 hx (y := (⟨"java/lang/StringUTF16", "toBytes", "([CII)[B"⟩ : MethodName)) hown (mvT hZ (own_w hw 68 rfl)) (mvT hZ (own_w hw 69 rfl)) (mvT hZ (own_w hw 18 rfl)) (mvT hZ (own_w hw 70 rfl)) (by decide) (backOf (W := 0) (own_tob2 l Z a0 hw [] a1 k1 c0 c1 T9.heap n0 (Nat.le_trans Z0 K16.1) V_11 S_12 S_13 S_14) hZ (own_w hw 70 rfl) (own_w hw 18 rfl) (by decide) (by decide)) (g := (mkF m 23 #[.val (.ref a1), .val (.int (0 : Int32)), .val (.int (2 : Int32)), .val (.ref b1), .val (.int (1 : Int32)), .unset] [(.int (2 : Int32)), (.int (0 : Int32)), (.ref a1)])) rfl (by rw [hml]; rfl) (argsL := [(.ref a1), (.int (0 : Int32)), (.int (2 : Int32))]) (rest := []) (lenOf own_pd4 rfl) rfl (by show 2 * 0 + _ ≤ _; exact Nat.le_of_eq rfl) (hb hby d4_23) (fun _ _ => ⟨rfl, rfl, (by decide : 1 + 1 ≤ _), (by decide : 2 + 4 ≤ _)⟩)
  dsimp only [Pt.U, Pt.locs, Pt.cells, Pt.slots] at X18 l18 y18 z18 st18 hQ18
  subst l18 y18 z18
  obtain ⟨b_18, kb_18, rfl, N18q, K18q, Q18_0, x18_0⟩ := hQ18
  have N18 := Fr.app N9 N18q
  have ne_a1_b_18_19 : a1 ≠ b_18 := Nat.ne_of_lt (Nat.lt_of_lt_of_le V_11.lt x18_0)
  have sz_b_18 : h0.size ≤ b_18 := Nat.le_trans K16.1 x18_0
  have g_b_18 : n0 ≤ b_18 := Nat.le_trans Z0 sz_b_18
  have V_21 := V_11.keep K18q nin0
  have S_22 := own_Sta_keep S_12 K18q all0
  have S_23 := own_Sta_keep S_13 K18q all0
  have S_24 := own_Sta_keep S_14 K18q all0
  have K25 : Keep h0 T18.heap [] := K16.trans K18q all0
  refine own_go (B := T18.setTop (mkF m 26 #[.val (.ref a1), .val (.int (0 : Int32)), .val (.int (2 : Int32)), .val (.ref b1), .val (.int (1 : Int32)), .unset] [(.ref b_18)])) st18 ?_
  refine own_go (B := T18.setTop (mkF m 32 #[.val (.ref a1), .val (.int (0 : Int32)), .val (.int (2 : Int32)), .val (.ref b1), .val (.int (1 : Int32)), .val (.ref b_18)] [(.int (1 : Int32)), (.ref b_18)])) (fun _ k => XS.astore X18.here hx rfl (hb hby d4_26) rfl rfl (l' := #[.val (.ref a1), .val (.int (0 : Int32)), .val (.int (2 : Int32)), .val (.ref b1), .val (.int (1 : Int32)), .val (.ref b_18)]) rfl (XS.aload X18.here hx rfl (hb hby d4_28) rfl rfl (XS.iload X18.here hx rfl (hb hby d4_30) rfl  k))) ?_
  obtain ⟨_, _, ⟨T26, L26, k26, n26⟩, -, X26, ⟨Lc26, hQ26, l26, y26, z26⟩, st26⟩ := Jvm.LawKit.callS X18 hx (y := (⟨"java/lang/StringUTF16", "getChar", "([BI)C"⟩ : MethodName)) hown (mvT hZ (own_w hw 84 rfl)) (mvT hZ (own_w hw 85 rfl)) (mvT hZ (own_w hw 18 rfl)) (mvT hZ (own_w hw 86 rfl)) (by decide) (backOf (W := 0) (own_get2_1 l Z a0 hw [] b_18 kb_18 ((c0 >>> ((0 : Int32) &&& 31)).toInt8.toInt32) ((c0 >>> ((8 : Int32) &&& 31)).toInt8.toInt32) ((c1 >>> ((0 : Int32) &&& 31)).toInt8.toInt32) ((c1 >>> ((8 : Int32) &&& 31)).toInt8.toInt32) T18.heap n0 (Nat.le_trans Z0 K25.1) Q18_0 S_22 S_23 S_24) hZ (own_w hw 86 rfl) (own_w hw 18 rfl) (by decide) (by decide)) (g := (mkF m 32 #[.val (.ref a1), .val (.int (0 : Int32)), .val (.int (2 : Int32)), .val (.ref b1), .val (.int (1 : Int32)), .val (.ref b_18)] [(.int (1 : Int32)), (.ref b_18)])) rfl (by rw [hml]; rfl) (argsL := [(.ref b_18), (.int (1 : Int32))]) (rest := []) (lenOf own_pd7 rfl) rfl (by show 2 * 0 + _ ≤ _; exact Nat.le_of_eq rfl) (hb hby d4_32) (fun _ _ => ⟨rfl, rfl, (by decide : 2 + 0 ≤ _), (by decide : 6 + 0 ≤ _)⟩)
  dsimp only [Pt.U, Pt.locs, Pt.cells, Pt.slots] at X26 l26 y26 z26 st26 hQ26
  subst l26 y26 z26
  obtain ⟨rfl, N26q, e26⟩ := hQ26
  have N26 := Fr.app N18 N26q
  refine own_go (B := T26.setTop (mkF m 35 #[.val (.ref a1), .val (.int (0 : Int32)), .val (.int (2 : Int32)), .val (.ref b1), .val (.int (1 : Int32)), .val (.ref b_18)] [(.int ((((((c1 >>> ((0 : Int32) &&& 31)).toInt8.toInt32) &&& (255 : Int32)) <<< ((0 : Int32) &&& 31)) ||| ((((c1 >>> ((8 : Int32) &&& 31)).toInt8.toInt32) &&& (255 : Int32)) <<< ((8 : Int32) &&& 31))).toUInt32.toUInt16.toUInt32.toInt32))])) st26 ?_
  refine own_go (B := T26.setTop (mkF m 38 #[.val (.ref a1), .val (.int (0 : Int32)), .val (.int (2 : Int32)), .val (.ref b1), .val (.int (1 : Int32)), .val (.ref b_18)] [(.int (255 : Int32)), (.int ((((((c1 >>> ((0 : Int32) &&& 31)).toInt8.toInt32) &&& (255 : Int32)) <<< ((0 : Int32) &&& 31)) ||| ((((c1 >>> ((8 : Int32) &&& 31)).toInt8.toInt32) &&& (255 : Int32)) <<< ((8 : Int32) &&& 31))).toUInt32.toUInt16.toUInt32.toInt32))])) (fun _ k => XS.sipush X26.here hx rfl (hb hby d4_35) k) ?_
  have hc27 : (255 : Int32) < ((((((c1 >>> ((0 : Int32) &&& 31)).toInt8.toInt32) &&& (255 : Int32)) <<< ((0 : Int32) &&& 31)) ||| ((((c1 >>> ((8 : Int32) &&& 31)).toInt8.toInt32) &&& (255 : Int32)) <<< ((8 : Int32) &&& 31))).toUInt32.toUInt16.toUInt32.toInt32) := (own_pl_cmpB2_1_1 c0 c1 hh0 hg hl hu)
  refine own_go (B := T26.setTop (mkF m 56 #[.val (.ref a1), .val (.int (0 : Int32)), .val (.int (2 : Int32)), .val (.ref b1), .val (.int (1 : Int32)), .val (.ref b_18)] [(.ref b_18)])) (fun _ k => XS.icmpYes X26.here hx rfl (pc0 := 38) (pc' := 54) rfl (hb hby d4_38) rfl (tlt hc27).2.2.1 (by decide) (by decide) (XS.aload X26.here hx rfl (hb hby d4_54) rfl rfl k)) ?_
  exact own_retA X26 hx Bd.notSynchronized Bd.returns rfl rfl (hb hby d4_56) e26 ⟨b_18, kb_18, ((c0 >>> ((0 : Int32) &&& 31)).toInt8.toInt32), ((c0 >>> ((8 : Int32) &&& 31)).toInt8.toInt32), ((c1 >>> ((0 : Int32) &&& 31)).toInt8.toInt32), ((c1 >>> ((8 : Int32) &&& 31)).toInt8.toInt32), rfl, N26, K25, Q18_0, sz_b_18⟩ (by decide) (by decide)
abbrev R_own_str4_2_1 : Room := { frames := 4, cells := 2, slots := 6, locals := 57 }
theorem ef_own_str4_2_1 (m : MethodId) (x0 : Addr) (x1 : Addr) : entryFrame m #[(.ref x0), (.ref x1), (.int (0 : Int32)), (.int (2 : Int32)), .null] 6 = mkF m 0 #[.val (.ref x0), .val (.ref x1), .val (.int (0 : Int32)), .val (.int (2 : Int32)), .val .null, .unset] [] := by first | (simp [entryFrame, mkF, argsToLocals, Value.category]; done) | rfl
def Q_own_str4_2_1 (Z : State) (a1 : Addr) (a2 : Addr) (k2 : ClassId) (c0 : Int32) (c1 : Int32) (cs : Int32) (h0 : Heap) (n0 : Nat) (v : Option Value) (h : Heap) (L : List Loc) : Prop := ∃ t : Addr, ∃ kt : ClassId, ∃ u0 : Int32, ∃ u1 : Int32, ∃ u2 : Int32, ∃ u3 : Int32, v = none ∧ Fr n0 L ∧ Keep h0 h [a1] ∧ Exa Z h a1 "java/lang/String" ∧ Fld Z h a1 "java/lang/String" "value" "[B" (.ref t) ∧ Fld Z h a1 "java/lang/String" "coder" "B" (.int (1 : Int32)) ∧ Arv Z h t kt .byte (4 : Int32) [(.int u0), (.int u1), (.int u2), (.int u3)] (.int (0 : Int32)) ∧ (h0.size ≤ t)
set_option maxRecDepth 65536 in
set_option maxHeartbeats 400000000 in
theorem own_str4_2_1 (l : Launch) (Z : State) (a0 : Array Value) (hw : ∀ d ∈ tables_1, d.before a0 Z = true) (ws : List Jvm.Cond) (a1 : Addr) (a2 : Addr) (k2 : ClassId) (c0 : Int32) (c1 : Int32) (cs : Int32) (h0 : Heap) (n0 : Nat) (Z0 : n0 ≤ h0.size) (P_E_a1 : Exa Z h0 a1 "java/lang/String") (P_F_a1_value : Fld Z h0 a1 "java/lang/String" "value" "[B" .null) (P_F_a1_coder : Fld Z h0 a1 "java/lang/String" "coder" "B" (.int (0 : Int32))) (P_V_a2 : Arv Z h0 a2 k2 .char (2 : Int32) [(.int c0), (.int c1)] (.int (0 : Int32))) (g_a1 : n0 ≤ a1) (ne_a1_a2 : a1 ≠ a2) (P_S_java_lang_String_COMPACT_STRINGS : Sta Z h0 "java/lang/String" "COMPACT_STRINGS" "Z" (.int cs)) (hcs : ¬ (cs = (0 : Int32))) (P_S_java_lang_StringUTF16__assertionsDisabled : Sta Z h0 "java/lang/StringUTF16" "$assertionsDisabled" "Z" (.int (1 : Int32))) (P_S_java_lang_StringUTF16_HI_BYTE_SHIFT : Sta Z h0 "java/lang/StringUTF16" "HI_BYTE_SHIFT" "I" (.int (0 : Int32))) (P_S_java_lang_StringUTF16_LO_BYTE_SHIFT : Sta Z h0 "java/lang/StringUTF16" "LO_BYTE_SHIFT" "I" (.int (8 : Int32))) (hh0 : c0.toInt ≤ 255) (hg : ¬ (c1.toInt ≤ 255)) (hl : 0 ≤ c1.toInt) (hu : c1.toInt ≤ 65535) :
    MetFree l (⟨"java/lang/String", "<init>", "([CIILjava/lang/Void;)V"⟩ : MethodName) (head1 (Jvm.Cond.code (⟨"java/lang/String", "<init>", "([CIILjava/lang/Void;)V"⟩ : MethodName) jdk_42_method_149_code 6 none :: ws) R_own_str4_2_1) (fun a U => a = #[(.ref a1), (.ref a2), (.int (0 : Int32)), (.int (2 : Int32)), .null] ∧ Z.Warmed39 U.vm ∧ U.heap = h0) (fun _ _ _ _ _ => True) (fun _ U o U' => ∃ v L, o = .returned v ∧ Q_own_str4_2_1 Z a1 a2 k2 c0 c1 cs h0 n0 v U'.heap L ∧ FrameEnd U o U' L R_own_str4_2_1.cells R_own_str4_2_1.slots) := by
  refine MetFree.of_bodySF (plainFor_of_name own_pn1) hisR ?_
  intro p e s m args below meth c s₁ Bd hml0 hP hK
  obtain ⟨rfl, hZ, hh⟩ := hP
  have hx := Bd.exec
  have hby := Bd.bytes
  have hml : c.maxLocals = 6 := hml0
  have hown : s.vm.findClass "java/lang/String" = some m.cls := findClass_of_methodNamed Bd.named
  have hnm := (name_of_methodNamed Bd.named Bd.method).1
  have X0 : Stand p l e R_own_str4_2_1 s m #[(.ref a1), (.ref a2), (.int (0 : Int32)), (.int (2 : Int32)), .null] below meth c s₁ [] 0 0 := Stand.of_body Bd
  have e0 : s₁.heap = h0 := by rw [← hh, Bd.state]; rfl
  have N0 := Fr.nil n0
  have K0 : Keep h0 h0 [a1] := Keep.refl h0 [a1]
  show own_Fin p e below s (Q_own_str4_2_1 Z a1 a2 k2 c0 c1 cs h0 n0) R_own_str4_2_1.cells R_own_str4_2_1.slots (s₁.setTop (entryFrame m #[(.ref a1), (.ref a2), (.int (0 : Int32)), (.int (2 : Int32)), .null] 6))
  refine own_go (fun _ k => castTop (ef_own_str4_2_1 m a1 a2) k) ?_
  show own_Fin _ _ _ _ _ _ _ (s₁.setTop (mkF m 0 #[.val (.ref a1), .val (.ref a2), .val (.int (0 : Int32)), .val (.int (2 : Int32)), .val .null, .unset] []))
  refine own_go (B := s₁.setTop (mkF m 1 #[.val (.ref a1), .val (.ref a2), .val (.int (0 : Int32)), .val (.int (2 : Int32)), .val .null, .unset] [(.ref a1)])) (fun _ k => XS.aloadN X0.here hx rfl (hb hby d2_0) rfl rfl k) ?_
  obtain ⟨T1, X1, e1, st1⟩ := initO X0 hx hZ hown (own_w hw 12 rfl) (own_w hw 13 rfl) (own_w hw 14 rfl) e0 (g := (mkF m 1 #[.val (.ref a1), .val (.ref a2), .val (.int (0 : Int32)), .val (.int (2 : Int32)), .val .null, .unset] [(.ref a1)])) rfl (by rw [hml]; rfl) rfl (hb hby d2_1) (by decide) (W := 0) (by show 2 * 0 + _ ≤ _; exact Nat.le_of_eq rfl) (by decide)
  refine own_go (B := T1.setTop (mkF m 4 #[.val (.ref a1), .val (.ref a2), .val (.int (0 : Int32)), .val (.int (2 : Int32)), .val .null, .unset] [])) st1 ?_
  refine own_go (B := T1.setTop (mkF m 5 #[.val (.ref a1), .val (.ref a2), .val (.int (0 : Int32)), .val (.int (2 : Int32)), .val .null, .unset] [(.int (2 : Int32))])) (fun _ k => XS.iloadN X1.here hx rfl (hb hby d2_4) rfl  k) ?_
  have hc2 : ¬ ((2 : Int32) = (0 : Int32)) := by decide
  refine own_go (B := T1.setTop (mkF m 27 #[.val (.ref a1), .val (.ref a2), .val (.int (0 : Int32)), .val (.int (2 : Int32)), .val .null, .unset] [])) (fun _ k => XS.ifYes X1.here hx rfl (pc0 := 5) (pc' := 27) rfl (hb hby d2_5) rfl ((if0 _ _).trans (feq hc2).2) (by decide) (by decide) k) ?_
  obtain ⟨T3, X3, e3, st3⟩ := getS2 X1 hx hZ hown (host := "") (Or.inl (own_w hw 15 rfl)) Via.refl e1 P_S_java_lang_String_COMPACT_STRINGS (g := (mkF m 27 #[.val (.ref a1), .val (.ref a2), .val (.int (0 : Int32)), .val (.int (2 : Int32)), .val .null, .unset] [])) rfl (hb hby d2_27)
  refine own_go (B := T3.setTop (mkF m 30 #[.val (.ref a1), .val (.ref a2), .val (.int (0 : Int32)), .val (.int (2 : Int32)), .val .null, .unset] [(.int cs)])) st3 ?_
  refine own_go (B := T3.setTop (mkF m 36 #[.val (.ref a1), .val (.ref a2), .val (.int (0 : Int32)), .val (.int (2 : Int32)), .val .null, .unset] [(.int (2 : Int32)), (.int (0 : Int32)), (.ref a2)])) (fun _ k => XS.ifNo X3.here hx rfl (hb hby d2_30) rfl ((if0 _ _).trans (feq hcs).1) (XS.aloadN X3.here hx rfl (hb hby d2_33) rfl rfl (XS.iloadN X3.here hx rfl (hb hby d2_34) rfl  (XS.iloadN X3.here hx rfl (hb hby d2_35) rfl  k)))) ?_
  obtain ⟨_, _, ⟨T4, L4, k4, n4⟩, -, X4, ⟨Lc4, hQ4, l4, y4, z4⟩, st4⟩ := Jvm.LawKit.callS X3 hx (y := (⟨"java/lang/StringUTF16", "compress", "([CII)[B"⟩ : MethodName)) hown (mvT hZ (own_w hw 16 rfl)) (mvT hZ (own_w hw 17 rfl)) (mvT hZ (own_w hw 18 rfl)) (mvT hZ (own_w hw 19 rfl)) (by decide) (backOf (W := 0) (own_cmpB2_1 l Z a0 hw [] a2 k2 c0 c1 h0 n0 (Nat.le_trans Z0 K0.1) P_V_a2 P_S_java_lang_StringUTF16__assertionsDisabled P_S_java_lang_StringUTF16_HI_BYTE_SHIFT P_S_java_lang_StringUTF16_LO_BYTE_SHIFT hh0 hg hl hu) hZ (own_w hw 19 rfl) (own_w hw 18 rfl) (by decide) (by decide)) (g := (mkF m 36 #[.val (.ref a1), .val (.ref a2), .val (.int (0 : Int32)), .val (.int (2 : Int32)), .val .null, .unset] [(.int (2 : Int32)), (.int (0 : Int32)), (.ref a2)])) rfl (by rw [hml]; rfl) (argsL := [(.ref a2), (.int (0 : Int32)), (.int (2 : Int32))]) (rest := []) (lenOf own_pd4 rfl) rfl (by show 2 * 0 + _ ≤ _; exact Nat.le_of_eq rfl) (hb hby d2_36) (fun _ _ => ⟨rfl, e3, (by decide : 0 + 2 ≤ _), (by decide : 0 + 6 ≤ _)⟩)
  dsimp only [Pt.U, Pt.locs, Pt.cells, Pt.slots] at X4 l4 y4 z4 st4 hQ4
  subst l4 y4 z4
  obtain ⟨b_4, kb_4, u0_4, u1_4, u2_4, u3_4, rfl, N4q, K4q, Q4_0, x4_0⟩ := hQ4
  have N4 := Fr.app N0 N4q
  have ne_a1_b_4_5 : a1 ≠ b_4 := Nat.ne_of_lt (Nat.lt_of_lt_of_le P_E_a1.lt x4_0)
  have ne_a2_b_4_6 : a2 ≠ b_4 := Nat.ne_of_lt (Nat.lt_of_lt_of_le P_V_a2.lt x4_0)
  have sz_b_4 : h0.size ≤ b_4 := Nat.le_trans K0.1 x4_0
  have g_b_4 : n0 ≤ b_4 := Nat.le_trans Z0 sz_b_4
  have E_8 := P_E_a1.keep K4q
  have F_9 := P_F_a1_value.keep K4q nin0
  have F_10 := P_F_a1_coder.keep K4q nin0
  have V_11 := P_V_a2.keep K4q nin0
  have S_12 := own_Sta_keep P_S_java_lang_String_COMPACT_STRINGS K4q all0
  have S_13 := own_Sta_keep P_S_java_lang_StringUTF16__assertionsDisabled K4q all0
  have S_14 := own_Sta_keep P_S_java_lang_StringUTF16_HI_BYTE_SHIFT K4q all0
  have S_15 := own_Sta_keep P_S_java_lang_StringUTF16_LO_BYTE_SHIFT K4q all0
  have K16 : Keep h0 T4.heap [a1] := K0.trans K4q all0
  refine own_go (B := T4.setTop (mkF m 39 #[.val (.ref a1), .val (.ref a2), .val (.int (0 : Int32)), .val (.int (2 : Int32)), .val .null, .unset] [(.ref b_4)])) st4 ?_
  refine own_go (B := T4.setTop (mkF m 45 #[.val (.ref a1), .val (.ref a2), .val (.int (0 : Int32)), .val (.int (2 : Int32)), .val .null, .val (.ref b_4)] [(.int (2 : Int32)), (.ref b_4), (.ref a1)])) (fun _ k => XS.astore X4.here hx rfl (hb hby d2_39) rfl rfl (l' := #[.val (.ref a1), .val (.ref a2), .val (.int (0 : Int32)), .val (.int (2 : Int32)), .val .null, .val (.ref b_4)]) rfl (XS.aloadN X4.here hx rfl (hb hby d2_41) rfl rfl (XS.aload X4.here hx rfl (hb hby d2_42) rfl rfl (XS.iloadN X4.here hx rfl (hb hby d2_44) rfl  k)))) ?_
  obtain ⟨_, _, ⟨T17, L17, k17, n17⟩, -, X17, ⟨Lc17, hQ17, l17, y17, z17⟩, st17⟩ := Jvm.LawKit.callS X4 hx (y := (⟨"java/lang/StringUTF16", "coderFromArrayLen", "([BI)B"⟩ : MethodName)) hown (mvT hZ (own_w hw 24 rfl)) (mvT hZ (own_w hw 25 rfl)) (mvT hZ (own_w hw 18 rfl)) (mvT hZ (own_w hw 26 rfl)) (by decide) (backOf (W := 1) (own_cod16_2 l Z a0 hw [] b_4 kb_4 u0_4 u1_4 u2_4 u3_4 T4.heap n0 (Nat.le_trans Z0 K16.1) Q4_0) hZ (own_w hw 26 rfl) (own_w hw 18 rfl) (by decide) (by decide)) (g := (mkF m 45 #[.val (.ref a1), .val (.ref a2), .val (.int (0 : Int32)), .val (.int (2 : Int32)), .val .null, .val (.ref b_4)] [(.int (2 : Int32)), (.ref b_4), (.ref a1)])) rfl (by rw [hml]; rfl) (argsL := [(.ref b_4), (.int (2 : Int32))]) (rest := [(.ref a1)]) (lenOf own_pd5 rfl) rfl (by show 2 * 0 + _ ≤ _; exact Nat.le_of_eq rfl) (hb hby d2_45) (fun _ _ => ⟨rfl, rfl, (by decide : 2 + 0 ≤ _), (by decide : 6 + 0 ≤ _)⟩)
  dsimp only [Pt.U, Pt.locs, Pt.cells, Pt.slots] at X17 l17 y17 z17 st17 hQ17
  subst l17 y17 z17
  obtain ⟨rfl, N17q, e17⟩ := hQ17
  have N17 := Fr.app N4 N17q
  refine own_go (B := T17.setTop (mkF m 48 #[.val (.ref a1), .val (.ref a2), .val (.int (0 : Int32)), .val (.int (2 : Int32)), .val .null, .val (.ref b_4)] [(.int (1 : Int32)), (.ref a1)])) st17 ?_
  obtain ⟨T18, h18, X18, e18, W18, st18⟩ := putFN X17 hx hZ hown (own_w hw 27 rfl) Via.refl e17 F_10 E_8 (Or.inr ⟨(own_w hw 28 rfl), rfl, hnm⟩) (own_w hw 2 rfl) (ty := .byte) (v' := (.int (1 : Int32))) (by decide) rfl rfl (g := (mkF m 48 #[.val (.ref a1), .val (.ref a2), .val (.int (0 : Int32)), .val (.int (2 : Int32)), .val .null, .val (.ref b_4)] [(.int (1 : Int32)), (.ref a1)])) rfl rfl (hb hby d2_48)
  have F_w18 : Fld Z h18 a1 "java/lang/String" "coder" "B" (.int (1 : Int32)) := F_10.same W18
  have E_20 := E_8.wr W18
  have F_21 := F_9.other W18 (Or.inr (slot_ne (Or.inr (own_w hw 30 rfl)) (Or.inr (own_w hw 28 rfl)) (by decide) (t := (.array .byte)) (t' := .byte) (by decide) (by decide)))
  have V_23 := V_11.other W18 (Ne.symm ne_a1_a2)
  have S_24 := S_12.wr W18
  have S_25 := S_13.wr W18
  have S_26 := S_14.wr W18
  have S_27 := S_15.wr W18
  have V_28 := Q4_0.other W18 (Ne.symm ne_a1_b_4_5)
  have K29 : Keep h0 h18 [a1] := K16.wr W18 (Or.inl (List.mem_of_getElem? (i := 0) rfl))
  have N18 := Fr.snoc X18 N17 g_a1
  refine own_go (B := T18.setTop (mkF m 51 #[.val (.ref a1), .val (.ref a2), .val (.int (0 : Int32)), .val (.int (2 : Int32)), .val .null, .val (.ref b_4)] [])) st18 ?_
  refine own_go (B := T18.setTop (mkF m 54 #[.val (.ref a1), .val (.ref a2), .val (.int (0 : Int32)), .val (.int (2 : Int32)), .val .null, .val (.ref b_4)] [(.ref b_4), (.ref a1)])) (fun _ k => XS.aloadN X18.here hx rfl (hb hby d2_51) rfl rfl (XS.aload X18.here hx rfl (hb hby d2_52) rfl rfl k)) ?_
  obtain ⟨T30, h30, X30, e30, W30, st30⟩ := putF X18 hx hZ hown (host := "") (Or.inl (own_w hw 29 rfl)) Via.refl e18 F_21 E_20 (Or.inr ⟨(own_w hw 30 rfl), rfl, hnm⟩) (own_w hw 2 rfl) (ty := (.array .byte)) (by decide) rfl rfl (g := (mkF m 54 #[.val (.ref a1), .val (.ref a2), .val (.int (0 : Int32)), .val (.int (2 : Int32)), .val .null, .val (.ref b_4)] [(.ref b_4), (.ref a1)])) rfl rfl (hb hby d2_54)
  have F_w30 : Fld Z h30 a1 "java/lang/String" "value" "[B" (.ref b_4) := F_21.same W30
  have E_32 := E_20.wr W30
  have V_34 := V_23.other W30 (Ne.symm ne_a1_a2)
  have S_35 := S_24.wr W30
  have S_36 := S_25.wr W30
  have S_37 := S_26.wr W30
  have S_38 := S_27.wr W30
  have V_39 := V_28.other W30 (Ne.symm ne_a1_b_4_5)
  have F_40 := F_w18.other W30 (Or.inr (slot_ne (Or.inr (own_w hw 28 rfl)) (Or.inr (own_w hw 30 rfl)) (by decide) (t := .byte) (t' := (.array .byte)) (by decide) (by decide)))
  have K41 : Keep h0 h30 [a1] := K29.wr W30 (Or.inl (List.mem_of_getElem? (i := 0) rfl))
  have N30 := Fr.snoc X30 N18 g_a1
  refine own_go (B := T30.setTop (mkF m 57 #[.val (.ref a1), .val (.ref a2), .val (.int (0 : Int32)), .val (.int (2 : Int32)), .val .null, .val (.ref b_4)] [])) st30 ?_
  exact own_retV X30 hx Bd.notSynchronized Bd.returns (hb hby d2_57) e30 ⟨b_4, kb_4, u0_4, u1_4, u2_4, u3_4, rfl, N30, K41, E_32, F_w30, F_40, V_39, x4_0⟩ (by decide) (by decide)
abbrev R_own_strA2 : Room := { frames := 5, cells := 2, slots := 6, locals := 74 }
theorem ef_own_strA2 (m : MethodId) (x0 : Addr) (x1 : Addr) : entryFrame m #[(.ref x0), (.ref x1)] 2 = mkF m 0 #[.val (.ref x0), .val (.ref x1)] [] := by first | (simp [entryFrame, mkF, argsToLocals, Value.category]; done) | rfl
def Q_own_strA2 (Z : State) (a1 : Addr) (a2 : Addr) (k2 : ClassId) (c0 : Int32) (c1 : Int32) (cs : Int32) (h0 : Heap) (n0 : Nat) (v : Option Value) (h : Heap) (L : List Loc) : Prop := ∃ t : Addr, ∃ cd : Int32, v = none ∧ Fr n0 L ∧ Keep h0 h [a1] ∧ Exa Z h a1 "java/lang/String" ∧ Fld Z h a1 "java/lang/String" "value" "[B" (.ref t) ∧ Fld Z h a1 "java/lang/String" "coder" "B" (.int cd) ∧ own_Sz Z h t cd 2 ∧ (h0.size ≤ t)
set_option maxRecDepth 65536 in
set_option maxHeartbeats 400000000 in
theorem own_strA2 (l : Launch) (Z : State) (a0 : Array Value) (hw : ∀ d ∈ tables_1, d.before a0 Z = true) (ws : List Jvm.Cond) (a1 : Addr) (a2 : Addr) (k2 : ClassId) (c0 : Int32) (c1 : Int32) (cs : Int32) (h0 : Heap) (n0 : Nat) (Z0 : n0 ≤ h0.size) (P_E_a1 : Exa Z h0 a1 "java/lang/String") (P_F_a1_value : Fld Z h0 a1 "java/lang/String" "value" "[B" .null) (P_F_a1_coder : Fld Z h0 a1 "java/lang/String" "coder" "B" (.int (0 : Int32))) (P_V_a2 : Arv Z h0 a2 k2 .char (2 : Int32) [(.int c0), (.int c1)] (.int (0 : Int32))) (g_a1 : n0 ≤ a1) (ne_a1_a2 : a1 ≠ a2) (P_S_java_lang_String_COMPACT_STRINGS : Sta Z h0 "java/lang/String" "COMPACT_STRINGS" "Z" (.int cs)) (hcs : ¬ (cs = (0 : Int32))) (P_S_java_lang_StringUTF16__assertionsDisabled : Sta Z h0 "java/lang/StringUTF16" "$assertionsDisabled" "Z" (.int (1 : Int32))) (P_S_java_lang_StringUTF16_HI_BYTE_SHIFT : Sta Z h0 "java/lang/StringUTF16" "HI_BYTE_SHIFT" "I" (.int (0 : Int32))) (P_S_java_lang_StringUTF16_LO_BYTE_SHIFT : Sta Z h0 "java/lang/StringUTF16" "LO_BYTE_SHIFT" "I" (.int (8 : Int32))) (hl0 : 0 ≤ c0.toInt) (hu0 : c0.toInt ≤ 65535) (hl1 : 0 ≤ c1.toInt) (hu1 : c1.toInt ≤ 65535) :
    MetFree l (⟨"java/lang/String", "<init>", "([C)V"⟩ : MethodName) (head1 (Jvm.Cond.code (⟨"java/lang/String", "<init>", "([C)V"⟩ : MethodName) jdk_42_method_3_code 2 none :: ws) R_own_strA2) (fun a U => a = #[(.ref a1), (.ref a2)] ∧ Z.Warmed39 U.vm ∧ U.heap = h0) (fun _ _ _ _ _ => True) (fun _ U o U' => ∃ v L, o = .returned v ∧ Q_own_strA2 Z a1 a2 k2 c0 c1 cs h0 n0 v U'.heap L ∧ FrameEnd U o U' L R_own_strA2.cells R_own_strA2.slots) := by
  refine MetFree.of_bodySF (plainFor_of_name own_pn1) hisR ?_
  intro p e s m args below meth c s₁ Bd hml0 hP hK
  obtain ⟨rfl, hZ, hh⟩ := hP
  have hx := Bd.exec
  have hby := Bd.bytes
  have hml : c.maxLocals = 2 := hml0
  have hown : s.vm.findClass "java/lang/String" = some m.cls := findClass_of_methodNamed Bd.named
  have hnm := (name_of_methodNamed Bd.named Bd.method).1
  have X0 : Stand p l e R_own_strA2 s m #[(.ref a1), (.ref a2)] below meth c s₁ [] 0 0 := Stand.of_body Bd
  have e0 : s₁.heap = h0 := by rw [← hh, Bd.state]; rfl
  have N0 := Fr.nil n0
  have K0 : Keep h0 h0 [a1] := Keep.refl h0 [a1]
  show own_Fin p e below s (Q_own_strA2 Z a1 a2 k2 c0 c1 cs h0 n0) R_own_strA2.cells R_own_strA2.slots (s₁.setTop (entryFrame m #[(.ref a1), (.ref a2)] 2))
  refine own_go (fun _ k => castTop (ef_own_strA2 m a1 a2) k) ?_
  show own_Fin _ _ _ _ _ _ _ (s₁.setTop (mkF m 0 #[.val (.ref a1), .val (.ref a2)] []))
  refine own_go (B := s₁.setTop (mkF m 4 #[.val (.ref a1), .val (.ref a2)] [(.ref a2), (.int (0 : Int32)), (.ref a2), (.ref a1)])) (fun _ k => XS.aloadN X0.here hx rfl (hb hby d1_0) rfl rfl (XS.aloadN X0.here hx rfl (hb hby d1_1) rfl rfl (XS.iconst X0.here hx rfl (hb hby d1_2) (XS.aloadN X0.here hx rfl (hb hby d1_3) rfl rfl k)))) ?_
  obtain ⟨cl1, Ar1, q1, S1, N1n, H1, G1⟩ := id P_V_a2
  refine own_go (fun _ k => X0.arraylength hx (own_hc e0 Ar1.1) (State.isArrayOf_alike hZ.alike Ar1.2.1) (g := (mkF m 4 #[.val (.ref a1), .val (.ref a2)] [(.ref a2), (.int (0 : Int32)), (.ref a2), (.ref a1)])) rfl rfl (hb hby d1_4) _ k) ?_
  rw [len_of S1 N1n]
  show own_Fin _ _ _ _ _ _ _ (s₁.setTop (mkF m 5 #[.val (.ref a1), .val (.ref a2)] [(.int (2 : Int32)), (.int (0 : Int32)), (.ref a2), (.ref a1)]))
  refine own_go (B := s₁.setTop (mkF m 6 #[.val (.ref a1), .val (.ref a2)] [.null, (.int (2 : Int32)), (.int (0 : Int32)), (.ref a2), (.ref a1)])) (fun _ k => XS.aconstNull X0.here hx rfl (hb hby d1_5) k) ?_
  by_cases hc2 : c0.toInt ≤ 255
  · skip
    by_cases hc3 : c1.toInt ≤ 255
    · skip
      obtain ⟨_, _, ⟨T4, L4, k4, n4⟩, -, X4, ⟨Lc4, hQ4, l4, y4, z4⟩, st4⟩ := X0.specialBack hx (y := (⟨"java/lang/String", "<init>", "([CIILjava/lang/Void;)V"⟩ : MethodName)) rfl hown (mvT hZ (own_w hw 8 rfl)) (mvT hZ (own_w hw 9 rfl)) (mvT hZ (own_w hw 11 rfl)) (by decide) (backOf (W := 0) (own_str4_2 l Z a0 hw [] a1 a2 k2 c0 c1 cs h0 n0 (Nat.le_trans Z0 K0.1) P_E_a1 P_F_a1_value P_F_a1_coder P_V_a2 g_a1 ne_a1_a2 P_S_java_lang_String_COMPACT_STRINGS hcs hc2 hc3) hZ (own_w hw 11 rfl) (own_w hw 3 rfl) (by decide) (by decide)) (g := (mkF m 6 #[.val (.ref a1), .val (.ref a2)] [.null, (.int (2 : Int32)), (.int (0 : Int32)), (.ref a2), (.ref a1)])) rfl (by rw [hml]; rfl) (Steps.refl _) (a := a1) (argsL := [(.ref a2), (.int (0 : Int32)), (.int (2 : Int32)), .null]) (rest := []) (lenOf own_pd6 rfl) rfl (by show 2 * 0 + _ ≤ _; exact Nat.le_of_eq rfl) (hb hby d1_6) (fun _ _ => ⟨rfl, e0, (by decide : 0 + 1 ≤ _), (by decide : 0 + 2 ≤ _)⟩)
      dsimp only [Pt.U, Pt.locs, Pt.cells, Pt.slots] at X4 l4 y4 z4 st4 hQ4
      subst l4 y4 z4
      obtain ⟨t_4, kt_4, rfl, N4q, K4q, Q4_0, Q4_1, Q4_2, Q4_3, x4_0⟩ := hQ4
      have N4 := Fr.app N0 N4q
      have ne_a1_t_4_5 : a1 ≠ t_4 := Nat.ne_of_lt (Nat.lt_of_lt_of_le P_E_a1.lt x4_0)
      have ne_a2_t_4_6 : a2 ≠ t_4 := Nat.ne_of_lt (Nat.lt_of_lt_of_le P_V_a2.lt x4_0)
      have sz_t_4 : h0.size ≤ t_4 := Nat.le_trans K0.1 x4_0
      have g_t_4 : n0 ≤ t_4 := Nat.le_trans Z0 sz_t_4
      have V_11 := P_V_a2.keep K4q (ninS (Ne.symm ne_a1_a2) nin0)
      have S_12 := own_Sta_keep P_S_java_lang_String_COMPACT_STRINGS K4q (allS (own_plain P_E_a1) all0)
      have S_13 := own_Sta_keep P_S_java_lang_StringUTF16__assertionsDisabled K4q (allS (own_plain P_E_a1) all0)
      have S_14 := own_Sta_keep P_S_java_lang_StringUTF16_HI_BYTE_SHIFT K4q (allS (own_plain P_E_a1) all0)
      have S_15 := own_Sta_keep P_S_java_lang_StringUTF16_LO_BYTE_SHIFT K4q (allS (own_plain P_E_a1) all0)
      have K16 : Keep h0 T4.heap [a1] := K0.trans K4q (allS (Or.inl (List.mem_of_getElem? (i := 0) rfl)) all0)
      refine own_go (B := T4.setTop (mkF m 9 #[.val (.ref a1), .val (.ref a2)] [])) (fun _ k => st4.trans k) ?_
      exact own_retV X4 hx Bd.notSynchronized Bd.returns (hb hby d1_9) rfl ⟨t_4, (0 : Int32), rfl, N4, K16, Q4_0, Q4_1, Q4_2, (own_Sz0 Q4_3 rfl), x4_0⟩ (by decide) (by decide)
    · skip
      obtain ⟨_, _, ⟨T17, L17, k17, n17⟩, -, X17, ⟨Lc17, hQ17, l17, y17, z17⟩, st17⟩ := X0.specialBack hx (y := (⟨"java/lang/String", "<init>", "([CIILjava/lang/Void;)V"⟩ : MethodName)) rfl hown (mvT hZ (own_w hw 8 rfl)) (mvT hZ (own_w hw 9 rfl)) (mvT hZ (own_w hw 11 rfl)) (by decide) (backOf (W := 0) (own_str4_2_1 l Z a0 hw [] a1 a2 k2 c0 c1 cs h0 n0 (Nat.le_trans Z0 K0.1) P_E_a1 P_F_a1_value P_F_a1_coder P_V_a2 g_a1 ne_a1_a2 P_S_java_lang_String_COMPACT_STRINGS hcs P_S_java_lang_StringUTF16__assertionsDisabled P_S_java_lang_StringUTF16_HI_BYTE_SHIFT P_S_java_lang_StringUTF16_LO_BYTE_SHIFT hc2 hc3 hl1 hu1) hZ (own_w hw 11 rfl) (own_w hw 3 rfl) (by decide) (by decide)) (g := (mkF m 6 #[.val (.ref a1), .val (.ref a2)] [.null, (.int (2 : Int32)), (.int (0 : Int32)), (.ref a2), (.ref a1)])) rfl (by rw [hml]; rfl) (Steps.refl _) (a := a1) (argsL := [(.ref a2), (.int (0 : Int32)), (.int (2 : Int32)), .null]) (rest := []) (lenOf own_pd6 rfl) rfl (by show 2 * 0 + _ ≤ _; exact Nat.le_of_eq rfl) (hb hby d1_6) (fun _ _ => ⟨rfl, e0, (by decide : 0 + 2 ≤ _), (by decide : 0 + 6 ≤ _)⟩)
      dsimp only [Pt.U, Pt.locs, Pt.cells, Pt.slots] at X17 l17 y17 z17 st17 hQ17
      subst l17 y17 z17
      obtain ⟨t_17, kt_17, u0_17, u1_17, u2_17, u3_17, rfl, N17q, K17q, Q17_0, Q17_1, Q17_2, Q17_3, x17_0⟩ := hQ17
      have N17 := Fr.app N0 N17q
      have ne_a1_t_17_18 : a1 ≠ t_17 := Nat.ne_of_lt (Nat.lt_of_lt_of_le P_E_a1.lt x17_0)
      have ne_a2_t_17_19 : a2 ≠ t_17 := Nat.ne_of_lt (Nat.lt_of_lt_of_le P_V_a2.lt x17_0)
      have sz_t_17 : h0.size ≤ t_17 := Nat.le_trans K0.1 x17_0
      have g_t_17 : n0 ≤ t_17 := Nat.le_trans Z0 sz_t_17
      have V_24 := P_V_a2.keep K17q (ninS (Ne.symm ne_a1_a2) nin0)
      have S_25 := own_Sta_keep P_S_java_lang_String_COMPACT_STRINGS K17q (allS (own_plain P_E_a1) all0)
      have S_26 := own_Sta_keep P_S_java_lang_StringUTF16__assertionsDisabled K17q (allS (own_plain P_E_a1) all0)
      have S_27 := own_Sta_keep P_S_java_lang_StringUTF16_HI_BYTE_SHIFT K17q (allS (own_plain P_E_a1) all0)
      have S_28 := own_Sta_keep P_S_java_lang_StringUTF16_LO_BYTE_SHIFT K17q (allS (own_plain P_E_a1) all0)
      have K29 : Keep h0 T17.heap [a1] := K0.trans K17q (allS (Or.inl (List.mem_of_getElem? (i := 0) rfl)) all0)
      refine own_go (B := T17.setTop (mkF m 9 #[.val (.ref a1), .val (.ref a2)] [])) (fun _ k => st17.trans k) ?_
      exact own_retV X17 hx Bd.notSynchronized Bd.returns (hb hby d1_9) rfl ⟨t_17, (1 : Int32), rfl, N17, K29, Q17_0, Q17_1, Q17_2, (own_Sz1 Q17_3 rfl), x17_0⟩ (by decide) (by decide)
  · skip
    obtain ⟨_, _, ⟨T30, L30, k30, n30⟩, -, X30, ⟨Lc30, hQ30, l30, y30, z30⟩, st30⟩ := X0.specialBack hx (y := (⟨"java/lang/String", "<init>", "([CIILjava/lang/Void;)V"⟩ : MethodName)) rfl hown (mvT hZ (own_w hw 8 rfl)) (mvT hZ (own_w hw 9 rfl)) (mvT hZ (own_w hw 11 rfl)) (by decide) (backOf (W := 0) (own_str4_2_0 l Z a0 hw [] a1 a2 k2 c0 c1 cs h0 n0 (Nat.le_trans Z0 K0.1) P_E_a1 P_F_a1_value P_F_a1_coder P_V_a2 g_a1 ne_a1_a2 P_S_java_lang_String_COMPACT_STRINGS hcs P_S_java_lang_StringUTF16__assertionsDisabled P_S_java_lang_StringUTF16_HI_BYTE_SHIFT P_S_java_lang_StringUTF16_LO_BYTE_SHIFT hc2 hl0 hu0) hZ (own_w hw 11 rfl) (own_w hw 3 rfl) (by decide) (by decide)) (g := (mkF m 6 #[.val (.ref a1), .val (.ref a2)] [.null, (.int (2 : Int32)), (.int (0 : Int32)), (.ref a2), (.ref a1)])) rfl (by rw [hml]; rfl) (Steps.refl _) (a := a1) (argsL := [(.ref a2), (.int (0 : Int32)), (.int (2 : Int32)), .null]) (rest := []) (lenOf own_pd6 rfl) rfl (by show 2 * 0 + _ ≤ _; exact Nat.le_of_eq rfl) (hb hby d1_6) (fun _ _ => ⟨rfl, e0, (by decide : 0 + 2 ≤ _), (by decide : 0 + 6 ≤ _)⟩)
    dsimp only [Pt.U, Pt.locs, Pt.cells, Pt.slots] at X30 l30 y30 z30 st30 hQ30
    subst l30 y30 z30
    obtain ⟨t_30, kt_30, u0_30, u1_30, u2_30, u3_30, rfl, N30q, K30q, Q30_0, Q30_1, Q30_2, Q30_3, x30_0⟩ := hQ30
    have N30 := Fr.app N0 N30q
    have ne_a1_t_30_31 : a1 ≠ t_30 := Nat.ne_of_lt (Nat.lt_of_lt_of_le P_E_a1.lt x30_0)
    have ne_a2_t_30_32 : a2 ≠ t_30 := Nat.ne_of_lt (Nat.lt_of_lt_of_le P_V_a2.lt x30_0)
    have sz_t_30 : h0.size ≤ t_30 := Nat.le_trans K0.1 x30_0
    have g_t_30 : n0 ≤ t_30 := Nat.le_trans Z0 sz_t_30
    have V_37 := P_V_a2.keep K30q (ninS (Ne.symm ne_a1_a2) nin0)
    have S_38 := own_Sta_keep P_S_java_lang_String_COMPACT_STRINGS K30q (allS (own_plain P_E_a1) all0)
    have S_39 := own_Sta_keep P_S_java_lang_StringUTF16__assertionsDisabled K30q (allS (own_plain P_E_a1) all0)
    have S_40 := own_Sta_keep P_S_java_lang_StringUTF16_HI_BYTE_SHIFT K30q (allS (own_plain P_E_a1) all0)
    have S_41 := own_Sta_keep P_S_java_lang_StringUTF16_LO_BYTE_SHIFT K30q (allS (own_plain P_E_a1) all0)
    have K42 : Keep h0 T30.heap [a1] := K0.trans K30q (allS (Or.inl (List.mem_of_getElem? (i := 0) rfl)) all0)
    refine own_go (B := T30.setTop (mkF m 9 #[.val (.ref a1), .val (.ref a2)] [])) (fun _ k => st30.trans k) ?_
    exact own_retV X30 hx Bd.notSynchronized Bd.returns (hb hby d1_9) rfl ⟨t_30, (1 : Int32), rfl, N30, K42, Q30_0, Q30_1, Q30_2, (own_Sz1 Q30_3 rfl), x30_0⟩ (by decide) (by decide)
abbrev R_own_lenA2 : Room := { frames := 1, cells := 0, slots := 0, locals := 13 }
theorem ef_own_lenA2 (m : MethodId) (x0 : Addr) : entryFrame m #[(.ref x0)] 1 = mkF m 0 #[.val (.ref x0)] [] := by first | (simp [entryFrame, mkF, argsToLocals, Value.category]; done) | rfl
set_option maxRecDepth 65536 in
set_option maxHeartbeats 4000000 in
theorem own_pl_lenA2_1 (cd : Int32) (cs : Int32) (hcs : ¬ (cs = (0 : Int32))) (hcd2 : cd = (0 : Int32)) : cd = (0 : Int32) ∨ cd = (1 : Int32) := by
  subst_vars
  decide
set_option maxRecDepth 65536 in
set_option maxHeartbeats 4000000 in
theorem own_pl_lenA2_2 (cd : Int32) (cs : Int32) (hcs : ¬ (cs = (0 : Int32))) (hcd2 : cd = (0 : Int32)) : ((2 : Int32) >>> (cd &&& 31)) = (2 : Int32) := by
  subst_vars
  decide
set_option maxRecDepth 65536 in
set_option maxHeartbeats 4000000 in
theorem own_pl_lenA2_3 (cd : Int32) (cs : Int32) (hcs : ¬ (cs = (0 : Int32))) (hcd2 : cd = (1 : Int32)) : cd = (0 : Int32) ∨ cd = (1 : Int32) := by
  subst_vars
  decide
set_option maxRecDepth 65536 in
set_option maxHeartbeats 4000000 in
theorem own_pl_lenA2_4 (cd : Int32) (cs : Int32) (hcs : ¬ (cs = (0 : Int32))) (hcd2 : cd = (1 : Int32)) : ((4 : Int32) >>> (cd &&& 31)) = (2 : Int32) := by
  subst_vars
  decide
def Q_own_lenA2 (Z : State) (a1 : Addr) (t : Addr) (cd : Int32) (cs : Int32) (h0 : Heap) (n0 : Nat) (v : Option Value) (h : Heap) (L : List Loc) : Prop := v = some (.int (2 : Int32)) ∧ Fr n0 L ∧ h = h0
set_option maxRecDepth 65536 in
set_option maxHeartbeats 400000000 in
theorem own_lenA2 (l : Launch) (Z : State) (a0 : Array Value) (hw : ∀ d ∈ tables_1, d.before a0 Z = true) (ws : List Jvm.Cond) (a1 : Addr) (t : Addr) (cd : Int32) (cs : Int32) (h0 : Heap) (n0 : Nat) (Z0 : n0 ≤ h0.size) (P_E_a1 : Exa Z h0 a1 "java/lang/String") (P_F_a1_value : Fld Z h0 a1 "java/lang/String" "value" "[B" (.ref t)) (P_F_a1_coder : Fld Z h0 a1 "java/lang/String" "coder" "B" (.int cd)) (P_G_t_sz : own_Sz Z h0 t cd 2) (P_S_java_lang_String_COMPACT_STRINGS : Sta Z h0 "java/lang/String" "COMPACT_STRINGS" "Z" (.int cs)) (hcs : ¬ (cs = (0 : Int32))) :
    MetFree l (⟨"java/lang/String", "length", "()I"⟩ : MethodName) (head1 (Jvm.Cond.code (⟨"java/lang/String", "length", "()I"⟩ : MethodName) jdk_42_method_54_code 1 (some .int) :: ws) R_own_lenA2) (fun a U => a = #[(.ref a1)] ∧ Z.Warmed39 U.vm ∧ U.heap = h0) (fun _ _ _ _ _ => True) (fun _ U o U' => ∃ v L, o = .returned v ∧ Q_own_lenA2 Z a1 t cd cs h0 n0 v U'.heap L ∧ FrameEnd U o U' L R_own_lenA2.cells R_own_lenA2.slots) := by
  refine MetFree.of_bodySF (plainFor_of_name own_pn1) hisR ?_
  intro p e s m args below meth c s₁ Bd hml0 hP hK
  obtain ⟨rfl, hZ, hh⟩ := hP
  have hx := Bd.exec
  have hby := Bd.bytes
  have hml : c.maxLocals = 1 := hml0
  have hown : s.vm.findClass "java/lang/String" = some m.cls := findClass_of_methodNamed Bd.named
  have hnm := (name_of_methodNamed Bd.named Bd.method).1
  have X0 : Stand p l e R_own_lenA2 s m #[(.ref a1)] below meth c s₁ [] 0 0 := Stand.of_body Bd
  have e0 : s₁.heap = h0 := by rw [← hh, Bd.state]; rfl
  have N0 := Fr.nil n0
  have K0 : Keep h0 h0 [] := Keep.refl h0 []
  show own_Fin p e below s (Q_own_lenA2 Z a1 t cd cs h0 n0) R_own_lenA2.cells R_own_lenA2.slots (s₁.setTop (entryFrame m #[(.ref a1)] 1))
  refine own_go (fun _ k => castTop (ef_own_lenA2 m a1) k) ?_
  show own_Fin _ _ _ _ _ _ _ (s₁.setTop (mkF m 0 #[.val (.ref a1)] []))
  refine own_go (B := s₁.setTop (mkF m 1 #[.val (.ref a1)] [(.ref a1)])) (fun _ k => XS.aloadN X0.here hx rfl (hb hby d9_0) rfl rfl k) ?_
  obtain ⟨T1, X1, e1, st1⟩ := getF X0 hx hZ hown (host := "") (Or.inl (own_w hw 29 rfl)) Via.refl e0 P_F_a1_value (g := (mkF m 1 #[.val (.ref a1)] [(.ref a1)])) rfl rfl (hb hby d9_1)
  refine own_go (B := T1.setTop (mkF m 4 #[.val (.ref a1)] [(.ref t)])) st1 ?_
  obtain ⟨cl2, Ar2, hsz2⟩ := id P_G_t_sz
  rcases hsz2 with ⟨hcd2, hs2⟩ | ⟨hcd2, hs2⟩
  · skip
    refine own_go (fun _ k => X1.arraylength hx (own_hc e1 Ar2.1) (State.isArrayOf_alike hZ.alike Ar2.2.1) (g := (mkF m 4 #[.val (.ref a1)] [(.ref t)])) rfl rfl (hb hby d9_4) _ k) ?_
    rw [show cl2.slots.size.toInt32 = (2 : Int32) from by rw [hs2]; rfl]
    show own_Fin _ _ _ _ _ _ _ (T1.setTop (mkF m 5 #[.val (.ref a1)] [(.int (2 : Int32))]))
    refine own_go (B := T1.setTop (mkF m 6 #[.val (.ref a1)] [(.ref a1), (.int (2 : Int32))])) (fun _ k => XS.aloadN X1.here hx rfl (hb hby d9_5) rfl rfl k) ?_
    obtain ⟨cq3, kq3, q3a, q3b, q3c⟩ := isOf hZ e1 P_E_a1
    obtain ⟨_, _, ⟨T3, L3, k3, n3⟩, -, X3, ⟨Lc3, hQ3, l3, y3, z3⟩, st3⟩ := X1.virtualBack hx (y := (⟨"java/lang/String", "coder", "()B"⟩ : MethodName)) (z := (⟨"java/lang/String", "coder", "()B"⟩ : MethodName)) hown (mvT hZ (own_w hw 49 rfl)) (mvT hZ (own_w hw 50 rfl)) (notFace_of_selects (args := #[]) (mvT hZ (own_w hw 52 rfl))) (mvT hZ (own_w hw 52 rfl)) (mvT hZ (own_w hw 51 rfl)) (by decide) (backOf (W := 1) (own_coderA l Z a0 hw [] a1 cd cs h0 n0 (Nat.le_trans Z0 K0.1) P_F_a1_coder P_S_java_lang_String_COMPACT_STRINGS hcs (own_pl_lenA2_1 cd cs hcs hcd2)) hZ (own_w hw 53 rfl) (own_w hw 3 rfl) (by decide) (by decide)) q3a q3c (g := (mkF m 6 #[.val (.ref a1)] [(.ref a1), (.int (2 : Int32))])) rfl (by rw [hml]; rfl) (Steps.refl _) (argsL := []) (rest := [(.int (2 : Int32))]) (lenOf own_pd8 rfl) rfl (by show 2 * 0 + _ ≤ _; exact Nat.le_of_eq rfl) (hb hby d9_6) (fun _ _ => ⟨rfl, e1, (by decide : 0 + 0 ≤ _), (by decide : 0 + 0 ≤ _)⟩)
    dsimp only [Pt.U, Pt.locs, Pt.cells, Pt.slots] at X3 l3 y3 z3 st3 hQ3
    subst l3 y3 z3
    obtain ⟨rfl, N3q, e3⟩ := hQ3
    have N3 := Fr.app N0 N3q
    refine own_go (B := T3.setTop (mkF m 10 #[.val (.ref a1)] [(.int ((2 : Int32) >>> (cd &&& 31)))])) (fun _ k => st3.trans (XS.ishr X3.here hx rfl (hb hby d9_9) rfl k)) ?_
    exact own_retI X3 hx Bd.notSynchronized Bd.returns (hb hby d9_10) e3 ⟨(by rw [(own_pl_lenA2_2 cd cs hcs hcd2)]), N3, rfl⟩ (by decide) (by decide)
  · skip
    refine own_go (fun _ k => X1.arraylength hx (own_hc e1 Ar2.1) (State.isArrayOf_alike hZ.alike Ar2.2.1) (g := (mkF m 4 #[.val (.ref a1)] [(.ref t)])) rfl rfl (hb hby d9_4) _ k) ?_
    rw [show cl2.slots.size.toInt32 = (4 : Int32) from by rw [hs2]; rfl]
    show own_Fin _ _ _ _ _ _ _ (T1.setTop (mkF m 5 #[.val (.ref a1)] [(.int (4 : Int32))]))
    refine own_go (B := T1.setTop (mkF m 6 #[.val (.ref a1)] [(.ref a1), (.int (4 : Int32))])) (fun _ k => XS.aloadN X1.here hx rfl (hb hby d9_5) rfl rfl k) ?_
    obtain ⟨cq4, kq4, q4a, q4b, q4c⟩ := isOf hZ e1 P_E_a1
    obtain ⟨_, _, ⟨T4, L4, k4, n4⟩, -, X4, ⟨Lc4, hQ4, l4, y4, z4⟩, st4⟩ := X1.virtualBack hx (y := (⟨"java/lang/String", "coder", "()B"⟩ : MethodName)) (z := (⟨"java/lang/String", "coder", "()B"⟩ : MethodName)) hown (mvT hZ (own_w hw 49 rfl)) (mvT hZ (own_w hw 50 rfl)) (notFace_of_selects (args := #[]) (mvT hZ (own_w hw 52 rfl))) (mvT hZ (own_w hw 52 rfl)) (mvT hZ (own_w hw 51 rfl)) (by decide) (backOf (W := 1) (own_coderA l Z a0 hw [] a1 cd cs h0 n0 (Nat.le_trans Z0 K0.1) P_F_a1_coder P_S_java_lang_String_COMPACT_STRINGS hcs (own_pl_lenA2_3 cd cs hcs hcd2)) hZ (own_w hw 53 rfl) (own_w hw 3 rfl) (by decide) (by decide)) q4a q4c (g := (mkF m 6 #[.val (.ref a1)] [(.ref a1), (.int (4 : Int32))])) rfl (by rw [hml]; rfl) (Steps.refl _) (argsL := []) (rest := [(.int (4 : Int32))]) (lenOf own_pd8 rfl) rfl (by show 2 * 0 + _ ≤ _; exact Nat.le_of_eq rfl) (hb hby d9_6) (fun _ _ => ⟨rfl, e1, (by decide : 0 + 0 ≤ _), (by decide : 0 + 0 ≤ _)⟩)
    dsimp only [Pt.U, Pt.locs, Pt.cells, Pt.slots] at X4 l4 y4 z4 st4 hQ4
    subst l4 y4 z4
    obtain ⟨rfl, N4q, e4⟩ := hQ4
    have N4 := Fr.app N0 N4q
    refine own_go (B := T4.setTop (mkF m 10 #[.val (.ref a1)] [(.int ((4 : Int32) >>> (cd &&& 31)))])) (fun _ k => st4.trans (XS.ishr X4.here hx rfl (hb hby d9_9) rfl k)) ?_
    exact own_retI X4 hx Bd.notSynchronized Bd.returns (hb hby d9_10) e4 ⟨(by rw [(own_pl_lenA2_4 cd cs hcs hcd2)]), N4, rfl⟩ (by decide) (by decide)
abbrev R_own_empA2 : Room := { frames := 0, cells := 0, slots := 0, locals := 0 }
theorem ef_own_empA2 (m : MethodId) (x0 : Addr) : entryFrame m #[(.ref x0)] 1 = mkF m 0 #[.val (.ref x0)] [] := by first | (simp [entryFrame, mkF, argsToLocals, Value.category]; done) | rfl
def Q_own_empA2 (Z : State) (a1 : Addr) (t : Addr) (cd : Int32) (h0 : Heap) (n0 : Nat) (v : Option Value) (h : Heap) (L : List Loc) : Prop := v = some (.int (0 : Int32)) ∧ Fr n0 L ∧ h = h0
set_option maxRecDepth 65536 in
set_option maxHeartbeats 400000000 in
theorem own_empA2 (l : Launch) (Z : State) (a0 : Array Value) (hw : ∀ d ∈ tables_1, d.before a0 Z = true) (ws : List Jvm.Cond) (a1 : Addr) (t : Addr) (cd : Int32) (h0 : Heap) (n0 : Nat) (Z0 : n0 ≤ h0.size) (P_F_a1_value : Fld Z h0 a1 "java/lang/String" "value" "[B" (.ref t)) (P_G_t_sz : own_Sz Z h0 t cd 2) :
    MetFree l (⟨"java/lang/String", "isEmpty", "()Z"⟩ : MethodName) (head1 (Jvm.Cond.code (⟨"java/lang/String", "isEmpty", "()Z"⟩ : MethodName) jdk_42_method_55_code 1 (some .boolean) :: ws) R_own_empA2) (fun a U => a = #[(.ref a1)] ∧ Z.Warmed39 U.vm ∧ U.heap = h0) (fun _ _ _ _ _ => True) (fun _ U o U' => ∃ v L, o = .returned v ∧ Q_own_empA2 Z a1 t cd h0 n0 v U'.heap L ∧ FrameEnd U o U' L R_own_empA2.cells R_own_empA2.slots) := by
  refine MetFree.of_bodySF (plainFor_of_name own_pn1) hisR ?_
  intro p e s m args below meth c s₁ Bd hml0 hP hK
  obtain ⟨rfl, hZ, hh⟩ := hP
  have hx := Bd.exec
  have hby := Bd.bytes
  have hml : c.maxLocals = 1 := hml0
  have hown : s.vm.findClass "java/lang/String" = some m.cls := findClass_of_methodNamed Bd.named
  have hnm := (name_of_methodNamed Bd.named Bd.method).1
  have X0 : Stand p l e R_own_empA2 s m #[(.ref a1)] below meth c s₁ [] 0 0 := Stand.of_body Bd
  have e0 : s₁.heap = h0 := by rw [← hh, Bd.state]; rfl
  have N0 := Fr.nil n0
  have K0 : Keep h0 h0 [] := Keep.refl h0 []
  show own_Fin p e below s (Q_own_empA2 Z a1 t cd h0 n0) R_own_empA2.cells R_own_empA2.slots (s₁.setTop (entryFrame m #[(.ref a1)] 1))
  refine own_go (fun _ k => castTop (ef_own_empA2 m a1) k) ?_
  show own_Fin _ _ _ _ _ _ _ (s₁.setTop (mkF m 0 #[.val (.ref a1)] []))
  refine own_go (B := s₁.setTop (mkF m 1 #[.val (.ref a1)] [(.ref a1)])) (fun _ k => XS.aloadN X0.here hx rfl (hb hby d8_0) rfl rfl k) ?_
  obtain ⟨T1, X1, e1, st1⟩ := getF X0 hx hZ hown (host := "") (Or.inl (own_w hw 29 rfl)) Via.refl e0 P_F_a1_value (g := (mkF m 1 #[.val (.ref a1)] [(.ref a1)])) rfl rfl (hb hby d8_1)
  refine own_go (B := T1.setTop (mkF m 4 #[.val (.ref a1)] [(.ref t)])) st1 ?_
  obtain ⟨cl2, Ar2, hsz2⟩ := id P_G_t_sz
  rcases hsz2 with ⟨hcd2, hs2⟩ | ⟨hcd2, hs2⟩
  · skip
    refine own_go (fun _ k => X1.arraylength hx (own_hc e1 Ar2.1) (State.isArrayOf_alike hZ.alike Ar2.2.1) (g := (mkF m 4 #[.val (.ref a1)] [(.ref t)])) rfl rfl (hb hby d8_4) _ k) ?_
    rw [show cl2.slots.size.toInt32 = (2 : Int32) from by rw [hs2]; rfl]
    show own_Fin _ _ _ _ _ _ _ (T1.setTop (mkF m 5 #[.val (.ref a1)] [(.int (2 : Int32))]))
    have hc3 : ¬ ((2 : Int32) = (0 : Int32)) := by decide
    refine own_go (B := T1.setTop (mkF m 13 #[.val (.ref a1)] [(.int (0 : Int32))])) (fun _ k => XS.ifYes X1.here hx rfl (pc0 := 5) (pc' := 12) rfl (hb hby d8_5) rfl ((if0 _ _).trans (feq hc3).2) (by decide) (by decide) (XS.iconst X1.here hx rfl (hb hby d8_12) k)) ?_
    exact own_retN X1 hx Bd.notSynchronized (t := .boolean) (w := (0 : Int32)) Bd.returns (by simp) (hb hby d8_13) e1 rfl ⟨rfl, N0, rfl⟩ (by decide) (by decide)
  · skip
    refine own_go (fun _ k => X1.arraylength hx (own_hc e1 Ar2.1) (State.isArrayOf_alike hZ.alike Ar2.2.1) (g := (mkF m 4 #[.val (.ref a1)] [(.ref t)])) rfl rfl (hb hby d8_4) _ k) ?_
    rw [show cl2.slots.size.toInt32 = (4 : Int32) from by rw [hs2]; rfl]
    show own_Fin _ _ _ _ _ _ _ (T1.setTop (mkF m 5 #[.val (.ref a1)] [(.int (4 : Int32))]))
    have hc4 : ¬ ((4 : Int32) = (0 : Int32)) := by decide
    refine own_go (B := T1.setTop (mkF m 13 #[.val (.ref a1)] [(.int (0 : Int32))])) (fun _ k => XS.ifYes X1.here hx rfl (pc0 := 5) (pc' := 12) rfl (hb hby d8_5) rfl ((if0 _ _).trans (feq hc4).2) (by decide) (by decide) (XS.iconst X1.here hx rfl (hb hby d8_12) k)) ?_
    exact own_retN X1 hx Bd.notSynchronized (t := .boolean) (w := (0 : Int32)) Bd.returns (by simp) (hb hby d8_13) e1 rfl ⟨rfl, N0, rfl⟩ (by decide) (by decide)
abbrev R_own_cmpI3 : Room := { frames := 0, cells := 0, slots := 0, locals := 0 }
theorem ef_own_cmpI3 (m : MethodId) (x0 : Addr) (x2 : Addr) : entryFrame m #[(.ref x0), (.int (0 : Int32)), (.ref x2), (.int (0 : Int32)), (.int (3 : Int32))] 7 = mkF m 0 #[.val (.ref x0), .val (.int (0 : Int32)), .val (.ref x2), .val (.int (0 : Int32)), .val (.int (3 : Int32)), .unset, .unset] [] := by first | (simp [entryFrame, mkF, argsToLocals, Value.category]; done) | rfl
set_option maxRecDepth 65536 in
set_option maxHeartbeats 4000000 in
theorem own_pl_cmpI3_1 (c0 : Int32) (c1 : Int32) (c2 : Int32) (hh0 : c0.toInt ≤ 255) (hh1 : c1.toInt ≤ 255) (hh2 : c2.toInt ≤ 255) : ¬ ((255 : Int32) < c0) := by
  have := rng32 c0
  have := rng32 c1
  have := rng32 c2
  try simp only [own_i32_255] at *
  have := own_i32_255
  try simp only [Int32.lt_iff_toInt_lt, Int32.le_iff_toInt_le, Int64.lt_iff_toInt_lt, Int64.le_iff_toInt_le, ← Int32.toInt_inj, ← Int64.toInt_inj, true_and, and_true, true_or, or_true, false_or, or_false, not_true_eq_false, not_false_eq_true, false_and, and_false, ne_eq] at *
  all_goals first | omega | (simp; done)
set_option maxRecDepth 65536 in
set_option maxHeartbeats 4000000 in
theorem own_pl_cmpI3_2 (c0 : Int32) (c1 : Int32) (c2 : Int32) (hh0 : c0.toInt ≤ 255) (hh1 : c1.toInt ≤ 255) (hh2 : c2.toInt ≤ 255) (hc4 : ¬ ((255 : Int32) < c0)) : ¬ ((255 : Int32) < c1) := by
  have := rng32 c0
  have := rng32 c1
  have := rng32 c2
  try simp only [own_i32_255] at *
  have := own_i32_255
  try simp only [Int32.lt_iff_toInt_lt, Int32.le_iff_toInt_le, Int64.lt_iff_toInt_lt, Int64.le_iff_toInt_le, ← Int32.toInt_inj, ← Int64.toInt_inj, true_and, and_true, true_or, or_true, false_or, or_false, not_true_eq_false, not_false_eq_true, false_and, and_false, ne_eq] at *
  all_goals first | omega | (simp; done)
set_option maxRecDepth 65536 in
set_option maxHeartbeats 4000000 in
theorem own_pl_cmpI3_3 (c0 : Int32) (c1 : Int32) (c2 : Int32) (hh0 : c0.toInt ≤ 255) (hh1 : c1.toInt ≤ 255) (hh2 : c2.toInt ≤ 255) (hc4 : ¬ ((255 : Int32) < c0)) (hc14 : ¬ ((255 : Int32) < c1)) : ¬ ((255 : Int32) < c2) := by
  have := rng32 c0
  have := rng32 c1
  have := rng32 c2
  try simp only [own_i32_255] at *
  have := own_i32_255
  try simp only [Int32.lt_iff_toInt_lt, Int32.le_iff_toInt_le, Int64.lt_iff_toInt_lt, Int64.le_iff_toInt_le, ← Int32.toInt_inj, ← Int64.toInt_inj, true_and, and_true, true_or, or_true, false_or, or_false, not_true_eq_false, not_false_eq_true, false_and, and_false, ne_eq] at *
  all_goals first | omega | (simp; done)
def Q_own_cmpI3 (Z : State) (a1 : Addr) (a3 : Addr) (k1 : ClassId) (k3 : ClassId) (c0 : Int32) (c1 : Int32) (c2 : Int32) (h0 : Heap) (n0 : Nat) (v : Option Value) (h : Heap) (L : List Loc) : Prop := v = some (.int (3 : Int32)) ∧ Fr n0 L ∧ Keep h0 h [a3] ∧ Arv Z h a3 k3 .byte (3 : Int32) [(.int (c0.toInt8.toInt32)), (.int (c1.toInt8.toInt32)), (.int (c2.toInt8.toInt32))] (.int (0 : Int32))
set_option maxRecDepth 65536 in
set_option maxHeartbeats 400000000 in
theorem own_cmpI3 (l : Launch) (Z : State) (a0 : Array Value) (hw : ∀ d ∈ tables_1, d.before a0 Z = true) (ws : List Jvm.Cond) (a1 : Addr) (a3 : Addr) (k1 : ClassId) (k3 : ClassId) (c0 : Int32) (c1 : Int32) (c2 : Int32) (h0 : Heap) (n0 : Nat) (Z0 : n0 ≤ h0.size) (P_V_a1 : Arv Z h0 a1 k1 .char (3 : Int32) [(.int c0), (.int c1), (.int c2)] (.int (0 : Int32))) (P_V_a3 : Arv Z h0 a3 k3 .byte (3 : Int32) [(.int (0 : Int32)), (.int (0 : Int32)), (.int (0 : Int32))] (.int (0 : Int32))) (g_a3 : n0 ≤ a3) (ne_a1_a3 : a1 ≠ a3) (hh0 : c0.toInt ≤ 255) (hh1 : c1.toInt ≤ 255) (hh2 : c2.toInt ≤ 255) :
    MetFree l (⟨"java/lang/StringUTF16", "compress", "([CI[BII)I"⟩ : MethodName) (head1 (Jvm.Cond.code (⟨"java/lang/StringUTF16", "compress", "([CI[BII)I"⟩ : MethodName) jdk_52_method_21_code 7 (some .int) :: ws) R_own_cmpI3) (fun a U => a = #[(.ref a1), (.int (0 : Int32)), (.ref a3), (.int (0 : Int32)), (.int (3 : Int32))] ∧ Z.Warmed39 U.vm ∧ U.heap = h0) (fun _ _ _ _ _ => True) (fun _ U o U' => ∃ v L, o = .returned v ∧ Q_own_cmpI3 Z a1 a3 k1 k3 c0 c1 c2 h0 n0 v U'.heap L ∧ FrameEnd U o U' L R_own_cmpI3.cells R_own_cmpI3.slots) := by
  refine MetFree.of_bodySF (plainFor_of_name own_pn0) hisR ?_
  intro p e s m args below meth c s₁ Bd hml0 hP hK
  obtain ⟨rfl, hZ, hh⟩ := hP
  have hx := Bd.exec
  have hby := Bd.bytes
  have hml : c.maxLocals = 7 := hml0
  have hown : s.vm.findClass "java/lang/StringUTF16" = some m.cls := findClass_of_methodNamed Bd.named
  have hnm := (name_of_methodNamed Bd.named Bd.method).1
  have X0 : Stand p l e R_own_cmpI3 s m #[(.ref a1), (.int (0 : Int32)), (.ref a3), (.int (0 : Int32)), (.int (3 : Int32))] below meth c s₁ [] 0 0 := Stand.of_body Bd
  have e0 : s₁.heap = h0 := by rw [← hh, Bd.state]; rfl
  have N0 := Fr.nil n0
  have K0 : Keep h0 h0 [a3] := Keep.refl h0 [a3]
  show own_Fin p e below s (Q_own_cmpI3 Z a1 a3 k1 k3 c0 c1 c2 h0 n0) R_own_cmpI3.cells R_own_cmpI3.slots (s₁.setTop (entryFrame m #[(.ref a1), (.int (0 : Int32)), (.ref a3), (.int (0 : Int32)), (.int (3 : Int32))] 7))
  refine own_go (fun _ k => castTop (ef_own_cmpI3 m a1 a3) k) ?_
  show own_Fin _ _ _ _ _ _ _ (s₁.setTop (mkF m 0 #[.val (.ref a1), .val (.int (0 : Int32)), .val (.ref a3), .val (.int (0 : Int32)), .val (.int (3 : Int32)), .unset, .unset] []))
  refine own_go (B := s₁.setTop (mkF m 7 #[.val (.ref a1), .val (.int (0 : Int32)), .val (.ref a3), .val (.int (0 : Int32)), .val (.int (3 : Int32)), .val (.int (0 : Int32)), .unset] [(.int (3 : Int32)), (.int (0 : Int32))])) (fun _ k => XS.iconst X0.here hx rfl (hb hby d5_0) (XS.istore X0.here hx rfl (hb hby d5_1) rfl (l' := #[.val (.ref a1), .val (.int (0 : Int32)), .val (.ref a3), .val (.int (0 : Int32)), .val (.int (3 : Int32)), .val (.int (0 : Int32)), .unset]) rfl (XS.iload X0.here hx rfl (hb hby d5_3) rfl  (XS.iload X0.here hx rfl (hb hby d5_5) rfl  k)))) ?_
  have hc1 : (0 : Int32) < (3 : Int32) := by decide
  refine own_go (B := s₁.setTop (mkF m 12 #[.val (.ref a1), .val (.int (0 : Int32)), .val (.ref a3), .val (.int (0 : Int32)), .val (.int (3 : Int32)), .val (.int (0 : Int32)), .unset] [(.int (0 : Int32)), (.ref a1)])) (fun _ k => XS.icmpNo X0.here hx rfl (hb hby d5_7) rfl (tlt hc1).2.1 (XS.aloadN X0.here hx rfl (hb hby d5_10) rfl rfl (XS.iloadN X0.here hx rfl (hb hby d5_11) rfl  k))) ?_
  obtain ⟨cl2, Ar2, q2, S2, N2n, H2, G2⟩ := id P_V_a1
  have hin3 : ¬ ((0 : Int32) < 0 ∨ cl2.slots.size ≤ ((0 : Int32)).toNatClampNeg) := inb_of S2 ⟨by decide, by decide⟩
  have hat3 : cl2.slots[((0 : Int32)).toNatClampNeg]? = some (.int c0) := H2.at hin3 rfl
  refine own_go (B := s₁.setTop (mkF m 20 #[.val (.ref a1), .val (.int (0 : Int32)), .val (.ref a3), .val (.int (0 : Int32)), .val (.int (3 : Int32)), .val (.int (0 : Int32)), .val (.int c0)] [(.int (255 : Int32)), (.int c0)])) (fun _ k => X0.caload hx (j := (0 : Int32)) (v := (.int c0)) (own_hc e0 Ar2.1) (State.isArrayOf_alike hZ.alike Ar2.2.1) Ar2.2.2 hin3 hat3 (g := (mkF m 12 #[.val (.ref a1), .val (.int (0 : Int32)), .val (.ref a3), .val (.int (0 : Int32)), .val (.int (3 : Int32)), .val (.int (0 : Int32)), .unset] [(.int (0 : Int32)), (.ref a1)])) rfl rfl (hb hby d5_12) _ (XS.istore X0.here hx rfl (hb hby d5_13) rfl (l' := #[.val (.ref a1), .val (.int (0 : Int32)), .val (.ref a3), .val (.int (0 : Int32)), .val (.int (3 : Int32)), .val (.int (0 : Int32)), .val (.int c0)]) rfl (XS.iload X0.here hx rfl (hb hby d5_15) rfl  (XS.sipush X0.here hx rfl (hb hby d5_17) k)))) ?_
  have hc4 : ¬ ((255 : Int32) < c0) := (own_pl_cmpI3_1 c0 c1 c2 hh0 hh1 hh2)
  refine own_go (B := s₁.setTop (mkF m 31 #[.val (.ref a1), .val (.int (0 : Int32)), .val (.ref a3), .val (.int (0 : Int32)), .val (.int (3 : Int32)), .val (.int (0 : Int32)), .val (.int c0)] [(.int (c0.toInt8.toInt32)), (.int (0 : Int32)), (.ref a3)])) (fun _ k => XS.icmpYes X0.here hx rfl (pc0 := 20) (pc' := 26) rfl (hb hby d5_20) rfl (flt hc4).2.2.2 (by decide) (by decide) (XS.aloadN X0.here hx rfl (hb hby d5_26) rfl rfl (XS.iloadN X0.here hx rfl (hb hby d5_27) rfl  (XS.iload X0.here hx rfl (hb hby d5_28) rfl  (XS.i2b X0.here hx rfl (hb hby d5_30) rfl k))))) ?_
  obtain ⟨cl5, Ar5, q5, S5, N5n, H5, G5⟩ := id P_V_a3
  have hin6 : ¬ ((0 : Int32) < 0 ∨ cl5.slots.size ≤ ((0 : Int32)).toNatClampNeg) := inb_of S5 ⟨by decide, by decide⟩
  obtain ⟨T6, h6, X6, e6, W6, st6⟩ := stB X0 hx hZ e0 Ar5 (j := (0 : Int32)) hin6 (g := (mkF m 31 #[.val (.ref a1), .val (.int (0 : Int32)), .val (.ref a3), .val (.int (0 : Int32)), .val (.int (3 : Int32)), .val (.int (0 : Int32)), .val (.int c0)] [(.int (c0.toInt8.toInt32)), (.int (0 : Int32)), (.ref a3)])) rfl rfl (hb hby d5_31)
  rw [own_narb] at W6
  have V_a3_6 : Arv Z h6 a3 k3 .byte (3 : Int32) [(.int (c0.toInt8.toInt32)), (.int (0 : Int32)), (.int (0 : Int32))] (.int (0 : Int32)) := Arv.set Ar5 q5 S5 N5n H5 G5 (fits_nar_byte _) W6 0 rfl (Nat.le_of_ble_eq_true rfl)
  have V_8 := P_V_a1.other W6 ne_a1_a3
  have K10 : Keep h0 h6 [a3] := K0.wr W6 (Or.inl (List.mem_of_getElem? (i := 0) rfl))
  have N6 := Fr.snoc X6 N0 g_a3
  refine own_go (B := T6.setTop (mkF m 32 #[.val (.ref a1), .val (.int (0 : Int32)), .val (.ref a3), .val (.int (0 : Int32)), .val (.int (3 : Int32)), .val (.int (0 : Int32)), .val (.int c0)] [])) st6 ?_
  refine own_go (B := T6.setTop (mkF m 35 #[.val (.ref a1), .val (.int ((0 : Int32) + (1 : Int32))), .val (.ref a3), .val (.int (0 : Int32)), .val (.int (3 : Int32)), .val (.int (0 : Int32)), .val (.int c0)] [])) (fun _ k => XS.iinc X6.here hx rfl (hb hby d5_32) rfl (l' := #[.val (.ref a1), .val (.int ((0 : Int32) + (1 : Int32))), .val (.ref a3), .val (.int (0 : Int32)), .val (.int (3 : Int32)), .val (.int (0 : Int32)), .val (.int c0)]) rfl k) ?_
  rw [show ((0 : Int32) + (1 : Int32)) = (1 : Int32) from by decide]
  show own_Fin _ _ _ _ _ _ _ (T6.setTop (mkF m 35 #[.val (.ref a1), .val (.int (1 : Int32)), .val (.ref a3), .val (.int (0 : Int32)), .val (.int (3 : Int32)), .val (.int (0 : Int32)), .val (.int c0)] []))
  refine own_go (B := T6.setTop (mkF m 38 #[.val (.ref a1), .val (.int (1 : Int32)), .val (.ref a3), .val (.int ((0 : Int32) + (1 : Int32))), .val (.int (3 : Int32)), .val (.int (0 : Int32)), .val (.int c0)] [])) (fun _ k => XS.iinc X6.here hx rfl (hb hby d5_35) rfl (l' := #[.val (.ref a1), .val (.int (1 : Int32)), .val (.ref a3), .val (.int ((0 : Int32) + (1 : Int32))), .val (.int (3 : Int32)), .val (.int (0 : Int32)), .val (.int c0)]) rfl k) ?_
  rw [show ((0 : Int32) + (1 : Int32)) = (1 : Int32) from by decide]
  show own_Fin _ _ _ _ _ _ _ (T6.setTop (mkF m 38 #[.val (.ref a1), .val (.int (1 : Int32)), .val (.ref a3), .val (.int (1 : Int32)), .val (.int (3 : Int32)), .val (.int (0 : Int32)), .val (.int c0)] []))
  refine own_go (B := T6.setTop (mkF m 41 #[.val (.ref a1), .val (.int (1 : Int32)), .val (.ref a3), .val (.int (1 : Int32)), .val (.int (3 : Int32)), .val (.int ((0 : Int32) + (1 : Int32))), .val (.int c0)] [])) (fun _ k => XS.iinc X6.here hx rfl (hb hby d5_38) rfl (l' := #[.val (.ref a1), .val (.int (1 : Int32)), .val (.ref a3), .val (.int (1 : Int32)), .val (.int (3 : Int32)), .val (.int ((0 : Int32) + (1 : Int32))), .val (.int c0)]) rfl k) ?_
  rw [show ((0 : Int32) + (1 : Int32)) = (1 : Int32) from by decide]
  show own_Fin _ _ _ _ _ _ _ (T6.setTop (mkF m 41 #[.val (.ref a1), .val (.int (1 : Int32)), .val (.ref a3), .val (.int (1 : Int32)), .val (.int (3 : Int32)), .val (.int (1 : Int32)), .val (.int c0)] []))
  refine own_go (B := T6.setTop (mkF m 7 #[.val (.ref a1), .val (.int (1 : Int32)), .val (.ref a3), .val (.int (1 : Int32)), .val (.int (3 : Int32)), .val (.int (1 : Int32)), .val (.int c0)] [(.int (3 : Int32)), (.int (1 : Int32))])) (fun _ k => XS.goto X6.here hx rfl (pc0 := 41) (pc' := 3) rfl (hb hby d5_41) (by decide) (by decide) (XS.iload X6.here hx rfl (hb hby d5_3) rfl  (XS.iload X6.here hx rfl (hb hby d5_5) rfl  k))) ?_
  have hc11 : (1 : Int32) < (3 : Int32) := by decide
  refine own_go (B := T6.setTop (mkF m 12 #[.val (.ref a1), .val (.int (1 : Int32)), .val (.ref a3), .val (.int (1 : Int32)), .val (.int (3 : Int32)), .val (.int (1 : Int32)), .val (.int c0)] [(.int (1 : Int32)), (.ref a1)])) (fun _ k => XS.icmpNo X6.here hx rfl (hb hby d5_7) rfl (tlt hc11).2.1 (XS.aloadN X6.here hx rfl (hb hby d5_10) rfl rfl (XS.iloadN X6.here hx rfl (hb hby d5_11) rfl  k))) ?_
  obtain ⟨cl12, Ar12, q12, S12, N12n, H12, G12⟩ := id V_8
  have hin13 : ¬ ((1 : Int32) < 0 ∨ cl12.slots.size ≤ ((1 : Int32)).toNatClampNeg) := inb_of S12 ⟨by decide, by decide⟩
  have hat13 : cl12.slots[((1 : Int32)).toNatClampNeg]? = some (.int c1) := H12.at hin13 rfl
  refine own_go (B := T6.setTop (mkF m 20 #[.val (.ref a1), .val (.int (1 : Int32)), .val (.ref a3), .val (.int (1 : Int32)), .val (.int (3 : Int32)), .val (.int (1 : Int32)), .val (.int c1)] [(.int (255 : Int32)), (.int c1)])) (fun _ k => X6.caload hx (j := (1 : Int32)) (v := (.int c1)) (own_hc e6 Ar12.1) (State.isArrayOf_alike hZ.alike Ar12.2.1) Ar12.2.2 hin13 hat13 (g := (mkF m 12 #[.val (.ref a1), .val (.int (1 : Int32)), .val (.ref a3), .val (.int (1 : Int32)), .val (.int (3 : Int32)), .val (.int (1 : Int32)), .val (.int c0)] [(.int (1 : Int32)), (.ref a1)])) rfl rfl (hb hby d5_12) _ (XS.istore X6.here hx rfl (hb hby d5_13) rfl (l' := #[.val (.ref a1), .val (.int (1 : Int32)), .val (.ref a3), .val (.int (1 : Int32)), .val (.int (3 : Int32)), .val (.int (1 : Int32)), .val (.int c1)]) rfl (XS.iload X6.here hx rfl (hb hby d5_15) rfl  (XS.sipush X6.here hx rfl (hb hby d5_17) k)))) ?_
  have hc14 : ¬ ((255 : Int32) < c1) := (own_pl_cmpI3_2 c0 c1 c2 hh0 hh1 hh2 hc4)
  refine own_go (B := T6.setTop (mkF m 31 #[.val (.ref a1), .val (.int (1 : Int32)), .val (.ref a3), .val (.int (1 : Int32)), .val (.int (3 : Int32)), .val (.int (1 : Int32)), .val (.int c1)] [(.int (c1.toInt8.toInt32)), (.int (1 : Int32)), (.ref a3)])) (fun _ k => XS.icmpYes X6.here hx rfl (pc0 := 20) (pc' := 26) rfl (hb hby d5_20) rfl (flt hc14).2.2.2 (by decide) (by decide) (XS.aloadN X6.here hx rfl (hb hby d5_26) rfl rfl (XS.iloadN X6.here hx rfl (hb hby d5_27) rfl  (XS.iload X6.here hx rfl (hb hby d5_28) rfl  (XS.i2b X6.here hx rfl (hb hby d5_30) rfl k))))) ?_
  obtain ⟨cl15, Ar15, q15, S15, N15n, H15, G15⟩ := id V_a3_6
  have hin16 : ¬ ((1 : Int32) < 0 ∨ cl15.slots.size ≤ ((1 : Int32)).toNatClampNeg) := inb_of S15 ⟨by decide, by decide⟩
  obtain ⟨T16, h16, X16, e16, W16, st16⟩ := stB X6 hx hZ e6 Ar15 (j := (1 : Int32)) hin16 (g := (mkF m 31 #[.val (.ref a1), .val (.int (1 : Int32)), .val (.ref a3), .val (.int (1 : Int32)), .val (.int (3 : Int32)), .val (.int (1 : Int32)), .val (.int c1)] [(.int (c1.toInt8.toInt32)), (.int (1 : Int32)), (.ref a3)])) rfl rfl (hb hby d5_31)
  rw [own_narb] at W16
  have V_a3_16 : Arv Z h16 a3 k3 .byte (3 : Int32) [(.int (c0.toInt8.toInt32)), (.int (c1.toInt8.toInt32)), (.int (0 : Int32))] (.int (0 : Int32)) := Arv.set Ar15 q15 S15 N15n H15 G15 (fits_nar_byte _) W16 1 rfl (Nat.le_of_ble_eq_true rfl)
  have V_18 := V_8.other W16 ne_a1_a3
  have K20 : Keep h0 h16 [a3] := K10.wr W16 (Or.inl (List.mem_of_getElem? (i := 0) rfl))
  have N16 := Fr.snoc X16 N6 g_a3
  refine own_go (B := T16.setTop (mkF m 32 #[.val (.ref a1), .val (.int (1 : Int32)), .val (.ref a3), .val (.int (1 : Int32)), .val (.int (3 : Int32)), .val (.int (1 : Int32)), .val (.int c1)] [])) st16 ?_
  refine own_go (B := T16.setTop (mkF m 35 #[.val (.ref a1), .val (.int ((1 : Int32) + (1 : Int32))), .val (.ref a3), .val (.int (1 : Int32)), .val (.int (3 : Int32)), .val (.int (1 : Int32)), .val (.int c1)] [])) (fun _ k => XS.iinc X16.here hx rfl (hb hby d5_32) rfl (l' := #[.val (.ref a1), .val (.int ((1 : Int32) + (1 : Int32))), .val (.ref a3), .val (.int (1 : Int32)), .val (.int (3 : Int32)), .val (.int (1 : Int32)), .val (.int c1)]) rfl k) ?_
  rw [show ((1 : Int32) + (1 : Int32)) = (2 : Int32) from by decide]
  show own_Fin _ _ _ _ _ _ _ (T16.setTop (mkF m 35 #[.val (.ref a1), .val (.int (2 : Int32)), .val (.ref a3), .val (.int (1 : Int32)), .val (.int (3 : Int32)), .val (.int (1 : Int32)), .val (.int c1)] []))
  refine own_go (B := T16.setTop (mkF m 38 #[.val (.ref a1), .val (.int (2 : Int32)), .val (.ref a3), .val (.int ((1 : Int32) + (1 : Int32))), .val (.int (3 : Int32)), .val (.int (1 : Int32)), .val (.int c1)] [])) (fun _ k => XS.iinc X16.here hx rfl (hb hby d5_35) rfl (l' := #[.val (.ref a1), .val (.int (2 : Int32)), .val (.ref a3), .val (.int ((1 : Int32) + (1 : Int32))), .val (.int (3 : Int32)), .val (.int (1 : Int32)), .val (.int c1)]) rfl k) ?_
  rw [show ((1 : Int32) + (1 : Int32)) = (2 : Int32) from by decide]
  show own_Fin _ _ _ _ _ _ _ (T16.setTop (mkF m 38 #[.val (.ref a1), .val (.int (2 : Int32)), .val (.ref a3), .val (.int (2 : Int32)), .val (.int (3 : Int32)), .val (.int (1 : Int32)), .val (.int c1)] []))
  refine own_go (B := T16.setTop (mkF m 41 #[.val (.ref a1), .val (.int (2 : Int32)), .val (.ref a3), .val (.int (2 : Int32)), .val (.int (3 : Int32)), .val (.int ((1 : Int32) + (1 : Int32))), .val (.int c1)] [])) (fun _ k => XS.iinc X16.here hx rfl (hb hby d5_38) rfl (l' := #[.val (.ref a1), .val (.int (2 : Int32)), .val (.ref a3), .val (.int (2 : Int32)), .val (.int (3 : Int32)), .val (.int ((1 : Int32) + (1 : Int32))), .val (.int c1)]) rfl k) ?_
  rw [show ((1 : Int32) + (1 : Int32)) = (2 : Int32) from by decide]
  show own_Fin _ _ _ _ _ _ _ (T16.setTop (mkF m 41 #[.val (.ref a1), .val (.int (2 : Int32)), .val (.ref a3), .val (.int (2 : Int32)), .val (.int (3 : Int32)), .val (.int (2 : Int32)), .val (.int c1)] []))
  refine own_go (B := T16.setTop (mkF m 7 #[.val (.ref a1), .val (.int (2 : Int32)), .val (.ref a3), .val (.int (2 : Int32)), .val (.int (3 : Int32)), .val (.int (2 : Int32)), .val (.int c1)] [(.int (3 : Int32)), (.int (2 : Int32))])) (fun _ k => XS.goto X16.here hx rfl (pc0 := 41) (pc' := 3) rfl (hb hby d5_41) (by decide) (by decide) (XS.iload X16.here hx rfl (hb hby d5_3) rfl  (XS.iload X16.here hx rfl (hb hby d5_5) rfl  k))) ?_
  have hc21 : (2 : Int32) < (3 : Int32) := by decide
  refine own_go (B := T16.setTop (mkF m 12 #[.val (.ref a1), .val (.int (2 : Int32)), .val (.ref a3), .val (.int (2 : Int32)), .val (.int (3 : Int32)), .val (.int (2 : Int32)), .val (.int c1)] [(.int (2 : Int32)), (.ref a1)])) (fun _ k => XS.icmpNo X16.here hx rfl (hb hby d5_7) rfl (tlt hc21).2.1 (XS.aloadN X16.here hx rfl (hb hby d5_10) rfl rfl (XS.iloadN X16.here hx rfl (hb hby d5_11) rfl  k))) ?_
  obtain ⟨cl22, Ar22, q22, S22, N22n, H22, G22⟩ := id V_18
  have hin23 : ¬ ((2 : Int32) < 0 ∨ cl22.slots.size ≤ ((2 : Int32)).toNatClampNeg) := inb_of S22 ⟨by decide, by decide⟩
  have hat23 : cl22.slots[((2 : Int32)).toNatClampNeg]? = some (.int c2) := H22.at hin23 rfl
  refine own_go (B := T16.setTop (mkF m 20 #[.val (.ref a1), .val (.int (2 : Int32)), .val (.ref a3), .val (.int (2 : Int32)), .val (.int (3 : Int32)), .val (.int (2 : Int32)), .val (.int c2)] [(.int (255 : Int32)), (.int c2)])) (fun _ k => X16.caload hx (j := (2 : Int32)) (v := (.int c2)) (own_hc e16 Ar22.1) (State.isArrayOf_alike hZ.alike Ar22.2.1) Ar22.2.2 hin23 hat23 (g := (mkF m 12 #[.val (.ref a1), .val (.int (2 : Int32)), .val (.ref a3), .val (.int (2 : Int32)), .val (.int (3 : Int32)), .val (.int (2 : Int32)), .val (.int c1)] [(.int (2 : Int32)), (.ref a1)])) rfl rfl (hb hby d5_12) _ (XS.istore X16.here hx rfl (hb hby d5_13) rfl (l' := #[.val (.ref a1), .val (.int (2 : Int32)), .val (.ref a3), .val (.int (2 : Int32)), .val (.int (3 : Int32)), .val (.int (2 : Int32)), .val (.int c2)]) rfl (XS.iload X16.here hx rfl (hb hby d5_15) rfl  (XS.sipush X16.here hx rfl (hb hby d5_17) k)))) ?_
  have hc24 : ¬ ((255 : Int32) < c2) := (own_pl_cmpI3_3 c0 c1 c2 hh0 hh1 hh2 hc4 hc14)
  refine own_go (B := T16.setTop (mkF m 31 #[.val (.ref a1), .val (.int (2 : Int32)), .val (.ref a3), .val (.int (2 : Int32)), .val (.int (3 : Int32)), .val (.int (2 : Int32)), .val (.int c2)] [(.int (c2.toInt8.toInt32)), (.int (2 : Int32)), (.ref a3)])) (fun _ k => XS.icmpYes X16.here hx rfl (pc0 := 20) (pc' := 26) rfl (hb hby d5_20) rfl (flt hc24).2.2.2 (by decide) (by decide) (XS.aloadN X16.here hx rfl (hb hby d5_26) rfl rfl (XS.iloadN X16.here hx rfl (hb hby d5_27) rfl  (XS.iload X16.here hx rfl (hb hby d5_28) rfl  (XS.i2b X16.here hx rfl (hb hby d5_30) rfl k))))) ?_
  obtain ⟨cl25, Ar25, q25, S25, N25n, H25, G25⟩ := id V_a3_16
  have hin26 : ¬ ((2 : Int32) < 0 ∨ cl25.slots.size ≤ ((2 : Int32)).toNatClampNeg) := inb_of S25 ⟨by decide, by decide⟩
  obtain ⟨T26, h26, X26, e26, W26, st26⟩ := stB X16 hx hZ e16 Ar25 (j := (2 : Int32)) hin26 (g := (mkF m 31 #[.val (.ref a1), .val (.int (2 : Int32)), .val (.ref a3), .val (.int (2 : Int32)), .val (.int (3 : Int32)), .val (.int (2 : Int32)), .val (.int c2)] [(.int (c2.toInt8.toInt32)), (.int (2 : Int32)), (.ref a3)])) rfl rfl (hb hby d5_31)
  rw [own_narb] at W26
  have V_a3_26 : Arv Z h26 a3 k3 .byte (3 : Int32) [(.int (c0.toInt8.toInt32)), (.int (c1.toInt8.toInt32)), (.int (c2.toInt8.toInt32))] (.int (0 : Int32)) := Arv.set Ar25 q25 S25 N25n H25 G25 (fits_nar_byte _) W26 2 rfl (Nat.le_of_ble_eq_true rfl)
  have V_28 := V_18.other W26 ne_a1_a3
  have K30 : Keep h0 h26 [a3] := K20.wr W26 (Or.inl (List.mem_of_getElem? (i := 0) rfl))
  have N26 := Fr.snoc X26 N16 g_a3
  refine own_go (B := T26.setTop (mkF m 32 #[.val (.ref a1), .val (.int (2 : Int32)), .val (.ref a3), .val (.int (2 : Int32)), .val (.int (3 : Int32)), .val (.int (2 : Int32)), .val (.int c2)] [])) st26 ?_
  refine own_go (B := T26.setTop (mkF m 35 #[.val (.ref a1), .val (.int ((2 : Int32) + (1 : Int32))), .val (.ref a3), .val (.int (2 : Int32)), .val (.int (3 : Int32)), .val (.int (2 : Int32)), .val (.int c2)] [])) (fun _ k => XS.iinc X26.here hx rfl (hb hby d5_32) rfl (l' := #[.val (.ref a1), .val (.int ((2 : Int32) + (1 : Int32))), .val (.ref a3), .val (.int (2 : Int32)), .val (.int (3 : Int32)), .val (.int (2 : Int32)), .val (.int c2)]) rfl k) ?_
  rw [show ((2 : Int32) + (1 : Int32)) = (3 : Int32) from by decide]
  show own_Fin _ _ _ _ _ _ _ (T26.setTop (mkF m 35 #[.val (.ref a1), .val (.int (3 : Int32)), .val (.ref a3), .val (.int (2 : Int32)), .val (.int (3 : Int32)), .val (.int (2 : Int32)), .val (.int c2)] []))
  refine own_go (B := T26.setTop (mkF m 38 #[.val (.ref a1), .val (.int (3 : Int32)), .val (.ref a3), .val (.int ((2 : Int32) + (1 : Int32))), .val (.int (3 : Int32)), .val (.int (2 : Int32)), .val (.int c2)] [])) (fun _ k => XS.iinc X26.here hx rfl (hb hby d5_35) rfl (l' := #[.val (.ref a1), .val (.int (3 : Int32)), .val (.ref a3), .val (.int ((2 : Int32) + (1 : Int32))), .val (.int (3 : Int32)), .val (.int (2 : Int32)), .val (.int c2)]) rfl k) ?_
  rw [show ((2 : Int32) + (1 : Int32)) = (3 : Int32) from by decide]
  show own_Fin _ _ _ _ _ _ _ (T26.setTop (mkF m 38 #[.val (.ref a1), .val (.int (3 : Int32)), .val (.ref a3), .val (.int (3 : Int32)), .val (.int (3 : Int32)), .val (.int (2 : Int32)), .val (.int c2)] []))
  refine own_go (B := T26.setTop (mkF m 41 #[.val (.ref a1), .val (.int (3 : Int32)), .val (.ref a3), .val (.int (3 : Int32)), .val (.int (3 : Int32)), .val (.int ((2 : Int32) + (1 : Int32))), .val (.int c2)] [])) (fun _ k => XS.iinc X26.here hx rfl (hb hby d5_38) rfl (l' := #[.val (.ref a1), .val (.int (3 : Int32)), .val (.ref a3), .val (.int (3 : Int32)), .val (.int (3 : Int32)), .val (.int ((2 : Int32) + (1 : Int32))), .val (.int c2)]) rfl k) ?_
  rw [show ((2 : Int32) + (1 : Int32)) = (3 : Int32) from by decide]
  show own_Fin _ _ _ _ _ _ _ (T26.setTop (mkF m 41 #[.val (.ref a1), .val (.int (3 : Int32)), .val (.ref a3), .val (.int (3 : Int32)), .val (.int (3 : Int32)), .val (.int (3 : Int32)), .val (.int c2)] []))
  refine own_go (B := T26.setTop (mkF m 7 #[.val (.ref a1), .val (.int (3 : Int32)), .val (.ref a3), .val (.int (3 : Int32)), .val (.int (3 : Int32)), .val (.int (3 : Int32)), .val (.int c2)] [(.int (3 : Int32)), (.int (3 : Int32))])) (fun _ k => XS.goto X26.here hx rfl (pc0 := 41) (pc' := 3) rfl (hb hby d5_41) (by decide) (by decide) (XS.iload X26.here hx rfl (hb hby d5_3) rfl  (XS.iload X26.here hx rfl (hb hby d5_5) rfl  k))) ?_
  have hc31 : ¬ ((3 : Int32) < (3 : Int32)) := by decide
  refine own_go (B := T26.setTop (mkF m 46 #[.val (.ref a1), .val (.int (3 : Int32)), .val (.ref a3), .val (.int (3 : Int32)), .val (.int (3 : Int32)), .val (.int (3 : Int32)), .val (.int c2)] [(.int (3 : Int32))])) (fun _ k => XS.icmpYes X26.here hx rfl (pc0 := 7) (pc' := 44) rfl (hb hby d5_7) rfl (flt hc31).2.1 (by decide) (by decide) (XS.iload X26.here hx rfl (hb hby d5_44) rfl  k)) ?_
  exact own_retI X26 hx Bd.notSynchronized Bd.returns (hb hby d5_46) e26 ⟨rfl, N26, K30, V_a3_26⟩ (by decide) (by decide)
abbrev R_own_cmpB3 : Room := { frames := 1, cells := 1, slots := 3, locals := 18 }
theorem ef_own_cmpB3 (m : MethodId) (x0 : Addr) : entryFrame m #[(.ref x0), (.int (0 : Int32)), (.int (3 : Int32))] 6 = mkF m 0 #[.val (.ref x0), .val (.int (0 : Int32)), .val (.int (3 : Int32)), .unset, .unset, .unset] [] := by first | (simp [entryFrame, mkF, argsToLocals, Value.category]; done) | rfl
def Q_own_cmpB3 (Z : State) (a1 : Addr) (k1 : ClassId) (c0 : Int32) (c1 : Int32) (c2 : Int32) (h0 : Heap) (n0 : Nat) (v : Option Value) (h : Heap) (L : List Loc) : Prop := ∃ b : Addr, ∃ kb : ClassId, v = some (.ref b) ∧ Fr n0 L ∧ Keep h0 h [] ∧ Arv Z h b kb .byte (3 : Int32) [(.int (c0.toInt8.toInt32)), (.int (c1.toInt8.toInt32)), (.int (c2.toInt8.toInt32))] (.int (0 : Int32)) ∧ (h0.size ≤ b)
set_option maxRecDepth 65536 in
set_option maxHeartbeats 400000000 in
theorem own_cmpB3 (l : Launch) (Z : State) (a0 : Array Value) (hw : ∀ d ∈ tables_1, d.before a0 Z = true) (ws : List Jvm.Cond) (a1 : Addr) (k1 : ClassId) (c0 : Int32) (c1 : Int32) (c2 : Int32) (h0 : Heap) (n0 : Nat) (Z0 : n0 ≤ h0.size) (P_V_a1 : Arv Z h0 a1 k1 .char (3 : Int32) [(.int c0), (.int c1), (.int c2)] (.int (0 : Int32))) (hh0 : c0.toInt ≤ 255) (hh1 : c1.toInt ≤ 255) (hh2 : c2.toInt ≤ 255) :
    MetFree l (⟨"java/lang/StringUTF16", "compress", "([CII)[B"⟩ : MethodName) (head1 (Jvm.Cond.code (⟨"java/lang/StringUTF16", "compress", "([CII)[B"⟩ : MethodName) jdk_52_method_16_code 6 (some (.array .byte)) :: ws) R_own_cmpB3) (fun a U => a = #[(.ref a1), (.int (0 : Int32)), (.int (3 : Int32))] ∧ Z.Warmed39 U.vm ∧ U.heap = h0) (fun _ _ _ _ _ => True) (fun _ U o U' => ∃ v L, o = .returned v ∧ Q_own_cmpB3 Z a1 k1 c0 c1 c2 h0 n0 v U'.heap L ∧ FrameEnd U o U' L R_own_cmpB3.cells R_own_cmpB3.slots) := by
  refine MetFree.of_bodySF (plainFor_of_name own_pn0) hisR ?_
  intro p e s m args below meth c s₁ Bd hml0 hP hK
  obtain ⟨rfl, hZ, hh⟩ := hP
  have hx := Bd.exec
  have hby := Bd.bytes
  have hml : c.maxLocals = 6 := hml0
  have hown : s.vm.findClass "java/lang/StringUTF16" = some m.cls := findClass_of_methodNamed Bd.named
  have hnm := (name_of_methodNamed Bd.named Bd.method).1
  have X0 : Stand p l e R_own_cmpB3 s m #[(.ref a1), (.int (0 : Int32)), (.int (3 : Int32))] below meth c s₁ [] 0 0 := Stand.of_body Bd
  have e0 : s₁.heap = h0 := by rw [← hh, Bd.state]; rfl
  have N0 := Fr.nil n0
  have K0 : Keep h0 h0 [] := Keep.refl h0 []
  show own_Fin p e below s (Q_own_cmpB3 Z a1 k1 c0 c1 c2 h0 n0) R_own_cmpB3.cells R_own_cmpB3.slots (s₁.setTop (entryFrame m #[(.ref a1), (.int (0 : Int32)), (.int (3 : Int32))] 6))
  refine own_go (fun _ k => castTop (ef_own_cmpB3 m a1) k) ?_
  show own_Fin _ _ _ _ _ _ _ (s₁.setTop (mkF m 0 #[.val (.ref a1), .val (.int (0 : Int32)), .val (.int (3 : Int32)), .unset, .unset, .unset] []))
  refine own_go (B := s₁.setTop (mkF m 1 #[.val (.ref a1), .val (.int (0 : Int32)), .val (.int (3 : Int32)), .unset, .unset, .unset] [(.int (3 : Int32))])) (fun _ k => XS.iloadN X0.here hx rfl (hb hby d4_0) rfl  k) ?_
  obtain ⟨T1, h1, kc1, X1, e1, E1, A1, st1⟩ := newP X0 hx hZ (own_w hw 20 rfl) e0 (g := (mkF m 1 #[.val (.ref a1), .val (.int (0 : Int32)), .val (.int (3 : Int32)), .unset, .unset, .unset] [(.int (3 : Int32))])) rfl (hb hby d4_1) rfl (by decide) (cap := 3) (by decide) (by decide) (by decide) (by decide)
  obtain ⟨b1, g1⟩ : ∃ z, z = h0.size := ⟨_, rfl⟩
  rw [← g1] at A1 st1
  have ne_a1_b1_2 : a1 ≠ b1 := Nat.ne_of_lt (Nat.lt_of_lt_of_le P_V_a1.lt (Nat.le_of_eq g1.symm))
  have sz_b1 : h0.size ≤ b1 := Nat.le_trans K0.1 (Nat.le_of_eq g1.symm)
  have g_b1 : n0 ≤ b1 := Nat.le_trans Z0 sz_b1
  have V_4 := P_V_a1.ext E1
  have V_b1 : Arv Z h1 b1 kc1 .byte (3 : Int32) [(.int (0 : Int32)), (.int (0 : Int32)), (.int (0 : Int32))] (.int (0 : Int32)) := (Arv.new A1 (by decide)).pad (pad_rep [] (.int (0 : Int32)) 3)
  have K5 : Keep h0 h1 [] := K0.ext E1
  refine own_go (B := T1.setTop (mkF m 3 #[.val (.ref a1), .val (.int (0 : Int32)), .val (.int (3 : Int32)), .unset, .unset, .unset] [(.ref b1)])) st1 ?_
  refine own_go (B := T1.setTop (mkF m 9 #[.val (.ref a1), .val (.int (0 : Int32)), .val (.int (3 : Int32)), .val (.ref b1), .unset, .unset] [(.int (3 : Int32)), (.int (0 : Int32)), (.ref b1), (.int (0 : Int32)), (.ref a1)])) (fun _ k => XS.astoreN X1.here hx rfl (hb hby d4_3) rfl rfl (l' := #[.val (.ref a1), .val (.int (0 : Int32)), .val (.int (3 : Int32)), .val (.ref b1), .unset, .unset]) rfl (XS.aloadN X1.here hx rfl (hb hby d4_4) rfl rfl (XS.iloadN X1.here hx rfl (hb hby d4_5) rfl  (XS.aloadN X1.here hx rfl (hb hby d4_6) rfl rfl (XS.iconst X1.here hx rfl (hb hby d4_7) (XS.iloadN X1.here hx rfl (hb hby d4_8) rfl  k)))))) ?_
  obtain ⟨_, _, ⟨T6, L6, k6, n6⟩, -, X6, ⟨Lc6, hQ6, l6, y6, z6⟩, st6⟩ := Jvm.LawKit.callS X1 hx (y := (⟨"java/lang/StringUTF16", "compress", "([CI[BII)I"⟩ : MethodName)) hown (mvT hZ (own_w hw 21 rfl)) (mvT hZ (own_w hw 22 rfl)) (mvT hZ (own_w hw 18 rfl)) (mvT hZ (own_w hw 23 rfl)) (by decide) (backOf (W := 0) (own_cmpI3 l Z a0 hw [] a1 b1 k1 kc1 c0 c1 c2 h1 n0 (Nat.le_trans Z0 K5.1) V_4 V_b1 g_b1 ne_a1_b1_2 hh0 hh1 hh2) hZ (own_w hw 23 rfl) (own_w hw 18 rfl) (by decide) (by decide)) (g := (mkF m 9 #[.val (.ref a1), .val (.int (0 : Int32)), .val (.int (3 : Int32)), .val (.ref b1), .unset, .unset] [(.int (3 : Int32)), (.int (0 : Int32)), (.ref b1), (.int (0 : Int32)), (.ref a1)])) rfl (by rw [hml]; rfl) (argsL := [(.ref a1), (.int (0 : Int32)), (.ref b1), (.int (0 : Int32)), (.int (3 : Int32))]) (rest := []) (lenOf own_pd3 rfl) rfl (by show 2 * 0 + _ ≤ _; exact Nat.le_of_eq rfl) (hb hby d4_9) (fun _ _ => ⟨rfl, e1, (by decide : 1 + 0 ≤ _), (by decide : 3 + 0 ≤ _)⟩)
  dsimp only [Pt.U, Pt.locs, Pt.cells, Pt.slots] at X6 l6 y6 z6 st6 hQ6
  subst l6 y6 z6
  obtain ⟨rfl, N6q, K6q, Q6_0⟩ := hQ6
  have N6 := Fr.app N0 N6q
  have V_8 := V_4.keep K6q (ninS ne_a1_b1_2 nin0)
  have K10 : Keep h0 T6.heap [] := K5.trans K6q (allS (Or.inr sz_b1) all0)
  refine own_go (B := T6.setTop (mkF m 12 #[.val (.ref a1), .val (.int (0 : Int32)), .val (.int (3 : Int32)), .val (.ref b1), .unset, .unset] [(.int (3 : Int32))])) st6 ?_
  refine own_go (B := T6.setTop (mkF m 17 #[.val (.ref a1), .val (.int (0 : Int32)), .val (.int (3 : Int32)), .val (.ref b1), .val (.int (3 : Int32)), .unset] [(.int (3 : Int32)), (.int (3 : Int32))])) (fun _ k => XS.istore X6.here hx rfl (hb hby d4_12) rfl (l' := #[.val (.ref a1), .val (.int (0 : Int32)), .val (.int (3 : Int32)), .val (.ref b1), .val (.int (3 : Int32)), .unset]) rfl (XS.iload X6.here hx rfl (hb hby d4_14) rfl  (XS.iloadN X6.here hx rfl (hb hby d4_16) rfl  k))) ?_
  have hc11 : (3 : Int32) = (3 : Int32) := by decide
  refine own_go (B := T6.setTop (mkF m 58 #[.val (.ref a1), .val (.int (0 : Int32)), .val (.int (3 : Int32)), .val (.ref b1), .val (.int (3 : Int32)), .unset] [(.ref b1)])) (fun _ k => XS.icmpYes X6.here hx rfl (pc0 := 17) (pc' := 57) rfl (hb hby d4_17) rfl (teq hc11).1 (by decide) (by decide) (XS.aloadN X6.here hx rfl (hb hby d4_57) rfl rfl k)) ?_
  exact own_retA X6 hx Bd.notSynchronized Bd.returns rfl rfl (hb hby d4_58) rfl ⟨b1, kc1, rfl, N6, K10, Q6_0, sz_b1⟩ (by decide) (by decide)
abbrev R_own_cod3 : Room := { frames := 0, cells := 0, slots := 0, locals := 0 }
theorem ef_own_cod3 (m : MethodId) (x0 : Addr) : entryFrame m #[(.ref x0), (.int (3 : Int32))] 2 = mkF m 0 #[.val (.ref x0), .val (.int (3 : Int32))] [] := by first | (simp [entryFrame, mkF, argsToLocals, Value.category]; done) | rfl
def Q_own_cod3 (Z : State) (a1 : Addr) (k1 : ClassId) (v0 : Int32) (v1 : Int32) (v2 : Int32) (h0 : Heap) (n0 : Nat) (v : Option Value) (h : Heap) (L : List Loc) : Prop := v = some (.int (0 : Int32)) ∧ Fr n0 L ∧ h = h0
set_option maxRecDepth 65536 in
set_option maxHeartbeats 400000000 in
theorem own_cod3 (l : Launch) (Z : State) (a0 : Array Value) (hw : ∀ d ∈ tables_1, d.before a0 Z = true) (ws : List Jvm.Cond) (a1 : Addr) (k1 : ClassId) (v0 : Int32) (v1 : Int32) (v2 : Int32) (h0 : Heap) (n0 : Nat) (Z0 : n0 ≤ h0.size) (P_V_a1 : Arv Z h0 a1 k1 .byte (3 : Int32) [(.int v0), (.int v1), (.int v2)] (.int (0 : Int32))) :
    MetFree l (⟨"java/lang/StringUTF16", "coderFromArrayLen", "([BI)B"⟩ : MethodName) (head1 (Jvm.Cond.code (⟨"java/lang/StringUTF16", "coderFromArrayLen", "([BI)B"⟩ : MethodName) jdk_52_method_15_code 2 (some .byte) :: ws) R_own_cod3) (fun a U => a = #[(.ref a1), (.int (3 : Int32))] ∧ Z.Warmed39 U.vm ∧ U.heap = h0) (fun _ _ _ _ _ => True) (fun _ U o U' => ∃ v L, o = .returned v ∧ Q_own_cod3 Z a1 k1 v0 v1 v2 h0 n0 v U'.heap L ∧ FrameEnd U o U' L R_own_cod3.cells R_own_cod3.slots) := by
  refine MetFree.of_bodySF (plainFor_of_name own_pn0) hisR ?_
  intro p e s m args below meth c s₁ Bd hml0 hP hK
  obtain ⟨rfl, hZ, hh⟩ := hP
  have hx := Bd.exec
  have hby := Bd.bytes
  have hml : c.maxLocals = 2 := hml0
  have hown : s.vm.findClass "java/lang/StringUTF16" = some m.cls := findClass_of_methodNamed Bd.named
  have hnm := (name_of_methodNamed Bd.named Bd.method).1
  have X0 : Stand p l e R_own_cod3 s m #[(.ref a1), (.int (3 : Int32))] below meth c s₁ [] 0 0 := Stand.of_body Bd
  have e0 : s₁.heap = h0 := by rw [← hh, Bd.state]; rfl
  have N0 := Fr.nil n0
  have K0 : Keep h0 h0 [] := Keep.refl h0 []
  show own_Fin p e below s (Q_own_cod3 Z a1 k1 v0 v1 v2 h0 n0) R_own_cod3.cells R_own_cod3.slots (s₁.setTop (entryFrame m #[(.ref a1), (.int (3 : Int32))] 2))
  refine own_go (fun _ k => castTop (ef_own_cod3 m a1) k) ?_
  show own_Fin _ _ _ _ _ _ _ (s₁.setTop (mkF m 0 #[.val (.ref a1), .val (.int (3 : Int32))] []))
  refine own_go (B := s₁.setTop (mkF m 2 #[.val (.ref a1), .val (.int (3 : Int32))] [(.ref a1), (.int (3 : Int32))])) (fun _ k => XS.iloadN X0.here hx rfl (hb hby d6_0) rfl  (XS.aloadN X0.here hx rfl (hb hby d6_1) rfl rfl k)) ?_
  obtain ⟨cl1, Ar1, q1, S1, N1n, H1, G1⟩ := id P_V_a1
  refine own_go (fun _ k => X0.arraylength hx (own_hc e0 Ar1.1) (State.isArrayOf_alike hZ.alike Ar1.2.1) (g := (mkF m 2 #[.val (.ref a1), .val (.int (3 : Int32))] [(.ref a1), (.int (3 : Int32))])) rfl rfl (hb hby d6_2) _ k) ?_
  rw [len_of S1 N1n]
  show own_Fin _ _ _ _ _ _ _ (s₁.setTop (mkF m 3 #[.val (.ref a1), .val (.int (3 : Int32))] [(.int (3 : Int32)), (.int (3 : Int32))]))
  refine own_go (B := s₁.setTop (mkF m 4 #[.val (.ref a1), .val (.int (3 : Int32))] [(.int ((3 : Int32) - (3 : Int32)))])) (fun _ k => XS.isub X0.here hx rfl (hb hby d6_3) rfl k) ?_
  rw [show ((3 : Int32) - (3 : Int32)) = (0 : Int32) from by decide]
  show own_Fin _ _ _ _ _ _ _ (s₁.setTop (mkF m 4 #[.val (.ref a1), .val (.int (3 : Int32))] [(.int (0 : Int32))]))
  refine own_go (B := s₁.setTop (mkF m 7 #[.val (.ref a1), .val (.int (3 : Int32))] [(.int (((0 : Int32).toUInt32 >>> ((31 : Int32) &&& 31).toUInt32).toInt32))])) (fun _ k => XS.bipush X0.here hx rfl (hb hby d6_4) (XS.iushr X0.here hx rfl (hb hby d6_6) rfl k)) ?_
  rw [show (((0 : Int32).toUInt32 >>> ((31 : Int32) &&& 31).toUInt32).toInt32) = (0 : Int32) from by decide]
  show own_Fin _ _ _ _ _ _ _ (s₁.setTop (mkF m 7 #[.val (.ref a1), .val (.int (3 : Int32))] [(.int (0 : Int32))]))
  refine own_go (B := s₁.setTop (mkF m 8 #[.val (.ref a1), .val (.int (3 : Int32))] [(.int ((0 : Int32).toInt8.toInt32))])) (fun _ k => XS.i2b X0.here hx rfl (hb hby d6_7) rfl k) ?_
  rw [show ((0 : Int32).toInt8.toInt32) = (0 : Int32) from by decide]
  show own_Fin _ _ _ _ _ _ _ (s₁.setTop (mkF m 8 #[.val (.ref a1), .val (.int (3 : Int32))] [(.int (0 : Int32))]))
  exact own_retN X0 hx Bd.notSynchronized (t := .byte) (w := (0 : Int32)) Bd.returns (by simp) (hb hby d6_8) e0 rfl ⟨rfl, N0, rfl⟩ (by decide) (by decide)
abbrev R_own_str4_3 : Room := { frames := 2, cells := 1, slots := 3, locals := 35 }
theorem ef_own_str4_3 (m : MethodId) (x0 : Addr) (x1 : Addr) : entryFrame m #[(.ref x0), (.ref x1), (.int (0 : Int32)), (.int (3 : Int32)), .null] 6 = mkF m 0 #[.val (.ref x0), .val (.ref x1), .val (.int (0 : Int32)), .val (.int (3 : Int32)), .val .null, .unset] [] := by first | (simp [entryFrame, mkF, argsToLocals, Value.category]; done) | rfl
def Q_own_str4_3 (Z : State) (a1 : Addr) (a2 : Addr) (k2 : ClassId) (c0 : Int32) (c1 : Int32) (c2 : Int32) (cs : Int32) (h0 : Heap) (n0 : Nat) (v : Option Value) (h : Heap) (L : List Loc) : Prop := ∃ t : Addr, ∃ kt : ClassId, v = none ∧ Fr n0 L ∧ Keep h0 h [a1] ∧ Exa Z h a1 "java/lang/String" ∧ Fld Z h a1 "java/lang/String" "value" "[B" (.ref t) ∧ Fld Z h a1 "java/lang/String" "coder" "B" (.int (0 : Int32)) ∧ Arv Z h t kt .byte (3 : Int32) [(.int (c0.toInt8.toInt32)), (.int (c1.toInt8.toInt32)), (.int (c2.toInt8.toInt32))] (.int (0 : Int32)) ∧ (h0.size ≤ t)
set_option maxRecDepth 65536 in
set_option maxHeartbeats 400000000 in
theorem own_str4_3 (l : Launch) (Z : State) (a0 : Array Value) (hw : ∀ d ∈ tables_1, d.before a0 Z = true) (ws : List Jvm.Cond) (a1 : Addr) (a2 : Addr) (k2 : ClassId) (c0 : Int32) (c1 : Int32) (c2 : Int32) (cs : Int32) (h0 : Heap) (n0 : Nat) (Z0 : n0 ≤ h0.size) (P_E_a1 : Exa Z h0 a1 "java/lang/String") (P_F_a1_value : Fld Z h0 a1 "java/lang/String" "value" "[B" .null) (P_F_a1_coder : Fld Z h0 a1 "java/lang/String" "coder" "B" (.int (0 : Int32))) (P_V_a2 : Arv Z h0 a2 k2 .char (3 : Int32) [(.int c0), (.int c1), (.int c2)] (.int (0 : Int32))) (g_a1 : n0 ≤ a1) (ne_a1_a2 : a1 ≠ a2) (P_S_java_lang_String_COMPACT_STRINGS : Sta Z h0 "java/lang/String" "COMPACT_STRINGS" "Z" (.int cs)) (hcs : ¬ (cs = (0 : Int32))) (hh0 : c0.toInt ≤ 255) (hh1 : c1.toInt ≤ 255) (hh2 : c2.toInt ≤ 255) :
    MetFree l (⟨"java/lang/String", "<init>", "([CIILjava/lang/Void;)V"⟩ : MethodName) (head1 (Jvm.Cond.code (⟨"java/lang/String", "<init>", "([CIILjava/lang/Void;)V"⟩ : MethodName) jdk_42_method_149_code 6 none :: ws) R_own_str4_3) (fun a U => a = #[(.ref a1), (.ref a2), (.int (0 : Int32)), (.int (3 : Int32)), .null] ∧ Z.Warmed39 U.vm ∧ U.heap = h0) (fun _ _ _ _ _ => True) (fun _ U o U' => ∃ v L, o = .returned v ∧ Q_own_str4_3 Z a1 a2 k2 c0 c1 c2 cs h0 n0 v U'.heap L ∧ FrameEnd U o U' L R_own_str4_3.cells R_own_str4_3.slots) := by
  refine MetFree.of_bodySF (plainFor_of_name own_pn1) hisR ?_
  intro p e s m args below meth c s₁ Bd hml0 hP hK
  obtain ⟨rfl, hZ, hh⟩ := hP
  have hx := Bd.exec
  have hby := Bd.bytes
  have hml : c.maxLocals = 6 := hml0
  have hown : s.vm.findClass "java/lang/String" = some m.cls := findClass_of_methodNamed Bd.named
  have hnm := (name_of_methodNamed Bd.named Bd.method).1
  have X0 : Stand p l e R_own_str4_3 s m #[(.ref a1), (.ref a2), (.int (0 : Int32)), (.int (3 : Int32)), .null] below meth c s₁ [] 0 0 := Stand.of_body Bd
  have e0 : s₁.heap = h0 := by rw [← hh, Bd.state]; rfl
  have N0 := Fr.nil n0
  have K0 : Keep h0 h0 [a1] := Keep.refl h0 [a1]
  show own_Fin p e below s (Q_own_str4_3 Z a1 a2 k2 c0 c1 c2 cs h0 n0) R_own_str4_3.cells R_own_str4_3.slots (s₁.setTop (entryFrame m #[(.ref a1), (.ref a2), (.int (0 : Int32)), (.int (3 : Int32)), .null] 6))
  refine own_go (fun _ k => castTop (ef_own_str4_3 m a1 a2) k) ?_
  show own_Fin _ _ _ _ _ _ _ (s₁.setTop (mkF m 0 #[.val (.ref a1), .val (.ref a2), .val (.int (0 : Int32)), .val (.int (3 : Int32)), .val .null, .unset] []))
  refine own_go (B := s₁.setTop (mkF m 1 #[.val (.ref a1), .val (.ref a2), .val (.int (0 : Int32)), .val (.int (3 : Int32)), .val .null, .unset] [(.ref a1)])) (fun _ k => XS.aloadN X0.here hx rfl (hb hby d2_0) rfl rfl k) ?_
  obtain ⟨T1, X1, e1, st1⟩ := initO X0 hx hZ hown (own_w hw 12 rfl) (own_w hw 13 rfl) (own_w hw 14 rfl) e0 (g := (mkF m 1 #[.val (.ref a1), .val (.ref a2), .val (.int (0 : Int32)), .val (.int (3 : Int32)), .val .null, .unset] [(.ref a1)])) rfl (by rw [hml]; rfl) rfl (hb hby d2_1) (by decide) (W := 0) (by show 2 * 0 + _ ≤ _; exact Nat.le_of_eq rfl) (by decide)
  refine own_go (B := T1.setTop (mkF m 4 #[.val (.ref a1), .val (.ref a2), .val (.int (0 : Int32)), .val (.int (3 : Int32)), .val .null, .unset] [])) st1 ?_
  refine own_go (B := T1.setTop (mkF m 5 #[.val (.ref a1), .val (.ref a2), .val (.int (0 : Int32)), .val (.int (3 : Int32)), .val .null, .unset] [(.int (3 : Int32))])) (fun _ k => XS.iloadN X1.here hx rfl (hb hby d2_4) rfl  k) ?_
  have hc2 : ¬ ((3 : Int32) = (0 : Int32)) := by decide
  refine own_go (B := T1.setTop (mkF m 27 #[.val (.ref a1), .val (.ref a2), .val (.int (0 : Int32)), .val (.int (3 : Int32)), .val .null, .unset] [])) (fun _ k => XS.ifYes X1.here hx rfl (pc0 := 5) (pc' := 27) rfl (hb hby d2_5) rfl ((if0 _ _).trans (feq hc2).2) (by decide) (by decide) k) ?_
  obtain ⟨T3, X3, e3, st3⟩ := getS2 X1 hx hZ hown (host := "") (Or.inl (own_w hw 15 rfl)) Via.refl e1 P_S_java_lang_String_COMPACT_STRINGS (g := (mkF m 27 #[.val (.ref a1), .val (.ref a2), .val (.int (0 : Int32)), .val (.int (3 : Int32)), .val .null, .unset] [])) rfl (hb hby d2_27)
  refine own_go (B := T3.setTop (mkF m 30 #[.val (.ref a1), .val (.ref a2), .val (.int (0 : Int32)), .val (.int (3 : Int32)), .val .null, .unset] [(.int cs)])) st3 ?_
  refine own_go (B := T3.setTop (mkF m 36 #[.val (.ref a1), .val (.ref a2), .val (.int (0 : Int32)), .val (.int (3 : Int32)), .val .null, .unset] [(.int (3 : Int32)), (.int (0 : Int32)), (.ref a2)])) (fun _ k => XS.ifNo X3.here hx rfl (hb hby d2_30) rfl ((if0 _ _).trans (feq hcs).1) (XS.aloadN X3.here hx rfl (hb hby d2_33) rfl rfl (XS.iloadN X3.here hx rfl (hb hby d2_34) rfl  (XS.iloadN X3.here hx rfl (hb hby d2_35) rfl  k)))) ?_
  obtain ⟨_, _, ⟨T4, L4, k4, n4⟩, -, X4, ⟨Lc4, hQ4, l4, y4, z4⟩, st4⟩ := Jvm.LawKit.callS X3 hx (y := (⟨"java/lang/StringUTF16", "compress", "([CII)[B"⟩ : MethodName)) hown (mvT hZ (own_w hw 16 rfl)) (mvT hZ (own_w hw 17 rfl)) (mvT hZ (own_w hw 18 rfl)) (mvT hZ (own_w hw 19 rfl)) (by decide) (backOf (W := 0) (own_cmpB3 l Z a0 hw [] a2 k2 c0 c1 c2 h0 n0 (Nat.le_trans Z0 K0.1) P_V_a2 hh0 hh1 hh2) hZ (own_w hw 19 rfl) (own_w hw 18 rfl) (by decide) (by decide)) (g := (mkF m 36 #[.val (.ref a1), .val (.ref a2), .val (.int (0 : Int32)), .val (.int (3 : Int32)), .val .null, .unset] [(.int (3 : Int32)), (.int (0 : Int32)), (.ref a2)])) rfl (by rw [hml]; rfl) (argsL := [(.ref a2), (.int (0 : Int32)), (.int (3 : Int32))]) (rest := []) (lenOf own_pd4 rfl) rfl (by show 2 * 0 + _ ≤ _; exact Nat.le_of_eq rfl) (hb hby d2_36) (fun _ _ => ⟨rfl, e3, (by decide : 0 + 1 ≤ _), (by decide : 0 + 3 ≤ _)⟩)
  dsimp only [Pt.U, Pt.locs, Pt.cells, Pt.slots] at X4 l4 y4 z4 st4 hQ4
  subst l4 y4 z4
  obtain ⟨b_4, kb_4, rfl, N4q, K4q, Q4_0, x4_0⟩ := hQ4
  have N4 := Fr.app N0 N4q
  have ne_a1_b_4_5 : a1 ≠ b_4 := Nat.ne_of_lt (Nat.lt_of_lt_of_le P_E_a1.lt x4_0)
  have ne_a2_b_4_6 : a2 ≠ b_4 := Nat.ne_of_lt (Nat.lt_of_lt_of_le P_V_a2.lt x4_0)
  have sz_b_4 : h0.size ≤ b_4 := Nat.le_trans K0.1 x4_0
  have g_b_4 : n0 ≤ b_4 := Nat.le_trans Z0 sz_b_4
  have E_8 := P_E_a1.keep K4q
  have F_9 := P_F_a1_value.keep K4q nin0
  have F_10 := P_F_a1_coder.keep K4q nin0
  have V_11 := P_V_a2.keep K4q nin0
  have S_12 := own_Sta_keep P_S_java_lang_String_COMPACT_STRINGS K4q all0
  have K13 : Keep h0 T4.heap [a1] := K0.trans K4q all0
  refine own_go (B := T4.setTop (mkF m 39 #[.val (.ref a1), .val (.ref a2), .val (.int (0 : Int32)), .val (.int (3 : Int32)), .val .null, .unset] [(.ref b_4)])) st4 ?_
  refine own_go (B := T4.setTop (mkF m 45 #[.val (.ref a1), .val (.ref a2), .val (.int (0 : Int32)), .val (.int (3 : Int32)), .val .null, .val (.ref b_4)] [(.int (3 : Int32)), (.ref b_4), (.ref a1)])) (fun _ k => XS.astore X4.here hx rfl (hb hby d2_39) rfl rfl (l' := #[.val (.ref a1), .val (.ref a2), .val (.int (0 : Int32)), .val (.int (3 : Int32)), .val .null, .val (.ref b_4)]) rfl (XS.aloadN X4.here hx rfl (hb hby d2_41) rfl rfl (XS.aload X4.here hx rfl (hb hby d2_42) rfl rfl (XS.iloadN X4.here hx rfl (hb hby d2_44) rfl  k)))) ?_
  obtain ⟨_, _, ⟨T14, L14, k14, n14⟩, -, X14, ⟨Lc14, hQ14, l14, y14, z14⟩, st14⟩ := Jvm.LawKit.callS X4 hx (y := (⟨"java/lang/StringUTF16", "coderFromArrayLen", "([BI)B"⟩ : MethodName)) hown (mvT hZ (own_w hw 24 rfl)) (mvT hZ (own_w hw 25 rfl)) (mvT hZ (own_w hw 18 rfl)) (mvT hZ (own_w hw 26 rfl)) (by decide) (backOf (W := 1) (own_cod3 l Z a0 hw [] b_4 kb_4 (c0.toInt8.toInt32) (c1.toInt8.toInt32) (c2.toInt8.toInt32) T4.heap n0 (Nat.le_trans Z0 K13.1) Q4_0) hZ (own_w hw 26 rfl) (own_w hw 18 rfl) (by decide) (by decide)) (g := (mkF m 45 #[.val (.ref a1), .val (.ref a2), .val (.int (0 : Int32)), .val (.int (3 : Int32)), .val .null, .val (.ref b_4)] [(.int (3 : Int32)), (.ref b_4), (.ref a1)])) rfl (by rw [hml]; rfl) (argsL := [(.ref b_4), (.int (3 : Int32))]) (rest := [(.ref a1)]) (lenOf own_pd5 rfl) rfl (by show 2 * 0 + _ ≤ _; exact Nat.le_of_eq rfl) (hb hby d2_45) (fun _ _ => ⟨rfl, rfl, (by decide : 1 + 0 ≤ _), (by decide : 3 + 0 ≤ _)⟩)
  dsimp only [Pt.U, Pt.locs, Pt.cells, Pt.slots] at X14 l14 y14 z14 st14 hQ14
  subst l14 y14 z14
  obtain ⟨rfl, N14q, e14⟩ := hQ14
  have N14 := Fr.app N4 N14q
  refine own_go (B := T14.setTop (mkF m 48 #[.val (.ref a1), .val (.ref a2), .val (.int (0 : Int32)), .val (.int (3 : Int32)), .val .null, .val (.ref b_4)] [(.int (0 : Int32)), (.ref a1)])) st14 ?_
  obtain ⟨T15, h15, X15, e15, W15, st15⟩ := putFN X14 hx hZ hown (own_w hw 27 rfl) Via.refl e14 F_10 E_8 (Or.inr ⟨(own_w hw 28 rfl), rfl, hnm⟩) (own_w hw 2 rfl) (ty := .byte) (v' := (.int (0 : Int32))) (by decide) rfl rfl (g := (mkF m 48 #[.val (.ref a1), .val (.ref a2), .val (.int (0 : Int32)), .val (.int (3 : Int32)), .val .null, .val (.ref b_4)] [(.int (0 : Int32)), (.ref a1)])) rfl rfl (hb hby d2_48)
  have F_w15 : Fld Z h15 a1 "java/lang/String" "coder" "B" (.int (0 : Int32)) := F_10.same W15
  have E_17 := E_8.wr W15
  have F_18 := F_9.other W15 (Or.inr (slot_ne (Or.inr (own_w hw 30 rfl)) (Or.inr (own_w hw 28 rfl)) (by decide) (t := (.array .byte)) (t' := .byte) (by decide) (by decide)))
  have V_20 := V_11.other W15 (Ne.symm ne_a1_a2)
  have S_21 := S_12.wr W15
  have V_22 := Q4_0.other W15 (Ne.symm ne_a1_b_4_5)
  have K23 : Keep h0 h15 [a1] := K13.wr W15 (Or.inl (List.mem_of_getElem? (i := 0) rfl))
  have N15 := Fr.snoc X15 N14 g_a1
  refine own_go (B := T15.setTop (mkF m 51 #[.val (.ref a1), .val (.ref a2), .val (.int (0 : Int32)), .val (.int (3 : Int32)), .val .null, .val (.ref b_4)] [])) st15 ?_
  refine own_go (B := T15.setTop (mkF m 54 #[.val (.ref a1), .val (.ref a2), .val (.int (0 : Int32)), .val (.int (3 : Int32)), .val .null, .val (.ref b_4)] [(.ref b_4), (.ref a1)])) (fun _ k => XS.aloadN X15.here hx rfl (hb hby d2_51) rfl rfl (XS.aload X15.here hx rfl (hb hby d2_52) rfl rfl k)) ?_
  obtain ⟨T24, h24, X24, e24, W24, st24⟩ := putF X15 hx hZ hown (host := "") (Or.inl (own_w hw 29 rfl)) Via.refl e15 F_18 E_17 (Or.inr ⟨(own_w hw 30 rfl), rfl, hnm⟩) (own_w hw 2 rfl) (ty := (.array .byte)) (by decide) rfl rfl (g := (mkF m 54 #[.val (.ref a1), .val (.ref a2), .val (.int (0 : Int32)), .val (.int (3 : Int32)), .val .null, .val (.ref b_4)] [(.ref b_4), (.ref a1)])) rfl rfl (hb hby d2_54)
  have F_w24 : Fld Z h24 a1 "java/lang/String" "value" "[B" (.ref b_4) := F_18.same W24
  have E_26 := E_17.wr W24
  have V_28 := V_20.other W24 (Ne.symm ne_a1_a2)
  have S_29 := S_21.wr W24
  have V_30 := V_22.other W24 (Ne.symm ne_a1_b_4_5)
  have F_31 := F_w15.other W24 (Or.inr (slot_ne (Or.inr (own_w hw 28 rfl)) (Or.inr (own_w hw 30 rfl)) (by decide) (t := .byte) (t' := (.array .byte)) (by decide) (by decide)))
  have K32 : Keep h0 h24 [a1] := K23.wr W24 (Or.inl (List.mem_of_getElem? (i := 0) rfl))
  have N24 := Fr.snoc X24 N15 g_a1
  refine own_go (B := T24.setTop (mkF m 57 #[.val (.ref a1), .val (.ref a2), .val (.int (0 : Int32)), .val (.int (3 : Int32)), .val .null, .val (.ref b_4)] [])) st24 ?_
  exact own_retV X24 hx Bd.notSynchronized Bd.returns (hb hby d2_57) e24 ⟨b_4, kb_4, rfl, N24, K32, E_26, F_w24, F_31, V_30, x4_0⟩ (by decide) (by decide)
abbrev R_own_str3 : Room := { frames := 3, cells := 1, slots := 3, locals := 52 }
theorem ef_own_str3 (m : MethodId) (x0 : Addr) (x1 : Addr) : entryFrame m #[(.ref x0), (.ref x1)] 2 = mkF m 0 #[.val (.ref x0), .val (.ref x1)] [] := by first | (simp [entryFrame, mkF, argsToLocals, Value.category]; done) | rfl
def Q_own_str3 (Z : State) (a1 : Addr) (a2 : Addr) (k2 : ClassId) (c0 : Int32) (c1 : Int32) (c2 : Int32) (cs : Int32) (h0 : Heap) (n0 : Nat) (v : Option Value) (h : Heap) (L : List Loc) : Prop := ∃ t : Addr, ∃ kt : ClassId, v = none ∧ Fr n0 L ∧ Keep h0 h [a1] ∧ Exa Z h a1 "java/lang/String" ∧ Fld Z h a1 "java/lang/String" "value" "[B" (.ref t) ∧ Fld Z h a1 "java/lang/String" "coder" "B" (.int (0 : Int32)) ∧ Arv Z h t kt .byte (3 : Int32) [(.int (c0.toInt8.toInt32)), (.int (c1.toInt8.toInt32)), (.int (c2.toInt8.toInt32))] (.int (0 : Int32)) ∧ (h0.size ≤ t)
set_option maxRecDepth 65536 in
set_option maxHeartbeats 400000000 in
theorem own_str3 (l : Launch) (Z : State) (a0 : Array Value) (hw : ∀ d ∈ tables_1, d.before a0 Z = true) (ws : List Jvm.Cond) (a1 : Addr) (a2 : Addr) (k2 : ClassId) (c0 : Int32) (c1 : Int32) (c2 : Int32) (cs : Int32) (h0 : Heap) (n0 : Nat) (Z0 : n0 ≤ h0.size) (P_E_a1 : Exa Z h0 a1 "java/lang/String") (P_F_a1_value : Fld Z h0 a1 "java/lang/String" "value" "[B" .null) (P_F_a1_coder : Fld Z h0 a1 "java/lang/String" "coder" "B" (.int (0 : Int32))) (P_V_a2 : Arv Z h0 a2 k2 .char (3 : Int32) [(.int c0), (.int c1), (.int c2)] (.int (0 : Int32))) (g_a1 : n0 ≤ a1) (ne_a1_a2 : a1 ≠ a2) (P_S_java_lang_String_COMPACT_STRINGS : Sta Z h0 "java/lang/String" "COMPACT_STRINGS" "Z" (.int cs)) (hcs : ¬ (cs = (0 : Int32))) (hh0 : c0.toInt ≤ 255) (hh1 : c1.toInt ≤ 255) (hh2 : c2.toInt ≤ 255) :
    MetFree l (⟨"java/lang/String", "<init>", "([C)V"⟩ : MethodName) (head1 (Jvm.Cond.code (⟨"java/lang/String", "<init>", "([C)V"⟩ : MethodName) jdk_42_method_3_code 2 none :: ws) R_own_str3) (fun a U => a = #[(.ref a1), (.ref a2)] ∧ Z.Warmed39 U.vm ∧ U.heap = h0) (fun _ _ _ _ _ => True) (fun _ U o U' => ∃ v L, o = .returned v ∧ Q_own_str3 Z a1 a2 k2 c0 c1 c2 cs h0 n0 v U'.heap L ∧ FrameEnd U o U' L R_own_str3.cells R_own_str3.slots) := by
  refine MetFree.of_bodySF (plainFor_of_name own_pn1) hisR ?_
  intro p e s m args below meth c s₁ Bd hml0 hP hK
  obtain ⟨rfl, hZ, hh⟩ := hP
  have hx := Bd.exec
  have hby := Bd.bytes
  have hml : c.maxLocals = 2 := hml0
  have hown : s.vm.findClass "java/lang/String" = some m.cls := findClass_of_methodNamed Bd.named
  have hnm := (name_of_methodNamed Bd.named Bd.method).1
  have X0 : Stand p l e R_own_str3 s m #[(.ref a1), (.ref a2)] below meth c s₁ [] 0 0 := Stand.of_body Bd
  have e0 : s₁.heap = h0 := by rw [← hh, Bd.state]; rfl
  have N0 := Fr.nil n0
  have K0 : Keep h0 h0 [a1] := Keep.refl h0 [a1]
  show own_Fin p e below s (Q_own_str3 Z a1 a2 k2 c0 c1 c2 cs h0 n0) R_own_str3.cells R_own_str3.slots (s₁.setTop (entryFrame m #[(.ref a1), (.ref a2)] 2))
  refine own_go (fun _ k => castTop (ef_own_str3 m a1 a2) k) ?_
  show own_Fin _ _ _ _ _ _ _ (s₁.setTop (mkF m 0 #[.val (.ref a1), .val (.ref a2)] []))
  refine own_go (B := s₁.setTop (mkF m 4 #[.val (.ref a1), .val (.ref a2)] [(.ref a2), (.int (0 : Int32)), (.ref a2), (.ref a1)])) (fun _ k => XS.aloadN X0.here hx rfl (hb hby d1_0) rfl rfl (XS.aloadN X0.here hx rfl (hb hby d1_1) rfl rfl (XS.iconst X0.here hx rfl (hb hby d1_2) (XS.aloadN X0.here hx rfl (hb hby d1_3) rfl rfl k)))) ?_
  obtain ⟨cl1, Ar1, q1, S1, N1n, H1, G1⟩ := id P_V_a2
  refine own_go (fun _ k => X0.arraylength hx (own_hc e0 Ar1.1) (State.isArrayOf_alike hZ.alike Ar1.2.1) (g := (mkF m 4 #[.val (.ref a1), .val (.ref a2)] [(.ref a2), (.int (0 : Int32)), (.ref a2), (.ref a1)])) rfl rfl (hb hby d1_4) _ k) ?_
  rw [len_of S1 N1n]
  show own_Fin _ _ _ _ _ _ _ (s₁.setTop (mkF m 5 #[.val (.ref a1), .val (.ref a2)] [(.int (3 : Int32)), (.int (0 : Int32)), (.ref a2), (.ref a1)]))
  refine own_go (B := s₁.setTop (mkF m 6 #[.val (.ref a1), .val (.ref a2)] [.null, (.int (3 : Int32)), (.int (0 : Int32)), (.ref a2), (.ref a1)])) (fun _ k => XS.aconstNull X0.here hx rfl (hb hby d1_5) k) ?_
  obtain ⟨_, _, ⟨T2, L2, k2, n2⟩, -, X2, ⟨Lc2, hQ2, l2, y2, z2⟩, st2⟩ := X0.specialBack hx (y := (⟨"java/lang/String", "<init>", "([CIILjava/lang/Void;)V"⟩ : MethodName)) rfl hown (mvT hZ (own_w hw 8 rfl)) (mvT hZ (own_w hw 9 rfl)) (mvT hZ (own_w hw 11 rfl)) (by decide) (backOf (W := 0) (own_str4_3 l Z a0 hw [] a1 a2 k2 c0 c1 c2 cs h0 n0 (Nat.le_trans Z0 K0.1) P_E_a1 P_F_a1_value P_F_a1_coder P_V_a2 g_a1 ne_a1_a2 P_S_java_lang_String_COMPACT_STRINGS hcs hh0 hh1 hh2) hZ (own_w hw 11 rfl) (own_w hw 3 rfl) (by decide) (by decide)) (g := (mkF m 6 #[.val (.ref a1), .val (.ref a2)] [.null, (.int (3 : Int32)), (.int (0 : Int32)), (.ref a2), (.ref a1)])) rfl (by rw [hml]; rfl) (Steps.refl _) (a := a1) (argsL := [(.ref a2), (.int (0 : Int32)), (.int (3 : Int32)), .null]) (rest := []) (lenOf own_pd6 rfl) rfl (by show 2 * 0 + _ ≤ _; exact Nat.le_of_eq rfl) (hb hby d1_6) (fun _ _ => ⟨rfl, e0, (by decide : 0 + 1 ≤ _), (by decide : 0 + 3 ≤ _)⟩)
  dsimp only [Pt.U, Pt.locs, Pt.cells, Pt.slots] at X2 l2 y2 z2 st2 hQ2
  subst l2 y2 z2
  obtain ⟨t_2, kt_2, rfl, N2q, K2q, Q2_0, Q2_1, Q2_2, Q2_3, x2_0⟩ := hQ2
  have N2 := Fr.app N0 N2q
  have ne_a1_t_2_3 : a1 ≠ t_2 := Nat.ne_of_lt (Nat.lt_of_lt_of_le P_E_a1.lt x2_0)
  have ne_a2_t_2_4 : a2 ≠ t_2 := Nat.ne_of_lt (Nat.lt_of_lt_of_le P_V_a2.lt x2_0)
  have sz_t_2 : h0.size ≤ t_2 := Nat.le_trans K0.1 x2_0
  have g_t_2 : n0 ≤ t_2 := Nat.le_trans Z0 sz_t_2
  have V_9 := P_V_a2.keep K2q (ninS (Ne.symm ne_a1_a2) nin0)
  have S_10 := own_Sta_keep P_S_java_lang_String_COMPACT_STRINGS K2q (allS (own_plain P_E_a1) all0)
  have K11 : Keep h0 T2.heap [a1] := K0.trans K2q (allS (Or.inl (List.mem_of_getElem? (i := 0) rfl)) all0)
  refine own_go (B := T2.setTop (mkF m 9 #[.val (.ref a1), .val (.ref a2)] [])) (fun _ k => st2.trans k) ?_
  exact own_retV X2 hx Bd.notSynchronized Bd.returns (hb hby d1_9) rfl ⟨t_2, kt_2, rfl, N2, K11, Q2_0, Q2_1, Q2_2, Q2_3, x2_0⟩ (by decide) (by decide)
abbrev R_own_cmpI3_0 : Room := { frames := 0, cells := 0, slots := 0, locals := 0 }
theorem ef_own_cmpI3_0 (m : MethodId) (x0 : Addr) (x2 : Addr) : entryFrame m #[(.ref x0), (.int (0 : Int32)), (.ref x2), (.int (0 : Int32)), (.int (3 : Int32))] 7 = mkF m 0 #[.val (.ref x0), .val (.int (0 : Int32)), .val (.ref x2), .val (.int (0 : Int32)), .val (.int (3 : Int32)), .unset, .unset] [] := by first | (simp [entryFrame, mkF, argsToLocals, Value.category]; done) | rfl
set_option maxRecDepth 65536 in
set_option maxHeartbeats 4000000 in
theorem own_pl_cmpI3_0_1 (c0 : Int32) (hg : ¬ (c0.toInt ≤ 255)) : (255 : Int32) < c0 := by
  have := rng32 c0
  try simp only [own_i32_255] at *
  have := own_i32_255
  try simp only [Int32.lt_iff_toInt_lt, Int32.le_iff_toInt_le, Int64.lt_iff_toInt_lt, Int64.le_iff_toInt_le, ← Int32.toInt_inj, ← Int64.toInt_inj, true_and, and_true, true_or, or_true, false_or, or_false, not_true_eq_false, not_false_eq_true, false_and, and_false, ne_eq] at *
  all_goals first | omega | (simp; done)
def Q_own_cmpI3_0 (Z : State) (a1 : Addr) (a3 : Addr) (k1 : ClassId) (k3 : ClassId) (c0 : Int32) (c1 : Int32) (c2 : Int32) (h0 : Heap) (n0 : Nat) (v : Option Value) (h : Heap) (L : List Loc) : Prop := v = some (.int (0 : Int32)) ∧ Fr n0 L ∧ Keep h0 h [a3]
set_option maxRecDepth 65536 in
set_option maxHeartbeats 400000000 in
theorem own_cmpI3_0 (l : Launch) (Z : State) (a0 : Array Value) (hw : ∀ d ∈ tables_1, d.before a0 Z = true) (ws : List Jvm.Cond) (a1 : Addr) (a3 : Addr) (k1 : ClassId) (k3 : ClassId) (c0 : Int32) (c1 : Int32) (c2 : Int32) (h0 : Heap) (n0 : Nat) (Z0 : n0 ≤ h0.size) (P_V_a1 : Arv Z h0 a1 k1 .char (3 : Int32) [(.int c0), (.int c1), (.int c2)] (.int (0 : Int32))) (P_V_a3 : Arv Z h0 a3 k3 .byte (3 : Int32) [(.int (0 : Int32)), (.int (0 : Int32)), (.int (0 : Int32))] (.int (0 : Int32))) (g_a3 : n0 ≤ a3) (ne_a1_a3 : a1 ≠ a3) (hg : ¬ (c0.toInt ≤ 255)) :
    MetFree l (⟨"java/lang/StringUTF16", "compress", "([CI[BII)I"⟩ : MethodName) (head1 (Jvm.Cond.code (⟨"java/lang/StringUTF16", "compress", "([CI[BII)I"⟩ : MethodName) jdk_52_method_21_code 7 (some .int) :: ws) R_own_cmpI3_0) (fun a U => a = #[(.ref a1), (.int (0 : Int32)), (.ref a3), (.int (0 : Int32)), (.int (3 : Int32))] ∧ Z.Warmed39 U.vm ∧ U.heap = h0) (fun _ _ _ _ _ => True) (fun _ U o U' => ∃ v L, o = .returned v ∧ Q_own_cmpI3_0 Z a1 a3 k1 k3 c0 c1 c2 h0 n0 v U'.heap L ∧ FrameEnd U o U' L R_own_cmpI3_0.cells R_own_cmpI3_0.slots) := by
  refine MetFree.of_bodySF (plainFor_of_name own_pn0) hisR ?_
  intro p e s m args below meth c s₁ Bd hml0 hP hK
  obtain ⟨rfl, hZ, hh⟩ := hP
  have hx := Bd.exec
  have hby := Bd.bytes
  have hml : c.maxLocals = 7 := hml0
  have hown : s.vm.findClass "java/lang/StringUTF16" = some m.cls := findClass_of_methodNamed Bd.named
  have hnm := (name_of_methodNamed Bd.named Bd.method).1
  have X0 : Stand p l e R_own_cmpI3_0 s m #[(.ref a1), (.int (0 : Int32)), (.ref a3), (.int (0 : Int32)), (.int (3 : Int32))] below meth c s₁ [] 0 0 := Stand.of_body Bd
  have e0 : s₁.heap = h0 := by rw [← hh, Bd.state]; rfl
  have N0 := Fr.nil n0
  have K0 : Keep h0 h0 [a3] := Keep.refl h0 [a3]
  show own_Fin p e below s (Q_own_cmpI3_0 Z a1 a3 k1 k3 c0 c1 c2 h0 n0) R_own_cmpI3_0.cells R_own_cmpI3_0.slots (s₁.setTop (entryFrame m #[(.ref a1), (.int (0 : Int32)), (.ref a3), (.int (0 : Int32)), (.int (3 : Int32))] 7))
  refine own_go (fun _ k => castTop (ef_own_cmpI3_0 m a1 a3) k) ?_
  show own_Fin _ _ _ _ _ _ _ (s₁.setTop (mkF m 0 #[.val (.ref a1), .val (.int (0 : Int32)), .val (.ref a3), .val (.int (0 : Int32)), .val (.int (3 : Int32)), .unset, .unset] []))
  refine own_go (B := s₁.setTop (mkF m 7 #[.val (.ref a1), .val (.int (0 : Int32)), .val (.ref a3), .val (.int (0 : Int32)), .val (.int (3 : Int32)), .val (.int (0 : Int32)), .unset] [(.int (3 : Int32)), (.int (0 : Int32))])) (fun _ k => XS.iconst X0.here hx rfl (hb hby d5_0) (XS.istore X0.here hx rfl (hb hby d5_1) rfl (l' := #[.val (.ref a1), .val (.int (0 : Int32)), .val (.ref a3), .val (.int (0 : Int32)), .val (.int (3 : Int32)), .val (.int (0 : Int32)), .unset]) rfl (XS.iload X0.here hx rfl (hb hby d5_3) rfl  (XS.iload X0.here hx rfl (hb hby d5_5) rfl  k)))) ?_
  have hc1 : (0 : Int32) < (3 : Int32) := by decide
  refine own_go (B := s₁.setTop (mkF m 12 #[.val (.ref a1), .val (.int (0 : Int32)), .val (.ref a3), .val (.int (0 : Int32)), .val (.int (3 : Int32)), .val (.int (0 : Int32)), .unset] [(.int (0 : Int32)), (.ref a1)])) (fun _ k => XS.icmpNo X0.here hx rfl (hb hby d5_7) rfl (tlt hc1).2.1 (XS.aloadN X0.here hx rfl (hb hby d5_10) rfl rfl (XS.iloadN X0.here hx rfl (hb hby d5_11) rfl  k))) ?_
  obtain ⟨cl2, Ar2, q2, S2, N2n, H2, G2⟩ := id P_V_a1
  have hin3 : ¬ ((0 : Int32) < 0 ∨ cl2.slots.size ≤ ((0 : Int32)).toNatClampNeg) := inb_of S2 ⟨by decide, by decide⟩
  have hat3 : cl2.slots[((0 : Int32)).toNatClampNeg]? = some (.int c0) := H2.at hin3 rfl
  refine own_go (B := s₁.setTop (mkF m 20 #[.val (.ref a1), .val (.int (0 : Int32)), .val (.ref a3), .val (.int (0 : Int32)), .val (.int (3 : Int32)), .val (.int (0 : Int32)), .val (.int c0)] [(.int (255 : Int32)), (.int c0)])) (fun _ k => X0.caload hx (j := (0 : Int32)) (v := (.int c0)) (own_hc e0 Ar2.1) (State.isArrayOf_alike hZ.alike Ar2.2.1) Ar2.2.2 hin3 hat3 (g := (mkF m 12 #[.val (.ref a1), .val (.int (0 : Int32)), .val (.ref a3), .val (.int (0 : Int32)), .val (.int (3 : Int32)), .val (.int (0 : Int32)), .unset] [(.int (0 : Int32)), (.ref a1)])) rfl rfl (hb hby d5_12) _ (XS.istore X0.here hx rfl (hb hby d5_13) rfl (l' := #[.val (.ref a1), .val (.int (0 : Int32)), .val (.ref a3), .val (.int (0 : Int32)), .val (.int (3 : Int32)), .val (.int (0 : Int32)), .val (.int c0)]) rfl (XS.iload X0.here hx rfl (hb hby d5_15) rfl  (XS.sipush X0.here hx rfl (hb hby d5_17) k)))) ?_
  have hc4 : (255 : Int32) < c0 := (own_pl_cmpI3_0_1 c0 hg)
  refine own_go (B := s₁.setTop (mkF m 25 #[.val (.ref a1), .val (.int (0 : Int32)), .val (.ref a3), .val (.int (0 : Int32)), .val (.int (3 : Int32)), .val (.int (0 : Int32)), .val (.int c0)] [(.int (0 : Int32))])) (fun _ k => XS.icmpNo X0.here hx rfl (hb hby d5_20) rfl (tlt hc4).2.2.2 (XS.iload X0.here hx rfl (hb hby d5_23) rfl  k)) ?_
  exact own_retI X0 hx Bd.notSynchronized Bd.returns (hb hby d5_25) e0 ⟨rfl, N0, K0⟩ (by decide) (by decide)
abbrev R_own_cmpB3_0 : Room := { frames := 3, cells := 2, slots := 9, locals := 40 }
theorem ef_own_cmpB3_0 (m : MethodId) (x0 : Addr) : entryFrame m #[(.ref x0), (.int (0 : Int32)), (.int (3 : Int32))] 6 = mkF m 0 #[.val (.ref x0), .val (.int (0 : Int32)), .val (.int (3 : Int32)), .unset, .unset, .unset] [] := by first | (simp [entryFrame, mkF, argsToLocals, Value.category]; done) | rfl
set_option maxRecDepth 65536 in
set_option maxHeartbeats 4000000 in
theorem own_pl_cmpB3_0_1 (c0 : Int32) (hg : ¬ (c0.toInt ≤ 255)) (hl : 0 ≤ c0.toInt) (hu : c0.toInt ≤ 65535) : (255 : Int32) < ((((((c0 >>> ((0 : Int32) &&& 31)).toInt8.toInt32) &&& (255 : Int32)) <<< ((0 : Int32) &&& 31)) ||| ((((c0 >>> ((8 : Int32) &&& 31)).toInt8.toInt32) &&& (255 : Int32)) <<< ((8 : Int32) &&& 31))).toUInt32.toUInt16.toUInt32.toInt32) := by
  have q := own_getc c0 hl hu
  simp only [Int32.lt_iff_toInt_lt]
  rw [q]
  simp only [Int32.reduceToInt]
  omega
def Q_own_cmpB3_0 (Z : State) (a1 : Addr) (k1 : ClassId) (c0 : Int32) (c1 : Int32) (c2 : Int32) (h0 : Heap) (n0 : Nat) (v : Option Value) (h : Heap) (L : List Loc) : Prop := ∃ b : Addr, ∃ kb : ClassId, ∃ u0 : Int32, ∃ u1 : Int32, ∃ u2 : Int32, ∃ u3 : Int32, ∃ u4 : Int32, ∃ u5 : Int32, v = some (.ref b) ∧ Fr n0 L ∧ Keep h0 h [] ∧ Arv Z h b kb .byte (6 : Int32) [(.int u0), (.int u1), (.int u2), (.int u3), (.int u4), (.int u5)] (.int (0 : Int32)) ∧ (h0.size ≤ b)
set_option maxRecDepth 65536 in
set_option maxHeartbeats 400000000 in
theorem own_cmpB3_0 (l : Launch) (Z : State) (a0 : Array Value) (hw : ∀ d ∈ tables_1, d.before a0 Z = true) (ws : List Jvm.Cond) (a1 : Addr) (k1 : ClassId) (c0 : Int32) (c1 : Int32) (c2 : Int32) (h0 : Heap) (n0 : Nat) (Z0 : n0 ≤ h0.size) (P_V_a1 : Arv Z h0 a1 k1 .char (3 : Int32) [(.int c0), (.int c1), (.int c2)] (.int (0 : Int32))) (P_S_java_lang_StringUTF16__assertionsDisabled : Sta Z h0 "java/lang/StringUTF16" "$assertionsDisabled" "Z" (.int (1 : Int32))) (P_S_java_lang_StringUTF16_HI_BYTE_SHIFT : Sta Z h0 "java/lang/StringUTF16" "HI_BYTE_SHIFT" "I" (.int (0 : Int32))) (P_S_java_lang_StringUTF16_LO_BYTE_SHIFT : Sta Z h0 "java/lang/StringUTF16" "LO_BYTE_SHIFT" "I" (.int (8 : Int32))) (hg : ¬ (c0.toInt ≤ 255)) (hl : 0 ≤ c0.toInt) (hu : c0.toInt ≤ 65535) :
    MetFree l (⟨"java/lang/StringUTF16", "compress", "([CII)[B"⟩ : MethodName) (head1 (Jvm.Cond.code (⟨"java/lang/StringUTF16", "compress", "([CII)[B"⟩ : MethodName) jdk_52_method_16_code 6 (some (.array .byte)) :: ws) R_own_cmpB3_0) (fun a U => a = #[(.ref a1), (.int (0 : Int32)), (.int (3 : Int32))] ∧ Z.Warmed39 U.vm ∧ U.heap = h0) (fun _ _ _ _ _ => True) (fun _ U o U' => ∃ v L, o = .returned v ∧ Q_own_cmpB3_0 Z a1 k1 c0 c1 c2 h0 n0 v U'.heap L ∧ FrameEnd U o U' L R_own_cmpB3_0.cells R_own_cmpB3_0.slots) := by
  refine MetFree.of_bodySF (plainFor_of_name own_pn0) hisR ?_
  intro p e s m args below meth c s₁ Bd hml0 hP hK
  obtain ⟨rfl, hZ, hh⟩ := hP
  have hx := Bd.exec
  have hby := Bd.bytes
  have hml : c.maxLocals = 6 := hml0
  have hown : s.vm.findClass "java/lang/StringUTF16" = some m.cls := findClass_of_methodNamed Bd.named
  have hnm := (name_of_methodNamed Bd.named Bd.method).1
  have X0 : Stand p l e R_own_cmpB3_0 s m #[(.ref a1), (.int (0 : Int32)), (.int (3 : Int32))] below meth c s₁ [] 0 0 := Stand.of_body Bd
  have e0 : s₁.heap = h0 := by rw [← hh, Bd.state]; rfl
  have N0 := Fr.nil n0
  have K0 : Keep h0 h0 [] := Keep.refl h0 []
  show own_Fin p e below s (Q_own_cmpB3_0 Z a1 k1 c0 c1 c2 h0 n0) R_own_cmpB3_0.cells R_own_cmpB3_0.slots (s₁.setTop (entryFrame m #[(.ref a1), (.int (0 : Int32)), (.int (3 : Int32))] 6))
  refine own_go (fun _ k => castTop (ef_own_cmpB3_0 m a1) k) ?_
  show own_Fin _ _ _ _ _ _ _ (s₁.setTop (mkF m 0 #[.val (.ref a1), .val (.int (0 : Int32)), .val (.int (3 : Int32)), .unset, .unset, .unset] []))
  refine own_go (B := s₁.setTop (mkF m 1 #[.val (.ref a1), .val (.int (0 : Int32)), .val (.int (3 : Int32)), .unset, .unset, .unset] [(.int (3 : Int32))])) (fun _ k => XS.iloadN X0.here hx rfl (hb hby d4_0) rfl  k) ?_
  obtain ⟨T1, h1, kc1, X1, e1, E1, A1, st1⟩ := newP X0 hx hZ (own_w hw 20 rfl) e0 (g := (mkF m 1 #[.val (.ref a1), .val (.int (0 : Int32)), .val (.int (3 : Int32)), .unset, .unset, .unset] [(.int (3 : Int32))])) rfl (hb hby d4_1) rfl (by decide) (cap := 3) (by decide) (by decide) (by decide) (by decide)
  obtain ⟨b1, g1⟩ : ∃ z, z = h0.size := ⟨_, rfl⟩
  rw [← g1] at A1 st1
  have ne_a1_b1_2 : a1 ≠ b1 := Nat.ne_of_lt (Nat.lt_of_lt_of_le P_V_a1.lt (Nat.le_of_eq g1.symm))
  have sz_b1 : h0.size ≤ b1 := Nat.le_trans K0.1 (Nat.le_of_eq g1.symm)
  have g_b1 : n0 ≤ b1 := Nat.le_trans Z0 sz_b1
  have V_4 := P_V_a1.ext E1
  have S_5 := P_S_java_lang_StringUTF16__assertionsDisabled.ext E1
  have S_6 := P_S_java_lang_StringUTF16_HI_BYTE_SHIFT.ext E1
  have S_7 := P_S_java_lang_StringUTF16_LO_BYTE_SHIFT.ext E1
  have V_b1 : Arv Z h1 b1 kc1 .byte (3 : Int32) [(.int (0 : Int32)), (.int (0 : Int32)), (.int (0 : Int32))] (.int (0 : Int32)) := (Arv.new A1 (by decide)).pad (pad_rep [] (.int (0 : Int32)) 3)
  have K8 : Keep h0 h1 [] := K0.ext E1
  refine own_go (B := T1.setTop (mkF m 3 #[.val (.ref a1), .val (.int (0 : Int32)), .val (.int (3 : Int32)), .unset, .unset, .unset] [(.ref b1)])) st1 ?_
  refine own_go (B := T1.setTop (mkF m 9 #[.val (.ref a1), .val (.int (0 : Int32)), .val (.int (3 : Int32)), .val (.ref b1), .unset, .unset] [(.int (3 : Int32)), (.int (0 : Int32)), (.ref b1), (.int (0 : Int32)), (.ref a1)])) (fun _ k => XS.astoreN X1.here hx rfl (hb hby d4_3) rfl rfl (l' := #[.val (.ref a1), .val (.int (0 : Int32)), .val (.int (3 : Int32)), .val (.ref b1), .unset, .unset]) rfl (XS.aloadN X1.here hx rfl (hb hby d4_4) rfl rfl (XS.iloadN X1.here hx rfl (hb hby d4_5) rfl  (XS.aloadN X1.here hx rfl (hb hby d4_6) rfl rfl (XS.iconst X1.here hx rfl (hb hby d4_7) (XS.iloadN X1.here hx rfl (hb hby d4_8) rfl  k)))))) ?_
  obtain ⟨_, _, ⟨T9, L9, k9, n9⟩, -, X9, ⟨Lc9, hQ9, l9, y9, z9⟩, st9⟩ := Jvm.LawKit.callS X1 hx (y := (⟨"java/lang/StringUTF16", "compress", "([CI[BII)I"⟩ : MethodName)) hown (mvT hZ (own_w hw 21 rfl)) (mvT hZ (own_w hw 22 rfl)) (mvT hZ (own_w hw 18 rfl)) (mvT hZ (own_w hw 23 rfl)) (by decide) (backOf (W := 0) (own_cmpI3_0 l Z a0 hw [] a1 b1 k1 kc1 c0 c1 c2 h1 n0 (Nat.le_trans Z0 K8.1) V_4 V_b1 g_b1 ne_a1_b1_2 hg) hZ (own_w hw 23 rfl) (own_w hw 18 rfl) (by decide) (by decide)) (g := (mkF m 9 #[.val (.ref a1), .val (.int (0 : Int32)), .val (.int (3 : Int32)), .val (.ref b1), .unset, .unset] [(.int (3 : Int32)), (.int (0 : Int32)), (.ref b1), (.int (0 : Int32)), (.ref a1)])) rfl (by rw [hml]; rfl) (argsL := [(.ref a1), (.int (0 : Int32)), (.ref b1), (.int (0 : Int32)), (.int (3 : Int32))]) (rest := []) (lenOf own_pd3 rfl) rfl (by show 2 * 0 + _ ≤ _; exact Nat.le_of_eq rfl) (hb hby d4_9) (fun _ _ => ⟨rfl, e1, (by decide : 1 + 0 ≤ _), (by decide : 3 + 0 ≤ _)⟩)
  dsimp only [Pt.U, Pt.locs, Pt.cells, Pt.slots] at X9 l9 y9 z9 st9 hQ9
  subst l9 y9 z9
  obtain ⟨rfl, N9q, K9q⟩ := hQ9
  have N9 := Fr.app N0 N9q
  have V_11 := V_4.keep K9q (ninS ne_a1_b1_2 nin0)
  have S_12 := own_Sta_keep S_5 K9q (allS (own_plainV V_b1) all0)
  have S_13 := own_Sta_keep S_6 K9q (allS (own_plainV V_b1) all0)
  have S_14 := own_Sta_keep S_7 K9q (allS (own_plainV V_b1) all0)
  have K16 : Keep h0 T9.heap [] := K8.trans K9q (allS (Or.inr sz_b1) all0)
  refine own_go (B := T9.setTop (mkF m 12 #[.val (.ref a1), .val (.int (0 : Int32)), .val (.int (3 : Int32)), .val (.ref b1), .unset, .unset] [(.int (0 : Int32))])) st9 ?_
  refine own_go (B := T9.setTop (mkF m 17 #[.val (.ref a1), .val (.int (0 : Int32)), .val (.int (3 : Int32)), .val (.ref b1), .val (.int (0 : Int32)), .unset] [(.int (3 : Int32)), (.int (0 : Int32))])) (fun _ k => XS.istore X9.here hx rfl (hb hby d4_12) rfl (l' := #[.val (.ref a1), .val (.int (0 : Int32)), .val (.int (3 : Int32)), .val (.ref b1), .val (.int (0 : Int32)), .unset]) rfl (XS.iload X9.here hx rfl (hb hby d4_14) rfl  (XS.iloadN X9.here hx rfl (hb hby d4_16) rfl  k))) ?_
  have hc17 : ¬ ((0 : Int32) = (3 : Int32)) := by decide
  refine own_go (B := T9.setTop (mkF m 23 #[.val (.ref a1), .val (.int (0 : Int32)), .val (.int (3 : Int32)), .val (.ref b1), .val (.int (0 : Int32)), .unset] [(.int (3 : Int32)), (.int (0 : Int32)), (.ref a1)])) (fun _ k => XS.icmpNo X9.here hx rfl (hb hby d4_17) rfl (feq hc17).1 (XS.aloadN X9.here hx rfl (hb hby d4_20) rfl rfl (XS.iloadN X9.here hx rfl (hb hby d4_21) rfl  (XS.iloadN X9.here hx rfl (hb hby d4_22) rfl  k)))) ?_
  obtain ⟨_, _, ⟨T18, L18, k18, n18⟩, -, X18, ⟨Lc18, hQ18, l18, y18, z18⟩, st18⟩ := Jvm.LawKit.callS X9 hx (y := (⟨"java/lang/StringUTF16", "toBytes", "([CII)[B"⟩ : MethodName)) hown (mvT hZ (own_w hw 68 rfl)) (mvT hZ (own_w hw 69 rfl)) (mvT hZ (own_w hw 18 rfl)) (mvT hZ (own_w hw 70 rfl)) (by decide) (backOf (W := 0) (own_tob3 l Z a0 hw [] a1 k1 c0 c1 c2 T9.heap n0 (Nat.le_trans Z0 K16.1) V_11 S_12 S_13 S_14) hZ (own_w hw 70 rfl) (own_w hw 18 rfl) (by decide) (by decide)) (g := (mkF m 23 #[.val (.ref a1), .val (.int (0 : Int32)), .val (.int (3 : Int32)), .val (.ref b1), .val (.int (0 : Int32)), .unset] [(.int (3 : Int32)), (.int (0 : Int32)), (.ref a1)])) rfl (by rw [hml]; rfl) (argsL := [(.ref a1), (.int (0 : Int32)), (.int (3 : Int32))]) (rest := []) (lenOf own_pd4 rfl) rfl (by show 2 * 0 + _ ≤ _; exact Nat.le_of_eq rfl) (hb hby d4_23) (fun _ _ => ⟨rfl, rfl, (by decide : 1 + 1 ≤ _), (by decide : 3 + 6 ≤ _)⟩)
  dsimp only [Pt.U, Pt.locs, Pt.cells, Pt.slots] at X18 l18 y18 z18 st18 hQ18
  subst l18 y18 z18
  obtain ⟨b_18, kb_18, rfl, N18q, K18q, Q18_0, x18_0⟩ := hQ18
  have N18 := Fr.app N9 N18q
  have ne_a1_b_18_19 : a1 ≠ b_18 := Nat.ne_of_lt (Nat.lt_of_lt_of_le V_11.lt x18_0)
  have sz_b_18 : h0.size ≤ b_18 := Nat.le_trans K16.1 x18_0
  have g_b_18 : n0 ≤ b_18 := Nat.le_trans Z0 sz_b_18
  have V_21 := V_11.keep K18q nin0
  have S_22 := own_Sta_keep S_12 K18q all0
  have S_23 := own_Sta_keep S_13 K18q all0
  have S_24 := own_Sta_keep S_14 K18q all0
  have K25 : Keep h0 T18.heap [] := K16.trans K18q all0
  refine own_go (B := T18.setTop (mkF m 26 #[.val (.ref a1), .val (.int (0 : Int32)), .val (.int (3 : Int32)), .val (.ref b1), .val (.int (0 : Int32)), .unset] [(.ref b_18)])) st18 ?_
  refine own_go (B := T18.setTop (mkF m 32 #[.val (.ref a1), .val (.int (0 : Int32)), .val (.int (3 : Int32)), .val (.ref b1), .val (.int (0 : Int32)), .val (.ref b_18)] [(.int (0 : Int32)), (.ref b_18)])) (fun _ k => XS.astore X18.here hx rfl (hb hby d4_26) rfl rfl (l' := #[.val (.ref a1), .val (.int (0 : Int32)), .val (.int (3 : Int32)), .val (.ref b1), .val (.int (0 : Int32)), .val (.ref b_18)]) rfl (XS.aload X18.here hx rfl (hb hby d4_28) rfl rfl (XS.iload X18.here hx rfl (hb hby d4_30) rfl  k))) ?_
  obtain ⟨_, _, ⟨T26, L26, k26, n26⟩, -, X26, ⟨Lc26, hQ26, l26, y26, z26⟩, st26⟩ := Jvm.LawKit.callS X18 hx (y := (⟨"java/lang/StringUTF16", "getChar", "([BI)C"⟩ : MethodName)) hown (mvT hZ (own_w hw 84 rfl)) (mvT hZ (own_w hw 85 rfl)) (mvT hZ (own_w hw 18 rfl)) (mvT hZ (own_w hw 86 rfl)) (by decide) (backOf (W := 0) (own_get3_0 l Z a0 hw [] b_18 kb_18 ((c0 >>> ((0 : Int32) &&& 31)).toInt8.toInt32) ((c0 >>> ((8 : Int32) &&& 31)).toInt8.toInt32) ((c1 >>> ((0 : Int32) &&& 31)).toInt8.toInt32) ((c1 >>> ((8 : Int32) &&& 31)).toInt8.toInt32) ((c2 >>> ((0 : Int32) &&& 31)).toInt8.toInt32) ((c2 >>> ((8 : Int32) &&& 31)).toInt8.toInt32) T18.heap n0 (Nat.le_trans Z0 K25.1) Q18_0 S_22 S_23 S_24) hZ (own_w hw 86 rfl) (own_w hw 18 rfl) (by decide) (by decide)) (g := (mkF m 32 #[.val (.ref a1), .val (.int (0 : Int32)), .val (.int (3 : Int32)), .val (.ref b1), .val (.int (0 : Int32)), .val (.ref b_18)] [(.int (0 : Int32)), (.ref b_18)])) rfl (by rw [hml]; rfl) (argsL := [(.ref b_18), (.int (0 : Int32))]) (rest := []) (lenOf own_pd7 rfl) rfl (by show 2 * 0 + _ ≤ _; exact Nat.le_of_eq rfl) (hb hby d4_32) (fun _ _ => ⟨rfl, rfl, (by decide : 2 + 0 ≤ _), (by decide : 9 + 0 ≤ _)⟩)
  dsimp only [Pt.U, Pt.locs, Pt.cells, Pt.slots] at X26 l26 y26 z26 st26 hQ26
  subst l26 y26 z26
  obtain ⟨rfl, N26q, e26⟩ := hQ26
  have N26 := Fr.app N18 N26q
  refine own_go (B := T26.setTop (mkF m 35 #[.val (.ref a1), .val (.int (0 : Int32)), .val (.int (3 : Int32)), .val (.ref b1), .val (.int (0 : Int32)), .val (.ref b_18)] [(.int ((((((c0 >>> ((0 : Int32) &&& 31)).toInt8.toInt32) &&& (255 : Int32)) <<< ((0 : Int32) &&& 31)) ||| ((((c0 >>> ((8 : Int32) &&& 31)).toInt8.toInt32) &&& (255 : Int32)) <<< ((8 : Int32) &&& 31))).toUInt32.toUInt16.toUInt32.toInt32))])) st26 ?_
  refine own_go (B := T26.setTop (mkF m 38 #[.val (.ref a1), .val (.int (0 : Int32)), .val (.int (3 : Int32)), .val (.ref b1), .val (.int (0 : Int32)), .val (.ref b_18)] [(.int (255 : Int32)), (.int ((((((c0 >>> ((0 : Int32) &&& 31)).toInt8.toInt32) &&& (255 : Int32)) <<< ((0 : Int32) &&& 31)) ||| ((((c0 >>> ((8 : Int32) &&& 31)).toInt8.toInt32) &&& (255 : Int32)) <<< ((8 : Int32) &&& 31))).toUInt32.toUInt16.toUInt32.toInt32))])) (fun _ k => XS.sipush X26.here hx rfl (hb hby d4_35) k) ?_
  have hc27 : (255 : Int32) < ((((((c0 >>> ((0 : Int32) &&& 31)).toInt8.toInt32) &&& (255 : Int32)) <<< ((0 : Int32) &&& 31)) ||| ((((c0 >>> ((8 : Int32) &&& 31)).toInt8.toInt32) &&& (255 : Int32)) <<< ((8 : Int32) &&& 31))).toUInt32.toUInt16.toUInt32.toInt32) := (own_pl_cmpB3_0_1 c0 hg hl hu)
  refine own_go (B := T26.setTop (mkF m 56 #[.val (.ref a1), .val (.int (0 : Int32)), .val (.int (3 : Int32)), .val (.ref b1), .val (.int (0 : Int32)), .val (.ref b_18)] [(.ref b_18)])) (fun _ k => XS.icmpYes X26.here hx rfl (pc0 := 38) (pc' := 54) rfl (hb hby d4_38) rfl (tlt hc27).2.2.1 (by decide) (by decide) (XS.aload X26.here hx rfl (hb hby d4_54) rfl rfl k)) ?_
  exact own_retA X26 hx Bd.notSynchronized Bd.returns rfl rfl (hb hby d4_56) e26 ⟨b_18, kb_18, ((c0 >>> ((0 : Int32) &&& 31)).toInt8.toInt32), ((c0 >>> ((8 : Int32) &&& 31)).toInt8.toInt32), ((c1 >>> ((0 : Int32) &&& 31)).toInt8.toInt32), ((c1 >>> ((8 : Int32) &&& 31)).toInt8.toInt32), ((c2 >>> ((0 : Int32) &&& 31)).toInt8.toInt32), ((c2 >>> ((8 : Int32) &&& 31)).toInt8.toInt32), rfl, N26, K25, Q18_0, sz_b_18⟩ (by decide) (by decide)
abbrev R_own_cod16_3 : Room := { frames := 0, cells := 0, slots := 0, locals := 0 }
theorem ef_own_cod16_3 (m : MethodId) (x0 : Addr) : entryFrame m #[(.ref x0), (.int (3 : Int32))] 2 = mkF m 0 #[.val (.ref x0), .val (.int (3 : Int32))] [] := by first | (simp [entryFrame, mkF, argsToLocals, Value.category]; done) | rfl
def Q_own_cod16_3 (Z : State) (a1 : Addr) (k1 : ClassId) (v0 : Int32) (v1 : Int32) (v2 : Int32) (v3 : Int32) (v4 : Int32) (v5 : Int32) (h0 : Heap) (n0 : Nat) (v : Option Value) (h : Heap) (L : List Loc) : Prop := v = some (.int (1 : Int32)) ∧ Fr n0 L ∧ h = h0
set_option maxRecDepth 65536 in
set_option maxHeartbeats 400000000 in
theorem own_cod16_3 (l : Launch) (Z : State) (a0 : Array Value) (hw : ∀ d ∈ tables_1, d.before a0 Z = true) (ws : List Jvm.Cond) (a1 : Addr) (k1 : ClassId) (v0 : Int32) (v1 : Int32) (v2 : Int32) (v3 : Int32) (v4 : Int32) (v5 : Int32) (h0 : Heap) (n0 : Nat) (Z0 : n0 ≤ h0.size) (P_V_a1 : Arv Z h0 a1 k1 .byte (6 : Int32) [(.int v0), (.int v1), (.int v2), (.int v3), (.int v4), (.int v5)] (.int (0 : Int32))) :
    MetFree l (⟨"java/lang/StringUTF16", "coderFromArrayLen", "([BI)B"⟩ : MethodName) (head1 (Jvm.Cond.code (⟨"java/lang/StringUTF16", "coderFromArrayLen", "([BI)B"⟩ : MethodName) jdk_52_method_15_code 2 (some .byte) :: ws) R_own_cod16_3) (fun a U => a = #[(.ref a1), (.int (3 : Int32))] ∧ Z.Warmed39 U.vm ∧ U.heap = h0) (fun _ _ _ _ _ => True) (fun _ U o U' => ∃ v L, o = .returned v ∧ Q_own_cod16_3 Z a1 k1 v0 v1 v2 v3 v4 v5 h0 n0 v U'.heap L ∧ FrameEnd U o U' L R_own_cod16_3.cells R_own_cod16_3.slots) := by
  refine MetFree.of_bodySF (plainFor_of_name own_pn0) hisR ?_
  intro p e s m args below meth c s₁ Bd hml0 hP hK
  obtain ⟨rfl, hZ, hh⟩ := hP
  have hx := Bd.exec
  have hby := Bd.bytes
  have hml : c.maxLocals = 2 := hml0
  have hown : s.vm.findClass "java/lang/StringUTF16" = some m.cls := findClass_of_methodNamed Bd.named
  have hnm := (name_of_methodNamed Bd.named Bd.method).1
  have X0 : Stand p l e R_own_cod16_3 s m #[(.ref a1), (.int (3 : Int32))] below meth c s₁ [] 0 0 := Stand.of_body Bd
  have e0 : s₁.heap = h0 := by rw [← hh, Bd.state]; rfl
  have N0 := Fr.nil n0
  have K0 : Keep h0 h0 [] := Keep.refl h0 []
  show own_Fin p e below s (Q_own_cod16_3 Z a1 k1 v0 v1 v2 v3 v4 v5 h0 n0) R_own_cod16_3.cells R_own_cod16_3.slots (s₁.setTop (entryFrame m #[(.ref a1), (.int (3 : Int32))] 2))
  refine own_go (fun _ k => castTop (ef_own_cod16_3 m a1) k) ?_
  show own_Fin _ _ _ _ _ _ _ (s₁.setTop (mkF m 0 #[.val (.ref a1), .val (.int (3 : Int32))] []))
  refine own_go (B := s₁.setTop (mkF m 2 #[.val (.ref a1), .val (.int (3 : Int32))] [(.ref a1), (.int (3 : Int32))])) (fun _ k => XS.iloadN X0.here hx rfl (hb hby d6_0) rfl  (XS.aloadN X0.here hx rfl (hb hby d6_1) rfl rfl k)) ?_
  obtain ⟨cl1, Ar1, q1, S1, N1n, H1, G1⟩ := id P_V_a1
  refine own_go (fun _ k => X0.arraylength hx (own_hc e0 Ar1.1) (State.isArrayOf_alike hZ.alike Ar1.2.1) (g := (mkF m 2 #[.val (.ref a1), .val (.int (3 : Int32))] [(.ref a1), (.int (3 : Int32))])) rfl rfl (hb hby d6_2) _ k) ?_
  rw [len_of S1 N1n]
  show own_Fin _ _ _ _ _ _ _ (s₁.setTop (mkF m 3 #[.val (.ref a1), .val (.int (3 : Int32))] [(.int (6 : Int32)), (.int (3 : Int32))]))
  refine own_go (B := s₁.setTop (mkF m 4 #[.val (.ref a1), .val (.int (3 : Int32))] [(.int ((3 : Int32) - (6 : Int32)))])) (fun _ k => XS.isub X0.here hx rfl (hb hby d6_3) rfl k) ?_
  rw [show ((3 : Int32) - (6 : Int32)) = (-3 : Int32) from by decide]
  show own_Fin _ _ _ _ _ _ _ (s₁.setTop (mkF m 4 #[.val (.ref a1), .val (.int (3 : Int32))] [(.int (-3 : Int32))]))
  refine own_go (B := s₁.setTop (mkF m 7 #[.val (.ref a1), .val (.int (3 : Int32))] [(.int (((-3 : Int32).toUInt32 >>> ((31 : Int32) &&& 31).toUInt32).toInt32))])) (fun _ k => XS.bipush X0.here hx rfl (hb hby d6_4) (XS.iushr X0.here hx rfl (hb hby d6_6) rfl k)) ?_
  rw [show (((-3 : Int32).toUInt32 >>> ((31 : Int32) &&& 31).toUInt32).toInt32) = (1 : Int32) from by decide]
  show own_Fin _ _ _ _ _ _ _ (s₁.setTop (mkF m 7 #[.val (.ref a1), .val (.int (3 : Int32))] [(.int (1 : Int32))]))
  refine own_go (B := s₁.setTop (mkF m 8 #[.val (.ref a1), .val (.int (3 : Int32))] [(.int ((1 : Int32).toInt8.toInt32))])) (fun _ k => XS.i2b X0.here hx rfl (hb hby d6_7) rfl k) ?_
  rw [show ((1 : Int32).toInt8.toInt32) = (1 : Int32) from by decide]
  show own_Fin _ _ _ _ _ _ _ (s₁.setTop (mkF m 8 #[.val (.ref a1), .val (.int (3 : Int32))] [(.int (1 : Int32))]))
  exact own_retN X0 hx Bd.notSynchronized (t := .byte) (w := (1 : Int32)) Bd.returns (by simp) (hb hby d6_8) e0 rfl ⟨rfl, N0, rfl⟩ (by decide) (by decide)
abbrev R_own_str4_3_0 : Room := { frames := 4, cells := 2, slots := 9, locals := 57 }
theorem ef_own_str4_3_0 (m : MethodId) (x0 : Addr) (x1 : Addr) : entryFrame m #[(.ref x0), (.ref x1), (.int (0 : Int32)), (.int (3 : Int32)), .null] 6 = mkF m 0 #[.val (.ref x0), .val (.ref x1), .val (.int (0 : Int32)), .val (.int (3 : Int32)), .val .null, .unset] [] := by first | (simp [entryFrame, mkF, argsToLocals, Value.category]; done) | rfl
def Q_own_str4_3_0 (Z : State) (a1 : Addr) (a2 : Addr) (k2 : ClassId) (c0 : Int32) (c1 : Int32) (c2 : Int32) (cs : Int32) (h0 : Heap) (n0 : Nat) (v : Option Value) (h : Heap) (L : List Loc) : Prop := ∃ t : Addr, ∃ kt : ClassId, ∃ u0 : Int32, ∃ u1 : Int32, ∃ u2 : Int32, ∃ u3 : Int32, ∃ u4 : Int32, ∃ u5 : Int32, v = none ∧ Fr n0 L ∧ Keep h0 h [a1] ∧ Exa Z h a1 "java/lang/String" ∧ Fld Z h a1 "java/lang/String" "value" "[B" (.ref t) ∧ Fld Z h a1 "java/lang/String" "coder" "B" (.int (1 : Int32)) ∧ Arv Z h t kt .byte (6 : Int32) [(.int u0), (.int u1), (.int u2), (.int u3), (.int u4), (.int u5)] (.int (0 : Int32)) ∧ (h0.size ≤ t)
set_option maxRecDepth 65536 in
set_option maxHeartbeats 400000000 in
theorem own_str4_3_0 (l : Launch) (Z : State) (a0 : Array Value) (hw : ∀ d ∈ tables_1, d.before a0 Z = true) (ws : List Jvm.Cond) (a1 : Addr) (a2 : Addr) (k2 : ClassId) (c0 : Int32) (c1 : Int32) (c2 : Int32) (cs : Int32) (h0 : Heap) (n0 : Nat) (Z0 : n0 ≤ h0.size) (P_E_a1 : Exa Z h0 a1 "java/lang/String") (P_F_a1_value : Fld Z h0 a1 "java/lang/String" "value" "[B" .null) (P_F_a1_coder : Fld Z h0 a1 "java/lang/String" "coder" "B" (.int (0 : Int32))) (P_V_a2 : Arv Z h0 a2 k2 .char (3 : Int32) [(.int c0), (.int c1), (.int c2)] (.int (0 : Int32))) (g_a1 : n0 ≤ a1) (ne_a1_a2 : a1 ≠ a2) (P_S_java_lang_String_COMPACT_STRINGS : Sta Z h0 "java/lang/String" "COMPACT_STRINGS" "Z" (.int cs)) (hcs : ¬ (cs = (0 : Int32))) (P_S_java_lang_StringUTF16__assertionsDisabled : Sta Z h0 "java/lang/StringUTF16" "$assertionsDisabled" "Z" (.int (1 : Int32))) (P_S_java_lang_StringUTF16_HI_BYTE_SHIFT : Sta Z h0 "java/lang/StringUTF16" "HI_BYTE_SHIFT" "I" (.int (0 : Int32))) (P_S_java_lang_StringUTF16_LO_BYTE_SHIFT : Sta Z h0 "java/lang/StringUTF16" "LO_BYTE_SHIFT" "I" (.int (8 : Int32))) (hg : ¬ (c0.toInt ≤ 255)) (hl : 0 ≤ c0.toInt) (hu : c0.toInt ≤ 65535) :
    MetFree l (⟨"java/lang/String", "<init>", "([CIILjava/lang/Void;)V"⟩ : MethodName) (head1 (Jvm.Cond.code (⟨"java/lang/String", "<init>", "([CIILjava/lang/Void;)V"⟩ : MethodName) jdk_42_method_149_code 6 none :: ws) R_own_str4_3_0) (fun a U => a = #[(.ref a1), (.ref a2), (.int (0 : Int32)), (.int (3 : Int32)), .null] ∧ Z.Warmed39 U.vm ∧ U.heap = h0) (fun _ _ _ _ _ => True) (fun _ U o U' => ∃ v L, o = .returned v ∧ Q_own_str4_3_0 Z a1 a2 k2 c0 c1 c2 cs h0 n0 v U'.heap L ∧ FrameEnd U o U' L R_own_str4_3_0.cells R_own_str4_3_0.slots) := by
  refine MetFree.of_bodySF (plainFor_of_name own_pn1) hisR ?_
  intro p e s m args below meth c s₁ Bd hml0 hP hK
  obtain ⟨rfl, hZ, hh⟩ := hP
  have hx := Bd.exec
  have hby := Bd.bytes
  have hml : c.maxLocals = 6 := hml0
  have hown : s.vm.findClass "java/lang/String" = some m.cls := findClass_of_methodNamed Bd.named
  have hnm := (name_of_methodNamed Bd.named Bd.method).1
  have X0 : Stand p l e R_own_str4_3_0 s m #[(.ref a1), (.ref a2), (.int (0 : Int32)), (.int (3 : Int32)), .null] below meth c s₁ [] 0 0 := Stand.of_body Bd
  have e0 : s₁.heap = h0 := by rw [← hh, Bd.state]; rfl
  have N0 := Fr.nil n0
  have K0 : Keep h0 h0 [a1] := Keep.refl h0 [a1]
  show own_Fin p e below s (Q_own_str4_3_0 Z a1 a2 k2 c0 c1 c2 cs h0 n0) R_own_str4_3_0.cells R_own_str4_3_0.slots (s₁.setTop (entryFrame m #[(.ref a1), (.ref a2), (.int (0 : Int32)), (.int (3 : Int32)), .null] 6))
  refine own_go (fun _ k => castTop (ef_own_str4_3_0 m a1 a2) k) ?_
  show own_Fin _ _ _ _ _ _ _ (s₁.setTop (mkF m 0 #[.val (.ref a1), .val (.ref a2), .val (.int (0 : Int32)), .val (.int (3 : Int32)), .val .null, .unset] []))
  refine own_go (B := s₁.setTop (mkF m 1 #[.val (.ref a1), .val (.ref a2), .val (.int (0 : Int32)), .val (.int (3 : Int32)), .val .null, .unset] [(.ref a1)])) (fun _ k => XS.aloadN X0.here hx rfl (hb hby d2_0) rfl rfl k) ?_
  obtain ⟨T1, X1, e1, st1⟩ := initO X0 hx hZ hown (own_w hw 12 rfl) (own_w hw 13 rfl) (own_w hw 14 rfl) e0 (g := (mkF m 1 #[.val (.ref a1), .val (.ref a2), .val (.int (0 : Int32)), .val (.int (3 : Int32)), .val .null, .unset] [(.ref a1)])) rfl (by rw [hml]; rfl) rfl (hb hby d2_1) (by decide) (W := 0) (by show 2 * 0 + _ ≤ _; exact Nat.le_of_eq rfl) (by decide)
  refine own_go (B := T1.setTop (mkF m 4 #[.val (.ref a1), .val (.ref a2), .val (.int (0 : Int32)), .val (.int (3 : Int32)), .val .null, .unset] [])) st1 ?_
  refine own_go (B := T1.setTop (mkF m 5 #[.val (.ref a1), .val (.ref a2), .val (.int (0 : Int32)), .val (.int (3 : Int32)), .val .null, .unset] [(.int (3 : Int32))])) (fun _ k => XS.iloadN X1.here hx rfl (hb hby d2_4) rfl  k) ?_
  have hc2 : ¬ ((3 : Int32) = (0 : Int32)) := by decide
  refine own_go (B := T1.setTop (mkF m 27 #[.val (.ref a1), .val (.ref a2), .val (.int (0 : Int32)), .val (.int (3 : Int32)), .val .null, .unset] [])) (fun _ k => XS.ifYes X1.here hx rfl (pc0 := 5) (pc' := 27) rfl (hb hby d2_5) rfl ((if0 _ _).trans (feq hc2).2) (by decide) (by decide) k) ?_
  obtain ⟨T3, X3, e3, st3⟩ := getS2 X1 hx hZ hown (host := "") (Or.inl (own_w hw 15 rfl)) Via.refl e1 P_S_java_lang_String_COMPACT_STRINGS (g := (mkF m 27 #[.val (.ref a1), .val (.ref a2), .val (.int (0 : Int32)), .val (.int (3 : Int32)), .val .null, .unset] [])) rfl (hb hby d2_27)
  refine own_go (B := T3.setTop (mkF m 30 #[.val (.ref a1), .val (.ref a2), .val (.int (0 : Int32)), .val (.int (3 : Int32)), .val .null, .unset] [(.int cs)])) st3 ?_
  refine own_go (B := T3.setTop (mkF m 36 #[.val (.ref a1), .val (.ref a2), .val (.int (0 : Int32)), .val (.int (3 : Int32)), .val .null, .unset] [(.int (3 : Int32)), (.int (0 : Int32)), (.ref a2)])) (fun _ k => XS.ifNo X3.here hx rfl (hb hby d2_30) rfl ((if0 _ _).trans (feq hcs).1) (XS.aloadN X3.here hx rfl (hb hby d2_33) rfl rfl (XS.iloadN X3.here hx rfl (hb hby d2_34) rfl  (XS.iloadN X3.here hx rfl (hb hby d2_35) rfl  k)))) ?_
  obtain ⟨_, _, ⟨T4, L4, k4, n4⟩, -, X4, ⟨Lc4, hQ4, l4, y4, z4⟩, st4⟩ := Jvm.LawKit.callS X3 hx (y := (⟨"java/lang/StringUTF16", "compress", "([CII)[B"⟩ : MethodName)) hown (mvT hZ (own_w hw 16 rfl)) (mvT hZ (own_w hw 17 rfl)) (mvT hZ (own_w hw 18 rfl)) (mvT hZ (own_w hw 19 rfl)) (by decide) (backOf (W := 0) (own_cmpB3_0 l Z a0 hw [] a2 k2 c0 c1 c2 h0 n0 (Nat.le_trans Z0 K0.1) P_V_a2 P_S_java_lang_StringUTF16__assertionsDisabled P_S_java_lang_StringUTF16_HI_BYTE_SHIFT P_S_java_lang_StringUTF16_LO_BYTE_SHIFT hg hl hu) hZ (own_w hw 19 rfl) (own_w hw 18 rfl) (by decide) (by decide)) (g := (mkF m 36 #[.val (.ref a1), .val (.ref a2), .val (.int (0 : Int32)), .val (.int (3 : Int32)), .val .null, .unset] [(.int (3 : Int32)), (.int (0 : Int32)), (.ref a2)])) rfl (by rw [hml]; rfl) (argsL := [(.ref a2), (.int (0 : Int32)), (.int (3 : Int32))]) (rest := []) (lenOf own_pd4 rfl) rfl (by show 2 * 0 + _ ≤ _; exact Nat.le_of_eq rfl) (hb hby d2_36) (fun _ _ => ⟨rfl, e3, (by decide : 0 + 2 ≤ _), (by decide : 0 + 9 ≤ _)⟩)
  dsimp only [Pt.U, Pt.locs, Pt.cells, Pt.slots] at X4 l4 y4 z4 st4 hQ4
  subst l4 y4 z4
  obtain ⟨b_4, kb_4, u0_4, u1_4, u2_4, u3_4, u4_4, u5_4, rfl, N4q, K4q, Q4_0, x4_0⟩ := hQ4
  have N4 := Fr.app N0 N4q
  have ne_a1_b_4_5 : a1 ≠ b_4 := Nat.ne_of_lt (Nat.lt_of_lt_of_le P_E_a1.lt x4_0)
  have ne_a2_b_4_6 : a2 ≠ b_4 := Nat.ne_of_lt (Nat.lt_of_lt_of_le P_V_a2.lt x4_0)
  have sz_b_4 : h0.size ≤ b_4 := Nat.le_trans K0.1 x4_0
  have g_b_4 : n0 ≤ b_4 := Nat.le_trans Z0 sz_b_4
  have E_8 := P_E_a1.keep K4q
  have F_9 := P_F_a1_value.keep K4q nin0
  have F_10 := P_F_a1_coder.keep K4q nin0
  have V_11 := P_V_a2.keep K4q nin0
  have S_12 := own_Sta_keep P_S_java_lang_String_COMPACT_STRINGS K4q all0
  have S_13 := own_Sta_keep P_S_java_lang_StringUTF16__assertionsDisabled K4q all0
  have S_14 := own_Sta_keep P_S_java_lang_StringUTF16_HI_BYTE_SHIFT K4q all0
  have S_15 := own_Sta_keep P_S_java_lang_StringUTF16_LO_BYTE_SHIFT K4q all0
  have K16 : Keep h0 T4.heap [a1] := K0.trans K4q all0
  refine own_go (B := T4.setTop (mkF m 39 #[.val (.ref a1), .val (.ref a2), .val (.int (0 : Int32)), .val (.int (3 : Int32)), .val .null, .unset] [(.ref b_4)])) st4 ?_
  refine own_go (B := T4.setTop (mkF m 45 #[.val (.ref a1), .val (.ref a2), .val (.int (0 : Int32)), .val (.int (3 : Int32)), .val .null, .val (.ref b_4)] [(.int (3 : Int32)), (.ref b_4), (.ref a1)])) (fun _ k => XS.astore X4.here hx rfl (hb hby d2_39) rfl rfl (l' := #[.val (.ref a1), .val (.ref a2), .val (.int (0 : Int32)), .val (.int (3 : Int32)), .val .null, .val (.ref b_4)]) rfl (XS.aloadN X4.here hx rfl (hb hby d2_41) rfl rfl (XS.aload X4.here hx rfl (hb hby d2_42) rfl rfl (XS.iloadN X4.here hx rfl (hb hby d2_44) rfl  k)))) ?_
  obtain ⟨_, _, ⟨T17, L17, k17, n17⟩, -, X17, ⟨Lc17, hQ17, l17, y17, z17⟩, st17⟩ := Jvm.LawKit.callS X4 hx (y := (⟨"java/lang/StringUTF16", "coderFromArrayLen", "([BI)B"⟩ : MethodName)) hown (mvT hZ (own_w hw 24 rfl)) (mvT hZ (own_w hw 25 rfl)) (mvT hZ (own_w hw 18 rfl)) (mvT hZ (own_w hw 26 rfl)) (by decide) (backOf (W := 1) (own_cod16_3 l Z a0 hw [] b_4 kb_4 u0_4 u1_4 u2_4 u3_4 u4_4 u5_4 T4.heap n0 (Nat.le_trans Z0 K16.1) Q4_0) hZ (own_w hw 26 rfl) (own_w hw 18 rfl) (by decide) (by decide)) (g := (mkF m 45 #[.val (.ref a1), .val (.ref a2), .val (.int (0 : Int32)), .val (.int (3 : Int32)), .val .null, .val (.ref b_4)] [(.int (3 : Int32)), (.ref b_4), (.ref a1)])) rfl (by rw [hml]; rfl) (argsL := [(.ref b_4), (.int (3 : Int32))]) (rest := [(.ref a1)]) (lenOf own_pd5 rfl) rfl (by show 2 * 0 + _ ≤ _; exact Nat.le_of_eq rfl) (hb hby d2_45) (fun _ _ => ⟨rfl, rfl, (by decide : 2 + 0 ≤ _), (by decide : 9 + 0 ≤ _)⟩)
  dsimp only [Pt.U, Pt.locs, Pt.cells, Pt.slots] at X17 l17 y17 z17 st17 hQ17
  subst l17 y17 z17
  obtain ⟨rfl, N17q, e17⟩ := hQ17
  have N17 := Fr.app N4 N17q
  refine own_go (B := T17.setTop (mkF m 48 #[.val (.ref a1), .val (.ref a2), .val (.int (0 : Int32)), .val (.int (3 : Int32)), .val .null, .val (.ref b_4)] [(.int (1 : Int32)), (.ref a1)])) st17 ?_
  obtain ⟨T18, h18, X18, e18, W18, st18⟩ := putFN X17 hx hZ hown (own_w hw 27 rfl) Via.refl e17 F_10 E_8 (Or.inr ⟨(own_w hw 28 rfl), rfl, hnm⟩) (own_w hw 2 rfl) (ty := .byte) (v' := (.int (1 : Int32))) (by decide) rfl rfl (g := (mkF m 48 #[.val (.ref a1), .val (.ref a2), .val (.int (0 : Int32)), .val (.int (3 : Int32)), .val .null, .val (.ref b_4)] [(.int (1 : Int32)), (.ref a1)])) rfl rfl (hb hby d2_48)
  have F_w18 : Fld Z h18 a1 "java/lang/String" "coder" "B" (.int (1 : Int32)) := F_10.same W18
  have E_20 := E_8.wr W18
  have F_21 := F_9.other W18 (Or.inr (slot_ne (Or.inr (own_w hw 30 rfl)) (Or.inr (own_w hw 28 rfl)) (by decide) (t := (.array .byte)) (t' := .byte) (by decide) (by decide)))
  have V_23 := V_11.other W18 (Ne.symm ne_a1_a2)
  have S_24 := S_12.wr W18
  have S_25 := S_13.wr W18
  have S_26 := S_14.wr W18
  have S_27 := S_15.wr W18
  have V_28 := Q4_0.other W18 (Ne.symm ne_a1_b_4_5)
  have K29 : Keep h0 h18 [a1] := K16.wr W18 (Or.inl (List.mem_of_getElem? (i := 0) rfl))
  have N18 := Fr.snoc X18 N17 g_a1
  refine own_go (B := T18.setTop (mkF m 51 #[.val (.ref a1), .val (.ref a2), .val (.int (0 : Int32)), .val (.int (3 : Int32)), .val .null, .val (.ref b_4)] [])) st18 ?_
  refine own_go (B := T18.setTop (mkF m 54 #[.val (.ref a1), .val (.ref a2), .val (.int (0 : Int32)), .val (.int (3 : Int32)), .val .null, .val (.ref b_4)] [(.ref b_4), (.ref a1)])) (fun _ k => XS.aloadN X18.here hx rfl (hb hby d2_51) rfl rfl (XS.aload X18.here hx rfl (hb hby d2_52) rfl rfl k)) ?_
  obtain ⟨T30, h30, X30, e30, W30, st30⟩ := putF X18 hx hZ hown (host := "") (Or.inl (own_w hw 29 rfl)) Via.refl e18 F_21 E_20 (Or.inr ⟨(own_w hw 30 rfl), rfl, hnm⟩) (own_w hw 2 rfl) (ty := (.array .byte)) (by decide) rfl rfl (g := (mkF m 54 #[.val (.ref a1), .val (.ref a2), .val (.int (0 : Int32)), .val (.int (3 : Int32)), .val .null, .val (.ref b_4)] [(.ref b_4), (.ref a1)])) rfl rfl (hb hby d2_54)
  have F_w30 : Fld Z h30 a1 "java/lang/String" "value" "[B" (.ref b_4) := F_21.same W30
  have E_32 := E_20.wr W30
  have V_34 := V_23.other W30 (Ne.symm ne_a1_a2)
  have S_35 := S_24.wr W30
  have S_36 := S_25.wr W30
  have S_37 := S_26.wr W30
  have S_38 := S_27.wr W30
  have V_39 := V_28.other W30 (Ne.symm ne_a1_b_4_5)
  have F_40 := F_w18.other W30 (Or.inr (slot_ne (Or.inr (own_w hw 28 rfl)) (Or.inr (own_w hw 30 rfl)) (by decide) (t := .byte) (t' := (.array .byte)) (by decide) (by decide)))
  have K41 : Keep h0 h30 [a1] := K29.wr W30 (Or.inl (List.mem_of_getElem? (i := 0) rfl))
  have N30 := Fr.snoc X30 N18 g_a1
  refine own_go (B := T30.setTop (mkF m 57 #[.val (.ref a1), .val (.ref a2), .val (.int (0 : Int32)), .val (.int (3 : Int32)), .val .null, .val (.ref b_4)] [])) st30 ?_
  exact own_retV X30 hx Bd.notSynchronized Bd.returns (hb hby d2_57) e30 ⟨b_4, kb_4, u0_4, u1_4, u2_4, u3_4, u4_4, u5_4, rfl, N30, K41, E_32, F_w30, F_40, V_39, x4_0⟩ (by decide) (by decide)
abbrev R_own_cmpI3_1 : Room := { frames := 0, cells := 0, slots := 0, locals := 0 }
theorem ef_own_cmpI3_1 (m : MethodId) (x0 : Addr) (x2 : Addr) : entryFrame m #[(.ref x0), (.int (0 : Int32)), (.ref x2), (.int (0 : Int32)), (.int (3 : Int32))] 7 = mkF m 0 #[.val (.ref x0), .val (.int (0 : Int32)), .val (.ref x2), .val (.int (0 : Int32)), .val (.int (3 : Int32)), .unset, .unset] [] := by first | (simp [entryFrame, mkF, argsToLocals, Value.category]; done) | rfl
set_option maxRecDepth 65536 in
set_option maxHeartbeats 4000000 in
theorem own_pl_cmpI3_1_1 (c0 : Int32) (c1 : Int32) (hh0 : c0.toInt ≤ 255) (hg : ¬ (c1.toInt ≤ 255)) : ¬ ((255 : Int32) < c0) := by
  have := rng32 c0
  have := rng32 c1
  try simp only [own_i32_255] at *
  have := own_i32_255
  try simp only [Int32.lt_iff_toInt_lt, Int32.le_iff_toInt_le, Int64.lt_iff_toInt_lt, Int64.le_iff_toInt_le, ← Int32.toInt_inj, ← Int64.toInt_inj, true_and, and_true, true_or, or_true, false_or, or_false, not_true_eq_false, not_false_eq_true, false_and, and_false, ne_eq] at *
  all_goals first | omega | (simp; done)
set_option maxRecDepth 65536 in
set_option maxHeartbeats 4000000 in
theorem own_pl_cmpI3_1_2 (c0 : Int32) (c1 : Int32) (hh0 : c0.toInt ≤ 255) (hg : ¬ (c1.toInt ≤ 255)) (hc4 : ¬ ((255 : Int32) < c0)) : (255 : Int32) < c1 := by
  have := rng32 c0
  have := rng32 c1
  try simp only [own_i32_255] at *
  have := own_i32_255
  try simp only [Int32.lt_iff_toInt_lt, Int32.le_iff_toInt_le, Int64.lt_iff_toInt_lt, Int64.le_iff_toInt_le, ← Int32.toInt_inj, ← Int64.toInt_inj, true_and, and_true, true_or, or_true, false_or, or_false, not_true_eq_false, not_false_eq_true, false_and, and_false, ne_eq] at *
  all_goals first | omega | (simp; done)
def Q_own_cmpI3_1 (Z : State) (a1 : Addr) (a3 : Addr) (k1 : ClassId) (k3 : ClassId) (c0 : Int32) (c1 : Int32) (c2 : Int32) (h0 : Heap) (n0 : Nat) (v : Option Value) (h : Heap) (L : List Loc) : Prop := v = some (.int (1 : Int32)) ∧ Fr n0 L ∧ Keep h0 h [a3]
set_option maxRecDepth 65536 in
set_option maxHeartbeats 400000000 in
theorem own_cmpI3_1 (l : Launch) (Z : State) (a0 : Array Value) (hw : ∀ d ∈ tables_1, d.before a0 Z = true) (ws : List Jvm.Cond) (a1 : Addr) (a3 : Addr) (k1 : ClassId) (k3 : ClassId) (c0 : Int32) (c1 : Int32) (c2 : Int32) (h0 : Heap) (n0 : Nat) (Z0 : n0 ≤ h0.size) (P_V_a1 : Arv Z h0 a1 k1 .char (3 : Int32) [(.int c0), (.int c1), (.int c2)] (.int (0 : Int32))) (P_V_a3 : Arv Z h0 a3 k3 .byte (3 : Int32) [(.int (0 : Int32)), (.int (0 : Int32)), (.int (0 : Int32))] (.int (0 : Int32))) (g_a3 : n0 ≤ a3) (ne_a1_a3 : a1 ≠ a3) (hh0 : c0.toInt ≤ 255) (hg : ¬ (c1.toInt ≤ 255)) :
    MetFree l (⟨"java/lang/StringUTF16", "compress", "([CI[BII)I"⟩ : MethodName) (head1 (Jvm.Cond.code (⟨"java/lang/StringUTF16", "compress", "([CI[BII)I"⟩ : MethodName) jdk_52_method_21_code 7 (some .int) :: ws) R_own_cmpI3_1) (fun a U => a = #[(.ref a1), (.int (0 : Int32)), (.ref a3), (.int (0 : Int32)), (.int (3 : Int32))] ∧ Z.Warmed39 U.vm ∧ U.heap = h0) (fun _ _ _ _ _ => True) (fun _ U o U' => ∃ v L, o = .returned v ∧ Q_own_cmpI3_1 Z a1 a3 k1 k3 c0 c1 c2 h0 n0 v U'.heap L ∧ FrameEnd U o U' L R_own_cmpI3_1.cells R_own_cmpI3_1.slots) := by
  refine MetFree.of_bodySF (plainFor_of_name own_pn0) hisR ?_
  intro p e s m args below meth c s₁ Bd hml0 hP hK
  obtain ⟨rfl, hZ, hh⟩ := hP
  have hx := Bd.exec
  have hby := Bd.bytes
  have hml : c.maxLocals = 7 := hml0
  have hown : s.vm.findClass "java/lang/StringUTF16" = some m.cls := findClass_of_methodNamed Bd.named
  have hnm := (name_of_methodNamed Bd.named Bd.method).1
  have X0 : Stand p l e R_own_cmpI3_1 s m #[(.ref a1), (.int (0 : Int32)), (.ref a3), (.int (0 : Int32)), (.int (3 : Int32))] below meth c s₁ [] 0 0 := Stand.of_body Bd
  have e0 : s₁.heap = h0 := by rw [← hh, Bd.state]; rfl
  have N0 := Fr.nil n0
  have K0 : Keep h0 h0 [a3] := Keep.refl h0 [a3]
  show own_Fin p e below s (Q_own_cmpI3_1 Z a1 a3 k1 k3 c0 c1 c2 h0 n0) R_own_cmpI3_1.cells R_own_cmpI3_1.slots (s₁.setTop (entryFrame m #[(.ref a1), (.int (0 : Int32)), (.ref a3), (.int (0 : Int32)), (.int (3 : Int32))] 7))
  refine own_go (fun _ k => castTop (ef_own_cmpI3_1 m a1 a3) k) ?_
  show own_Fin _ _ _ _ _ _ _ (s₁.setTop (mkF m 0 #[.val (.ref a1), .val (.int (0 : Int32)), .val (.ref a3), .val (.int (0 : Int32)), .val (.int (3 : Int32)), .unset, .unset] []))
  refine own_go (B := s₁.setTop (mkF m 7 #[.val (.ref a1), .val (.int (0 : Int32)), .val (.ref a3), .val (.int (0 : Int32)), .val (.int (3 : Int32)), .val (.int (0 : Int32)), .unset] [(.int (3 : Int32)), (.int (0 : Int32))])) (fun _ k => XS.iconst X0.here hx rfl (hb hby d5_0) (XS.istore X0.here hx rfl (hb hby d5_1) rfl (l' := #[.val (.ref a1), .val (.int (0 : Int32)), .val (.ref a3), .val (.int (0 : Int32)), .val (.int (3 : Int32)), .val (.int (0 : Int32)), .unset]) rfl (XS.iload X0.here hx rfl (hb hby d5_3) rfl  (XS.iload X0.here hx rfl (hb hby d5_5) rfl  k)))) ?_
  have hc1 : (0 : Int32) < (3 : Int32) := by decide
  refine own_go (B := s₁.setTop (mkF m 12 #[.val (.ref a1), .val (.int (0 : Int32)), .val (.ref a3), .val (.int (0 : Int32)), .val (.int (3 : Int32)), .val (.int (0 : Int32)), .unset] [(.int (0 : Int32)), (.ref a1)])) (fun _ k => XS.icmpNo X0.here hx rfl (hb hby d5_7) rfl (tlt hc1).2.1 (XS.aloadN X0.here hx rfl (hb hby d5_10) rfl rfl (XS.iloadN X0.here hx rfl (hb hby d5_11) rfl  k))) ?_
  obtain ⟨cl2, Ar2, q2, S2, N2n, H2, G2⟩ := id P_V_a1
  have hin3 : ¬ ((0 : Int32) < 0 ∨ cl2.slots.size ≤ ((0 : Int32)).toNatClampNeg) := inb_of S2 ⟨by decide, by decide⟩
  have hat3 : cl2.slots[((0 : Int32)).toNatClampNeg]? = some (.int c0) := H2.at hin3 rfl
  refine own_go (B := s₁.setTop (mkF m 20 #[.val (.ref a1), .val (.int (0 : Int32)), .val (.ref a3), .val (.int (0 : Int32)), .val (.int (3 : Int32)), .val (.int (0 : Int32)), .val (.int c0)] [(.int (255 : Int32)), (.int c0)])) (fun _ k => X0.caload hx (j := (0 : Int32)) (v := (.int c0)) (own_hc e0 Ar2.1) (State.isArrayOf_alike hZ.alike Ar2.2.1) Ar2.2.2 hin3 hat3 (g := (mkF m 12 #[.val (.ref a1), .val (.int (0 : Int32)), .val (.ref a3), .val (.int (0 : Int32)), .val (.int (3 : Int32)), .val (.int (0 : Int32)), .unset] [(.int (0 : Int32)), (.ref a1)])) rfl rfl (hb hby d5_12) _ (XS.istore X0.here hx rfl (hb hby d5_13) rfl (l' := #[.val (.ref a1), .val (.int (0 : Int32)), .val (.ref a3), .val (.int (0 : Int32)), .val (.int (3 : Int32)), .val (.int (0 : Int32)), .val (.int c0)]) rfl (XS.iload X0.here hx rfl (hb hby d5_15) rfl  (XS.sipush X0.here hx rfl (hb hby d5_17) k)))) ?_
  have hc4 : ¬ ((255 : Int32) < c0) := (own_pl_cmpI3_1_1 c0 c1 hh0 hg)
  refine own_go (B := s₁.setTop (mkF m 31 #[.val (.ref a1), .val (.int (0 : Int32)), .val (.ref a3), .val (.int (0 : Int32)), .val (.int (3 : Int32)), .val (.int (0 : Int32)), .val (.int c0)] [(.int (c0.toInt8.toInt32)), (.int (0 : Int32)), (.ref a3)])) (fun _ k => XS.icmpYes X0.here hx rfl (pc0 := 20) (pc' := 26) rfl (hb hby d5_20) rfl (flt hc4).2.2.2 (by decide) (by decide) (XS.aloadN X0.here hx rfl (hb hby d5_26) rfl rfl (XS.iloadN X0.here hx rfl (hb hby d5_27) rfl  (XS.iload X0.here hx rfl (hb hby d5_28) rfl  (XS.i2b X0.here hx rfl (hb hby d5_30) rfl k))))) ?_
  obtain ⟨cl5, Ar5, q5, S5, N5n, H5, G5⟩ := id P_V_a3
  have hin6 : ¬ ((0 : Int32) < 0 ∨ cl5.slots.size ≤ ((0 : Int32)).toNatClampNeg) := inb_of S5 ⟨by decide, by decide⟩
  obtain ⟨T6, h6, X6, e6, W6, st6⟩ := stB X0 hx hZ e0 Ar5 (j := (0 : Int32)) hin6 (g := (mkF m 31 #[.val (.ref a1), .val (.int (0 : Int32)), .val (.ref a3), .val (.int (0 : Int32)), .val (.int (3 : Int32)), .val (.int (0 : Int32)), .val (.int c0)] [(.int (c0.toInt8.toInt32)), (.int (0 : Int32)), (.ref a3)])) rfl rfl (hb hby d5_31)
  rw [own_narb] at W6
  have V_a3_6 : Arv Z h6 a3 k3 .byte (3 : Int32) [(.int (c0.toInt8.toInt32)), (.int (0 : Int32)), (.int (0 : Int32))] (.int (0 : Int32)) := Arv.set Ar5 q5 S5 N5n H5 G5 (fits_nar_byte _) W6 0 rfl (Nat.le_of_ble_eq_true rfl)
  have V_8 := P_V_a1.other W6 ne_a1_a3
  have K10 : Keep h0 h6 [a3] := K0.wr W6 (Or.inl (List.mem_of_getElem? (i := 0) rfl))
  have N6 := Fr.snoc X6 N0 g_a3
  refine own_go (B := T6.setTop (mkF m 32 #[.val (.ref a1), .val (.int (0 : Int32)), .val (.ref a3), .val (.int (0 : Int32)), .val (.int (3 : Int32)), .val (.int (0 : Int32)), .val (.int c0)] [])) st6 ?_
  refine own_go (B := T6.setTop (mkF m 35 #[.val (.ref a1), .val (.int ((0 : Int32) + (1 : Int32))), .val (.ref a3), .val (.int (0 : Int32)), .val (.int (3 : Int32)), .val (.int (0 : Int32)), .val (.int c0)] [])) (fun _ k => XS.iinc X6.here hx rfl (hb hby d5_32) rfl (l' := #[.val (.ref a1), .val (.int ((0 : Int32) + (1 : Int32))), .val (.ref a3), .val (.int (0 : Int32)), .val (.int (3 : Int32)), .val (.int (0 : Int32)), .val (.int c0)]) rfl k) ?_
  rw [show ((0 : Int32) + (1 : Int32)) = (1 : Int32) from by decide]
  show own_Fin _ _ _ _ _ _ _ (T6.setTop (mkF m 35 #[.val (.ref a1), .val (.int (1 : Int32)), .val (.ref a3), .val (.int (0 : Int32)), .val (.int (3 : Int32)), .val (.int (0 : Int32)), .val (.int c0)] []))
  refine own_go (B := T6.setTop (mkF m 38 #[.val (.ref a1), .val (.int (1 : Int32)), .val (.ref a3), .val (.int ((0 : Int32) + (1 : Int32))), .val (.int (3 : Int32)), .val (.int (0 : Int32)), .val (.int c0)] [])) (fun _ k => XS.iinc X6.here hx rfl (hb hby d5_35) rfl (l' := #[.val (.ref a1), .val (.int (1 : Int32)), .val (.ref a3), .val (.int ((0 : Int32) + (1 : Int32))), .val (.int (3 : Int32)), .val (.int (0 : Int32)), .val (.int c0)]) rfl k) ?_
  rw [show ((0 : Int32) + (1 : Int32)) = (1 : Int32) from by decide]
  show own_Fin _ _ _ _ _ _ _ (T6.setTop (mkF m 38 #[.val (.ref a1), .val (.int (1 : Int32)), .val (.ref a3), .val (.int (1 : Int32)), .val (.int (3 : Int32)), .val (.int (0 : Int32)), .val (.int c0)] []))
  refine own_go (B := T6.setTop (mkF m 41 #[.val (.ref a1), .val (.int (1 : Int32)), .val (.ref a3), .val (.int (1 : Int32)), .val (.int (3 : Int32)), .val (.int ((0 : Int32) + (1 : Int32))), .val (.int c0)] [])) (fun _ k => XS.iinc X6.here hx rfl (hb hby d5_38) rfl (l' := #[.val (.ref a1), .val (.int (1 : Int32)), .val (.ref a3), .val (.int (1 : Int32)), .val (.int (3 : Int32)), .val (.int ((0 : Int32) + (1 : Int32))), .val (.int c0)]) rfl k) ?_
  rw [show ((0 : Int32) + (1 : Int32)) = (1 : Int32) from by decide]
  show own_Fin _ _ _ _ _ _ _ (T6.setTop (mkF m 41 #[.val (.ref a1), .val (.int (1 : Int32)), .val (.ref a3), .val (.int (1 : Int32)), .val (.int (3 : Int32)), .val (.int (1 : Int32)), .val (.int c0)] []))
  refine own_go (B := T6.setTop (mkF m 7 #[.val (.ref a1), .val (.int (1 : Int32)), .val (.ref a3), .val (.int (1 : Int32)), .val (.int (3 : Int32)), .val (.int (1 : Int32)), .val (.int c0)] [(.int (3 : Int32)), (.int (1 : Int32))])) (fun _ k => XS.goto X6.here hx rfl (pc0 := 41) (pc' := 3) rfl (hb hby d5_41) (by decide) (by decide) (XS.iload X6.here hx rfl (hb hby d5_3) rfl  (XS.iload X6.here hx rfl (hb hby d5_5) rfl  k))) ?_
  have hc11 : (1 : Int32) < (3 : Int32) := by decide
  refine own_go (B := T6.setTop (mkF m 12 #[.val (.ref a1), .val (.int (1 : Int32)), .val (.ref a3), .val (.int (1 : Int32)), .val (.int (3 : Int32)), .val (.int (1 : Int32)), .val (.int c0)] [(.int (1 : Int32)), (.ref a1)])) (fun _ k => XS.icmpNo X6.here hx rfl (hb hby d5_7) rfl (tlt hc11).2.1 (XS.aloadN X6.here hx rfl (hb hby d5_10) rfl rfl (XS.iloadN X6.here hx rfl (hb hby d5_11) rfl  k))) ?_
  obtain ⟨cl12, Ar12, q12, S12, N12n, H12, G12⟩ := id V_8
  have hin13 : ¬ ((1 : Int32) < 0 ∨ cl12.slots.size ≤ ((1 : Int32)).toNatClampNeg) := inb_of S12 ⟨by decide, by decide⟩
  have hat13 : cl12.slots[((1 : Int32)).toNatClampNeg]? = some (.int c1) := H12.at hin13 rfl
  refine own_go (B := T6.setTop (mkF m 20 #[.val (.ref a1), .val (.int (1 : Int32)), .val (.ref a3), .val (.int (1 : Int32)), .val (.int (3 : Int32)), .val (.int (1 : Int32)), .val (.int c1)] [(.int (255 : Int32)), (.int c1)])) (fun _ k => X6.caload hx (j := (1 : Int32)) (v := (.int c1)) (own_hc e6 Ar12.1) (State.isArrayOf_alike hZ.alike Ar12.2.1) Ar12.2.2 hin13 hat13 (g := (mkF m 12 #[.val (.ref a1), .val (.int (1 : Int32)), .val (.ref a3), .val (.int (1 : Int32)), .val (.int (3 : Int32)), .val (.int (1 : Int32)), .val (.int c0)] [(.int (1 : Int32)), (.ref a1)])) rfl rfl (hb hby d5_12) _ (XS.istore X6.here hx rfl (hb hby d5_13) rfl (l' := #[.val (.ref a1), .val (.int (1 : Int32)), .val (.ref a3), .val (.int (1 : Int32)), .val (.int (3 : Int32)), .val (.int (1 : Int32)), .val (.int c1)]) rfl (XS.iload X6.here hx rfl (hb hby d5_15) rfl  (XS.sipush X6.here hx rfl (hb hby d5_17) k)))) ?_
  have hc14 : (255 : Int32) < c1 := (own_pl_cmpI3_1_2 c0 c1 hh0 hg hc4)
  refine own_go (B := T6.setTop (mkF m 25 #[.val (.ref a1), .val (.int (1 : Int32)), .val (.ref a3), .val (.int (1 : Int32)), .val (.int (3 : Int32)), .val (.int (1 : Int32)), .val (.int c1)] [(.int (1 : Int32))])) (fun _ k => XS.icmpNo X6.here hx rfl (hb hby d5_20) rfl (tlt hc14).2.2.2 (XS.iload X6.here hx rfl (hb hby d5_23) rfl  k)) ?_
  exact own_retI X6 hx Bd.notSynchronized Bd.returns (hb hby d5_25) e6 ⟨rfl, N6, K10⟩ (by decide) (by decide)
abbrev R_own_cmpB3_1 : Room := { frames := 3, cells := 2, slots := 9, locals := 40 }
theorem ef_own_cmpB3_1 (m : MethodId) (x0 : Addr) : entryFrame m #[(.ref x0), (.int (0 : Int32)), (.int (3 : Int32))] 6 = mkF m 0 #[.val (.ref x0), .val (.int (0 : Int32)), .val (.int (3 : Int32)), .unset, .unset, .unset] [] := by first | (simp [entryFrame, mkF, argsToLocals, Value.category]; done) | rfl
set_option maxRecDepth 65536 in
set_option maxHeartbeats 4000000 in
theorem own_pl_cmpB3_1_1 (c0 : Int32) (c1 : Int32) (hh0 : c0.toInt ≤ 255) (hg : ¬ (c1.toInt ≤ 255)) (hl : 0 ≤ c1.toInt) (hu : c1.toInt ≤ 65535) : (255 : Int32) < ((((((c1 >>> ((0 : Int32) &&& 31)).toInt8.toInt32) &&& (255 : Int32)) <<< ((0 : Int32) &&& 31)) ||| ((((c1 >>> ((8 : Int32) &&& 31)).toInt8.toInt32) &&& (255 : Int32)) <<< ((8 : Int32) &&& 31))).toUInt32.toUInt16.toUInt32.toInt32) := by
  have q := own_getc c1 hl hu
  simp only [Int32.lt_iff_toInt_lt]
  rw [q]
  simp only [Int32.reduceToInt]
  omega
def Q_own_cmpB3_1 (Z : State) (a1 : Addr) (k1 : ClassId) (c0 : Int32) (c1 : Int32) (c2 : Int32) (h0 : Heap) (n0 : Nat) (v : Option Value) (h : Heap) (L : List Loc) : Prop := ∃ b : Addr, ∃ kb : ClassId, ∃ u0 : Int32, ∃ u1 : Int32, ∃ u2 : Int32, ∃ u3 : Int32, ∃ u4 : Int32, ∃ u5 : Int32, v = some (.ref b) ∧ Fr n0 L ∧ Keep h0 h [] ∧ Arv Z h b kb .byte (6 : Int32) [(.int u0), (.int u1), (.int u2), (.int u3), (.int u4), (.int u5)] (.int (0 : Int32)) ∧ (h0.size ≤ b)
set_option maxRecDepth 65536 in
set_option maxHeartbeats 400000000 in
theorem own_cmpB3_1 (l : Launch) (Z : State) (a0 : Array Value) (hw : ∀ d ∈ tables_1, d.before a0 Z = true) (ws : List Jvm.Cond) (a1 : Addr) (k1 : ClassId) (c0 : Int32) (c1 : Int32) (c2 : Int32) (h0 : Heap) (n0 : Nat) (Z0 : n0 ≤ h0.size) (P_V_a1 : Arv Z h0 a1 k1 .char (3 : Int32) [(.int c0), (.int c1), (.int c2)] (.int (0 : Int32))) (P_S_java_lang_StringUTF16__assertionsDisabled : Sta Z h0 "java/lang/StringUTF16" "$assertionsDisabled" "Z" (.int (1 : Int32))) (P_S_java_lang_StringUTF16_HI_BYTE_SHIFT : Sta Z h0 "java/lang/StringUTF16" "HI_BYTE_SHIFT" "I" (.int (0 : Int32))) (P_S_java_lang_StringUTF16_LO_BYTE_SHIFT : Sta Z h0 "java/lang/StringUTF16" "LO_BYTE_SHIFT" "I" (.int (8 : Int32))) (hh0 : c0.toInt ≤ 255) (hg : ¬ (c1.toInt ≤ 255)) (hl : 0 ≤ c1.toInt) (hu : c1.toInt ≤ 65535) :
    MetFree l (⟨"java/lang/StringUTF16", "compress", "([CII)[B"⟩ : MethodName) (head1 (Jvm.Cond.code (⟨"java/lang/StringUTF16", "compress", "([CII)[B"⟩ : MethodName) jdk_52_method_16_code 6 (some (.array .byte)) :: ws) R_own_cmpB3_1) (fun a U => a = #[(.ref a1), (.int (0 : Int32)), (.int (3 : Int32))] ∧ Z.Warmed39 U.vm ∧ U.heap = h0) (fun _ _ _ _ _ => True) (fun _ U o U' => ∃ v L, o = .returned v ∧ Q_own_cmpB3_1 Z a1 k1 c0 c1 c2 h0 n0 v U'.heap L ∧ FrameEnd U o U' L R_own_cmpB3_1.cells R_own_cmpB3_1.slots) := by
  refine MetFree.of_bodySF (plainFor_of_name own_pn0) hisR ?_
  intro p e s m args below meth c s₁ Bd hml0 hP hK
  obtain ⟨rfl, hZ, hh⟩ := hP
  have hx := Bd.exec
  have hby := Bd.bytes
  have hml : c.maxLocals = 6 := hml0
  have hown : s.vm.findClass "java/lang/StringUTF16" = some m.cls := findClass_of_methodNamed Bd.named
  have hnm := (name_of_methodNamed Bd.named Bd.method).1
  have X0 : Stand p l e R_own_cmpB3_1 s m #[(.ref a1), (.int (0 : Int32)), (.int (3 : Int32))] below meth c s₁ [] 0 0 := Stand.of_body Bd
  have e0 : s₁.heap = h0 := by rw [← hh, Bd.state]; rfl
  have N0 := Fr.nil n0
  have K0 : Keep h0 h0 [] := Keep.refl h0 []
  show own_Fin p e below s (Q_own_cmpB3_1 Z a1 k1 c0 c1 c2 h0 n0) R_own_cmpB3_1.cells R_own_cmpB3_1.slots (s₁.setTop (entryFrame m #[(.ref a1), (.int (0 : Int32)), (.int (3 : Int32))] 6))
  refine own_go (fun _ k => castTop (ef_own_cmpB3_1 m a1) k) ?_
  show own_Fin _ _ _ _ _ _ _ (s₁.setTop (mkF m 0 #[.val (.ref a1), .val (.int (0 : Int32)), .val (.int (3 : Int32)), .unset, .unset, .unset] []))
  refine own_go (B := s₁.setTop (mkF m 1 #[.val (.ref a1), .val (.int (0 : Int32)), .val (.int (3 : Int32)), .unset, .unset, .unset] [(.int (3 : Int32))])) (fun _ k => XS.iloadN X0.here hx rfl (hb hby d4_0) rfl  k) ?_
  obtain ⟨T1, h1, kc1, X1, e1, E1, A1, st1⟩ := newP X0 hx hZ (own_w hw 20 rfl) e0 (g := (mkF m 1 #[.val (.ref a1), .val (.int (0 : Int32)), .val (.int (3 : Int32)), .unset, .unset, .unset] [(.int (3 : Int32))])) rfl (hb hby d4_1) rfl (by decide) (cap := 3) (by decide) (by decide) (by decide) (by decide)
  obtain ⟨b1, g1⟩ : ∃ z, z = h0.size := ⟨_, rfl⟩
  rw [← g1] at A1 st1
  have ne_a1_b1_2 : a1 ≠ b1 := Nat.ne_of_lt (Nat.lt_of_lt_of_le P_V_a1.lt (Nat.le_of_eq g1.symm))
  have sz_b1 : h0.size ≤ b1 := Nat.le_trans K0.1 (Nat.le_of_eq g1.symm)
  have g_b1 : n0 ≤ b1 := Nat.le_trans Z0 sz_b1
  have V_4 := P_V_a1.ext E1
  have S_5 := P_S_java_lang_StringUTF16__assertionsDisabled.ext E1
  have S_6 := P_S_java_lang_StringUTF16_HI_BYTE_SHIFT.ext E1
  have S_7 := P_S_java_lang_StringUTF16_LO_BYTE_SHIFT.ext E1
  have V_b1 : Arv Z h1 b1 kc1 .byte (3 : Int32) [(.int (0 : Int32)), (.int (0 : Int32)), (.int (0 : Int32))] (.int (0 : Int32)) := (Arv.new A1 (by decide)).pad (pad_rep [] (.int (0 : Int32)) 3)
  have K8 : Keep h0 h1 [] := K0.ext E1
  refine own_go (B := T1.setTop (mkF m 3 #[.val (.ref a1), .val (.int (0 : Int32)), .val (.int (3 : Int32)), .unset, .unset, .unset] [(.ref b1)])) st1 ?_
  refine own_go (B := T1.setTop (mkF m 9 #[.val (.ref a1), .val (.int (0 : Int32)), .val (.int (3 : Int32)), .val (.ref b1), .unset, .unset] [(.int (3 : Int32)), (.int (0 : Int32)), (.ref b1), (.int (0 : Int32)), (.ref a1)])) (fun _ k => XS.astoreN X1.here hx rfl (hb hby d4_3) rfl rfl (l' := #[.val (.ref a1), .val (.int (0 : Int32)), .val (.int (3 : Int32)), .val (.ref b1), .unset, .unset]) rfl (XS.aloadN X1.here hx rfl (hb hby d4_4) rfl rfl (XS.iloadN X1.here hx rfl (hb hby d4_5) rfl  (XS.aloadN X1.here hx rfl (hb hby d4_6) rfl rfl (XS.iconst X1.here hx rfl (hb hby d4_7) (XS.iloadN X1.here hx rfl (hb hby d4_8) rfl  k)))))) ?_
  obtain ⟨_, _, ⟨T9, L9, k9, n9⟩, -, X9, ⟨Lc9, hQ9, l9, y9, z9⟩, st9⟩ := Jvm.LawKit.callS X1 hx (y := (⟨"java/lang/StringUTF16", "compress", "([CI[BII)I"⟩ : MethodName)) hown (mvT hZ (own_w hw 21 rfl)) (mvT hZ (own_w hw 22 rfl)) (mvT hZ (own_w hw 18 rfl)) (mvT hZ (own_w hw 23 rfl)) (by decide) (backOf (W := 0) (own_cmpI3_1 l Z a0 hw [] a1 b1 k1 kc1 c0 c1 c2 h1 n0 (Nat.le_trans Z0 K8.1) V_4 V_b1 g_b1 ne_a1_b1_2 hh0 hg) hZ (own_w hw 23 rfl) (own_w hw 18 rfl) (by decide) (by decide)) (g := (mkF m 9 #[.val (.ref a1), .val (.int (0 : Int32)), .val (.int (3 : Int32)), .val (.ref b1), .unset, .unset] [(.int (3 : Int32)), (.int (0 : Int32)), (.ref b1), (.int (0 : Int32)), (.ref a1)])) rfl (by rw [hml]; rfl) (argsL := [(.ref a1), (.int (0 : Int32)), (.ref b1), (.int (0 : Int32)), (.int (3 : Int32))]) (rest := []) (lenOf own_pd3 rfl) rfl (by show 2 * 0 + _ ≤ _; exact Nat.le_of_eq rfl) (hb hby d4_9) (fun _ _ => ⟨rfl, e1, (by decide : 1 + 0 ≤ _), (by decide : 3 + 0 ≤ _)⟩)
  dsimp only [Pt.U, Pt.locs, Pt.cells, Pt.slots] at X9 l9 y9 z9 st9 hQ9
  subst l9 y9 z9
  obtain ⟨rfl, N9q, K9q⟩ := hQ9
  have N9 := Fr.app N0 N9q
  have V_11 := V_4.keep K9q (ninS ne_a1_b1_2 nin0)
  have S_12 := own_Sta_keep S_5 K9q (allS (own_plainV V_b1) all0)
  have S_13 := own_Sta_keep S_6 K9q (allS (own_plainV V_b1) all0)
  have S_14 := own_Sta_keep S_7 K9q (allS (own_plainV V_b1) all0)
  have K16 : Keep h0 T9.heap [] := K8.trans K9q (allS (Or.inr sz_b1) all0)
  refine own_go (B := T9.setTop (mkF m 12 #[.val (.ref a1), .val (.int (0 : Int32)), .val (.int (3 : Int32)), .val (.ref b1), .unset, .unset] [(.int (1 : Int32))])) st9 ?_
  refine own_go (B := T9.setTop (mkF m 17 #[.val (.ref a1), .val (.int (0 : Int32)), .val (.int (3 : Int32)), .val (.ref b1), .val (.int (1 : Int32)), .unset] [(.int (3 : Int32)), (.int (1 : Int32))])) (fun _ k => XS.istore X9.here hx rfl (hb hby d4_12) rfl (l' := #[.val (.ref a1), .val (.int (0 : Int32)), .val (.int (3 : Int32)), .val (.ref b1), .val (.int (1 : Int32)), .unset]) rfl (XS.iload X9.here hx rfl (hb hby d4_14) rfl  (XS.iloadN X9.here hx rfl (hb hby d4_16) rfl  k))) ?_
  have hc17 : ¬ ((1 : Int32) = (3 : Int32)) := by decide
  refine own_go (B := T9.setTop (mkF m 23 #[.val (.ref a1), .val (.int (0 : Int32)), .val (.int (3 : Int32)), .val (.ref b1), .val (.int (1 : Int32)), .unset] [(.int (3 : Int32)), (.int (0 : Int32)), (.ref a1)])) (fun _ k => XS.icmpNo X9.here hx rfl (hb hby d4_17) rfl (feq hc17).1 (XS.aloadN X9.here hx rfl (hb hby d4_20) rfl rfl (XS.iloadN X9.here hx rfl (hb hby d4_21) rfl  (XS.iloadN X9.here hx rfl (hb hby d4_22) rfl  k)))) ?_
  obtain ⟨_, _, ⟨T18, L18, k18, n18⟩, -, X18, ⟨Lc18, hQ18, l18, y18, z18⟩, st18⟩ := Jvm.LawKit.callS X9 hx (y := (⟨"java/lang/StringUTF16", "toBytes", "([CII)[B"⟩ : MethodName)) hown (mvT hZ (own_w hw 68 rfl)) (mvT hZ (own_w hw 69 rfl)) (mvT hZ (own_w hw 18 rfl)) (mvT hZ (own_w hw 70 rfl)) (by decide) (backOf (W := 0) (own_tob3 l Z a0 hw [] a1 k1 c0 c1 c2 T9.heap n0 (Nat.le_trans Z0 K16.1) V_11 S_12 S_13 S_14) hZ (own_w hw 70 rfl) (own_w hw 18 rfl) (by decide) (by decide)) (g := (mkF m 23 #[.val (.ref a1), .val (.int (0 : Int32)), .val (.int (3 : Int32)), .val (.ref b1), .val (.int (1 : Int32)), .unset] [(.int (3 : Int32)), (.int (0 : Int32)), (.ref a1)])) rfl (by rw [hml]; rfl) (argsL := [(.ref a1), (.int (0 : Int32)), (.int (3 : Int32))]) (rest := []) (lenOf own_pd4 rfl) rfl (by show 2 * 0 + _ ≤ _; exact Nat.le_of_eq rfl) (hb hby d4_23) (fun _ _ => ⟨rfl, rfl, (by decide : 1 + 1 ≤ _), (by decide : 3 + 6 ≤ _)⟩)
  dsimp only [Pt.U, Pt.locs, Pt.cells, Pt.slots] at X18 l18 y18 z18 st18 hQ18
  subst l18 y18 z18
  obtain ⟨b_18, kb_18, rfl, N18q, K18q, Q18_0, x18_0⟩ := hQ18
  have N18 := Fr.app N9 N18q
  have ne_a1_b_18_19 : a1 ≠ b_18 := Nat.ne_of_lt (Nat.lt_of_lt_of_le V_11.lt x18_0)
  have sz_b_18 : h0.size ≤ b_18 := Nat.le_trans K16.1 x18_0
  have g_b_18 : n0 ≤ b_18 := Nat.le_trans Z0 sz_b_18
  have V_21 := V_11.keep K18q nin0
  have S_22 := own_Sta_keep S_12 K18q all0
  have S_23 := own_Sta_keep S_13 K18q all0
  have S_24 := own_Sta_keep S_14 K18q all0
  have K25 : Keep h0 T18.heap [] := K16.trans K18q all0
  refine own_go (B := T18.setTop (mkF m 26 #[.val (.ref a1), .val (.int (0 : Int32)), .val (.int (3 : Int32)), .val (.ref b1), .val (.int (1 : Int32)), .unset] [(.ref b_18)])) st18 ?_
  refine own_go (B := T18.setTop (mkF m 32 #[.val (.ref a1), .val (.int (0 : Int32)), .val (.int (3 : Int32)), .val (.ref b1), .val (.int (1 : Int32)), .val (.ref b_18)] [(.int (1 : Int32)), (.ref b_18)])) (fun _ k => XS.astore X18.here hx rfl (hb hby d4_26) rfl rfl (l' := #[.val (.ref a1), .val (.int (0 : Int32)), .val (.int (3 : Int32)), .val (.ref b1), .val (.int (1 : Int32)), .val (.ref b_18)]) rfl (XS.aload X18.here hx rfl (hb hby d4_28) rfl rfl (XS.iload X18.here hx rfl (hb hby d4_30) rfl  k))) ?_
  obtain ⟨_, _, ⟨T26, L26, k26, n26⟩, -, X26, ⟨Lc26, hQ26, l26, y26, z26⟩, st26⟩ := Jvm.LawKit.callS X18 hx (y := (⟨"java/lang/StringUTF16", "getChar", "([BI)C"⟩ : MethodName)) hown (mvT hZ (own_w hw 84 rfl)) (mvT hZ (own_w hw 85 rfl)) (mvT hZ (own_w hw 18 rfl)) (mvT hZ (own_w hw 86 rfl)) (by decide) (backOf (W := 0) (own_get3_1 l Z a0 hw [] b_18 kb_18 ((c0 >>> ((0 : Int32) &&& 31)).toInt8.toInt32) ((c0 >>> ((8 : Int32) &&& 31)).toInt8.toInt32) ((c1 >>> ((0 : Int32) &&& 31)).toInt8.toInt32) ((c1 >>> ((8 : Int32) &&& 31)).toInt8.toInt32) ((c2 >>> ((0 : Int32) &&& 31)).toInt8.toInt32) ((c2 >>> ((8 : Int32) &&& 31)).toInt8.toInt32) T18.heap n0 (Nat.le_trans Z0 K25.1) Q18_0 S_22 S_23 S_24) hZ (own_w hw 86 rfl) (own_w hw 18 rfl) (by decide) (by decide)) (g := (mkF m 32 #[.val (.ref a1), .val (.int (0 : Int32)), .val (.int (3 : Int32)), .val (.ref b1), .val (.int (1 : Int32)), .val (.ref b_18)] [(.int (1 : Int32)), (.ref b_18)])) rfl (by rw [hml]; rfl) (argsL := [(.ref b_18), (.int (1 : Int32))]) (rest := []) (lenOf own_pd7 rfl) rfl (by show 2 * 0 + _ ≤ _; exact Nat.le_of_eq rfl) (hb hby d4_32) (fun _ _ => ⟨rfl, rfl, (by decide : 2 + 0 ≤ _), (by decide : 9 + 0 ≤ _)⟩)
  dsimp only [Pt.U, Pt.locs, Pt.cells, Pt.slots] at X26 l26 y26 z26 st26 hQ26
  subst l26 y26 z26
  obtain ⟨rfl, N26q, e26⟩ := hQ26
  have N26 := Fr.app N18 N26q
  refine own_go (B := T26.setTop (mkF m 35 #[.val (.ref a1), .val (.int (0 : Int32)), .val (.int (3 : Int32)), .val (.ref b1), .val (.int (1 : Int32)), .val (.ref b_18)] [(.int ((((((c1 >>> ((0 : Int32) &&& 31)).toInt8.toInt32) &&& (255 : Int32)) <<< ((0 : Int32) &&& 31)) ||| ((((c1 >>> ((8 : Int32) &&& 31)).toInt8.toInt32) &&& (255 : Int32)) <<< ((8 : Int32) &&& 31))).toUInt32.toUInt16.toUInt32.toInt32))])) st26 ?_
  refine own_go (B := T26.setTop (mkF m 38 #[.val (.ref a1), .val (.int (0 : Int32)), .val (.int (3 : Int32)), .val (.ref b1), .val (.int (1 : Int32)), .val (.ref b_18)] [(.int (255 : Int32)), (.int ((((((c1 >>> ((0 : Int32) &&& 31)).toInt8.toInt32) &&& (255 : Int32)) <<< ((0 : Int32) &&& 31)) ||| ((((c1 >>> ((8 : Int32) &&& 31)).toInt8.toInt32) &&& (255 : Int32)) <<< ((8 : Int32) &&& 31))).toUInt32.toUInt16.toUInt32.toInt32))])) (fun _ k => XS.sipush X26.here hx rfl (hb hby d4_35) k) ?_
  have hc27 : (255 : Int32) < ((((((c1 >>> ((0 : Int32) &&& 31)).toInt8.toInt32) &&& (255 : Int32)) <<< ((0 : Int32) &&& 31)) ||| ((((c1 >>> ((8 : Int32) &&& 31)).toInt8.toInt32) &&& (255 : Int32)) <<< ((8 : Int32) &&& 31))).toUInt32.toUInt16.toUInt32.toInt32) := (own_pl_cmpB3_1_1 c0 c1 hh0 hg hl hu)
  refine own_go (B := T26.setTop (mkF m 56 #[.val (.ref a1), .val (.int (0 : Int32)), .val (.int (3 : Int32)), .val (.ref b1), .val (.int (1 : Int32)), .val (.ref b_18)] [(.ref b_18)])) (fun _ k => XS.icmpYes X26.here hx rfl (pc0 := 38) (pc' := 54) rfl (hb hby d4_38) rfl (tlt hc27).2.2.1 (by decide) (by decide) (XS.aload X26.here hx rfl (hb hby d4_54) rfl rfl k)) ?_
  exact own_retA X26 hx Bd.notSynchronized Bd.returns rfl rfl (hb hby d4_56) e26 ⟨b_18, kb_18, ((c0 >>> ((0 : Int32) &&& 31)).toInt8.toInt32), ((c0 >>> ((8 : Int32) &&& 31)).toInt8.toInt32), ((c1 >>> ((0 : Int32) &&& 31)).toInt8.toInt32), ((c1 >>> ((8 : Int32) &&& 31)).toInt8.toInt32), ((c2 >>> ((0 : Int32) &&& 31)).toInt8.toInt32), ((c2 >>> ((8 : Int32) &&& 31)).toInt8.toInt32), rfl, N26, K25, Q18_0, sz_b_18⟩ (by decide) (by decide)
abbrev R_own_str4_3_1 : Room := { frames := 4, cells := 2, slots := 9, locals := 57 }
theorem ef_own_str4_3_1 (m : MethodId) (x0 : Addr) (x1 : Addr) : entryFrame m #[(.ref x0), (.ref x1), (.int (0 : Int32)), (.int (3 : Int32)), .null] 6 = mkF m 0 #[.val (.ref x0), .val (.ref x1), .val (.int (0 : Int32)), .val (.int (3 : Int32)), .val .null, .unset] [] := by first | (simp [entryFrame, mkF, argsToLocals, Value.category]; done) | rfl
def Q_own_str4_3_1 (Z : State) (a1 : Addr) (a2 : Addr) (k2 : ClassId) (c0 : Int32) (c1 : Int32) (c2 : Int32) (cs : Int32) (h0 : Heap) (n0 : Nat) (v : Option Value) (h : Heap) (L : List Loc) : Prop := ∃ t : Addr, ∃ kt : ClassId, ∃ u0 : Int32, ∃ u1 : Int32, ∃ u2 : Int32, ∃ u3 : Int32, ∃ u4 : Int32, ∃ u5 : Int32, v = none ∧ Fr n0 L ∧ Keep h0 h [a1] ∧ Exa Z h a1 "java/lang/String" ∧ Fld Z h a1 "java/lang/String" "value" "[B" (.ref t) ∧ Fld Z h a1 "java/lang/String" "coder" "B" (.int (1 : Int32)) ∧ Arv Z h t kt .byte (6 : Int32) [(.int u0), (.int u1), (.int u2), (.int u3), (.int u4), (.int u5)] (.int (0 : Int32)) ∧ (h0.size ≤ t)
set_option maxRecDepth 65536 in
set_option maxHeartbeats 400000000 in
theorem own_str4_3_1 (l : Launch) (Z : State) (a0 : Array Value) (hw : ∀ d ∈ tables_1, d.before a0 Z = true) (ws : List Jvm.Cond) (a1 : Addr) (a2 : Addr) (k2 : ClassId) (c0 : Int32) (c1 : Int32) (c2 : Int32) (cs : Int32) (h0 : Heap) (n0 : Nat) (Z0 : n0 ≤ h0.size) (P_E_a1 : Exa Z h0 a1 "java/lang/String") (P_F_a1_value : Fld Z h0 a1 "java/lang/String" "value" "[B" .null) (P_F_a1_coder : Fld Z h0 a1 "java/lang/String" "coder" "B" (.int (0 : Int32))) (P_V_a2 : Arv Z h0 a2 k2 .char (3 : Int32) [(.int c0), (.int c1), (.int c2)] (.int (0 : Int32))) (g_a1 : n0 ≤ a1) (ne_a1_a2 : a1 ≠ a2) (P_S_java_lang_String_COMPACT_STRINGS : Sta Z h0 "java/lang/String" "COMPACT_STRINGS" "Z" (.int cs)) (hcs : ¬ (cs = (0 : Int32))) (P_S_java_lang_StringUTF16__assertionsDisabled : Sta Z h0 "java/lang/StringUTF16" "$assertionsDisabled" "Z" (.int (1 : Int32))) (P_S_java_lang_StringUTF16_HI_BYTE_SHIFT : Sta Z h0 "java/lang/StringUTF16" "HI_BYTE_SHIFT" "I" (.int (0 : Int32))) (P_S_java_lang_StringUTF16_LO_BYTE_SHIFT : Sta Z h0 "java/lang/StringUTF16" "LO_BYTE_SHIFT" "I" (.int (8 : Int32))) (hh0 : c0.toInt ≤ 255) (hg : ¬ (c1.toInt ≤ 255)) (hl : 0 ≤ c1.toInt) (hu : c1.toInt ≤ 65535) :
    MetFree l (⟨"java/lang/String", "<init>", "([CIILjava/lang/Void;)V"⟩ : MethodName) (head1 (Jvm.Cond.code (⟨"java/lang/String", "<init>", "([CIILjava/lang/Void;)V"⟩ : MethodName) jdk_42_method_149_code 6 none :: ws) R_own_str4_3_1) (fun a U => a = #[(.ref a1), (.ref a2), (.int (0 : Int32)), (.int (3 : Int32)), .null] ∧ Z.Warmed39 U.vm ∧ U.heap = h0) (fun _ _ _ _ _ => True) (fun _ U o U' => ∃ v L, o = .returned v ∧ Q_own_str4_3_1 Z a1 a2 k2 c0 c1 c2 cs h0 n0 v U'.heap L ∧ FrameEnd U o U' L R_own_str4_3_1.cells R_own_str4_3_1.slots) := by
  refine MetFree.of_bodySF (plainFor_of_name own_pn1) hisR ?_
  intro p e s m args below meth c s₁ Bd hml0 hP hK
  obtain ⟨rfl, hZ, hh⟩ := hP
  have hx := Bd.exec
  have hby := Bd.bytes
  have hml : c.maxLocals = 6 := hml0
  have hown : s.vm.findClass "java/lang/String" = some m.cls := findClass_of_methodNamed Bd.named
  have hnm := (name_of_methodNamed Bd.named Bd.method).1
  have X0 : Stand p l e R_own_str4_3_1 s m #[(.ref a1), (.ref a2), (.int (0 : Int32)), (.int (3 : Int32)), .null] below meth c s₁ [] 0 0 := Stand.of_body Bd
  have e0 : s₁.heap = h0 := by rw [← hh, Bd.state]; rfl
  have N0 := Fr.nil n0
  have K0 : Keep h0 h0 [a1] := Keep.refl h0 [a1]
  show own_Fin p e below s (Q_own_str4_3_1 Z a1 a2 k2 c0 c1 c2 cs h0 n0) R_own_str4_3_1.cells R_own_str4_3_1.slots (s₁.setTop (entryFrame m #[(.ref a1), (.ref a2), (.int (0 : Int32)), (.int (3 : Int32)), .null] 6))
  refine own_go (fun _ k => castTop (ef_own_str4_3_1 m a1 a2) k) ?_
  show own_Fin _ _ _ _ _ _ _ (s₁.setTop (mkF m 0 #[.val (.ref a1), .val (.ref a2), .val (.int (0 : Int32)), .val (.int (3 : Int32)), .val .null, .unset] []))
  refine own_go (B := s₁.setTop (mkF m 1 #[.val (.ref a1), .val (.ref a2), .val (.int (0 : Int32)), .val (.int (3 : Int32)), .val .null, .unset] [(.ref a1)])) (fun _ k => XS.aloadN X0.here hx rfl (hb hby d2_0) rfl rfl k) ?_
  obtain ⟨T1, X1, e1, st1⟩ := initO X0 hx hZ hown (own_w hw 12 rfl) (own_w hw 13 rfl) (own_w hw 14 rfl) e0 (g := (mkF m 1 #[.val (.ref a1), .val (.ref a2), .val (.int (0 : Int32)), .val (.int (3 : Int32)), .val .null, .unset] [(.ref a1)])) rfl (by rw [hml]; rfl) rfl (hb hby d2_1) (by decide) (W := 0) (by show 2 * 0 + _ ≤ _; exact Nat.le_of_eq rfl) (by decide)
  refine own_go (B := T1.setTop (mkF m 4 #[.val (.ref a1), .val (.ref a2), .val (.int (0 : Int32)), .val (.int (3 : Int32)), .val .null, .unset] [])) st1 ?_
  refine own_go (B := T1.setTop (mkF m 5 #[.val (.ref a1), .val (.ref a2), .val (.int (0 : Int32)), .val (.int (3 : Int32)), .val .null, .unset] [(.int (3 : Int32))])) (fun _ k => XS.iloadN X1.here hx rfl (hb hby d2_4) rfl  k) ?_
  have hc2 : ¬ ((3 : Int32) = (0 : Int32)) := by decide
  refine own_go (B := T1.setTop (mkF m 27 #[.val (.ref a1), .val (.ref a2), .val (.int (0 : Int32)), .val (.int (3 : Int32)), .val .null, .unset] [])) (fun _ k => XS.ifYes X1.here hx rfl (pc0 := 5) (pc' := 27) rfl (hb hby d2_5) rfl ((if0 _ _).trans (feq hc2).2) (by decide) (by decide) k) ?_
  obtain ⟨T3, X3, e3, st3⟩ := getS2 X1 hx hZ hown (host := "") (Or.inl (own_w hw 15 rfl)) Via.refl e1 P_S_java_lang_String_COMPACT_STRINGS (g := (mkF m 27 #[.val (.ref a1), .val (.ref a2), .val (.int (0 : Int32)), .val (.int (3 : Int32)), .val .null, .unset] [])) rfl (hb hby d2_27)
  refine own_go (B := T3.setTop (mkF m 30 #[.val (.ref a1), .val (.ref a2), .val (.int (0 : Int32)), .val (.int (3 : Int32)), .val .null, .unset] [(.int cs)])) st3 ?_
  refine own_go (B := T3.setTop (mkF m 36 #[.val (.ref a1), .val (.ref a2), .val (.int (0 : Int32)), .val (.int (3 : Int32)), .val .null, .unset] [(.int (3 : Int32)), (.int (0 : Int32)), (.ref a2)])) (fun _ k => XS.ifNo X3.here hx rfl (hb hby d2_30) rfl ((if0 _ _).trans (feq hcs).1) (XS.aloadN X3.here hx rfl (hb hby d2_33) rfl rfl (XS.iloadN X3.here hx rfl (hb hby d2_34) rfl  (XS.iloadN X3.here hx rfl (hb hby d2_35) rfl  k)))) ?_
  obtain ⟨_, _, ⟨T4, L4, k4, n4⟩, -, X4, ⟨Lc4, hQ4, l4, y4, z4⟩, st4⟩ := Jvm.LawKit.callS X3 hx (y := (⟨"java/lang/StringUTF16", "compress", "([CII)[B"⟩ : MethodName)) hown (mvT hZ (own_w hw 16 rfl)) (mvT hZ (own_w hw 17 rfl)) (mvT hZ (own_w hw 18 rfl)) (mvT hZ (own_w hw 19 rfl)) (by decide) (backOf (W := 0) (own_cmpB3_1 l Z a0 hw [] a2 k2 c0 c1 c2 h0 n0 (Nat.le_trans Z0 K0.1) P_V_a2 P_S_java_lang_StringUTF16__assertionsDisabled P_S_java_lang_StringUTF16_HI_BYTE_SHIFT P_S_java_lang_StringUTF16_LO_BYTE_SHIFT hh0 hg hl hu) hZ (own_w hw 19 rfl) (own_w hw 18 rfl) (by decide) (by decide)) (g := (mkF m 36 #[.val (.ref a1), .val (.ref a2), .val (.int (0 : Int32)), .val (.int (3 : Int32)), .val .null, .unset] [(.int (3 : Int32)), (.int (0 : Int32)), (.ref a2)])) rfl (by rw [hml]; rfl) (argsL := [(.ref a2), (.int (0 : Int32)), (.int (3 : Int32))]) (rest := []) (lenOf own_pd4 rfl) rfl (by show 2 * 0 + _ ≤ _; exact Nat.le_of_eq rfl) (hb hby d2_36) (fun _ _ => ⟨rfl, e3, (by decide : 0 + 2 ≤ _), (by decide : 0 + 9 ≤ _)⟩)
  dsimp only [Pt.U, Pt.locs, Pt.cells, Pt.slots] at X4 l4 y4 z4 st4 hQ4
  subst l4 y4 z4
  obtain ⟨b_4, kb_4, u0_4, u1_4, u2_4, u3_4, u4_4, u5_4, rfl, N4q, K4q, Q4_0, x4_0⟩ := hQ4
  have N4 := Fr.app N0 N4q
  have ne_a1_b_4_5 : a1 ≠ b_4 := Nat.ne_of_lt (Nat.lt_of_lt_of_le P_E_a1.lt x4_0)
  have ne_a2_b_4_6 : a2 ≠ b_4 := Nat.ne_of_lt (Nat.lt_of_lt_of_le P_V_a2.lt x4_0)
  have sz_b_4 : h0.size ≤ b_4 := Nat.le_trans K0.1 x4_0
  have g_b_4 : n0 ≤ b_4 := Nat.le_trans Z0 sz_b_4
  have E_8 := P_E_a1.keep K4q
  have F_9 := P_F_a1_value.keep K4q nin0
  have F_10 := P_F_a1_coder.keep K4q nin0
  have V_11 := P_V_a2.keep K4q nin0
  have S_12 := own_Sta_keep P_S_java_lang_String_COMPACT_STRINGS K4q all0
  have S_13 := own_Sta_keep P_S_java_lang_StringUTF16__assertionsDisabled K4q all0
  have S_14 := own_Sta_keep P_S_java_lang_StringUTF16_HI_BYTE_SHIFT K4q all0
  have S_15 := own_Sta_keep P_S_java_lang_StringUTF16_LO_BYTE_SHIFT K4q all0
  have K16 : Keep h0 T4.heap [a1] := K0.trans K4q all0
  refine own_go (B := T4.setTop (mkF m 39 #[.val (.ref a1), .val (.ref a2), .val (.int (0 : Int32)), .val (.int (3 : Int32)), .val .null, .unset] [(.ref b_4)])) st4 ?_
  refine own_go (B := T4.setTop (mkF m 45 #[.val (.ref a1), .val (.ref a2), .val (.int (0 : Int32)), .val (.int (3 : Int32)), .val .null, .val (.ref b_4)] [(.int (3 : Int32)), (.ref b_4), (.ref a1)])) (fun _ k => XS.astore X4.here hx rfl (hb hby d2_39) rfl rfl (l' := #[.val (.ref a1), .val (.ref a2), .val (.int (0 : Int32)), .val (.int (3 : Int32)), .val .null, .val (.ref b_4)]) rfl (XS.aloadN X4.here hx rfl (hb hby d2_41) rfl rfl (XS.aload X4.here hx rfl (hb hby d2_42) rfl rfl (XS.iloadN X4.here hx rfl (hb hby d2_44) rfl  k)))) ?_
  obtain ⟨_, _, ⟨T17, L17, k17, n17⟩, -, X17, ⟨Lc17, hQ17, l17, y17, z17⟩, st17⟩ := Jvm.LawKit.callS X4 hx (y := (⟨"java/lang/StringUTF16", "coderFromArrayLen", "([BI)B"⟩ : MethodName)) hown (mvT hZ (own_w hw 24 rfl)) (mvT hZ (own_w hw 25 rfl)) (mvT hZ (own_w hw 18 rfl)) (mvT hZ (own_w hw 26 rfl)) (by decide) (backOf (W := 1) (own_cod16_3 l Z a0 hw [] b_4 kb_4 u0_4 u1_4 u2_4 u3_4 u4_4 u5_4 T4.heap n0 (Nat.le_trans Z0 K16.1) Q4_0) hZ (own_w hw 26 rfl) (own_w hw 18 rfl) (by decide) (by decide)) (g := (mkF m 45 #[.val (.ref a1), .val (.ref a2), .val (.int (0 : Int32)), .val (.int (3 : Int32)), .val .null, .val (.ref b_4)] [(.int (3 : Int32)), (.ref b_4), (.ref a1)])) rfl (by rw [hml]; rfl) (argsL := [(.ref b_4), (.int (3 : Int32))]) (rest := [(.ref a1)]) (lenOf own_pd5 rfl) rfl (by show 2 * 0 + _ ≤ _; exact Nat.le_of_eq rfl) (hb hby d2_45) (fun _ _ => ⟨rfl, rfl, (by decide : 2 + 0 ≤ _), (by decide : 9 + 0 ≤ _)⟩)
  dsimp only [Pt.U, Pt.locs, Pt.cells, Pt.slots] at X17 l17 y17 z17 st17 hQ17
  subst l17 y17 z17
  obtain ⟨rfl, N17q, e17⟩ := hQ17
  have N17 := Fr.app N4 N17q
  refine own_go (B := T17.setTop (mkF m 48 #[.val (.ref a1), .val (.ref a2), .val (.int (0 : Int32)), .val (.int (3 : Int32)), .val .null, .val (.ref b_4)] [(.int (1 : Int32)), (.ref a1)])) st17 ?_
  obtain ⟨T18, h18, X18, e18, W18, st18⟩ := putFN X17 hx hZ hown (own_w hw 27 rfl) Via.refl e17 F_10 E_8 (Or.inr ⟨(own_w hw 28 rfl), rfl, hnm⟩) (own_w hw 2 rfl) (ty := .byte) (v' := (.int (1 : Int32))) (by decide) rfl rfl (g := (mkF m 48 #[.val (.ref a1), .val (.ref a2), .val (.int (0 : Int32)), .val (.int (3 : Int32)), .val .null, .val (.ref b_4)] [(.int (1 : Int32)), (.ref a1)])) rfl rfl (hb hby d2_48)
  have F_w18 : Fld Z h18 a1 "java/lang/String" "coder" "B" (.int (1 : Int32)) := F_10.same W18
  have E_20 := E_8.wr W18
  have F_21 := F_9.other W18 (Or.inr (slot_ne (Or.inr (own_w hw 30 rfl)) (Or.inr (own_w hw 28 rfl)) (by decide) (t := (.array .byte)) (t' := .byte) (by decide) (by decide)))
  have V_23 := V_11.other W18 (Ne.symm ne_a1_a2)
  have S_24 := S_12.wr W18
  have S_25 := S_13.wr W18
  have S_26 := S_14.wr W18
  have S_27 := S_15.wr W18
  have V_28 := Q4_0.other W18 (Ne.symm ne_a1_b_4_5)
  have K29 : Keep h0 h18 [a1] := K16.wr W18 (Or.inl (List.mem_of_getElem? (i := 0) rfl))
  have N18 := Fr.snoc X18 N17 g_a1
  refine own_go (B := T18.setTop (mkF m 51 #[.val (.ref a1), .val (.ref a2), .val (.int (0 : Int32)), .val (.int (3 : Int32)), .val .null, .val (.ref b_4)] [])) st18 ?_
  refine own_go (B := T18.setTop (mkF m 54 #[.val (.ref a1), .val (.ref a2), .val (.int (0 : Int32)), .val (.int (3 : Int32)), .val .null, .val (.ref b_4)] [(.ref b_4), (.ref a1)])) (fun _ k => XS.aloadN X18.here hx rfl (hb hby d2_51) rfl rfl (XS.aload X18.here hx rfl (hb hby d2_52) rfl rfl k)) ?_
  obtain ⟨T30, h30, X30, e30, W30, st30⟩ := putF X18 hx hZ hown (host := "") (Or.inl (own_w hw 29 rfl)) Via.refl e18 F_21 E_20 (Or.inr ⟨(own_w hw 30 rfl), rfl, hnm⟩) (own_w hw 2 rfl) (ty := (.array .byte)) (by decide) rfl rfl (g := (mkF m 54 #[.val (.ref a1), .val (.ref a2), .val (.int (0 : Int32)), .val (.int (3 : Int32)), .val .null, .val (.ref b_4)] [(.ref b_4), (.ref a1)])) rfl rfl (hb hby d2_54)
  have F_w30 : Fld Z h30 a1 "java/lang/String" "value" "[B" (.ref b_4) := F_21.same W30
  have E_32 := E_20.wr W30
  have V_34 := V_23.other W30 (Ne.symm ne_a1_a2)
  have S_35 := S_24.wr W30
  have S_36 := S_25.wr W30
  have S_37 := S_26.wr W30
  have S_38 := S_27.wr W30
  have V_39 := V_28.other W30 (Ne.symm ne_a1_b_4_5)
  have F_40 := F_w18.other W30 (Or.inr (slot_ne (Or.inr (own_w hw 28 rfl)) (Or.inr (own_w hw 30 rfl)) (by decide) (t := .byte) (t' := (.array .byte)) (by decide) (by decide)))
  have K41 : Keep h0 h30 [a1] := K29.wr W30 (Or.inl (List.mem_of_getElem? (i := 0) rfl))
  have N30 := Fr.snoc X30 N18 g_a1
  refine own_go (B := T30.setTop (mkF m 57 #[.val (.ref a1), .val (.ref a2), .val (.int (0 : Int32)), .val (.int (3 : Int32)), .val .null, .val (.ref b_4)] [])) st30 ?_
  exact own_retV X30 hx Bd.notSynchronized Bd.returns (hb hby d2_57) e30 ⟨b_4, kb_4, u0_4, u1_4, u2_4, u3_4, u4_4, u5_4, rfl, N30, K41, E_32, F_w30, F_40, V_39, x4_0⟩ (by decide) (by decide)
abbrev R_own_cmpI3_2 : Room := { frames := 0, cells := 0, slots := 0, locals := 0 }
theorem ef_own_cmpI3_2 (m : MethodId) (x0 : Addr) (x2 : Addr) : entryFrame m #[(.ref x0), (.int (0 : Int32)), (.ref x2), (.int (0 : Int32)), (.int (3 : Int32))] 7 = mkF m 0 #[.val (.ref x0), .val (.int (0 : Int32)), .val (.ref x2), .val (.int (0 : Int32)), .val (.int (3 : Int32)), .unset, .unset] [] := by first | (simp [entryFrame, mkF, argsToLocals, Value.category]; done) | rfl
set_option maxRecDepth 65536 in
set_option maxHeartbeats 4000000 in
theorem own_pl_cmpI3_2_1 (c0 : Int32) (c1 : Int32) (c2 : Int32) (hh0 : c0.toInt ≤ 255) (hh1 : c1.toInt ≤ 255) (hg : ¬ (c2.toInt ≤ 255)) : ¬ ((255 : Int32) < c0) := by
  have := rng32 c0
  have := rng32 c1
  have := rng32 c2
  try simp only [own_i32_255] at *
  have := own_i32_255
  try simp only [Int32.lt_iff_toInt_lt, Int32.le_iff_toInt_le, Int64.lt_iff_toInt_lt, Int64.le_iff_toInt_le, ← Int32.toInt_inj, ← Int64.toInt_inj, true_and, and_true, true_or, or_true, false_or, or_false, not_true_eq_false, not_false_eq_true, false_and, and_false, ne_eq] at *
  all_goals first | omega | (simp; done)
set_option maxRecDepth 65536 in
set_option maxHeartbeats 4000000 in
theorem own_pl_cmpI3_2_2 (c0 : Int32) (c1 : Int32) (c2 : Int32) (hh0 : c0.toInt ≤ 255) (hh1 : c1.toInt ≤ 255) (hg : ¬ (c2.toInt ≤ 255)) (hc4 : ¬ ((255 : Int32) < c0)) : ¬ ((255 : Int32) < c1) := by
  have := rng32 c0
  have := rng32 c1
  have := rng32 c2
  try simp only [own_i32_255] at *
  have := own_i32_255
  try simp only [Int32.lt_iff_toInt_lt, Int32.le_iff_toInt_le, Int64.lt_iff_toInt_lt, Int64.le_iff_toInt_le, ← Int32.toInt_inj, ← Int64.toInt_inj, true_and, and_true, true_or, or_true, false_or, or_false, not_true_eq_false, not_false_eq_true, false_and, and_false, ne_eq] at *
  all_goals first | omega | (simp; done)
set_option maxRecDepth 65536 in
set_option maxHeartbeats 4000000 in
theorem own_pl_cmpI3_2_3 (c0 : Int32) (c1 : Int32) (c2 : Int32) (hh0 : c0.toInt ≤ 255) (hh1 : c1.toInt ≤ 255) (hg : ¬ (c2.toInt ≤ 255)) (hc4 : ¬ ((255 : Int32) < c0)) (hc14 : ¬ ((255 : Int32) < c1)) : (255 : Int32) < c2 := by
  have := rng32 c0
  have := rng32 c1
  have := rng32 c2
  try simp only [own_i32_255] at *
  have := own_i32_255
  try simp only [Int32.lt_iff_toInt_lt, Int32.le_iff_toInt_le, Int64.lt_iff_toInt_lt, Int64.le_iff_toInt_le, ← Int32.toInt_inj, ← Int64.toInt_inj, true_and, and_true, true_or, or_true, false_or, or_false, not_true_eq_false, not_false_eq_true, false_and, and_false, ne_eq] at *
  all_goals first | omega | (simp; done)
def Q_own_cmpI3_2 (Z : State) (a1 : Addr) (a3 : Addr) (k1 : ClassId) (k3 : ClassId) (c0 : Int32) (c1 : Int32) (c2 : Int32) (h0 : Heap) (n0 : Nat) (v : Option Value) (h : Heap) (L : List Loc) : Prop := v = some (.int (2 : Int32)) ∧ Fr n0 L ∧ Keep h0 h [a3]
set_option maxRecDepth 65536 in
set_option maxHeartbeats 400000000 in
theorem own_cmpI3_2 (l : Launch) (Z : State) (a0 : Array Value) (hw : ∀ d ∈ tables_1, d.before a0 Z = true) (ws : List Jvm.Cond) (a1 : Addr) (a3 : Addr) (k1 : ClassId) (k3 : ClassId) (c0 : Int32) (c1 : Int32) (c2 : Int32) (h0 : Heap) (n0 : Nat) (Z0 : n0 ≤ h0.size) (P_V_a1 : Arv Z h0 a1 k1 .char (3 : Int32) [(.int c0), (.int c1), (.int c2)] (.int (0 : Int32))) (P_V_a3 : Arv Z h0 a3 k3 .byte (3 : Int32) [(.int (0 : Int32)), (.int (0 : Int32)), (.int (0 : Int32))] (.int (0 : Int32))) (g_a3 : n0 ≤ a3) (ne_a1_a3 : a1 ≠ a3) (hh0 : c0.toInt ≤ 255) (hh1 : c1.toInt ≤ 255) (hg : ¬ (c2.toInt ≤ 255)) :
    MetFree l (⟨"java/lang/StringUTF16", "compress", "([CI[BII)I"⟩ : MethodName) (head1 (Jvm.Cond.code (⟨"java/lang/StringUTF16", "compress", "([CI[BII)I"⟩ : MethodName) jdk_52_method_21_code 7 (some .int) :: ws) R_own_cmpI3_2) (fun a U => a = #[(.ref a1), (.int (0 : Int32)), (.ref a3), (.int (0 : Int32)), (.int (3 : Int32))] ∧ Z.Warmed39 U.vm ∧ U.heap = h0) (fun _ _ _ _ _ => True) (fun _ U o U' => ∃ v L, o = .returned v ∧ Q_own_cmpI3_2 Z a1 a3 k1 k3 c0 c1 c2 h0 n0 v U'.heap L ∧ FrameEnd U o U' L R_own_cmpI3_2.cells R_own_cmpI3_2.slots) := by
  refine MetFree.of_bodySF (plainFor_of_name own_pn0) hisR ?_
  intro p e s m args below meth c s₁ Bd hml0 hP hK
  obtain ⟨rfl, hZ, hh⟩ := hP
  have hx := Bd.exec
  have hby := Bd.bytes
  have hml : c.maxLocals = 7 := hml0
  have hown : s.vm.findClass "java/lang/StringUTF16" = some m.cls := findClass_of_methodNamed Bd.named
  have hnm := (name_of_methodNamed Bd.named Bd.method).1
  have X0 : Stand p l e R_own_cmpI3_2 s m #[(.ref a1), (.int (0 : Int32)), (.ref a3), (.int (0 : Int32)), (.int (3 : Int32))] below meth c s₁ [] 0 0 := Stand.of_body Bd
  have e0 : s₁.heap = h0 := by rw [← hh, Bd.state]; rfl
  have N0 := Fr.nil n0
  have K0 : Keep h0 h0 [a3] := Keep.refl h0 [a3]
  show own_Fin p e below s (Q_own_cmpI3_2 Z a1 a3 k1 k3 c0 c1 c2 h0 n0) R_own_cmpI3_2.cells R_own_cmpI3_2.slots (s₁.setTop (entryFrame m #[(.ref a1), (.int (0 : Int32)), (.ref a3), (.int (0 : Int32)), (.int (3 : Int32))] 7))
  refine own_go (fun _ k => castTop (ef_own_cmpI3_2 m a1 a3) k) ?_
  show own_Fin _ _ _ _ _ _ _ (s₁.setTop (mkF m 0 #[.val (.ref a1), .val (.int (0 : Int32)), .val (.ref a3), .val (.int (0 : Int32)), .val (.int (3 : Int32)), .unset, .unset] []))
  refine own_go (B := s₁.setTop (mkF m 7 #[.val (.ref a1), .val (.int (0 : Int32)), .val (.ref a3), .val (.int (0 : Int32)), .val (.int (3 : Int32)), .val (.int (0 : Int32)), .unset] [(.int (3 : Int32)), (.int (0 : Int32))])) (fun _ k => XS.iconst X0.here hx rfl (hb hby d5_0) (XS.istore X0.here hx rfl (hb hby d5_1) rfl (l' := #[.val (.ref a1), .val (.int (0 : Int32)), .val (.ref a3), .val (.int (0 : Int32)), .val (.int (3 : Int32)), .val (.int (0 : Int32)), .unset]) rfl (XS.iload X0.here hx rfl (hb hby d5_3) rfl  (XS.iload X0.here hx rfl (hb hby d5_5) rfl  k)))) ?_
  have hc1 : (0 : Int32) < (3 : Int32) := by decide
  refine own_go (B := s₁.setTop (mkF m 12 #[.val (.ref a1), .val (.int (0 : Int32)), .val (.ref a3), .val (.int (0 : Int32)), .val (.int (3 : Int32)), .val (.int (0 : Int32)), .unset] [(.int (0 : Int32)), (.ref a1)])) (fun _ k => XS.icmpNo X0.here hx rfl (hb hby d5_7) rfl (tlt hc1).2.1 (XS.aloadN X0.here hx rfl (hb hby d5_10) rfl rfl (XS.iloadN X0.here hx rfl (hb hby d5_11) rfl  k))) ?_
  obtain ⟨cl2, Ar2, q2, S2, N2n, H2, G2⟩ := id P_V_a1
  have hin3 : ¬ ((0 : Int32) < 0 ∨ cl2.slots.size ≤ ((0 : Int32)).toNatClampNeg) := inb_of S2 ⟨by decide, by decide⟩
  have hat3 : cl2.slots[((0 : Int32)).toNatClampNeg]? = some (.int c0) := H2.at hin3 rfl
  refine own_go (B := s₁.setTop (mkF m 20 #[.val (.ref a1), .val (.int (0 : Int32)), .val (.ref a3), .val (.int (0 : Int32)), .val (.int (3 : Int32)), .val (.int (0 : Int32)), .val (.int c0)] [(.int (255 : Int32)), (.int c0)])) (fun _ k => X0.caload hx (j := (0 : Int32)) (v := (.int c0)) (own_hc e0 Ar2.1) (State.isArrayOf_alike hZ.alike Ar2.2.1) Ar2.2.2 hin3 hat3 (g := (mkF m 12 #[.val (.ref a1), .val (.int (0 : Int32)), .val (.ref a3), .val (.int (0 : Int32)), .val (.int (3 : Int32)), .val (.int (0 : Int32)), .unset] [(.int (0 : Int32)), (.ref a1)])) rfl rfl (hb hby d5_12) _ (XS.istore X0.here hx rfl (hb hby d5_13) rfl (l' := #[.val (.ref a1), .val (.int (0 : Int32)), .val (.ref a3), .val (.int (0 : Int32)), .val (.int (3 : Int32)), .val (.int (0 : Int32)), .val (.int c0)]) rfl (XS.iload X0.here hx rfl (hb hby d5_15) rfl  (XS.sipush X0.here hx rfl (hb hby d5_17) k)))) ?_
  have hc4 : ¬ ((255 : Int32) < c0) := (own_pl_cmpI3_2_1 c0 c1 c2 hh0 hh1 hg)
  refine own_go (B := s₁.setTop (mkF m 31 #[.val (.ref a1), .val (.int (0 : Int32)), .val (.ref a3), .val (.int (0 : Int32)), .val (.int (3 : Int32)), .val (.int (0 : Int32)), .val (.int c0)] [(.int (c0.toInt8.toInt32)), (.int (0 : Int32)), (.ref a3)])) (fun _ k => XS.icmpYes X0.here hx rfl (pc0 := 20) (pc' := 26) rfl (hb hby d5_20) rfl (flt hc4).2.2.2 (by decide) (by decide) (XS.aloadN X0.here hx rfl (hb hby d5_26) rfl rfl (XS.iloadN X0.here hx rfl (hb hby d5_27) rfl  (XS.iload X0.here hx rfl (hb hby d5_28) rfl  (XS.i2b X0.here hx rfl (hb hby d5_30) rfl k))))) ?_
  obtain ⟨cl5, Ar5, q5, S5, N5n, H5, G5⟩ := id P_V_a3
  have hin6 : ¬ ((0 : Int32) < 0 ∨ cl5.slots.size ≤ ((0 : Int32)).toNatClampNeg) := inb_of S5 ⟨by decide, by decide⟩
  obtain ⟨T6, h6, X6, e6, W6, st6⟩ := stB X0 hx hZ e0 Ar5 (j := (0 : Int32)) hin6 (g := (mkF m 31 #[.val (.ref a1), .val (.int (0 : Int32)), .val (.ref a3), .val (.int (0 : Int32)), .val (.int (3 : Int32)), .val (.int (0 : Int32)), .val (.int c0)] [(.int (c0.toInt8.toInt32)), (.int (0 : Int32)), (.ref a3)])) rfl rfl (hb hby d5_31)
  rw [own_narb] at W6
  have V_a3_6 : Arv Z h6 a3 k3 .byte (3 : Int32) [(.int (c0.toInt8.toInt32)), (.int (0 : Int32)), (.int (0 : Int32))] (.int (0 : Int32)) := Arv.set Ar5 q5 S5 N5n H5 G5 (fits_nar_byte _) W6 0 rfl (Nat.le_of_ble_eq_true rfl)
  have V_8 := P_V_a1.other W6 ne_a1_a3
  have K10 : Keep h0 h6 [a3] := K0.wr W6 (Or.inl (List.mem_of_getElem? (i := 0) rfl))
  have N6 := Fr.snoc X6 N0 g_a3
  refine own_go (B := T6.setTop (mkF m 32 #[.val (.ref a1), .val (.int (0 : Int32)), .val (.ref a3), .val (.int (0 : Int32)), .val (.int (3 : Int32)), .val (.int (0 : Int32)), .val (.int c0)] [])) st6 ?_
  refine own_go (B := T6.setTop (mkF m 35 #[.val (.ref a1), .val (.int ((0 : Int32) + (1 : Int32))), .val (.ref a3), .val (.int (0 : Int32)), .val (.int (3 : Int32)), .val (.int (0 : Int32)), .val (.int c0)] [])) (fun _ k => XS.iinc X6.here hx rfl (hb hby d5_32) rfl (l' := #[.val (.ref a1), .val (.int ((0 : Int32) + (1 : Int32))), .val (.ref a3), .val (.int (0 : Int32)), .val (.int (3 : Int32)), .val (.int (0 : Int32)), .val (.int c0)]) rfl k) ?_
  rw [show ((0 : Int32) + (1 : Int32)) = (1 : Int32) from by decide]
  show own_Fin _ _ _ _ _ _ _ (T6.setTop (mkF m 35 #[.val (.ref a1), .val (.int (1 : Int32)), .val (.ref a3), .val (.int (0 : Int32)), .val (.int (3 : Int32)), .val (.int (0 : Int32)), .val (.int c0)] []))
  refine own_go (B := T6.setTop (mkF m 38 #[.val (.ref a1), .val (.int (1 : Int32)), .val (.ref a3), .val (.int ((0 : Int32) + (1 : Int32))), .val (.int (3 : Int32)), .val (.int (0 : Int32)), .val (.int c0)] [])) (fun _ k => XS.iinc X6.here hx rfl (hb hby d5_35) rfl (l' := #[.val (.ref a1), .val (.int (1 : Int32)), .val (.ref a3), .val (.int ((0 : Int32) + (1 : Int32))), .val (.int (3 : Int32)), .val (.int (0 : Int32)), .val (.int c0)]) rfl k) ?_
  rw [show ((0 : Int32) + (1 : Int32)) = (1 : Int32) from by decide]
  show own_Fin _ _ _ _ _ _ _ (T6.setTop (mkF m 38 #[.val (.ref a1), .val (.int (1 : Int32)), .val (.ref a3), .val (.int (1 : Int32)), .val (.int (3 : Int32)), .val (.int (0 : Int32)), .val (.int c0)] []))
  refine own_go (B := T6.setTop (mkF m 41 #[.val (.ref a1), .val (.int (1 : Int32)), .val (.ref a3), .val (.int (1 : Int32)), .val (.int (3 : Int32)), .val (.int ((0 : Int32) + (1 : Int32))), .val (.int c0)] [])) (fun _ k => XS.iinc X6.here hx rfl (hb hby d5_38) rfl (l' := #[.val (.ref a1), .val (.int (1 : Int32)), .val (.ref a3), .val (.int (1 : Int32)), .val (.int (3 : Int32)), .val (.int ((0 : Int32) + (1 : Int32))), .val (.int c0)]) rfl k) ?_
  rw [show ((0 : Int32) + (1 : Int32)) = (1 : Int32) from by decide]
  show own_Fin _ _ _ _ _ _ _ (T6.setTop (mkF m 41 #[.val (.ref a1), .val (.int (1 : Int32)), .val (.ref a3), .val (.int (1 : Int32)), .val (.int (3 : Int32)), .val (.int (1 : Int32)), .val (.int c0)] []))
  refine own_go (B := T6.setTop (mkF m 7 #[.val (.ref a1), .val (.int (1 : Int32)), .val (.ref a3), .val (.int (1 : Int32)), .val (.int (3 : Int32)), .val (.int (1 : Int32)), .val (.int c0)] [(.int (3 : Int32)), (.int (1 : Int32))])) (fun _ k => XS.goto X6.here hx rfl (pc0 := 41) (pc' := 3) rfl (hb hby d5_41) (by decide) (by decide) (XS.iload X6.here hx rfl (hb hby d5_3) rfl  (XS.iload X6.here hx rfl (hb hby d5_5) rfl  k))) ?_
  have hc11 : (1 : Int32) < (3 : Int32) := by decide
  refine own_go (B := T6.setTop (mkF m 12 #[.val (.ref a1), .val (.int (1 : Int32)), .val (.ref a3), .val (.int (1 : Int32)), .val (.int (3 : Int32)), .val (.int (1 : Int32)), .val (.int c0)] [(.int (1 : Int32)), (.ref a1)])) (fun _ k => XS.icmpNo X6.here hx rfl (hb hby d5_7) rfl (tlt hc11).2.1 (XS.aloadN X6.here hx rfl (hb hby d5_10) rfl rfl (XS.iloadN X6.here hx rfl (hb hby d5_11) rfl  k))) ?_
  obtain ⟨cl12, Ar12, q12, S12, N12n, H12, G12⟩ := id V_8
  have hin13 : ¬ ((1 : Int32) < 0 ∨ cl12.slots.size ≤ ((1 : Int32)).toNatClampNeg) := inb_of S12 ⟨by decide, by decide⟩
  have hat13 : cl12.slots[((1 : Int32)).toNatClampNeg]? = some (.int c1) := H12.at hin13 rfl
  refine own_go (B := T6.setTop (mkF m 20 #[.val (.ref a1), .val (.int (1 : Int32)), .val (.ref a3), .val (.int (1 : Int32)), .val (.int (3 : Int32)), .val (.int (1 : Int32)), .val (.int c1)] [(.int (255 : Int32)), (.int c1)])) (fun _ k => X6.caload hx (j := (1 : Int32)) (v := (.int c1)) (own_hc e6 Ar12.1) (State.isArrayOf_alike hZ.alike Ar12.2.1) Ar12.2.2 hin13 hat13 (g := (mkF m 12 #[.val (.ref a1), .val (.int (1 : Int32)), .val (.ref a3), .val (.int (1 : Int32)), .val (.int (3 : Int32)), .val (.int (1 : Int32)), .val (.int c0)] [(.int (1 : Int32)), (.ref a1)])) rfl rfl (hb hby d5_12) _ (XS.istore X6.here hx rfl (hb hby d5_13) rfl (l' := #[.val (.ref a1), .val (.int (1 : Int32)), .val (.ref a3), .val (.int (1 : Int32)), .val (.int (3 : Int32)), .val (.int (1 : Int32)), .val (.int c1)]) rfl (XS.iload X6.here hx rfl (hb hby d5_15) rfl  (XS.sipush X6.here hx rfl (hb hby d5_17) k)))) ?_
  have hc14 : ¬ ((255 : Int32) < c1) := (own_pl_cmpI3_2_2 c0 c1 c2 hh0 hh1 hg hc4)
  refine own_go (B := T6.setTop (mkF m 31 #[.val (.ref a1), .val (.int (1 : Int32)), .val (.ref a3), .val (.int (1 : Int32)), .val (.int (3 : Int32)), .val (.int (1 : Int32)), .val (.int c1)] [(.int (c1.toInt8.toInt32)), (.int (1 : Int32)), (.ref a3)])) (fun _ k => XS.icmpYes X6.here hx rfl (pc0 := 20) (pc' := 26) rfl (hb hby d5_20) rfl (flt hc14).2.2.2 (by decide) (by decide) (XS.aloadN X6.here hx rfl (hb hby d5_26) rfl rfl (XS.iloadN X6.here hx rfl (hb hby d5_27) rfl  (XS.iload X6.here hx rfl (hb hby d5_28) rfl  (XS.i2b X6.here hx rfl (hb hby d5_30) rfl k))))) ?_
  obtain ⟨cl15, Ar15, q15, S15, N15n, H15, G15⟩ := id V_a3_6
  have hin16 : ¬ ((1 : Int32) < 0 ∨ cl15.slots.size ≤ ((1 : Int32)).toNatClampNeg) := inb_of S15 ⟨by decide, by decide⟩
  obtain ⟨T16, h16, X16, e16, W16, st16⟩ := stB X6 hx hZ e6 Ar15 (j := (1 : Int32)) hin16 (g := (mkF m 31 #[.val (.ref a1), .val (.int (1 : Int32)), .val (.ref a3), .val (.int (1 : Int32)), .val (.int (3 : Int32)), .val (.int (1 : Int32)), .val (.int c1)] [(.int (c1.toInt8.toInt32)), (.int (1 : Int32)), (.ref a3)])) rfl rfl (hb hby d5_31)
  rw [own_narb] at W16
  have V_a3_16 : Arv Z h16 a3 k3 .byte (3 : Int32) [(.int (c0.toInt8.toInt32)), (.int (c1.toInt8.toInt32)), (.int (0 : Int32))] (.int (0 : Int32)) := Arv.set Ar15 q15 S15 N15n H15 G15 (fits_nar_byte _) W16 1 rfl (Nat.le_of_ble_eq_true rfl)
  have V_18 := V_8.other W16 ne_a1_a3
  have K20 : Keep h0 h16 [a3] := K10.wr W16 (Or.inl (List.mem_of_getElem? (i := 0) rfl))
  have N16 := Fr.snoc X16 N6 g_a3
  refine own_go (B := T16.setTop (mkF m 32 #[.val (.ref a1), .val (.int (1 : Int32)), .val (.ref a3), .val (.int (1 : Int32)), .val (.int (3 : Int32)), .val (.int (1 : Int32)), .val (.int c1)] [])) st16 ?_
  refine own_go (B := T16.setTop (mkF m 35 #[.val (.ref a1), .val (.int ((1 : Int32) + (1 : Int32))), .val (.ref a3), .val (.int (1 : Int32)), .val (.int (3 : Int32)), .val (.int (1 : Int32)), .val (.int c1)] [])) (fun _ k => XS.iinc X16.here hx rfl (hb hby d5_32) rfl (l' := #[.val (.ref a1), .val (.int ((1 : Int32) + (1 : Int32))), .val (.ref a3), .val (.int (1 : Int32)), .val (.int (3 : Int32)), .val (.int (1 : Int32)), .val (.int c1)]) rfl k) ?_
  rw [show ((1 : Int32) + (1 : Int32)) = (2 : Int32) from by decide]
  show own_Fin _ _ _ _ _ _ _ (T16.setTop (mkF m 35 #[.val (.ref a1), .val (.int (2 : Int32)), .val (.ref a3), .val (.int (1 : Int32)), .val (.int (3 : Int32)), .val (.int (1 : Int32)), .val (.int c1)] []))
  refine own_go (B := T16.setTop (mkF m 38 #[.val (.ref a1), .val (.int (2 : Int32)), .val (.ref a3), .val (.int ((1 : Int32) + (1 : Int32))), .val (.int (3 : Int32)), .val (.int (1 : Int32)), .val (.int c1)] [])) (fun _ k => XS.iinc X16.here hx rfl (hb hby d5_35) rfl (l' := #[.val (.ref a1), .val (.int (2 : Int32)), .val (.ref a3), .val (.int ((1 : Int32) + (1 : Int32))), .val (.int (3 : Int32)), .val (.int (1 : Int32)), .val (.int c1)]) rfl k) ?_
  rw [show ((1 : Int32) + (1 : Int32)) = (2 : Int32) from by decide]
  show own_Fin _ _ _ _ _ _ _ (T16.setTop (mkF m 38 #[.val (.ref a1), .val (.int (2 : Int32)), .val (.ref a3), .val (.int (2 : Int32)), .val (.int (3 : Int32)), .val (.int (1 : Int32)), .val (.int c1)] []))
  refine own_go (B := T16.setTop (mkF m 41 #[.val (.ref a1), .val (.int (2 : Int32)), .val (.ref a3), .val (.int (2 : Int32)), .val (.int (3 : Int32)), .val (.int ((1 : Int32) + (1 : Int32))), .val (.int c1)] [])) (fun _ k => XS.iinc X16.here hx rfl (hb hby d5_38) rfl (l' := #[.val (.ref a1), .val (.int (2 : Int32)), .val (.ref a3), .val (.int (2 : Int32)), .val (.int (3 : Int32)), .val (.int ((1 : Int32) + (1 : Int32))), .val (.int c1)]) rfl k) ?_
  rw [show ((1 : Int32) + (1 : Int32)) = (2 : Int32) from by decide]
  show own_Fin _ _ _ _ _ _ _ (T16.setTop (mkF m 41 #[.val (.ref a1), .val (.int (2 : Int32)), .val (.ref a3), .val (.int (2 : Int32)), .val (.int (3 : Int32)), .val (.int (2 : Int32)), .val (.int c1)] []))
  refine own_go (B := T16.setTop (mkF m 7 #[.val (.ref a1), .val (.int (2 : Int32)), .val (.ref a3), .val (.int (2 : Int32)), .val (.int (3 : Int32)), .val (.int (2 : Int32)), .val (.int c1)] [(.int (3 : Int32)), (.int (2 : Int32))])) (fun _ k => XS.goto X16.here hx rfl (pc0 := 41) (pc' := 3) rfl (hb hby d5_41) (by decide) (by decide) (XS.iload X16.here hx rfl (hb hby d5_3) rfl  (XS.iload X16.here hx rfl (hb hby d5_5) rfl  k))) ?_
  have hc21 : (2 : Int32) < (3 : Int32) := by decide
  refine own_go (B := T16.setTop (mkF m 12 #[.val (.ref a1), .val (.int (2 : Int32)), .val (.ref a3), .val (.int (2 : Int32)), .val (.int (3 : Int32)), .val (.int (2 : Int32)), .val (.int c1)] [(.int (2 : Int32)), (.ref a1)])) (fun _ k => XS.icmpNo X16.here hx rfl (hb hby d5_7) rfl (tlt hc21).2.1 (XS.aloadN X16.here hx rfl (hb hby d5_10) rfl rfl (XS.iloadN X16.here hx rfl (hb hby d5_11) rfl  k))) ?_
  obtain ⟨cl22, Ar22, q22, S22, N22n, H22, G22⟩ := id V_18
  have hin23 : ¬ ((2 : Int32) < 0 ∨ cl22.slots.size ≤ ((2 : Int32)).toNatClampNeg) := inb_of S22 ⟨by decide, by decide⟩
  have hat23 : cl22.slots[((2 : Int32)).toNatClampNeg]? = some (.int c2) := H22.at hin23 rfl
  refine own_go (B := T16.setTop (mkF m 20 #[.val (.ref a1), .val (.int (2 : Int32)), .val (.ref a3), .val (.int (2 : Int32)), .val (.int (3 : Int32)), .val (.int (2 : Int32)), .val (.int c2)] [(.int (255 : Int32)), (.int c2)])) (fun _ k => X16.caload hx (j := (2 : Int32)) (v := (.int c2)) (own_hc e16 Ar22.1) (State.isArrayOf_alike hZ.alike Ar22.2.1) Ar22.2.2 hin23 hat23 (g := (mkF m 12 #[.val (.ref a1), .val (.int (2 : Int32)), .val (.ref a3), .val (.int (2 : Int32)), .val (.int (3 : Int32)), .val (.int (2 : Int32)), .val (.int c1)] [(.int (2 : Int32)), (.ref a1)])) rfl rfl (hb hby d5_12) _ (XS.istore X16.here hx rfl (hb hby d5_13) rfl (l' := #[.val (.ref a1), .val (.int (2 : Int32)), .val (.ref a3), .val (.int (2 : Int32)), .val (.int (3 : Int32)), .val (.int (2 : Int32)), .val (.int c2)]) rfl (XS.iload X16.here hx rfl (hb hby d5_15) rfl  (XS.sipush X16.here hx rfl (hb hby d5_17) k)))) ?_
  have hc24 : (255 : Int32) < c2 := (own_pl_cmpI3_2_3 c0 c1 c2 hh0 hh1 hg hc4 hc14)
  refine own_go (B := T16.setTop (mkF m 25 #[.val (.ref a1), .val (.int (2 : Int32)), .val (.ref a3), .val (.int (2 : Int32)), .val (.int (3 : Int32)), .val (.int (2 : Int32)), .val (.int c2)] [(.int (2 : Int32))])) (fun _ k => XS.icmpNo X16.here hx rfl (hb hby d5_20) rfl (tlt hc24).2.2.2 (XS.iload X16.here hx rfl (hb hby d5_23) rfl  k)) ?_
  exact own_retI X16 hx Bd.notSynchronized Bd.returns (hb hby d5_25) e16 ⟨rfl, N16, K20⟩ (by decide) (by decide)
abbrev R_own_cmpB3_2 : Room := { frames := 3, cells := 2, slots := 9, locals := 40 }
theorem ef_own_cmpB3_2 (m : MethodId) (x0 : Addr) : entryFrame m #[(.ref x0), (.int (0 : Int32)), (.int (3 : Int32))] 6 = mkF m 0 #[.val (.ref x0), .val (.int (0 : Int32)), .val (.int (3 : Int32)), .unset, .unset, .unset] [] := by first | (simp [entryFrame, mkF, argsToLocals, Value.category]; done) | rfl
set_option maxRecDepth 65536 in
set_option maxHeartbeats 4000000 in
theorem own_pl_cmpB3_2_1 (c0 : Int32) (c1 : Int32) (c2 : Int32) (hh0 : c0.toInt ≤ 255) (hh1 : c1.toInt ≤ 255) (hg : ¬ (c2.toInt ≤ 255)) (hl : 0 ≤ c2.toInt) (hu : c2.toInt ≤ 65535) : (255 : Int32) < ((((((c2 >>> ((0 : Int32) &&& 31)).toInt8.toInt32) &&& (255 : Int32)) <<< ((0 : Int32) &&& 31)) ||| ((((c2 >>> ((8 : Int32) &&& 31)).toInt8.toInt32) &&& (255 : Int32)) <<< ((8 : Int32) &&& 31))).toUInt32.toUInt16.toUInt32.toInt32) := by
  have q := own_getc c2 hl hu
  simp only [Int32.lt_iff_toInt_lt]
  rw [q]
  simp only [Int32.reduceToInt]
  omega
def Q_own_cmpB3_2 (Z : State) (a1 : Addr) (k1 : ClassId) (c0 : Int32) (c1 : Int32) (c2 : Int32) (h0 : Heap) (n0 : Nat) (v : Option Value) (h : Heap) (L : List Loc) : Prop := ∃ b : Addr, ∃ kb : ClassId, ∃ u0 : Int32, ∃ u1 : Int32, ∃ u2 : Int32, ∃ u3 : Int32, ∃ u4 : Int32, ∃ u5 : Int32, v = some (.ref b) ∧ Fr n0 L ∧ Keep h0 h [] ∧ Arv Z h b kb .byte (6 : Int32) [(.int u0), (.int u1), (.int u2), (.int u3), (.int u4), (.int u5)] (.int (0 : Int32)) ∧ (h0.size ≤ b)
set_option maxRecDepth 65536 in
set_option maxHeartbeats 400000000 in
theorem own_cmpB3_2 (l : Launch) (Z : State) (a0 : Array Value) (hw : ∀ d ∈ tables_1, d.before a0 Z = true) (ws : List Jvm.Cond) (a1 : Addr) (k1 : ClassId) (c0 : Int32) (c1 : Int32) (c2 : Int32) (h0 : Heap) (n0 : Nat) (Z0 : n0 ≤ h0.size) (P_V_a1 : Arv Z h0 a1 k1 .char (3 : Int32) [(.int c0), (.int c1), (.int c2)] (.int (0 : Int32))) (P_S_java_lang_StringUTF16__assertionsDisabled : Sta Z h0 "java/lang/StringUTF16" "$assertionsDisabled" "Z" (.int (1 : Int32))) (P_S_java_lang_StringUTF16_HI_BYTE_SHIFT : Sta Z h0 "java/lang/StringUTF16" "HI_BYTE_SHIFT" "I" (.int (0 : Int32))) (P_S_java_lang_StringUTF16_LO_BYTE_SHIFT : Sta Z h0 "java/lang/StringUTF16" "LO_BYTE_SHIFT" "I" (.int (8 : Int32))) (hh0 : c0.toInt ≤ 255) (hh1 : c1.toInt ≤ 255) (hg : ¬ (c2.toInt ≤ 255)) (hl : 0 ≤ c2.toInt) (hu : c2.toInt ≤ 65535) :
    MetFree l (⟨"java/lang/StringUTF16", "compress", "([CII)[B"⟩ : MethodName) (head1 (Jvm.Cond.code (⟨"java/lang/StringUTF16", "compress", "([CII)[B"⟩ : MethodName) jdk_52_method_16_code 6 (some (.array .byte)) :: ws) R_own_cmpB3_2) (fun a U => a = #[(.ref a1), (.int (0 : Int32)), (.int (3 : Int32))] ∧ Z.Warmed39 U.vm ∧ U.heap = h0) (fun _ _ _ _ _ => True) (fun _ U o U' => ∃ v L, o = .returned v ∧ Q_own_cmpB3_2 Z a1 k1 c0 c1 c2 h0 n0 v U'.heap L ∧ FrameEnd U o U' L R_own_cmpB3_2.cells R_own_cmpB3_2.slots) := by
  refine MetFree.of_bodySF (plainFor_of_name own_pn0) hisR ?_
  intro p e s m args below meth c s₁ Bd hml0 hP hK
  obtain ⟨rfl, hZ, hh⟩ := hP
  have hx := Bd.exec
  have hby := Bd.bytes
  have hml : c.maxLocals = 6 := hml0
  have hown : s.vm.findClass "java/lang/StringUTF16" = some m.cls := findClass_of_methodNamed Bd.named
  have hnm := (name_of_methodNamed Bd.named Bd.method).1
  have X0 : Stand p l e R_own_cmpB3_2 s m #[(.ref a1), (.int (0 : Int32)), (.int (3 : Int32))] below meth c s₁ [] 0 0 := Stand.of_body Bd
  have e0 : s₁.heap = h0 := by rw [← hh, Bd.state]; rfl
  have N0 := Fr.nil n0
  have K0 : Keep h0 h0 [] := Keep.refl h0 []
  show own_Fin p e below s (Q_own_cmpB3_2 Z a1 k1 c0 c1 c2 h0 n0) R_own_cmpB3_2.cells R_own_cmpB3_2.slots (s₁.setTop (entryFrame m #[(.ref a1), (.int (0 : Int32)), (.int (3 : Int32))] 6))
  refine own_go (fun _ k => castTop (ef_own_cmpB3_2 m a1) k) ?_
  show own_Fin _ _ _ _ _ _ _ (s₁.setTop (mkF m 0 #[.val (.ref a1), .val (.int (0 : Int32)), .val (.int (3 : Int32)), .unset, .unset, .unset] []))
  refine own_go (B := s₁.setTop (mkF m 1 #[.val (.ref a1), .val (.int (0 : Int32)), .val (.int (3 : Int32)), .unset, .unset, .unset] [(.int (3 : Int32))])) (fun _ k => XS.iloadN X0.here hx rfl (hb hby d4_0) rfl  k) ?_
  obtain ⟨T1, h1, kc1, X1, e1, E1, A1, st1⟩ := newP X0 hx hZ (own_w hw 20 rfl) e0 (g := (mkF m 1 #[.val (.ref a1), .val (.int (0 : Int32)), .val (.int (3 : Int32)), .unset, .unset, .unset] [(.int (3 : Int32))])) rfl (hb hby d4_1) rfl (by decide) (cap := 3) (by decide) (by decide) (by decide) (by decide)
  obtain ⟨b1, g1⟩ : ∃ z, z = h0.size := ⟨_, rfl⟩
  rw [← g1] at A1 st1
  have ne_a1_b1_2 : a1 ≠ b1 := Nat.ne_of_lt (Nat.lt_of_lt_of_le P_V_a1.lt (Nat.le_of_eq g1.symm))
  have sz_b1 : h0.size ≤ b1 := Nat.le_trans K0.1 (Nat.le_of_eq g1.symm)
  have g_b1 : n0 ≤ b1 := Nat.le_trans Z0 sz_b1
  have V_4 := P_V_a1.ext E1
  have S_5 := P_S_java_lang_StringUTF16__assertionsDisabled.ext E1
  have S_6 := P_S_java_lang_StringUTF16_HI_BYTE_SHIFT.ext E1
  have S_7 := P_S_java_lang_StringUTF16_LO_BYTE_SHIFT.ext E1
  have V_b1 : Arv Z h1 b1 kc1 .byte (3 : Int32) [(.int (0 : Int32)), (.int (0 : Int32)), (.int (0 : Int32))] (.int (0 : Int32)) := (Arv.new A1 (by decide)).pad (pad_rep [] (.int (0 : Int32)) 3)
  have K8 : Keep h0 h1 [] := K0.ext E1
  refine own_go (B := T1.setTop (mkF m 3 #[.val (.ref a1), .val (.int (0 : Int32)), .val (.int (3 : Int32)), .unset, .unset, .unset] [(.ref b1)])) st1 ?_
  refine own_go (B := T1.setTop (mkF m 9 #[.val (.ref a1), .val (.int (0 : Int32)), .val (.int (3 : Int32)), .val (.ref b1), .unset, .unset] [(.int (3 : Int32)), (.int (0 : Int32)), (.ref b1), (.int (0 : Int32)), (.ref a1)])) (fun _ k => XS.astoreN X1.here hx rfl (hb hby d4_3) rfl rfl (l' := #[.val (.ref a1), .val (.int (0 : Int32)), .val (.int (3 : Int32)), .val (.ref b1), .unset, .unset]) rfl (XS.aloadN X1.here hx rfl (hb hby d4_4) rfl rfl (XS.iloadN X1.here hx rfl (hb hby d4_5) rfl  (XS.aloadN X1.here hx rfl (hb hby d4_6) rfl rfl (XS.iconst X1.here hx rfl (hb hby d4_7) (XS.iloadN X1.here hx rfl (hb hby d4_8) rfl  k)))))) ?_
  obtain ⟨_, _, ⟨T9, L9, k9, n9⟩, -, X9, ⟨Lc9, hQ9, l9, y9, z9⟩, st9⟩ := Jvm.LawKit.callS X1 hx (y := (⟨"java/lang/StringUTF16", "compress", "([CI[BII)I"⟩ : MethodName)) hown (mvT hZ (own_w hw 21 rfl)) (mvT hZ (own_w hw 22 rfl)) (mvT hZ (own_w hw 18 rfl)) (mvT hZ (own_w hw 23 rfl)) (by decide) (backOf (W := 0) (own_cmpI3_2 l Z a0 hw [] a1 b1 k1 kc1 c0 c1 c2 h1 n0 (Nat.le_trans Z0 K8.1) V_4 V_b1 g_b1 ne_a1_b1_2 hh0 hh1 hg) hZ (own_w hw 23 rfl) (own_w hw 18 rfl) (by decide) (by decide)) (g := (mkF m 9 #[.val (.ref a1), .val (.int (0 : Int32)), .val (.int (3 : Int32)), .val (.ref b1), .unset, .unset] [(.int (3 : Int32)), (.int (0 : Int32)), (.ref b1), (.int (0 : Int32)), (.ref a1)])) rfl (by rw [hml]; rfl) (argsL := [(.ref a1), (.int (0 : Int32)), (.ref b1), (.int (0 : Int32)), (.int (3 : Int32))]) (rest := []) (lenOf own_pd3 rfl) rfl (by show 2 * 0 + _ ≤ _; exact Nat.le_of_eq rfl) (hb hby d4_9) (fun _ _ => ⟨rfl, e1, (by decide : 1 + 0 ≤ _), (by decide : 3 + 0 ≤ _)⟩)
  dsimp only [Pt.U, Pt.locs, Pt.cells, Pt.slots] at X9 l9 y9 z9 st9 hQ9
  subst l9 y9 z9
  obtain ⟨rfl, N9q, K9q⟩ := hQ9
  have N9 := Fr.app N0 N9q
  have V_11 := V_4.keep K9q (ninS ne_a1_b1_2 nin0)
  have S_12 := own_Sta_keep S_5 K9q (allS (own_plainV V_b1) all0)
  have S_13 := own_Sta_keep S_6 K9q (allS (own_plainV V_b1) all0)
  have S_14 := own_Sta_keep S_7 K9q (allS (own_plainV V_b1) all0)
  have K16 : Keep h0 T9.heap [] := K8.trans K9q (allS (Or.inr sz_b1) all0)
  refine own_go (B := T9.setTop (mkF m 12 #[.val (.ref a1), .val (.int (0 : Int32)), .val (.int (3 : Int32)), .val (.ref b1), .unset, .unset] [(.int (2 : Int32))])) st9 ?_
  refine own_go (B := T9.setTop (mkF m 17 #[.val (.ref a1), .val (.int (0 : Int32)), .val (.int (3 : Int32)), .val (.ref b1), .val (.int (2 : Int32)), .unset] [(.int (3 : Int32)), (.int (2 : Int32))])) (fun _ k => XS.istore X9.here hx rfl (hb hby d4_12) rfl (l' := #[.val (.ref a1), .val (.int (0 : Int32)), .val (.int (3 : Int32)), .val (.ref b1), .val (.int (2 : Int32)), .unset]) rfl (XS.iload X9.here hx rfl (hb hby d4_14) rfl  (XS.iloadN X9.here hx rfl (hb hby d4_16) rfl  k))) ?_
  have hc17 : ¬ ((2 : Int32) = (3 : Int32)) := by decide
  refine own_go (B := T9.setTop (mkF m 23 #[.val (.ref a1), .val (.int (0 : Int32)), .val (.int (3 : Int32)), .val (.ref b1), .val (.int (2 : Int32)), .unset] [(.int (3 : Int32)), (.int (0 : Int32)), (.ref a1)])) (fun _ k => XS.icmpNo X9.here hx rfl (hb hby d4_17) rfl (feq hc17).1 (XS.aloadN X9.here hx rfl (hb hby d4_20) rfl rfl (XS.iloadN X9.here hx rfl (hb hby d4_21) rfl  (XS.iloadN X9.here hx rfl (hb hby d4_22) rfl  k)))) ?_
  obtain ⟨_, _, ⟨T18, L18, k18, n18⟩, -, X18, ⟨Lc18, hQ18, l18, y18, z18⟩, st18⟩ := Jvm.LawKit.callS X9 hx (y := (⟨"java/lang/StringUTF16", "toBytes", "([CII)[B"⟩ : MethodName)) hown (mvT hZ (own_w hw 68 rfl)) (mvT hZ (own_w hw 69 rfl)) (mvT hZ (own_w hw 18 rfl)) (mvT hZ (own_w hw 70 rfl)) (by decide) (backOf (W := 0) (own_tob3 l Z a0 hw [] a1 k1 c0 c1 c2 T9.heap n0 (Nat.le_trans Z0 K16.1) V_11 S_12 S_13 S_14) hZ (own_w hw 70 rfl) (own_w hw 18 rfl) (by decide) (by decide)) (g := (mkF m 23 #[.val (.ref a1), .val (.int (0 : Int32)), .val (.int (3 : Int32)), .val (.ref b1), .val (.int (2 : Int32)), .unset] [(.int (3 : Int32)), (.int (0 : Int32)), (.ref a1)])) rfl (by rw [hml]; rfl) (argsL := [(.ref a1), (.int (0 : Int32)), (.int (3 : Int32))]) (rest := []) (lenOf own_pd4 rfl) rfl (by show 2 * 0 + _ ≤ _; exact Nat.le_of_eq rfl) (hb hby d4_23) (fun _ _ => ⟨rfl, rfl, (by decide : 1 + 1 ≤ _), (by decide : 3 + 6 ≤ _)⟩)
  dsimp only [Pt.U, Pt.locs, Pt.cells, Pt.slots] at X18 l18 y18 z18 st18 hQ18
  subst l18 y18 z18
  obtain ⟨b_18, kb_18, rfl, N18q, K18q, Q18_0, x18_0⟩ := hQ18
  have N18 := Fr.app N9 N18q
  have ne_a1_b_18_19 : a1 ≠ b_18 := Nat.ne_of_lt (Nat.lt_of_lt_of_le V_11.lt x18_0)
  have sz_b_18 : h0.size ≤ b_18 := Nat.le_trans K16.1 x18_0
  have g_b_18 : n0 ≤ b_18 := Nat.le_trans Z0 sz_b_18
  have V_21 := V_11.keep K18q nin0
  have S_22 := own_Sta_keep S_12 K18q all0
  have S_23 := own_Sta_keep S_13 K18q all0
  have S_24 := own_Sta_keep S_14 K18q all0
  have K25 : Keep h0 T18.heap [] := K16.trans K18q all0
  refine own_go (B := T18.setTop (mkF m 26 #[.val (.ref a1), .val (.int (0 : Int32)), .val (.int (3 : Int32)), .val (.ref b1), .val (.int (2 : Int32)), .unset] [(.ref b_18)])) st18 ?_
  refine own_go (B := T18.setTop (mkF m 32 #[.val (.ref a1), .val (.int (0 : Int32)), .val (.int (3 : Int32)), .val (.ref b1), .val (.int (2 : Int32)), .val (.ref b_18)] [(.int (2 : Int32)), (.ref b_18)])) (fun _ k => XS.astore X18.here hx rfl (hb hby d4_26) rfl rfl (l' := #[.val (.ref a1), .val (.int (0 : Int32)), .val (.int (3 : Int32)), .val (.ref b1), .val (.int (2 : Int32)), .val (.ref b_18)]) rfl (XS.aload X18.here hx rfl (hb hby d4_28) rfl rfl (XS.iload X18.here hx rfl (hb hby d4_30) rfl  k))) ?_
  obtain ⟨_, _, ⟨T26, L26, k26, n26⟩, -, X26, ⟨Lc26, hQ26, l26, y26, z26⟩, st26⟩ := Jvm.LawKit.callS X18 hx (y := (⟨"java/lang/StringUTF16", "getChar", "([BI)C"⟩ : MethodName)) hown (mvT hZ (own_w hw 84 rfl)) (mvT hZ (own_w hw 85 rfl)) (mvT hZ (own_w hw 18 rfl)) (mvT hZ (own_w hw 86 rfl)) (by decide) (backOf (W := 0) (own_get3_2 l Z a0 hw [] b_18 kb_18 ((c0 >>> ((0 : Int32) &&& 31)).toInt8.toInt32) ((c0 >>> ((8 : Int32) &&& 31)).toInt8.toInt32) ((c1 >>> ((0 : Int32) &&& 31)).toInt8.toInt32) ((c1 >>> ((8 : Int32) &&& 31)).toInt8.toInt32) ((c2 >>> ((0 : Int32) &&& 31)).toInt8.toInt32) ((c2 >>> ((8 : Int32) &&& 31)).toInt8.toInt32) T18.heap n0 (Nat.le_trans Z0 K25.1) Q18_0 S_22 S_23 S_24) hZ (own_w hw 86 rfl) (own_w hw 18 rfl) (by decide) (by decide)) (g := (mkF m 32 #[.val (.ref a1), .val (.int (0 : Int32)), .val (.int (3 : Int32)), .val (.ref b1), .val (.int (2 : Int32)), .val (.ref b_18)] [(.int (2 : Int32)), (.ref b_18)])) rfl (by rw [hml]; rfl) (argsL := [(.ref b_18), (.int (2 : Int32))]) (rest := []) (lenOf own_pd7 rfl) rfl (by show 2 * 0 + _ ≤ _; exact Nat.le_of_eq rfl) (hb hby d4_32) (fun _ _ => ⟨rfl, rfl, (by decide : 2 + 0 ≤ _), (by decide : 9 + 0 ≤ _)⟩)
  dsimp only [Pt.U, Pt.locs, Pt.cells, Pt.slots] at X26 l26 y26 z26 st26 hQ26
  subst l26 y26 z26
  obtain ⟨rfl, N26q, e26⟩ := hQ26
  have N26 := Fr.app N18 N26q
  refine own_go (B := T26.setTop (mkF m 35 #[.val (.ref a1), .val (.int (0 : Int32)), .val (.int (3 : Int32)), .val (.ref b1), .val (.int (2 : Int32)), .val (.ref b_18)] [(.int ((((((c2 >>> ((0 : Int32) &&& 31)).toInt8.toInt32) &&& (255 : Int32)) <<< ((0 : Int32) &&& 31)) ||| ((((c2 >>> ((8 : Int32) &&& 31)).toInt8.toInt32) &&& (255 : Int32)) <<< ((8 : Int32) &&& 31))).toUInt32.toUInt16.toUInt32.toInt32))])) st26 ?_
  refine own_go (B := T26.setTop (mkF m 38 #[.val (.ref a1), .val (.int (0 : Int32)), .val (.int (3 : Int32)), .val (.ref b1), .val (.int (2 : Int32)), .val (.ref b_18)] [(.int (255 : Int32)), (.int ((((((c2 >>> ((0 : Int32) &&& 31)).toInt8.toInt32) &&& (255 : Int32)) <<< ((0 : Int32) &&& 31)) ||| ((((c2 >>> ((8 : Int32) &&& 31)).toInt8.toInt32) &&& (255 : Int32)) <<< ((8 : Int32) &&& 31))).toUInt32.toUInt16.toUInt32.toInt32))])) (fun _ k => XS.sipush X26.here hx rfl (hb hby d4_35) k) ?_
  have hc27 : (255 : Int32) < ((((((c2 >>> ((0 : Int32) &&& 31)).toInt8.toInt32) &&& (255 : Int32)) <<< ((0 : Int32) &&& 31)) ||| ((((c2 >>> ((8 : Int32) &&& 31)).toInt8.toInt32) &&& (255 : Int32)) <<< ((8 : Int32) &&& 31))).toUInt32.toUInt16.toUInt32.toInt32) := (own_pl_cmpB3_2_1 c0 c1 c2 hh0 hh1 hg hl hu)
  refine own_go (B := T26.setTop (mkF m 56 #[.val (.ref a1), .val (.int (0 : Int32)), .val (.int (3 : Int32)), .val (.ref b1), .val (.int (2 : Int32)), .val (.ref b_18)] [(.ref b_18)])) (fun _ k => XS.icmpYes X26.here hx rfl (pc0 := 38) (pc' := 54) rfl (hb hby d4_38) rfl (tlt hc27).2.2.1 (by decide) (by decide) (XS.aload X26.here hx rfl (hb hby d4_54) rfl rfl k)) ?_
  exact own_retA X26 hx Bd.notSynchronized Bd.returns rfl rfl (hb hby d4_56) e26 ⟨b_18, kb_18, ((c0 >>> ((0 : Int32) &&& 31)).toInt8.toInt32), ((c0 >>> ((8 : Int32) &&& 31)).toInt8.toInt32), ((c1 >>> ((0 : Int32) &&& 31)).toInt8.toInt32), ((c1 >>> ((8 : Int32) &&& 31)).toInt8.toInt32), ((c2 >>> ((0 : Int32) &&& 31)).toInt8.toInt32), ((c2 >>> ((8 : Int32) &&& 31)).toInt8.toInt32), rfl, N26, K25, Q18_0, sz_b_18⟩ (by decide) (by decide)
abbrev R_own_str4_3_2 : Room := { frames := 4, cells := 2, slots := 9, locals := 57 }
theorem ef_own_str4_3_2 (m : MethodId) (x0 : Addr) (x1 : Addr) : entryFrame m #[(.ref x0), (.ref x1), (.int (0 : Int32)), (.int (3 : Int32)), .null] 6 = mkF m 0 #[.val (.ref x0), .val (.ref x1), .val (.int (0 : Int32)), .val (.int (3 : Int32)), .val .null, .unset] [] := by first | (simp [entryFrame, mkF, argsToLocals, Value.category]; done) | rfl
def Q_own_str4_3_2 (Z : State) (a1 : Addr) (a2 : Addr) (k2 : ClassId) (c0 : Int32) (c1 : Int32) (c2 : Int32) (cs : Int32) (h0 : Heap) (n0 : Nat) (v : Option Value) (h : Heap) (L : List Loc) : Prop := ∃ t : Addr, ∃ kt : ClassId, ∃ u0 : Int32, ∃ u1 : Int32, ∃ u2 : Int32, ∃ u3 : Int32, ∃ u4 : Int32, ∃ u5 : Int32, v = none ∧ Fr n0 L ∧ Keep h0 h [a1] ∧ Exa Z h a1 "java/lang/String" ∧ Fld Z h a1 "java/lang/String" "value" "[B" (.ref t) ∧ Fld Z h a1 "java/lang/String" "coder" "B" (.int (1 : Int32)) ∧ Arv Z h t kt .byte (6 : Int32) [(.int u0), (.int u1), (.int u2), (.int u3), (.int u4), (.int u5)] (.int (0 : Int32)) ∧ (h0.size ≤ t)
set_option maxRecDepth 65536 in
set_option maxHeartbeats 400000000 in
theorem own_str4_3_2 (l : Launch) (Z : State) (a0 : Array Value) (hw : ∀ d ∈ tables_1, d.before a0 Z = true) (ws : List Jvm.Cond) (a1 : Addr) (a2 : Addr) (k2 : ClassId) (c0 : Int32) (c1 : Int32) (c2 : Int32) (cs : Int32) (h0 : Heap) (n0 : Nat) (Z0 : n0 ≤ h0.size) (P_E_a1 : Exa Z h0 a1 "java/lang/String") (P_F_a1_value : Fld Z h0 a1 "java/lang/String" "value" "[B" .null) (P_F_a1_coder : Fld Z h0 a1 "java/lang/String" "coder" "B" (.int (0 : Int32))) (P_V_a2 : Arv Z h0 a2 k2 .char (3 : Int32) [(.int c0), (.int c1), (.int c2)] (.int (0 : Int32))) (g_a1 : n0 ≤ a1) (ne_a1_a2 : a1 ≠ a2) (P_S_java_lang_String_COMPACT_STRINGS : Sta Z h0 "java/lang/String" "COMPACT_STRINGS" "Z" (.int cs)) (hcs : ¬ (cs = (0 : Int32))) (P_S_java_lang_StringUTF16__assertionsDisabled : Sta Z h0 "java/lang/StringUTF16" "$assertionsDisabled" "Z" (.int (1 : Int32))) (P_S_java_lang_StringUTF16_HI_BYTE_SHIFT : Sta Z h0 "java/lang/StringUTF16" "HI_BYTE_SHIFT" "I" (.int (0 : Int32))) (P_S_java_lang_StringUTF16_LO_BYTE_SHIFT : Sta Z h0 "java/lang/StringUTF16" "LO_BYTE_SHIFT" "I" (.int (8 : Int32))) (hh0 : c0.toInt ≤ 255) (hh1 : c1.toInt ≤ 255) (hg : ¬ (c2.toInt ≤ 255)) (hl : 0 ≤ c2.toInt) (hu : c2.toInt ≤ 65535) :
    MetFree l (⟨"java/lang/String", "<init>", "([CIILjava/lang/Void;)V"⟩ : MethodName) (head1 (Jvm.Cond.code (⟨"java/lang/String", "<init>", "([CIILjava/lang/Void;)V"⟩ : MethodName) jdk_42_method_149_code 6 none :: ws) R_own_str4_3_2) (fun a U => a = #[(.ref a1), (.ref a2), (.int (0 : Int32)), (.int (3 : Int32)), .null] ∧ Z.Warmed39 U.vm ∧ U.heap = h0) (fun _ _ _ _ _ => True) (fun _ U o U' => ∃ v L, o = .returned v ∧ Q_own_str4_3_2 Z a1 a2 k2 c0 c1 c2 cs h0 n0 v U'.heap L ∧ FrameEnd U o U' L R_own_str4_3_2.cells R_own_str4_3_2.slots) := by
  refine MetFree.of_bodySF (plainFor_of_name own_pn1) hisR ?_
  intro p e s m args below meth c s₁ Bd hml0 hP hK
  obtain ⟨rfl, hZ, hh⟩ := hP
  have hx := Bd.exec
  have hby := Bd.bytes
  have hml : c.maxLocals = 6 := hml0
  have hown : s.vm.findClass "java/lang/String" = some m.cls := findClass_of_methodNamed Bd.named
  have hnm := (name_of_methodNamed Bd.named Bd.method).1
  have X0 : Stand p l e R_own_str4_3_2 s m #[(.ref a1), (.ref a2), (.int (0 : Int32)), (.int (3 : Int32)), .null] below meth c s₁ [] 0 0 := Stand.of_body Bd
  have e0 : s₁.heap = h0 := by rw [← hh, Bd.state]; rfl
  have N0 := Fr.nil n0
  have K0 : Keep h0 h0 [a1] := Keep.refl h0 [a1]
  show own_Fin p e below s (Q_own_str4_3_2 Z a1 a2 k2 c0 c1 c2 cs h0 n0) R_own_str4_3_2.cells R_own_str4_3_2.slots (s₁.setTop (entryFrame m #[(.ref a1), (.ref a2), (.int (0 : Int32)), (.int (3 : Int32)), .null] 6))
  refine own_go (fun _ k => castTop (ef_own_str4_3_2 m a1 a2) k) ?_
  show own_Fin _ _ _ _ _ _ _ (s₁.setTop (mkF m 0 #[.val (.ref a1), .val (.ref a2), .val (.int (0 : Int32)), .val (.int (3 : Int32)), .val .null, .unset] []))
  refine own_go (B := s₁.setTop (mkF m 1 #[.val (.ref a1), .val (.ref a2), .val (.int (0 : Int32)), .val (.int (3 : Int32)), .val .null, .unset] [(.ref a1)])) (fun _ k => XS.aloadN X0.here hx rfl (hb hby d2_0) rfl rfl k) ?_
  obtain ⟨T1, X1, e1, st1⟩ := initO X0 hx hZ hown (own_w hw 12 rfl) (own_w hw 13 rfl) (own_w hw 14 rfl) e0 (g := (mkF m 1 #[.val (.ref a1), .val (.ref a2), .val (.int (0 : Int32)), .val (.int (3 : Int32)), .val .null, .unset] [(.ref a1)])) rfl (by rw [hml]; rfl) rfl (hb hby d2_1) (by decide) (W := 0) (by show 2 * 0 + _ ≤ _; exact Nat.le_of_eq rfl) (by decide)
  refine own_go (B := T1.setTop (mkF m 4 #[.val (.ref a1), .val (.ref a2), .val (.int (0 : Int32)), .val (.int (3 : Int32)), .val .null, .unset] [])) st1 ?_
  refine own_go (B := T1.setTop (mkF m 5 #[.val (.ref a1), .val (.ref a2), .val (.int (0 : Int32)), .val (.int (3 : Int32)), .val .null, .unset] [(.int (3 : Int32))])) (fun _ k => XS.iloadN X1.here hx rfl (hb hby d2_4) rfl  k) ?_
  have hc2 : ¬ ((3 : Int32) = (0 : Int32)) := by decide
  refine own_go (B := T1.setTop (mkF m 27 #[.val (.ref a1), .val (.ref a2), .val (.int (0 : Int32)), .val (.int (3 : Int32)), .val .null, .unset] [])) (fun _ k => XS.ifYes X1.here hx rfl (pc0 := 5) (pc' := 27) rfl (hb hby d2_5) rfl ((if0 _ _).trans (feq hc2).2) (by decide) (by decide) k) ?_
  obtain ⟨T3, X3, e3, st3⟩ := getS2 X1 hx hZ hown (host := "") (Or.inl (own_w hw 15 rfl)) Via.refl e1 P_S_java_lang_String_COMPACT_STRINGS (g := (mkF m 27 #[.val (.ref a1), .val (.ref a2), .val (.int (0 : Int32)), .val (.int (3 : Int32)), .val .null, .unset] [])) rfl (hb hby d2_27)
  refine own_go (B := T3.setTop (mkF m 30 #[.val (.ref a1), .val (.ref a2), .val (.int (0 : Int32)), .val (.int (3 : Int32)), .val .null, .unset] [(.int cs)])) st3 ?_
  refine own_go (B := T3.setTop (mkF m 36 #[.val (.ref a1), .val (.ref a2), .val (.int (0 : Int32)), .val (.int (3 : Int32)), .val .null, .unset] [(.int (3 : Int32)), (.int (0 : Int32)), (.ref a2)])) (fun _ k => XS.ifNo X3.here hx rfl (hb hby d2_30) rfl ((if0 _ _).trans (feq hcs).1) (XS.aloadN X3.here hx rfl (hb hby d2_33) rfl rfl (XS.iloadN X3.here hx rfl (hb hby d2_34) rfl  (XS.iloadN X3.here hx rfl (hb hby d2_35) rfl  k)))) ?_
  obtain ⟨_, _, ⟨T4, L4, k4, n4⟩, -, X4, ⟨Lc4, hQ4, l4, y4, z4⟩, st4⟩ := Jvm.LawKit.callS X3 hx (y := (⟨"java/lang/StringUTF16", "compress", "([CII)[B"⟩ : MethodName)) hown (mvT hZ (own_w hw 16 rfl)) (mvT hZ (own_w hw 17 rfl)) (mvT hZ (own_w hw 18 rfl)) (mvT hZ (own_w hw 19 rfl)) (by decide) (backOf (W := 0) (own_cmpB3_2 l Z a0 hw [] a2 k2 c0 c1 c2 h0 n0 (Nat.le_trans Z0 K0.1) P_V_a2 P_S_java_lang_StringUTF16__assertionsDisabled P_S_java_lang_StringUTF16_HI_BYTE_SHIFT P_S_java_lang_StringUTF16_LO_BYTE_SHIFT hh0 hh1 hg hl hu) hZ (own_w hw 19 rfl) (own_w hw 18 rfl) (by decide) (by decide)) (g := (mkF m 36 #[.val (.ref a1), .val (.ref a2), .val (.int (0 : Int32)), .val (.int (3 : Int32)), .val .null, .unset] [(.int (3 : Int32)), (.int (0 : Int32)), (.ref a2)])) rfl (by rw [hml]; rfl) (argsL := [(.ref a2), (.int (0 : Int32)), (.int (3 : Int32))]) (rest := []) (lenOf own_pd4 rfl) rfl (by show 2 * 0 + _ ≤ _; exact Nat.le_of_eq rfl) (hb hby d2_36) (fun _ _ => ⟨rfl, e3, (by decide : 0 + 2 ≤ _), (by decide : 0 + 9 ≤ _)⟩)
  dsimp only [Pt.U, Pt.locs, Pt.cells, Pt.slots] at X4 l4 y4 z4 st4 hQ4
  subst l4 y4 z4
  obtain ⟨b_4, kb_4, u0_4, u1_4, u2_4, u3_4, u4_4, u5_4, rfl, N4q, K4q, Q4_0, x4_0⟩ := hQ4
  have N4 := Fr.app N0 N4q
  have ne_a1_b_4_5 : a1 ≠ b_4 := Nat.ne_of_lt (Nat.lt_of_lt_of_le P_E_a1.lt x4_0)
  have ne_a2_b_4_6 : a2 ≠ b_4 := Nat.ne_of_lt (Nat.lt_of_lt_of_le P_V_a2.lt x4_0)
  have sz_b_4 : h0.size ≤ b_4 := Nat.le_trans K0.1 x4_0
  have g_b_4 : n0 ≤ b_4 := Nat.le_trans Z0 sz_b_4
  have E_8 := P_E_a1.keep K4q
  have F_9 := P_F_a1_value.keep K4q nin0
  have F_10 := P_F_a1_coder.keep K4q nin0
  have V_11 := P_V_a2.keep K4q nin0
  have S_12 := own_Sta_keep P_S_java_lang_String_COMPACT_STRINGS K4q all0
  have S_13 := own_Sta_keep P_S_java_lang_StringUTF16__assertionsDisabled K4q all0
  have S_14 := own_Sta_keep P_S_java_lang_StringUTF16_HI_BYTE_SHIFT K4q all0
  have S_15 := own_Sta_keep P_S_java_lang_StringUTF16_LO_BYTE_SHIFT K4q all0
  have K16 : Keep h0 T4.heap [a1] := K0.trans K4q all0
  refine own_go (B := T4.setTop (mkF m 39 #[.val (.ref a1), .val (.ref a2), .val (.int (0 : Int32)), .val (.int (3 : Int32)), .val .null, .unset] [(.ref b_4)])) st4 ?_
  refine own_go (B := T4.setTop (mkF m 45 #[.val (.ref a1), .val (.ref a2), .val (.int (0 : Int32)), .val (.int (3 : Int32)), .val .null, .val (.ref b_4)] [(.int (3 : Int32)), (.ref b_4), (.ref a1)])) (fun _ k => XS.astore X4.here hx rfl (hb hby d2_39) rfl rfl (l' := #[.val (.ref a1), .val (.ref a2), .val (.int (0 : Int32)), .val (.int (3 : Int32)), .val .null, .val (.ref b_4)]) rfl (XS.aloadN X4.here hx rfl (hb hby d2_41) rfl rfl (XS.aload X4.here hx rfl (hb hby d2_42) rfl rfl (XS.iloadN X4.here hx rfl (hb hby d2_44) rfl  k)))) ?_
  obtain ⟨_, _, ⟨T17, L17, k17, n17⟩, -, X17, ⟨Lc17, hQ17, l17, y17, z17⟩, st17⟩ := Jvm.LawKit.callS X4 hx (y := (⟨"java/lang/StringUTF16", "coderFromArrayLen", "([BI)B"⟩ : MethodName)) hown (mvT hZ (own_w hw 24 rfl)) (mvT hZ (own_w hw 25 rfl)) (mvT hZ (own_w hw 18 rfl)) (mvT hZ (own_w hw 26 rfl)) (by decide) (backOf (W := 1) (own_cod16_3 l Z a0 hw [] b_4 kb_4 u0_4 u1_4 u2_4 u3_4 u4_4 u5_4 T4.heap n0 (Nat.le_trans Z0 K16.1) Q4_0) hZ (own_w hw 26 rfl) (own_w hw 18 rfl) (by decide) (by decide)) (g := (mkF m 45 #[.val (.ref a1), .val (.ref a2), .val (.int (0 : Int32)), .val (.int (3 : Int32)), .val .null, .val (.ref b_4)] [(.int (3 : Int32)), (.ref b_4), (.ref a1)])) rfl (by rw [hml]; rfl) (argsL := [(.ref b_4), (.int (3 : Int32))]) (rest := [(.ref a1)]) (lenOf own_pd5 rfl) rfl (by show 2 * 0 + _ ≤ _; exact Nat.le_of_eq rfl) (hb hby d2_45) (fun _ _ => ⟨rfl, rfl, (by decide : 2 + 0 ≤ _), (by decide : 9 + 0 ≤ _)⟩)
  dsimp only [Pt.U, Pt.locs, Pt.cells, Pt.slots] at X17 l17 y17 z17 st17 hQ17
  subst l17 y17 z17
  obtain ⟨rfl, N17q, e17⟩ := hQ17
  have N17 := Fr.app N4 N17q
  refine own_go (B := T17.setTop (mkF m 48 #[.val (.ref a1), .val (.ref a2), .val (.int (0 : Int32)), .val (.int (3 : Int32)), .val .null, .val (.ref b_4)] [(.int (1 : Int32)), (.ref a1)])) st17 ?_
  obtain ⟨T18, h18, X18, e18, W18, st18⟩ := putFN X17 hx hZ hown (own_w hw 27 rfl) Via.refl e17 F_10 E_8 (Or.inr ⟨(own_w hw 28 rfl), rfl, hnm⟩) (own_w hw 2 rfl) (ty := .byte) (v' := (.int (1 : Int32))) (by decide) rfl rfl (g := (mkF m 48 #[.val (.ref a1), .val (.ref a2), .val (.int (0 : Int32)), .val (.int (3 : Int32)), .val .null, .val (.ref b_4)] [(.int (1 : Int32)), (.ref a1)])) rfl rfl (hb hby d2_48)
  have F_w18 : Fld Z h18 a1 "java/lang/String" "coder" "B" (.int (1 : Int32)) := F_10.same W18
  have E_20 := E_8.wr W18
  have F_21 := F_9.other W18 (Or.inr (slot_ne (Or.inr (own_w hw 30 rfl)) (Or.inr (own_w hw 28 rfl)) (by decide) (t := (.array .byte)) (t' := .byte) (by decide) (by decide)))
  have V_23 := V_11.other W18 (Ne.symm ne_a1_a2)
  have S_24 := S_12.wr W18
  have S_25 := S_13.wr W18
  have S_26 := S_14.wr W18
  have S_27 := S_15.wr W18
  have V_28 := Q4_0.other W18 (Ne.symm ne_a1_b_4_5)
  have K29 : Keep h0 h18 [a1] := K16.wr W18 (Or.inl (List.mem_of_getElem? (i := 0) rfl))
  have N18 := Fr.snoc X18 N17 g_a1
  refine own_go (B := T18.setTop (mkF m 51 #[.val (.ref a1), .val (.ref a2), .val (.int (0 : Int32)), .val (.int (3 : Int32)), .val .null, .val (.ref b_4)] [])) st18 ?_
  refine own_go (B := T18.setTop (mkF m 54 #[.val (.ref a1), .val (.ref a2), .val (.int (0 : Int32)), .val (.int (3 : Int32)), .val .null, .val (.ref b_4)] [(.ref b_4), (.ref a1)])) (fun _ k => XS.aloadN X18.here hx rfl (hb hby d2_51) rfl rfl (XS.aload X18.here hx rfl (hb hby d2_52) rfl rfl k)) ?_
  obtain ⟨T30, h30, X30, e30, W30, st30⟩ := putF X18 hx hZ hown (host := "") (Or.inl (own_w hw 29 rfl)) Via.refl e18 F_21 E_20 (Or.inr ⟨(own_w hw 30 rfl), rfl, hnm⟩) (own_w hw 2 rfl) (ty := (.array .byte)) (by decide) rfl rfl (g := (mkF m 54 #[.val (.ref a1), .val (.ref a2), .val (.int (0 : Int32)), .val (.int (3 : Int32)), .val .null, .val (.ref b_4)] [(.ref b_4), (.ref a1)])) rfl rfl (hb hby d2_54)
  have F_w30 : Fld Z h30 a1 "java/lang/String" "value" "[B" (.ref b_4) := F_21.same W30
  have E_32 := E_20.wr W30
  have V_34 := V_23.other W30 (Ne.symm ne_a1_a2)
  have S_35 := S_24.wr W30
  have S_36 := S_25.wr W30
  have S_37 := S_26.wr W30
  have S_38 := S_27.wr W30
  have V_39 := V_28.other W30 (Ne.symm ne_a1_b_4_5)
  have F_40 := F_w18.other W30 (Or.inr (slot_ne (Or.inr (own_w hw 28 rfl)) (Or.inr (own_w hw 30 rfl)) (by decide) (t := .byte) (t' := (.array .byte)) (by decide) (by decide)))
  have K41 : Keep h0 h30 [a1] := K29.wr W30 (Or.inl (List.mem_of_getElem? (i := 0) rfl))
  have N30 := Fr.snoc X30 N18 g_a1
  refine own_go (B := T30.setTop (mkF m 57 #[.val (.ref a1), .val (.ref a2), .val (.int (0 : Int32)), .val (.int (3 : Int32)), .val .null, .val (.ref b_4)] [])) st30 ?_
  exact own_retV X30 hx Bd.notSynchronized Bd.returns (hb hby d2_57) e30 ⟨b_4, kb_4, u0_4, u1_4, u2_4, u3_4, u4_4, u5_4, rfl, N30, K41, E_32, F_w30, F_40, V_39, x4_0⟩ (by decide) (by decide)
abbrev R_own_strA3 : Room := { frames := 5, cells := 2, slots := 9, locals := 74 }
theorem ef_own_strA3 (m : MethodId) (x0 : Addr) (x1 : Addr) : entryFrame m #[(.ref x0), (.ref x1)] 2 = mkF m 0 #[.val (.ref x0), .val (.ref x1)] [] := by first | (simp [entryFrame, mkF, argsToLocals, Value.category]; done) | rfl
def Q_own_strA3 (Z : State) (a1 : Addr) (a2 : Addr) (k2 : ClassId) (c0 : Int32) (c1 : Int32) (c2 : Int32) (cs : Int32) (h0 : Heap) (n0 : Nat) (v : Option Value) (h : Heap) (L : List Loc) : Prop := ∃ t : Addr, ∃ cd : Int32, v = none ∧ Fr n0 L ∧ Keep h0 h [a1] ∧ Exa Z h a1 "java/lang/String" ∧ Fld Z h a1 "java/lang/String" "value" "[B" (.ref t) ∧ Fld Z h a1 "java/lang/String" "coder" "B" (.int cd) ∧ own_Sz Z h t cd 3 ∧ (h0.size ≤ t)
set_option maxRecDepth 65536 in
set_option maxHeartbeats 400000000 in
theorem own_strA3 (l : Launch) (Z : State) (a0 : Array Value) (hw : ∀ d ∈ tables_1, d.before a0 Z = true) (ws : List Jvm.Cond) (a1 : Addr) (a2 : Addr) (k2 : ClassId) (c0 : Int32) (c1 : Int32) (c2 : Int32) (cs : Int32) (h0 : Heap) (n0 : Nat) (Z0 : n0 ≤ h0.size) (P_E_a1 : Exa Z h0 a1 "java/lang/String") (P_F_a1_value : Fld Z h0 a1 "java/lang/String" "value" "[B" .null) (P_F_a1_coder : Fld Z h0 a1 "java/lang/String" "coder" "B" (.int (0 : Int32))) (P_V_a2 : Arv Z h0 a2 k2 .char (3 : Int32) [(.int c0), (.int c1), (.int c2)] (.int (0 : Int32))) (g_a1 : n0 ≤ a1) (ne_a1_a2 : a1 ≠ a2) (P_S_java_lang_String_COMPACT_STRINGS : Sta Z h0 "java/lang/String" "COMPACT_STRINGS" "Z" (.int cs)) (hcs : ¬ (cs = (0 : Int32))) (P_S_java_lang_StringUTF16__assertionsDisabled : Sta Z h0 "java/lang/StringUTF16" "$assertionsDisabled" "Z" (.int (1 : Int32))) (P_S_java_lang_StringUTF16_HI_BYTE_SHIFT : Sta Z h0 "java/lang/StringUTF16" "HI_BYTE_SHIFT" "I" (.int (0 : Int32))) (P_S_java_lang_StringUTF16_LO_BYTE_SHIFT : Sta Z h0 "java/lang/StringUTF16" "LO_BYTE_SHIFT" "I" (.int (8 : Int32))) (hl0 : 0 ≤ c0.toInt) (hu0 : c0.toInt ≤ 65535) (hl1 : 0 ≤ c1.toInt) (hu1 : c1.toInt ≤ 65535) (hl2 : 0 ≤ c2.toInt) (hu2 : c2.toInt ≤ 65535) :
    MetFree l (⟨"java/lang/String", "<init>", "([C)V"⟩ : MethodName) (head1 (Jvm.Cond.code (⟨"java/lang/String", "<init>", "([C)V"⟩ : MethodName) jdk_42_method_3_code 2 none :: ws) R_own_strA3) (fun a U => a = #[(.ref a1), (.ref a2)] ∧ Z.Warmed39 U.vm ∧ U.heap = h0) (fun _ _ _ _ _ => True) (fun _ U o U' => ∃ v L, o = .returned v ∧ Q_own_strA3 Z a1 a2 k2 c0 c1 c2 cs h0 n0 v U'.heap L ∧ FrameEnd U o U' L R_own_strA3.cells R_own_strA3.slots) := by
  refine MetFree.of_bodySF (plainFor_of_name own_pn1) hisR ?_
  intro p e s m args below meth c s₁ Bd hml0 hP hK
  obtain ⟨rfl, hZ, hh⟩ := hP
  have hx := Bd.exec
  have hby := Bd.bytes
  have hml : c.maxLocals = 2 := hml0
  have hown : s.vm.findClass "java/lang/String" = some m.cls := findClass_of_methodNamed Bd.named
  have hnm := (name_of_methodNamed Bd.named Bd.method).1
  have X0 : Stand p l e R_own_strA3 s m #[(.ref a1), (.ref a2)] below meth c s₁ [] 0 0 := Stand.of_body Bd
  have e0 : s₁.heap = h0 := by rw [← hh, Bd.state]; rfl
  have N0 := Fr.nil n0
  have K0 : Keep h0 h0 [a1] := Keep.refl h0 [a1]
  show own_Fin p e below s (Q_own_strA3 Z a1 a2 k2 c0 c1 c2 cs h0 n0) R_own_strA3.cells R_own_strA3.slots (s₁.setTop (entryFrame m #[(.ref a1), (.ref a2)] 2))
  refine own_go (fun _ k => castTop (ef_own_strA3 m a1 a2) k) ?_
  show own_Fin _ _ _ _ _ _ _ (s₁.setTop (mkF m 0 #[.val (.ref a1), .val (.ref a2)] []))
  refine own_go (B := s₁.setTop (mkF m 4 #[.val (.ref a1), .val (.ref a2)] [(.ref a2), (.int (0 : Int32)), (.ref a2), (.ref a1)])) (fun _ k => XS.aloadN X0.here hx rfl (hb hby d1_0) rfl rfl (XS.aloadN X0.here hx rfl (hb hby d1_1) rfl rfl (XS.iconst X0.here hx rfl (hb hby d1_2) (XS.aloadN X0.here hx rfl (hb hby d1_3) rfl rfl k)))) ?_
  obtain ⟨cl1, Ar1, q1, S1, N1n, H1, G1⟩ := id P_V_a2
  refine own_go (fun _ k => X0.arraylength hx (own_hc e0 Ar1.1) (State.isArrayOf_alike hZ.alike Ar1.2.1) (g := (mkF m 4 #[.val (.ref a1), .val (.ref a2)] [(.ref a2), (.int (0 : Int32)), (.ref a2), (.ref a1)])) rfl rfl (hb hby d1_4) _ k) ?_
  rw [len_of S1 N1n]
  show own_Fin _ _ _ _ _ _ _ (s₁.setTop (mkF m 5 #[.val (.ref a1), .val (.ref a2)] [(.int (3 : Int32)), (.int (0 : Int32)), (.ref a2), (.ref a1)]))
  refine own_go (B := s₁.setTop (mkF m 6 #[.val (.ref a1), .val (.ref a2)] [.null, (.int (3 : Int32)), (.int (0 : Int32)), (.ref a2), (.ref a1)])) (fun _ k => XS.aconstNull X0.here hx rfl (hb hby d1_5) k) ?_
  by_cases hc2 : c0.toInt ≤ 255
  · skip
    by_cases hc3 : c1.toInt ≤ 255
    · skip
      by_cases hc4 : c2.toInt ≤ 255
      · skip
        obtain ⟨_, _, ⟨T5, L5, k5, n5⟩, -, X5, ⟨Lc5, hQ5, l5, y5, z5⟩, st5⟩ := X0.specialBack hx (y := (⟨"java/lang/String", "<init>", "([CIILjava/lang/Void;)V"⟩ : MethodName)) rfl hown (mvT hZ (own_w hw 8 rfl)) (mvT hZ (own_w hw 9 rfl)) (mvT hZ (own_w hw 11 rfl)) (by decide) (backOf (W := 0) (own_str4_3 l Z a0 hw [] a1 a2 k2 c0 c1 c2 cs h0 n0 (Nat.le_trans Z0 K0.1) P_E_a1 P_F_a1_value P_F_a1_coder P_V_a2 g_a1 ne_a1_a2 P_S_java_lang_String_COMPACT_STRINGS hcs hc2 hc3 hc4) hZ (own_w hw 11 rfl) (own_w hw 3 rfl) (by decide) (by decide)) (g := (mkF m 6 #[.val (.ref a1), .val (.ref a2)] [.null, (.int (3 : Int32)), (.int (0 : Int32)), (.ref a2), (.ref a1)])) rfl (by rw [hml]; rfl) (Steps.refl _) (a := a1) (argsL := [(.ref a2), (.int (0 : Int32)), (.int (3 : Int32)), .null]) (rest := []) (lenOf own_pd6 rfl) rfl (by show 2 * 0 + _ ≤ _; exact Nat.le_of_eq rfl) (hb hby d1_6) (fun _ _ => ⟨rfl, e0, (by decide : 0 + 1 ≤ _), (by decide : 0 + 3 ≤ _)⟩)
        dsimp only [Pt.U, Pt.locs, Pt.cells, Pt.slots] at X5 l5 y5 z5 st5 hQ5
        subst l5 y5 z5
        obtain ⟨t_5, kt_5, rfl, N5q, K5q, Q5_0, Q5_1, Q5_2, Q5_3, x5_0⟩ := hQ5
        have N5 := Fr.app N0 N5q
        have ne_a1_t_5_6 : a1 ≠ t_5 := Nat.ne_of_lt (Nat.lt_of_lt_of_le P_E_a1.lt x5_0)
        have ne_a2_t_5_7 : a2 ≠ t_5 := Nat.ne_of_lt (Nat.lt_of_lt_of_le P_V_a2.lt x5_0)
        have sz_t_5 : h0.size ≤ t_5 := Nat.le_trans K0.1 x5_0
        have g_t_5 : n0 ≤ t_5 := Nat.le_trans Z0 sz_t_5
        have V_12 := P_V_a2.keep K5q (ninS (Ne.symm ne_a1_a2) nin0)
        have S_13 := own_Sta_keep P_S_java_lang_String_COMPACT_STRINGS K5q (allS (own_plain P_E_a1) all0)
        have S_14 := own_Sta_keep P_S_java_lang_StringUTF16__assertionsDisabled K5q (allS (own_plain P_E_a1) all0)
        have S_15 := own_Sta_keep P_S_java_lang_StringUTF16_HI_BYTE_SHIFT K5q (allS (own_plain P_E_a1) all0)
        have S_16 := own_Sta_keep P_S_java_lang_StringUTF16_LO_BYTE_SHIFT K5q (allS (own_plain P_E_a1) all0)
        have K17 : Keep h0 T5.heap [a1] := K0.trans K5q (allS (Or.inl (List.mem_of_getElem? (i := 0) rfl)) all0)
        refine own_go (B := T5.setTop (mkF m 9 #[.val (.ref a1), .val (.ref a2)] [])) (fun _ k => st5.trans k) ?_
        exact own_retV X5 hx Bd.notSynchronized Bd.returns (hb hby d1_9) rfl ⟨t_5, (0 : Int32), rfl, N5, K17, Q5_0, Q5_1, Q5_2, (own_Sz0 Q5_3 rfl), x5_0⟩ (by decide) (by decide)
      · skip
        obtain ⟨_, _, ⟨T18, L18, k18, n18⟩, -, X18, ⟨Lc18, hQ18, l18, y18, z18⟩, st18⟩ := X0.specialBack hx (y := (⟨"java/lang/String", "<init>", "([CIILjava/lang/Void;)V"⟩ : MethodName)) rfl hown (mvT hZ (own_w hw 8 rfl)) (mvT hZ (own_w hw 9 rfl)) (mvT hZ (own_w hw 11 rfl)) (by decide) (backOf (W := 0) (own_str4_3_2 l Z a0 hw [] a1 a2 k2 c0 c1 c2 cs h0 n0 (Nat.le_trans Z0 K0.1) P_E_a1 P_F_a1_value P_F_a1_coder P_V_a2 g_a1 ne_a1_a2 P_S_java_lang_String_COMPACT_STRINGS hcs P_S_java_lang_StringUTF16__assertionsDisabled P_S_java_lang_StringUTF16_HI_BYTE_SHIFT P_S_java_lang_StringUTF16_LO_BYTE_SHIFT hc2 hc3 hc4 hl2 hu2) hZ (own_w hw 11 rfl) (own_w hw 3 rfl) (by decide) (by decide)) (g := (mkF m 6 #[.val (.ref a1), .val (.ref a2)] [.null, (.int (3 : Int32)), (.int (0 : Int32)), (.ref a2), (.ref a1)])) rfl (by rw [hml]; rfl) (Steps.refl _) (a := a1) (argsL := [(.ref a2), (.int (0 : Int32)), (.int (3 : Int32)), .null]) (rest := []) (lenOf own_pd6 rfl) rfl (by show 2 * 0 + _ ≤ _; exact Nat.le_of_eq rfl) (hb hby d1_6) (fun _ _ => ⟨rfl, e0, (by decide : 0 + 2 ≤ _), (by decide : 0 + 9 ≤ _)⟩)
        dsimp only [Pt.U, Pt.locs, Pt.cells, Pt.slots] at X18 l18 y18 z18 st18 hQ18
        subst l18 y18 z18
        obtain ⟨t_18, kt_18, u0_18, u1_18, u2_18, u3_18, u4_18, u5_18, rfl, N18q, K18q, Q18_0, Q18_1, Q18_2, Q18_3, x18_0⟩ := hQ18
        have N18 := Fr.app N0 N18q
        have ne_a1_t_18_19 : a1 ≠ t_18 := Nat.ne_of_lt (Nat.lt_of_lt_of_le P_E_a1.lt x18_0)
        have ne_a2_t_18_20 : a2 ≠ t_18 := Nat.ne_of_lt (Nat.lt_of_lt_of_le P_V_a2.lt x18_0)
        have sz_t_18 : h0.size ≤ t_18 := Nat.le_trans K0.1 x18_0
        have g_t_18 : n0 ≤ t_18 := Nat.le_trans Z0 sz_t_18
        have V_25 := P_V_a2.keep K18q (ninS (Ne.symm ne_a1_a2) nin0)
        have S_26 := own_Sta_keep P_S_java_lang_String_COMPACT_STRINGS K18q (allS (own_plain P_E_a1) all0)
        have S_27 := own_Sta_keep P_S_java_lang_StringUTF16__assertionsDisabled K18q (allS (own_plain P_E_a1) all0)
        have S_28 := own_Sta_keep P_S_java_lang_StringUTF16_HI_BYTE_SHIFT K18q (allS (own_plain P_E_a1) all0)
        have S_29 := own_Sta_keep P_S_java_lang_StringUTF16_LO_BYTE_SHIFT K18q (allS (own_plain P_E_a1) all0)
        have K30 : Keep h0 T18.heap [a1] := K0.trans K18q (allS (Or.inl (List.mem_of_getElem? (i := 0) rfl)) all0)
        refine own_go (B := T18.setTop (mkF m 9 #[.val (.ref a1), .val (.ref a2)] [])) (fun _ k => st18.trans k) ?_
        exact own_retV X18 hx Bd.notSynchronized Bd.returns (hb hby d1_9) rfl ⟨t_18, (1 : Int32), rfl, N18, K30, Q18_0, Q18_1, Q18_2, (own_Sz1 Q18_3 rfl), x18_0⟩ (by decide) (by decide)
    · skip
      obtain ⟨_, _, ⟨T31, L31, k31, n31⟩, -, X31, ⟨Lc31, hQ31, l31, y31, z31⟩, st31⟩ := X0.specialBack hx (y := (⟨"java/lang/String", "<init>", "([CIILjava/lang/Void;)V"⟩ : MethodName)) rfl hown (mvT hZ (own_w hw 8 rfl)) (mvT hZ (own_w hw 9 rfl)) (mvT hZ (own_w hw 11 rfl)) (by decide) (backOf (W := 0) (own_str4_3_1 l Z a0 hw [] a1 a2 k2 c0 c1 c2 cs h0 n0 (Nat.le_trans Z0 K0.1) P_E_a1 P_F_a1_value P_F_a1_coder P_V_a2 g_a1 ne_a1_a2 P_S_java_lang_String_COMPACT_STRINGS hcs P_S_java_lang_StringUTF16__assertionsDisabled P_S_java_lang_StringUTF16_HI_BYTE_SHIFT P_S_java_lang_StringUTF16_LO_BYTE_SHIFT hc2 hc3 hl1 hu1) hZ (own_w hw 11 rfl) (own_w hw 3 rfl) (by decide) (by decide)) (g := (mkF m 6 #[.val (.ref a1), .val (.ref a2)] [.null, (.int (3 : Int32)), (.int (0 : Int32)), (.ref a2), (.ref a1)])) rfl (by rw [hml]; rfl) (Steps.refl _) (a := a1) (argsL := [(.ref a2), (.int (0 : Int32)), (.int (3 : Int32)), .null]) (rest := []) (lenOf own_pd6 rfl) rfl (by show 2 * 0 + _ ≤ _; exact Nat.le_of_eq rfl) (hb hby d1_6) (fun _ _ => ⟨rfl, e0, (by decide : 0 + 2 ≤ _), (by decide : 0 + 9 ≤ _)⟩)
      dsimp only [Pt.U, Pt.locs, Pt.cells, Pt.slots] at X31 l31 y31 z31 st31 hQ31
      subst l31 y31 z31
      obtain ⟨t_31, kt_31, u0_31, u1_31, u2_31, u3_31, u4_31, u5_31, rfl, N31q, K31q, Q31_0, Q31_1, Q31_2, Q31_3, x31_0⟩ := hQ31
      have N31 := Fr.app N0 N31q
      have ne_a1_t_31_32 : a1 ≠ t_31 := Nat.ne_of_lt (Nat.lt_of_lt_of_le P_E_a1.lt x31_0)
      have ne_a2_t_31_33 : a2 ≠ t_31 := Nat.ne_of_lt (Nat.lt_of_lt_of_le P_V_a2.lt x31_0)
      have sz_t_31 : h0.size ≤ t_31 := Nat.le_trans K0.1 x31_0
      have g_t_31 : n0 ≤ t_31 := Nat.le_trans Z0 sz_t_31
      have V_38 := P_V_a2.keep K31q (ninS (Ne.symm ne_a1_a2) nin0)
      have S_39 := own_Sta_keep P_S_java_lang_String_COMPACT_STRINGS K31q (allS (own_plain P_E_a1) all0)
      have S_40 := own_Sta_keep P_S_java_lang_StringUTF16__assertionsDisabled K31q (allS (own_plain P_E_a1) all0)
      have S_41 := own_Sta_keep P_S_java_lang_StringUTF16_HI_BYTE_SHIFT K31q (allS (own_plain P_E_a1) all0)
      have S_42 := own_Sta_keep P_S_java_lang_StringUTF16_LO_BYTE_SHIFT K31q (allS (own_plain P_E_a1) all0)
      have K43 : Keep h0 T31.heap [a1] := K0.trans K31q (allS (Or.inl (List.mem_of_getElem? (i := 0) rfl)) all0)
      refine own_go (B := T31.setTop (mkF m 9 #[.val (.ref a1), .val (.ref a2)] [])) (fun _ k => st31.trans k) ?_
      exact own_retV X31 hx Bd.notSynchronized Bd.returns (hb hby d1_9) rfl ⟨t_31, (1 : Int32), rfl, N31, K43, Q31_0, Q31_1, Q31_2, (own_Sz1 Q31_3 rfl), x31_0⟩ (by decide) (by decide)
  · skip
    obtain ⟨_, _, ⟨T44, L44, k44, n44⟩, -, X44, ⟨Lc44, hQ44, l44, y44, z44⟩, st44⟩ := X0.specialBack hx (y := (⟨"java/lang/String", "<init>", "([CIILjava/lang/Void;)V"⟩ : MethodName)) rfl hown (mvT hZ (own_w hw 8 rfl)) (mvT hZ (own_w hw 9 rfl)) (mvT hZ (own_w hw 11 rfl)) (by decide) (backOf (W := 0) (own_str4_3_0 l Z a0 hw [] a1 a2 k2 c0 c1 c2 cs h0 n0 (Nat.le_trans Z0 K0.1) P_E_a1 P_F_a1_value P_F_a1_coder P_V_a2 g_a1 ne_a1_a2 P_S_java_lang_String_COMPACT_STRINGS hcs P_S_java_lang_StringUTF16__assertionsDisabled P_S_java_lang_StringUTF16_HI_BYTE_SHIFT P_S_java_lang_StringUTF16_LO_BYTE_SHIFT hc2 hl0 hu0) hZ (own_w hw 11 rfl) (own_w hw 3 rfl) (by decide) (by decide)) (g := (mkF m 6 #[.val (.ref a1), .val (.ref a2)] [.null, (.int (3 : Int32)), (.int (0 : Int32)), (.ref a2), (.ref a1)])) rfl (by rw [hml]; rfl) (Steps.refl _) (a := a1) (argsL := [(.ref a2), (.int (0 : Int32)), (.int (3 : Int32)), .null]) (rest := []) (lenOf own_pd6 rfl) rfl (by show 2 * 0 + _ ≤ _; exact Nat.le_of_eq rfl) (hb hby d1_6) (fun _ _ => ⟨rfl, e0, (by decide : 0 + 2 ≤ _), (by decide : 0 + 9 ≤ _)⟩)
    dsimp only [Pt.U, Pt.locs, Pt.cells, Pt.slots] at X44 l44 y44 z44 st44 hQ44
    subst l44 y44 z44
    obtain ⟨t_44, kt_44, u0_44, u1_44, u2_44, u3_44, u4_44, u5_44, rfl, N44q, K44q, Q44_0, Q44_1, Q44_2, Q44_3, x44_0⟩ := hQ44
    have N44 := Fr.app N0 N44q
    have ne_a1_t_44_45 : a1 ≠ t_44 := Nat.ne_of_lt (Nat.lt_of_lt_of_le P_E_a1.lt x44_0)
    have ne_a2_t_44_46 : a2 ≠ t_44 := Nat.ne_of_lt (Nat.lt_of_lt_of_le P_V_a2.lt x44_0)
    have sz_t_44 : h0.size ≤ t_44 := Nat.le_trans K0.1 x44_0
    have g_t_44 : n0 ≤ t_44 := Nat.le_trans Z0 sz_t_44
    have V_51 := P_V_a2.keep K44q (ninS (Ne.symm ne_a1_a2) nin0)
    have S_52 := own_Sta_keep P_S_java_lang_String_COMPACT_STRINGS K44q (allS (own_plain P_E_a1) all0)
    have S_53 := own_Sta_keep P_S_java_lang_StringUTF16__assertionsDisabled K44q (allS (own_plain P_E_a1) all0)
    have S_54 := own_Sta_keep P_S_java_lang_StringUTF16_HI_BYTE_SHIFT K44q (allS (own_plain P_E_a1) all0)
    have S_55 := own_Sta_keep P_S_java_lang_StringUTF16_LO_BYTE_SHIFT K44q (allS (own_plain P_E_a1) all0)
    have K56 : Keep h0 T44.heap [a1] := K0.trans K44q (allS (Or.inl (List.mem_of_getElem? (i := 0) rfl)) all0)
    refine own_go (B := T44.setTop (mkF m 9 #[.val (.ref a1), .val (.ref a2)] [])) (fun _ k => st44.trans k) ?_
    exact own_retV X44 hx Bd.notSynchronized Bd.returns (hb hby d1_9) rfl ⟨t_44, (1 : Int32), rfl, N44, K56, Q44_0, Q44_1, Q44_2, (own_Sz1 Q44_3 rfl), x44_0⟩ (by decide) (by decide)
abbrev R_own_lenA3 : Room := { frames := 1, cells := 0, slots := 0, locals := 13 }
theorem ef_own_lenA3 (m : MethodId) (x0 : Addr) : entryFrame m #[(.ref x0)] 1 = mkF m 0 #[.val (.ref x0)] [] := by first | (simp [entryFrame, mkF, argsToLocals, Value.category]; done) | rfl
set_option maxRecDepth 65536 in
set_option maxHeartbeats 4000000 in
theorem own_pl_lenA3_1 (cd : Int32) (cs : Int32) (hcs : ¬ (cs = (0 : Int32))) (hcd2 : cd = (0 : Int32)) : cd = (0 : Int32) ∨ cd = (1 : Int32) := by
  subst_vars
  decide
set_option maxRecDepth 65536 in
set_option maxHeartbeats 4000000 in
theorem own_pl_lenA3_2 (cd : Int32) (cs : Int32) (hcs : ¬ (cs = (0 : Int32))) (hcd2 : cd = (0 : Int32)) : ((3 : Int32) >>> (cd &&& 31)) = (3 : Int32) := by
  subst_vars
  decide
set_option maxRecDepth 65536 in
set_option maxHeartbeats 4000000 in
theorem own_pl_lenA3_3 (cd : Int32) (cs : Int32) (hcs : ¬ (cs = (0 : Int32))) (hcd2 : cd = (1 : Int32)) : cd = (0 : Int32) ∨ cd = (1 : Int32) := by
  subst_vars
  decide
set_option maxRecDepth 65536 in
set_option maxHeartbeats 4000000 in
theorem own_pl_lenA3_4 (cd : Int32) (cs : Int32) (hcs : ¬ (cs = (0 : Int32))) (hcd2 : cd = (1 : Int32)) : ((6 : Int32) >>> (cd &&& 31)) = (3 : Int32) := by
  subst_vars
  decide
def Q_own_lenA3 (Z : State) (a1 : Addr) (t : Addr) (cd : Int32) (cs : Int32) (h0 : Heap) (n0 : Nat) (v : Option Value) (h : Heap) (L : List Loc) : Prop := v = some (.int (3 : Int32)) ∧ Fr n0 L ∧ h = h0
set_option maxRecDepth 65536 in
set_option maxHeartbeats 400000000 in
theorem own_lenA3 (l : Launch) (Z : State) (a0 : Array Value) (hw : ∀ d ∈ tables_1, d.before a0 Z = true) (ws : List Jvm.Cond) (a1 : Addr) (t : Addr) (cd : Int32) (cs : Int32) (h0 : Heap) (n0 : Nat) (Z0 : n0 ≤ h0.size) (P_E_a1 : Exa Z h0 a1 "java/lang/String") (P_F_a1_value : Fld Z h0 a1 "java/lang/String" "value" "[B" (.ref t)) (P_F_a1_coder : Fld Z h0 a1 "java/lang/String" "coder" "B" (.int cd)) (P_G_t_sz : own_Sz Z h0 t cd 3) (P_S_java_lang_String_COMPACT_STRINGS : Sta Z h0 "java/lang/String" "COMPACT_STRINGS" "Z" (.int cs)) (hcs : ¬ (cs = (0 : Int32))) :
    MetFree l (⟨"java/lang/String", "length", "()I"⟩ : MethodName) (head1 (Jvm.Cond.code (⟨"java/lang/String", "length", "()I"⟩ : MethodName) jdk_42_method_54_code 1 (some .int) :: ws) R_own_lenA3) (fun a U => a = #[(.ref a1)] ∧ Z.Warmed39 U.vm ∧ U.heap = h0) (fun _ _ _ _ _ => True) (fun _ U o U' => ∃ v L, o = .returned v ∧ Q_own_lenA3 Z a1 t cd cs h0 n0 v U'.heap L ∧ FrameEnd U o U' L R_own_lenA3.cells R_own_lenA3.slots) := by
  refine MetFree.of_bodySF (plainFor_of_name own_pn1) hisR ?_
  intro p e s m args below meth c s₁ Bd hml0 hP hK
  obtain ⟨rfl, hZ, hh⟩ := hP
  have hx := Bd.exec
  have hby := Bd.bytes
  have hml : c.maxLocals = 1 := hml0
  have hown : s.vm.findClass "java/lang/String" = some m.cls := findClass_of_methodNamed Bd.named
  have hnm := (name_of_methodNamed Bd.named Bd.method).1
  have X0 : Stand p l e R_own_lenA3 s m #[(.ref a1)] below meth c s₁ [] 0 0 := Stand.of_body Bd
  have e0 : s₁.heap = h0 := by rw [← hh, Bd.state]; rfl
  have N0 := Fr.nil n0
  have K0 : Keep h0 h0 [] := Keep.refl h0 []
  show own_Fin p e below s (Q_own_lenA3 Z a1 t cd cs h0 n0) R_own_lenA3.cells R_own_lenA3.slots (s₁.setTop (entryFrame m #[(.ref a1)] 1))
  refine own_go (fun _ k => castTop (ef_own_lenA3 m a1) k) ?_
  show own_Fin _ _ _ _ _ _ _ (s₁.setTop (mkF m 0 #[.val (.ref a1)] []))
  refine own_go (B := s₁.setTop (mkF m 1 #[.val (.ref a1)] [(.ref a1)])) (fun _ k => XS.aloadN X0.here hx rfl (hb hby d9_0) rfl rfl k) ?_
  obtain ⟨T1, X1, e1, st1⟩ := getF X0 hx hZ hown (host := "") (Or.inl (own_w hw 29 rfl)) Via.refl e0 P_F_a1_value (g := (mkF m 1 #[.val (.ref a1)] [(.ref a1)])) rfl rfl (hb hby d9_1)
  refine own_go (B := T1.setTop (mkF m 4 #[.val (.ref a1)] [(.ref t)])) st1 ?_
  obtain ⟨cl2, Ar2, hsz2⟩ := id P_G_t_sz
  rcases hsz2 with ⟨hcd2, hs2⟩ | ⟨hcd2, hs2⟩
  · skip
    refine own_go (fun _ k => X1.arraylength hx (own_hc e1 Ar2.1) (State.isArrayOf_alike hZ.alike Ar2.2.1) (g := (mkF m 4 #[.val (.ref a1)] [(.ref t)])) rfl rfl (hb hby d9_4) _ k) ?_
    rw [show cl2.slots.size.toInt32 = (3 : Int32) from by rw [hs2]; rfl]
    show own_Fin _ _ _ _ _ _ _ (T1.setTop (mkF m 5 #[.val (.ref a1)] [(.int (3 : Int32))]))
    refine own_go (B := T1.setTop (mkF m 6 #[.val (.ref a1)] [(.ref a1), (.int (3 : Int32))])) (fun _ k => XS.aloadN X1.here hx rfl (hb hby d9_5) rfl rfl k) ?_
    obtain ⟨cq3, kq3, q3a, q3b, q3c⟩ := isOf hZ e1 P_E_a1
    obtain ⟨_, _, ⟨T3, L3, k3, n3⟩, -, X3, ⟨Lc3, hQ3, l3, y3, z3⟩, st3⟩ := X1.virtualBack hx (y := (⟨"java/lang/String", "coder", "()B"⟩ : MethodName)) (z := (⟨"java/lang/String", "coder", "()B"⟩ : MethodName)) hown (mvT hZ (own_w hw 49 rfl)) (mvT hZ (own_w hw 50 rfl)) (notFace_of_selects (args := #[]) (mvT hZ (own_w hw 52 rfl))) (mvT hZ (own_w hw 52 rfl)) (mvT hZ (own_w hw 51 rfl)) (by decide) (backOf (W := 1) (own_coderA l Z a0 hw [] a1 cd cs h0 n0 (Nat.le_trans Z0 K0.1) P_F_a1_coder P_S_java_lang_String_COMPACT_STRINGS hcs (own_pl_lenA3_1 cd cs hcs hcd2)) hZ (own_w hw 53 rfl) (own_w hw 3 rfl) (by decide) (by decide)) q3a q3c (g := (mkF m 6 #[.val (.ref a1)] [(.ref a1), (.int (3 : Int32))])) rfl (by rw [hml]; rfl) (Steps.refl _) (argsL := []) (rest := [(.int (3 : Int32))]) (lenOf own_pd8 rfl) rfl (by show 2 * 0 + _ ≤ _; exact Nat.le_of_eq rfl) (hb hby d9_6) (fun _ _ => ⟨rfl, e1, (by decide : 0 + 0 ≤ _), (by decide : 0 + 0 ≤ _)⟩)
    dsimp only [Pt.U, Pt.locs, Pt.cells, Pt.slots] at X3 l3 y3 z3 st3 hQ3
    subst l3 y3 z3
    obtain ⟨rfl, N3q, e3⟩ := hQ3
    have N3 := Fr.app N0 N3q
    refine own_go (B := T3.setTop (mkF m 10 #[.val (.ref a1)] [(.int ((3 : Int32) >>> (cd &&& 31)))])) (fun _ k => st3.trans (XS.ishr X3.here hx rfl (hb hby d9_9) rfl k)) ?_
    exact own_retI X3 hx Bd.notSynchronized Bd.returns (hb hby d9_10) e3 ⟨(by rw [(own_pl_lenA3_2 cd cs hcs hcd2)]), N3, rfl⟩ (by decide) (by decide)
  · skip
    refine own_go (fun _ k => X1.arraylength hx (own_hc e1 Ar2.1) (State.isArrayOf_alike hZ.alike Ar2.2.1) (g := (mkF m 4 #[.val (.ref a1)] [(.ref t)])) rfl rfl (hb hby d9_4) _ k) ?_
    rw [show cl2.slots.size.toInt32 = (6 : Int32) from by rw [hs2]; rfl]
    show own_Fin _ _ _ _ _ _ _ (T1.setTop (mkF m 5 #[.val (.ref a1)] [(.int (6 : Int32))]))
    refine own_go (B := T1.setTop (mkF m 6 #[.val (.ref a1)] [(.ref a1), (.int (6 : Int32))])) (fun _ k => XS.aloadN X1.here hx rfl (hb hby d9_5) rfl rfl k) ?_
    obtain ⟨cq4, kq4, q4a, q4b, q4c⟩ := isOf hZ e1 P_E_a1
    obtain ⟨_, _, ⟨T4, L4, k4, n4⟩, -, X4, ⟨Lc4, hQ4, l4, y4, z4⟩, st4⟩ := X1.virtualBack hx (y := (⟨"java/lang/String", "coder", "()B"⟩ : MethodName)) (z := (⟨"java/lang/String", "coder", "()B"⟩ : MethodName)) hown (mvT hZ (own_w hw 49 rfl)) (mvT hZ (own_w hw 50 rfl)) (notFace_of_selects (args := #[]) (mvT hZ (own_w hw 52 rfl))) (mvT hZ (own_w hw 52 rfl)) (mvT hZ (own_w hw 51 rfl)) (by decide) (backOf (W := 1) (own_coderA l Z a0 hw [] a1 cd cs h0 n0 (Nat.le_trans Z0 K0.1) P_F_a1_coder P_S_java_lang_String_COMPACT_STRINGS hcs (own_pl_lenA3_3 cd cs hcs hcd2)) hZ (own_w hw 53 rfl) (own_w hw 3 rfl) (by decide) (by decide)) q4a q4c (g := (mkF m 6 #[.val (.ref a1)] [(.ref a1), (.int (6 : Int32))])) rfl (by rw [hml]; rfl) (Steps.refl _) (argsL := []) (rest := [(.int (6 : Int32))]) (lenOf own_pd8 rfl) rfl (by show 2 * 0 + _ ≤ _; exact Nat.le_of_eq rfl) (hb hby d9_6) (fun _ _ => ⟨rfl, e1, (by decide : 0 + 0 ≤ _), (by decide : 0 + 0 ≤ _)⟩)
    dsimp only [Pt.U, Pt.locs, Pt.cells, Pt.slots] at X4 l4 y4 z4 st4 hQ4
    subst l4 y4 z4
    obtain ⟨rfl, N4q, e4⟩ := hQ4
    have N4 := Fr.app N0 N4q
    refine own_go (B := T4.setTop (mkF m 10 #[.val (.ref a1)] [(.int ((6 : Int32) >>> (cd &&& 31)))])) (fun _ k => st4.trans (XS.ishr X4.here hx rfl (hb hby d9_9) rfl k)) ?_
    exact own_retI X4 hx Bd.notSynchronized Bd.returns (hb hby d9_10) e4 ⟨(by rw [(own_pl_lenA3_4 cd cs hcs hcd2)]), N4, rfl⟩ (by decide) (by decide)
abbrev R_own_empA3 : Room := { frames := 0, cells := 0, slots := 0, locals := 0 }
theorem ef_own_empA3 (m : MethodId) (x0 : Addr) : entryFrame m #[(.ref x0)] 1 = mkF m 0 #[.val (.ref x0)] [] := by first | (simp [entryFrame, mkF, argsToLocals, Value.category]; done) | rfl
def Q_own_empA3 (Z : State) (a1 : Addr) (t : Addr) (cd : Int32) (h0 : Heap) (n0 : Nat) (v : Option Value) (h : Heap) (L : List Loc) : Prop := v = some (.int (0 : Int32)) ∧ Fr n0 L ∧ h = h0
set_option maxRecDepth 65536 in
set_option maxHeartbeats 400000000 in
theorem own_empA3 (l : Launch) (Z : State) (a0 : Array Value) (hw : ∀ d ∈ tables_1, d.before a0 Z = true) (ws : List Jvm.Cond) (a1 : Addr) (t : Addr) (cd : Int32) (h0 : Heap) (n0 : Nat) (Z0 : n0 ≤ h0.size) (P_F_a1_value : Fld Z h0 a1 "java/lang/String" "value" "[B" (.ref t)) (P_G_t_sz : own_Sz Z h0 t cd 3) :
    MetFree l (⟨"java/lang/String", "isEmpty", "()Z"⟩ : MethodName) (head1 (Jvm.Cond.code (⟨"java/lang/String", "isEmpty", "()Z"⟩ : MethodName) jdk_42_method_55_code 1 (some .boolean) :: ws) R_own_empA3) (fun a U => a = #[(.ref a1)] ∧ Z.Warmed39 U.vm ∧ U.heap = h0) (fun _ _ _ _ _ => True) (fun _ U o U' => ∃ v L, o = .returned v ∧ Q_own_empA3 Z a1 t cd h0 n0 v U'.heap L ∧ FrameEnd U o U' L R_own_empA3.cells R_own_empA3.slots) := by
  refine MetFree.of_bodySF (plainFor_of_name own_pn1) hisR ?_
  intro p e s m args below meth c s₁ Bd hml0 hP hK
  obtain ⟨rfl, hZ, hh⟩ := hP
  have hx := Bd.exec
  have hby := Bd.bytes
  have hml : c.maxLocals = 1 := hml0
  have hown : s.vm.findClass "java/lang/String" = some m.cls := findClass_of_methodNamed Bd.named
  have hnm := (name_of_methodNamed Bd.named Bd.method).1
  have X0 : Stand p l e R_own_empA3 s m #[(.ref a1)] below meth c s₁ [] 0 0 := Stand.of_body Bd
  have e0 : s₁.heap = h0 := by rw [← hh, Bd.state]; rfl
  have N0 := Fr.nil n0
  have K0 : Keep h0 h0 [] := Keep.refl h0 []
  show own_Fin p e below s (Q_own_empA3 Z a1 t cd h0 n0) R_own_empA3.cells R_own_empA3.slots (s₁.setTop (entryFrame m #[(.ref a1)] 1))
  refine own_go (fun _ k => castTop (ef_own_empA3 m a1) k) ?_
  show own_Fin _ _ _ _ _ _ _ (s₁.setTop (mkF m 0 #[.val (.ref a1)] []))
  refine own_go (B := s₁.setTop (mkF m 1 #[.val (.ref a1)] [(.ref a1)])) (fun _ k => XS.aloadN X0.here hx rfl (hb hby d8_0) rfl rfl k) ?_
  obtain ⟨T1, X1, e1, st1⟩ := getF X0 hx hZ hown (host := "") (Or.inl (own_w hw 29 rfl)) Via.refl e0 P_F_a1_value (g := (mkF m 1 #[.val (.ref a1)] [(.ref a1)])) rfl rfl (hb hby d8_1)
  refine own_go (B := T1.setTop (mkF m 4 #[.val (.ref a1)] [(.ref t)])) st1 ?_
  obtain ⟨cl2, Ar2, hsz2⟩ := id P_G_t_sz
  rcases hsz2 with ⟨hcd2, hs2⟩ | ⟨hcd2, hs2⟩
  · skip
    refine own_go (fun _ k => X1.arraylength hx (own_hc e1 Ar2.1) (State.isArrayOf_alike hZ.alike Ar2.2.1) (g := (mkF m 4 #[.val (.ref a1)] [(.ref t)])) rfl rfl (hb hby d8_4) _ k) ?_
    rw [show cl2.slots.size.toInt32 = (3 : Int32) from by rw [hs2]; rfl]
    show own_Fin _ _ _ _ _ _ _ (T1.setTop (mkF m 5 #[.val (.ref a1)] [(.int (3 : Int32))]))
    have hc3 : ¬ ((3 : Int32) = (0 : Int32)) := by decide
    refine own_go (B := T1.setTop (mkF m 13 #[.val (.ref a1)] [(.int (0 : Int32))])) (fun _ k => XS.ifYes X1.here hx rfl (pc0 := 5) (pc' := 12) rfl (hb hby d8_5) rfl ((if0 _ _).trans (feq hc3).2) (by decide) (by decide) (XS.iconst X1.here hx rfl (hb hby d8_12) k)) ?_
    exact own_retN X1 hx Bd.notSynchronized (t := .boolean) (w := (0 : Int32)) Bd.returns (by simp) (hb hby d8_13) e1 rfl ⟨rfl, N0, rfl⟩ (by decide) (by decide)
  · skip
    refine own_go (fun _ k => X1.arraylength hx (own_hc e1 Ar2.1) (State.isArrayOf_alike hZ.alike Ar2.2.1) (g := (mkF m 4 #[.val (.ref a1)] [(.ref t)])) rfl rfl (hb hby d8_4) _ k) ?_
    rw [show cl2.slots.size.toInt32 = (6 : Int32) from by rw [hs2]; rfl]
    show own_Fin _ _ _ _ _ _ _ (T1.setTop (mkF m 5 #[.val (.ref a1)] [(.int (6 : Int32))]))
    have hc4 : ¬ ((6 : Int32) = (0 : Int32)) := by decide
    refine own_go (B := T1.setTop (mkF m 13 #[.val (.ref a1)] [(.int (0 : Int32))])) (fun _ k => XS.ifYes X1.here hx rfl (pc0 := 5) (pc' := 12) rfl (hb hby d8_5) rfl ((if0 _ _).trans (feq hc4).2) (by decide) (by decide) (XS.iconst X1.here hx rfl (hb hby d8_12) k)) ?_
    exact own_retN X1 hx Bd.notSynchronized (t := .boolean) (w := (0 : Int32)) Bd.returns (by simp) (hb hby d8_13) e1 rfl ⟨rfl, N0, rfl⟩ (by decide) (by decide)
abbrev R_own_canE : Room := { frames := 0, cells := 0, slots := 0, locals := 0 }
theorem d12_0 : decode jdk_43_method_3_code 0 = .ok (.iload_n 0, 1) := by decide +kernel
theorem d12_1 : decode jdk_43_method_3_code 1 = .ok (.sipush 255, 3) := by decide +kernel
theorem d12_4 : decode jdk_43_method_3_code 4 = .ok (.if_icmp .gt 7, 3) := by decide +kernel
theorem d12_7 : decode jdk_43_method_3_code 7 = .ok (.iconst 1, 1) := by decide +kernel
theorem d12_8 : decode jdk_43_method_3_code 8 = .ok (.goto 4, 3) := by decide +kernel
theorem d12_12 : decode jdk_43_method_3_code 12 = .ok (.ireturn, 1) := by decide +kernel
theorem own_pn2 : plainName "java/lang/StringLatin1" = true := by first | (simp [plainName, overriddenIn]; done) | decide +kernel
theorem ef_own_canE (m : MethodId) (x0 : Int32) : entryFrame m #[(.int x0)] 1 = mkF m 0 #[.val (.int x0)] [] := by first | (simp [entryFrame, mkF, argsToLocals, Value.category]; done) | rfl
set_option maxRecDepth 65536 in
set_option maxHeartbeats 4000000 in
theorem own_pl_canE_1 (p1 : Int32) (hhi : p1.toInt ≤ 255) : ¬ ((255 : Int32) < p1) := by
  have := rng32 p1
  try simp only [own_i32_255] at *
  have := own_i32_255
  try simp only [Int32.lt_iff_toInt_lt, Int32.le_iff_toInt_le, Int64.lt_iff_toInt_lt, Int64.le_iff_toInt_le, ← Int32.toInt_inj, ← Int64.toInt_inj, true_and, and_true, true_or, or_true, false_or, or_false, not_true_eq_false, not_false_eq_true, false_and, and_false, ne_eq] at *
  all_goals first | omega | (simp; done)
def Q_own_canE (Z : State) (p1 : Int32) (h0 : Heap) (n0 : Nat) (v : Option Value) (h : Heap) (L : List Loc) : Prop := v = some (.int (1 : Int32)) ∧ Fr n0 L ∧ h = h0
set_option maxRecDepth 65536 in
set_option maxHeartbeats 400000000 in
theorem own_canE (l : Launch) (Z : State) (a0 : Array Value) (hw : ∀ d ∈ tables_1, d.before a0 Z = true) (ws : List Jvm.Cond) (p1 : Int32) (h0 : Heap) (n0 : Nat) (Z0 : n0 ≤ h0.size) (hhi : p1.toInt ≤ 255) :
    MetFree l (⟨"java/lang/StringLatin1", "canEncode", "(C)Z"⟩ : MethodName) (head1 (Jvm.Cond.code (⟨"java/lang/StringLatin1", "canEncode", "(C)Z"⟩ : MethodName) jdk_43_method_3_code 1 (some .boolean) :: ws) R_own_canE) (fun a U => a = #[(.int p1)] ∧ Z.Warmed39 U.vm ∧ U.heap = h0) (fun _ _ _ _ _ => True) (fun _ U o U' => ∃ v L, o = .returned v ∧ Q_own_canE Z p1 h0 n0 v U'.heap L ∧ FrameEnd U o U' L R_own_canE.cells R_own_canE.slots) := by
  refine MetFree.of_bodySF (plainFor_of_name own_pn2) hisR ?_
  intro p e s m args below meth c s₁ Bd hml0 hP hK
  obtain ⟨rfl, hZ, hh⟩ := hP
  have hx := Bd.exec
  have hby := Bd.bytes
  have hml : c.maxLocals = 1 := hml0
  have hown : s.vm.findClass "java/lang/StringLatin1" = some m.cls := findClass_of_methodNamed Bd.named
  have hnm := (name_of_methodNamed Bd.named Bd.method).1
  have X0 : Stand p l e R_own_canE s m #[(.int p1)] below meth c s₁ [] 0 0 := Stand.of_body Bd
  have e0 : s₁.heap = h0 := by rw [← hh, Bd.state]; rfl
  have N0 := Fr.nil n0
  have K0 : Keep h0 h0 [] := Keep.refl h0 []
  show own_Fin p e below s (Q_own_canE Z p1 h0 n0) R_own_canE.cells R_own_canE.slots (s₁.setTop (entryFrame m #[(.int p1)] 1))
  refine own_go (fun _ k => castTop (ef_own_canE m p1) k) ?_
  show own_Fin _ _ _ _ _ _ _ (s₁.setTop (mkF m 0 #[.val (.int p1)] []))
  refine own_go (B := s₁.setTop (mkF m 4 #[.val (.int p1)] [(.int (255 : Int32)), (.int p1)])) (fun _ k => XS.iloadN X0.here hx rfl (hb hby d12_0) rfl  (XS.sipush X0.here hx rfl (hb hby d12_1) k)) ?_
  have hc1 : ¬ ((255 : Int32) < p1) := (own_pl_canE_1 p1 hhi)
  refine own_go (B := s₁.setTop (mkF m 12 #[.val (.int p1)] [(.int (1 : Int32))])) (fun _ k => XS.icmpNo X0.here hx rfl (hb hby d12_4) rfl (flt hc1).2.2.1 (XS.iconst X0.here hx rfl (hb hby d12_7) (XS.goto X0.here hx rfl (pc0 := 8) (pc' := 12) rfl (hb hby d12_8) (by decide) (by decide) k))) ?_
  exact own_retN X0 hx Bd.notSynchronized (t := .boolean) (w := (1 : Int32)) Bd.returns (by simp) (hb hby d12_12) e0 rfl ⟨rfl, N0, rfl⟩ (by decide) (by decide)
abbrev R_own_toB : Room := { frames := 0, cells := 1, slots := 1, locals := 0 }
theorem d13_0 : decode jdk_43_method_46_code 0 = .ok (.iconst 1, 1) := by decide +kernel
theorem d13_1 : decode jdk_43_method_46_code 1 = .ok (.newarray .byte, 2) := by decide +kernel
theorem d13_3 : decode jdk_43_method_46_code 3 = .ok (.dup, 1) := by decide +kernel
theorem d13_4 : decode jdk_43_method_46_code 4 = .ok (.iconst 0, 1) := by decide +kernel
theorem d13_5 : decode jdk_43_method_46_code 5 = .ok (.iload_n 0, 1) := by decide +kernel
theorem d13_6 : decode jdk_43_method_46_code 6 = .ok (.i2b, 1) := by decide +kernel
theorem d13_7 : decode jdk_43_method_46_code 7 = .ok (.bastore, 1) := by decide +kernel
theorem d13_8 : decode jdk_43_method_46_code 8 = .ok (.areturn, 1) := by decide +kernel
theorem ef_own_toB (m : MethodId) (x0 : Int32) : entryFrame m #[(.int x0)] 1 = mkF m 0 #[.val (.int x0)] [] := by first | (simp [entryFrame, mkF, argsToLocals, Value.category]; done) | rfl
def Q_own_toB (Z : State) (p1 : Int32) (h0 : Heap) (n0 : Nat) (v : Option Value) (h : Heap) (L : List Loc) : Prop := ∃ b : Addr, ∃ kb : ClassId, v = some (.ref b) ∧ Fr n0 L ∧ Keep h0 h [] ∧ Arv Z h b kb .byte (1 : Int32) [(.int (p1.toInt8.toInt32))] (.int (0 : Int32)) ∧ (h0.size ≤ b)
set_option maxRecDepth 65536 in
set_option maxHeartbeats 400000000 in
theorem own_toB (l : Launch) (Z : State) (a0 : Array Value) (hw : ∀ d ∈ tables_1, d.before a0 Z = true) (ws : List Jvm.Cond) (p1 : Int32) (h0 : Heap) (n0 : Nat) (Z0 : n0 ≤ h0.size)  :
    MetFree l (⟨"java/lang/StringLatin1", "toBytes", "(C)[B"⟩ : MethodName) (head1 (Jvm.Cond.code (⟨"java/lang/StringLatin1", "toBytes", "(C)[B"⟩ : MethodName) jdk_43_method_46_code 1 (some (.array .byte)) :: ws) R_own_toB) (fun a U => a = #[(.int p1)] ∧ Z.Warmed39 U.vm ∧ U.heap = h0) (fun _ _ _ _ _ => True) (fun _ U o U' => ∃ v L, o = .returned v ∧ Q_own_toB Z p1 h0 n0 v U'.heap L ∧ FrameEnd U o U' L R_own_toB.cells R_own_toB.slots) := by
  refine MetFree.of_bodySF (plainFor_of_name own_pn2) hisR ?_
  intro p e s m args below meth c s₁ Bd hml0 hP hK
  obtain ⟨rfl, hZ, hh⟩ := hP
  have hx := Bd.exec
  have hby := Bd.bytes
  have hml : c.maxLocals = 1 := hml0
  have hown : s.vm.findClass "java/lang/StringLatin1" = some m.cls := findClass_of_methodNamed Bd.named
  have hnm := (name_of_methodNamed Bd.named Bd.method).1
  have X0 : Stand p l e R_own_toB s m #[(.int p1)] below meth c s₁ [] 0 0 := Stand.of_body Bd
  have e0 : s₁.heap = h0 := by rw [← hh, Bd.state]; rfl
  have N0 := Fr.nil n0
  have K0 : Keep h0 h0 [] := Keep.refl h0 []
  show own_Fin p e below s (Q_own_toB Z p1 h0 n0) R_own_toB.cells R_own_toB.slots (s₁.setTop (entryFrame m #[(.int p1)] 1))
  refine own_go (fun _ k => castTop (ef_own_toB m p1) k) ?_
  show own_Fin _ _ _ _ _ _ _ (s₁.setTop (mkF m 0 #[.val (.int p1)] []))
  refine own_go (B := s₁.setTop (mkF m 1 #[.val (.int p1)] [(.int (1 : Int32))])) (fun _ k => XS.iconst X0.here hx rfl (hb hby d13_0) k) ?_
  obtain ⟨T1, h1, kc1, X1, e1, E1, A1, st1⟩ := newP X0 hx hZ (own_w hw 20 rfl) e0 (g := (mkF m 1 #[.val (.int p1)] [(.int (1 : Int32))])) rfl (hb hby d13_1) rfl (by decide) (cap := 1) (by decide) (by decide) (by decide) (by decide)
  obtain ⟨b1, g1⟩ : ∃ z, z = h0.size := ⟨_, rfl⟩
  rw [← g1] at A1 st1
  have sz_b1 : h0.size ≤ b1 := Nat.le_trans K0.1 (Nat.le_of_eq g1.symm)
  have g_b1 : n0 ≤ b1 := Nat.le_trans Z0 sz_b1
  have V_b1 : Arv Z h1 b1 kc1 .byte (1 : Int32) [(.int (0 : Int32))] (.int (0 : Int32)) := (Arv.new A1 (by decide)).pad (pad_rep [] (.int (0 : Int32)) 1)
  have K3 : Keep h0 h1 [] := K0.ext E1
  refine own_go (B := T1.setTop (mkF m 3 #[.val (.int p1)] [(.ref b1)])) st1 ?_
  refine own_go (B := T1.setTop (mkF m 7 #[.val (.int p1)] [(.int (p1.toInt8.toInt32)), (.int (0 : Int32)), (.ref b1), (.ref b1)])) (fun _ k => XS.dup X1.here hx rfl (hb hby d13_3) rfl rfl (XS.iconst X1.here hx rfl (hb hby d13_4) (XS.iloadN X1.here hx rfl (hb hby d13_5) rfl  (XS.i2b X1.here hx rfl (hb hby d13_6) rfl k)))) ?_
  obtain ⟨cl4, Ar4, q4, S4, N4n, H4, G4⟩ := id V_b1
  have hin5 : ¬ ((0 : Int32) < 0 ∨ cl4.slots.size ≤ ((0 : Int32)).toNatClampNeg) := inb_of S4 ⟨by decide, by decide⟩
  obtain ⟨T5, h5, X5, e5, W5, st5⟩ := stB X1 hx hZ e1 Ar4 (j := (0 : Int32)) hin5 (g := (mkF m 7 #[.val (.int p1)] [(.int (p1.toInt8.toInt32)), (.int (0 : Int32)), (.ref b1), (.ref b1)])) rfl rfl (hb hby d13_7)
  rw [own_narb] at W5
  have V_b1_5 : Arv Z h5 b1 kc1 .byte (1 : Int32) [(.int (p1.toInt8.toInt32))] (.int (0 : Int32)) := Arv.set Ar4 q4 S4 N4n H4 G4 (fits_nar_byte _) W5 0 rfl (Nat.le_of_ble_eq_true rfl)
  have K8 : Keep h0 h5 [] := K3.wr W5 (Or.inr sz_b1)
  have N5 := Fr.snoc X5 N0 g_b1
  refine own_go (B := T5.setTop (mkF m 8 #[.val (.int p1)] [(.ref b1)])) st5 ?_
  exact own_retA X5 hx Bd.notSynchronized Bd.returns rfl rfl (hb hby d13_8) e5 ⟨b1, kc1, rfl, N5, K8, V_b1_5, sz_b1⟩ (by decide) (by decide)
abbrev R_own_strBB : Room := { frames := 1, cells := 0, slots := 0, locals := 12 }
theorem d14_0 : decode jdk_42_method_151_code 0 = .ok (.aload_n 0, 1) := by decide +kernel
theorem d14_1 : decode jdk_42_method_151_code 1 = .ok (.invokespecial 1, 3) := by decide +kernel
theorem d14_4 : decode jdk_42_method_151_code 4 = .ok (.aload_n 0, 1) := by decide +kernel
theorem d14_5 : decode jdk_42_method_151_code 5 = .ok (.aload_n 1, 1) := by decide +kernel
theorem d14_6 : decode jdk_42_method_151_code 6 = .ok (.putfield 9, 3) := by decide +kernel
theorem d14_9 : decode jdk_42_method_151_code 9 = .ok (.aload_n 0, 1) := by decide +kernel
theorem d14_10 : decode jdk_42_method_151_code 10 = .ok (.iload_n 2, 1) := by decide +kernel
theorem d14_11 : decode jdk_42_method_151_code 11 = .ok (.putfield 15, 3) := by decide +kernel
theorem d14_14 : decode jdk_42_method_151_code 14 = .ok (.return_, 1) := by decide +kernel
theorem ef_own_strBB (m : MethodId) (x0 : Addr) (x1 : Addr) : entryFrame m #[(.ref x0), (.ref x1), (.int (0 : Int32))] 3 = mkF m 0 #[.val (.ref x0), .val (.ref x1), .val (.int (0 : Int32))] [] := by first | (simp [entryFrame, mkF, argsToLocals, Value.category]; done) | rfl
def Q_own_strBB (Z : State) (a1 : Addr) (a2 : Addr) (h0 : Heap) (n0 : Nat) (v : Option Value) (h : Heap) (L : List Loc) : Prop := v = none ∧ Fr n0 L ∧ Keep h0 h [a1] ∧ Exa Z h a1 "java/lang/String" ∧ Fld Z h a1 "java/lang/String" "value" "[B" (.ref a2) ∧ Fld Z h a1 "java/lang/String" "coder" "B" (.int (0 : Int32))
set_option maxRecDepth 65536 in
set_option maxHeartbeats 400000000 in
theorem own_strBB (l : Launch) (Z : State) (a0 : Array Value) (hw : ∀ d ∈ tables_1, d.before a0 Z = true) (ws : List Jvm.Cond) (a1 : Addr) (a2 : Addr) (h0 : Heap) (n0 : Nat) (Z0 : n0 ≤ h0.size) (P_E_a1 : Exa Z h0 a1 "java/lang/String") (P_F_a1_value : Fld Z h0 a1 "java/lang/String" "value" "[B" .null) (P_F_a1_coder : Fld Z h0 a1 "java/lang/String" "coder" "B" (.int (0 : Int32))) (g_a1 : n0 ≤ a1) :
    MetFree l (⟨"java/lang/String", "<init>", "([BB)V"⟩ : MethodName) (head1 (Jvm.Cond.code (⟨"java/lang/String", "<init>", "([BB)V"⟩ : MethodName) jdk_42_method_151_code 3 none :: ws) R_own_strBB) (fun a U => a = #[(.ref a1), (.ref a2), (.int (0 : Int32))] ∧ Z.Warmed39 U.vm ∧ U.heap = h0) (fun _ _ _ _ _ => True) (fun _ U o U' => ∃ v L, o = .returned v ∧ Q_own_strBB Z a1 a2 h0 n0 v U'.heap L ∧ FrameEnd U o U' L R_own_strBB.cells R_own_strBB.slots) := by
  refine MetFree.of_bodySF (plainFor_of_name own_pn1) hisR ?_
  intro p e s m args below meth c s₁ Bd hml0 hP hK
  obtain ⟨rfl, hZ, hh⟩ := hP
  have hx := Bd.exec
  have hby := Bd.bytes
  have hml : c.maxLocals = 3 := hml0
  have hown : s.vm.findClass "java/lang/String" = some m.cls := findClass_of_methodNamed Bd.named
  have hnm := (name_of_methodNamed Bd.named Bd.method).1
  have X0 : Stand p l e R_own_strBB s m #[(.ref a1), (.ref a2), (.int (0 : Int32))] below meth c s₁ [] 0 0 := Stand.of_body Bd
  have e0 : s₁.heap = h0 := by rw [← hh, Bd.state]; rfl
  have N0 := Fr.nil n0
  have K0 : Keep h0 h0 [a1] := Keep.refl h0 [a1]
  show own_Fin p e below s (Q_own_strBB Z a1 a2 h0 n0) R_own_strBB.cells R_own_strBB.slots (s₁.setTop (entryFrame m #[(.ref a1), (.ref a2), (.int (0 : Int32))] 3))
  refine own_go (fun _ k => castTop (ef_own_strBB m a1 a2) k) ?_
  show own_Fin _ _ _ _ _ _ _ (s₁.setTop (mkF m 0 #[.val (.ref a1), .val (.ref a2), .val (.int (0 : Int32))] []))
  refine own_go (B := s₁.setTop (mkF m 1 #[.val (.ref a1), .val (.ref a2), .val (.int (0 : Int32))] [(.ref a1)])) (fun _ k => XS.aloadN X0.here hx rfl (hb hby d14_0) rfl rfl k) ?_
  obtain ⟨T1, X1, e1, st1⟩ := initO X0 hx hZ hown (own_w hw 12 rfl) (own_w hw 13 rfl) (own_w hw 14 rfl) e0 (g := (mkF m 1 #[.val (.ref a1), .val (.ref a2), .val (.int (0 : Int32))] [(.ref a1)])) rfl (by rw [hml]; rfl) rfl (hb hby d14_1) (by decide) (W := 0) (by show 2 * 0 + _ ≤ _; exact Nat.le_of_eq rfl) (by decide)
  refine own_go (B := T1.setTop (mkF m 4 #[.val (.ref a1), .val (.ref a2), .val (.int (0 : Int32))] [])) st1 ?_
  refine own_go (B := T1.setTop (mkF m 6 #[.val (.ref a1), .val (.ref a2), .val (.int (0 : Int32))] [(.ref a2), (.ref a1)])) (fun _ k => XS.aloadN X1.here hx rfl (hb hby d14_4) rfl rfl (XS.aloadN X1.here hx rfl (hb hby d14_5) rfl rfl k)) ?_
  obtain ⟨T2, h2, X2, e2, W2, st2⟩ := putF X1 hx hZ hown (host := "") (Or.inl (own_w hw 29 rfl)) Via.refl e1 P_F_a1_value P_E_a1 (Or.inr ⟨(own_w hw 30 rfl), rfl, hnm⟩) (own_w hw 2 rfl) (ty := (.array .byte)) (by decide) rfl rfl (g := (mkF m 6 #[.val (.ref a1), .val (.ref a2), .val (.int (0 : Int32))] [(.ref a2), (.ref a1)])) rfl rfl (hb hby d14_6)
  have F_w2 : Fld Z h2 a1 "java/lang/String" "value" "[B" (.ref a2) := P_F_a1_value.same W2
  have E_4 := P_E_a1.wr W2
  have F_6 := P_F_a1_coder.other W2 (Or.inr (slot_ne (Or.inr (own_w hw 28 rfl)) (Or.inr (own_w hw 30 rfl)) (by decide) (t := .byte) (t' := (.array .byte)) (by decide) (by decide)))
  have K7 : Keep h0 h2 [a1] := K0.wr W2 (Or.inl (List.mem_of_getElem? (i := 0) rfl))
  have N2 := Fr.snoc X2 N0 g_a1
  refine own_go (B := T2.setTop (mkF m 9 #[.val (.ref a1), .val (.ref a2), .val (.int (0 : Int32))] [])) st2 ?_
  refine own_go (B := T2.setTop (mkF m 11 #[.val (.ref a1), .val (.ref a2), .val (.int (0 : Int32))] [(.int (0 : Int32)), (.ref a1)])) (fun _ k => XS.aloadN X2.here hx rfl (hb hby d14_9) rfl rfl (XS.iloadN X2.here hx rfl (hb hby d14_10) rfl  k)) ?_
  obtain ⟨T8, h8, X8, e8, W8, st8⟩ := putFN X2 hx hZ hown (own_w hw 27 rfl) Via.refl e2 F_6 E_4 (Or.inr ⟨(own_w hw 28 rfl), rfl, hnm⟩) (own_w hw 2 rfl) (ty := .byte) (v' := (.int (0 : Int32))) (by decide) rfl rfl (g := (mkF m 11 #[.val (.ref a1), .val (.ref a2), .val (.int (0 : Int32))] [(.int (0 : Int32)), (.ref a1)])) rfl rfl (hb hby d14_11)
  have F_w8 : Fld Z h8 a1 "java/lang/String" "coder" "B" (.int (0 : Int32)) := F_6.same W8
  have E_10 := E_4.wr W8
  have F_12 := F_w2.other W8 (Or.inr (slot_ne (Or.inr (own_w hw 30 rfl)) (Or.inr (own_w hw 28 rfl)) (by decide) (t := (.array .byte)) (t' := .byte) (by decide) (by decide)))
  have K13 : Keep h0 h8 [a1] := K7.wr W8 (Or.inl (List.mem_of_getElem? (i := 0) rfl))
  have N8 := Fr.snoc X8 N2 g_a1
  refine own_go (B := T8.setTop (mkF m 14 #[.val (.ref a1), .val (.ref a2), .val (.int (0 : Int32))] [])) st8 ?_
  exact own_retV X8 hx Bd.notSynchronized Bd.returns (hb hby d14_14) e8 ⟨rfl, N8, K13, E_10, F_12, F_w8⟩ (by decide) (by decide)
abbrev R_own_valC : Room := { frames := 2, cells := 2, slots := 5, locals := 27 }
theorem d11_0 : decode jdk_42_method_139_code 0 = .ok (.getstatic 38, 3) := by decide +kernel
theorem d11_3 : decode jdk_42_method_139_code 3 = .ok (.ifCond .eq 23, 3) := by decide +kernel
theorem d11_6 : decode jdk_42_method_139_code 6 = .ok (.iload_n 0, 1) := by decide +kernel
theorem d11_7 : decode jdk_42_method_139_code 7 = .ok (.invokestatic 1015, 3) := by decide +kernel
theorem d11_10 : decode jdk_42_method_139_code 10 = .ok (.ifCond .eq 16, 3) := by decide +kernel
theorem d11_13 : decode jdk_42_method_139_code 13 = .ok (.new 10, 3) := by decide +kernel
theorem d11_16 : decode jdk_42_method_139_code 16 = .ok (.dup, 1) := by decide +kernel
theorem d11_17 : decode jdk_42_method_139_code 17 = .ok (.iload_n 0, 1) := by decide +kernel
theorem d11_18 : decode jdk_42_method_139_code 18 = .ok (.invokestatic 1018, 3) := by decide +kernel
theorem d11_21 : decode jdk_42_method_139_code 21 = .ok (.iconst 0, 1) := by decide +kernel
theorem d11_22 : decode jdk_42_method_139_code 22 = .ok (.invokespecial 209, 3) := by decide +kernel
theorem d11_25 : decode jdk_42_method_139_code 25 = .ok (.areturn, 1) := by decide +kernel
theorem ef_own_valC (m : MethodId) (x0 : Int32) : entryFrame m #[(.int x0)] 1 = mkF m 0 #[.val (.int x0)] [] := by first | (simp [entryFrame, mkF, argsToLocals, Value.category]; done) | rfl
def Q_own_valC (Z : State) (p1 : Int32) (cs : Int32) (h0 : Heap) (n0 : Nat) (v : Option Value) (h : Heap) (L : List Loc) : Prop := ∃ b : Addr, ∃ t : Addr, ∃ kt : ClassId, v = some (.ref b) ∧ Fr n0 L ∧ Keep h0 h [] ∧ Exa Z h b "java/lang/String" ∧ Fld Z h b "java/lang/String" "value" "[B" (.ref t) ∧ Fld Z h b "java/lang/String" "coder" "B" (.int (0 : Int32)) ∧ Arv Z h t kt .byte (1 : Int32) [(.int (p1.toInt8.toInt32))] (.int (0 : Int32)) ∧ (h0.size ≤ b) ∧ (h0.size ≤ t)
set_option maxRecDepth 65536 in
set_option maxHeartbeats 400000000 in
theorem own_valC (l : Launch) (Z : State) (a0 : Array Value) (hw : ∀ d ∈ tables_1, d.before a0 Z = true) (ws : List Jvm.Cond) (p1 : Int32) (cs : Int32) (h0 : Heap) (n0 : Nat) (Z0 : n0 ≤ h0.size) (P_S_java_lang_String_COMPACT_STRINGS : Sta Z h0 "java/lang/String" "COMPACT_STRINGS" "Z" (.int cs)) (hcs : ¬ (cs = (0 : Int32))) (hhi : p1.toInt ≤ 255) :
    MetFree l (⟨"java/lang/String", "valueOf", "(C)Ljava/lang/String;"⟩ : MethodName) (head1 (Jvm.Cond.code (⟨"java/lang/String", "valueOf", "(C)Ljava/lang/String;"⟩ : MethodName) jdk_42_method_139_code 1 (some (.object "java/lang/String")) :: ws) R_own_valC) (fun a U => a = #[(.int p1)] ∧ Z.Warmed39 U.vm ∧ U.heap = h0) (fun _ _ _ _ _ => True) (fun _ U o U' => ∃ v L, o = .returned v ∧ Q_own_valC Z p1 cs h0 n0 v U'.heap L ∧ FrameEnd U o U' L R_own_valC.cells R_own_valC.slots) := by
  refine MetFree.of_bodySF (plainFor_of_name own_pn1) hisR ?_
  intro p e s m args below meth c s₁ Bd hml0 hP hK
  obtain ⟨rfl, hZ, hh⟩ := hP
  have hx := Bd.exec
  have hby := Bd.bytes
  have hml : c.maxLocals = 1 := hml0
  have hown : s.vm.findClass "java/lang/String" = some m.cls := findClass_of_methodNamed Bd.named
  have hnm := (name_of_methodNamed Bd.named Bd.method).1
  have X0 : Stand p l e R_own_valC s m #[(.int p1)] below meth c s₁ [] 0 0 := Stand.of_body Bd
  have e0 : s₁.heap = h0 := by rw [← hh, Bd.state]; rfl
  have N0 := Fr.nil n0
  have K0 : Keep h0 h0 [] := Keep.refl h0 []
  show own_Fin p e below s (Q_own_valC Z p1 cs h0 n0) R_own_valC.cells R_own_valC.slots (s₁.setTop (entryFrame m #[(.int p1)] 1))
  refine own_go (fun _ k => castTop (ef_own_valC m p1) k) ?_
  show own_Fin _ _ _ _ _ _ _ (s₁.setTop (mkF m 0 #[.val (.int p1)] []))
  obtain ⟨T1, X1, e1, st1⟩ := getS2 X0 hx hZ hown (host := "") (Or.inl (own_w hw 15 rfl)) Via.refl e0 P_S_java_lang_String_COMPACT_STRINGS (g := (mkF m 0 #[.val (.int p1)] [])) rfl (hb hby d11_0)
  refine own_go (B := T1.setTop (mkF m 3 #[.val (.int p1)] [(.int cs)])) st1 ?_
  refine own_go (B := T1.setTop (mkF m 7 #[.val (.int p1)] [(.int p1)])) (fun _ k => XS.ifNo X1.here hx rfl (hb hby d11_3) rfl ((if0 _ _).trans (feq hcs).1) (XS.iloadN X1.here hx rfl (hb hby d11_6) rfl  k)) ?_
  obtain ⟨_, _, ⟨T2, L2, k2, n2⟩, -, X2, ⟨Lc2, hQ2, l2, y2, z2⟩, st2⟩ := Jvm.LawKit.callS X1 hx (y := (⟨"java/lang/StringLatin1", "canEncode", "(C)Z"⟩ : MethodName)) hown (mvT hZ (own_w hw 57 rfl)) (mvT hZ (own_w hw 58 rfl)) (mvT hZ (own_w hw 59 rfl)) (mvT hZ (own_w hw 60 rfl)) (by decide) (backOf (W := 0) (own_canE l Z a0 hw [] p1 h0 n0 (Nat.le_trans Z0 K0.1) hhi) hZ (own_w hw 60 rfl) (own_w hw 59 rfl) (by decide) (by decide)) (g := (mkF m 7 #[.val (.int p1)] [(.int p1)])) rfl (by rw [hml]; rfl) (argsL := [(.int p1)]) (rest := []) (lenOf own_pd9 rfl) rfl (by show 2 * 0 + _ ≤ _; exact Nat.le_of_eq rfl) (hb hby d11_7) (fun _ _ => ⟨rfl, e1, (by decide : 0 + 0 ≤ _), (by decide : 0 + 0 ≤ _)⟩)
  dsimp only [Pt.U, Pt.locs, Pt.cells, Pt.slots] at X2 l2 y2 z2 st2 hQ2
  subst l2 y2 z2
  obtain ⟨rfl, N2q, e2⟩ := hQ2
  have N2 := Fr.app N0 N2q
  refine own_go (B := T2.setTop (mkF m 10 #[.val (.int p1)] [(.int (1 : Int32))])) st2 ?_
  have hc3 : ¬ ((1 : Int32) = (0 : Int32)) := by decide
  refine own_go (B := T2.setTop (mkF m 13 #[.val (.int p1)] [])) (fun _ k => XS.ifNo X2.here hx rfl (hb hby d11_10) rfl ((if0 _ _).trans (feq hc3).1) k) ?_
  obtain ⟨T4, h4, X4, e4, E4, A4, D4, -, st4⟩ := newO X2 hx hZ hown (own_w hw 61 rfl) (own_w hw 2 rfl) (own_w hw 3 rfl) e2 (g := (mkF m 13 #[.val (.int p1)] [])) rfl (hb hby d11_13) (by decide) (by decide)
  obtain ⟨b4, g4⟩ : ∃ z, z = h0.size := ⟨_, rfl⟩
  rw [← g4] at A4 D4 st4
  have sz_b4 : h0.size ≤ b4 := Nat.le_trans K0.1 (Nat.le_of_eq g4.symm)
  have g_b4 : n0 ≤ b4 := Nat.le_trans Z0 sz_b4
  have S_6 := P_S_java_lang_String_COMPACT_STRINGS.ext E4
  have F_coder_b4 : Fld Z h4 b4 "java/lang/String" "coder" "B" (.int (0 : Int32)) := D4 (Or.inr (own_w hw 28 rfl)) (ty := .byte) (by decide)
  have F_value_b4 : Fld Z h4 b4 "java/lang/String" "value" "[B" .null := D4 (Or.inr (own_w hw 30 rfl)) (ty := (.array .byte)) (by decide)
  have K7 : Keep h0 h4 [] := K0.ext E4
  refine own_go (B := T4.setTop (mkF m 16 #[.val (.int p1)] [(.ref b4)])) st4 ?_
  refine own_go (B := T4.setTop (mkF m 18 #[.val (.int p1)] [(.int p1), (.ref b4), (.ref b4)])) (fun _ k => XS.dup X4.here hx rfl (hb hby d11_16) rfl rfl (XS.iloadN X4.here hx rfl (hb hby d11_17) rfl  k)) ?_
  obtain ⟨_, _, ⟨T8, L8, k8, n8⟩, -, X8, ⟨Lc8, hQ8, l8, y8, z8⟩, st8⟩ := Jvm.LawKit.callS X4 hx (y := (⟨"java/lang/StringLatin1", "toBytes", "(C)[B"⟩ : MethodName)) hown (mvT hZ (own_w hw 62 rfl)) (mvT hZ (own_w hw 63 rfl)) (mvT hZ (own_w hw 59 rfl)) (mvT hZ (own_w hw 64 rfl)) (by decide) (backOf (W := 2) (own_toB l Z a0 hw [] p1 h4 n0 (Nat.le_trans Z0 K7.1) ) hZ (own_w hw 64 rfl) (own_w hw 59 rfl) (by decide) (by decide)) (g := (mkF m 18 #[.val (.int p1)] [(.int p1), (.ref b4), (.ref b4)])) rfl (by rw [hml]; rfl) (argsL := [(.int p1)]) (rest := [(.ref b4), (.ref b4)]) (lenOf own_pd10 rfl) rfl (by show 2 * 0 + _ ≤ _; exact Nat.le_of_eq rfl) (hb hby d11_18) (fun _ _ => ⟨rfl, e4, (by decide : 1 + 1 ≤ _), (by decide : 4 + 1 ≤ _)⟩)
  dsimp only [Pt.U, Pt.locs, Pt.cells, Pt.slots] at X8 l8 y8 z8 st8 hQ8
  subst l8 y8 z8
  obtain ⟨b_8, kb_8, rfl, N8q, K8q, Q8_0, x8_0⟩ := hQ8
  have N8 := Fr.app N2 N8q
  have ne_b4_b_8_9 : b4 ≠ b_8 := Nat.ne_of_lt (Nat.lt_of_lt_of_le A4.lt x8_0)
  have sz_b_8 : h0.size ≤ b_8 := Nat.le_trans K7.1 x8_0
  have g_b_8 : n0 ≤ b_8 := Nat.le_trans Z0 sz_b_8
  have S_11 := own_Sta_keep S_6 K8q all0
  have E_12 := A4.keep K8q
  have F_13 := F_coder_b4.keep K8q nin0
  have F_14 := F_value_b4.keep K8q nin0
  have K15 : Keep h0 T8.heap [] := K7.trans K8q all0
  refine own_go (B := T8.setTop (mkF m 21 #[.val (.int p1)] [(.ref b_8), (.ref b4), (.ref b4)])) st8 ?_
  refine own_go (B := T8.setTop (mkF m 22 #[.val (.int p1)] [(.int (0 : Int32)), (.ref b_8), (.ref b4), (.ref b4)])) (fun _ k => XS.iconst X8.here hx rfl (hb hby d11_21) k) ?_
  obtain ⟨_, _, ⟨T16, L16, k16, n16⟩, -, X16, ⟨Lc16, hQ16, l16, y16, z16⟩, st16⟩ := X8.specialBack hx (y := (⟨"java/lang/String", "<init>", "([BB)V"⟩ : MethodName)) rfl hown (mvT hZ (own_w hw 65 rfl)) (mvT hZ (own_w hw 66 rfl)) (mvT hZ (own_w hw 67 rfl)) (by decide) (backOf (W := 1) (own_strBB l Z a0 hw [] b4 b_8 T8.heap n0 (Nat.le_trans Z0 K15.1) E_12 F_14 F_13 g_b4) hZ (own_w hw 67 rfl) (own_w hw 3 rfl) (by decide) (by decide)) (g := (mkF m 22 #[.val (.int p1)] [(.int (0 : Int32)), (.ref b_8), (.ref b4), (.ref b4)])) rfl (by rw [hml]; rfl) (Steps.refl _) (a := b4) (argsL := [(.ref b_8), (.int (0 : Int32))]) (rest := [(.ref b4)]) (lenOf own_pd11 rfl) rfl (by show 2 * 0 + _ ≤ _; exact Nat.le_of_eq rfl) (hb hby d11_22) (fun _ _ => ⟨rfl, rfl, (by decide : 2 + 0 ≤ _), (by decide : 5 + 0 ≤ _)⟩)
  dsimp only [Pt.U, Pt.locs, Pt.cells, Pt.slots] at X16 l16 y16 z16 st16 hQ16
  subst l16 y16 z16
  obtain ⟨rfl, N16q, K16q, Q16_0, Q16_1, Q16_2⟩ := hQ16
  have N16 := Fr.app N8 N16q
  have S_18 := own_Sta_keep S_11 K16q (allS (own_plain E_12) all0)
  have V_22 := Q8_0.keep K16q (ninS (Ne.symm ne_b4_b_8_9) nin0)
  have K23 : Keep h0 T16.heap [] := K15.trans K16q (allS (Or.inr sz_b4) all0)
  refine own_go (B := T16.setTop (mkF m 25 #[.val (.int p1)] [(.ref b4)])) (fun _ k => st16.trans k) ?_
  exact own_retA X16 hx Bd.notSynchronized Bd.returns rfl rfl (hb hby d11_25) rfl ⟨b4, b_8, kb_8, rfl, N16, K23, Q16_0, Q16_1, Q16_2, V_22, sz_b4, sz_b_8⟩ (by decide) (by decide)
abbrev R_own_chk1 : Room := { frames := 1, cells := 0, slots := 0, locals := 12 }
theorem d7_0 : decode prog_42_method_2_code 0 = .ok (.aload_n 1, 1) := by decide +kernel
theorem d7_1 : decode prog_42_method_2_code 1 = .ok (.invokevirtual 97, 3) := by decide +kernel
theorem d7_4 : decode prog_42_method_2_code 4 = .ok (.ifCond .eq 17, 3) := by decide +kernel
theorem d7_21 : decode prog_42_method_2_code 21 = .ok (.aload_n 1, 1) := by decide +kernel
theorem d7_22 : decode prog_42_method_2_code 22 = .ok (.areturn, 1) := by decide +kernel
theorem own_pn3 : plainName "com/example/rate_to_limit/ratetolimit/balance/PolicyCounter" = true := by first | (simp [plainName, overriddenIn]; done) | decide +kernel
theorem ef_own_chk1 (m : MethodId) (x0 : Addr) (x1 : Addr) : entryFrame m #[(.ref x0), (.ref x1)] 2 = mkF m 0 #[.val (.ref x0), .val (.ref x1)] [] := by first | (simp [entryFrame, mkF, argsToLocals, Value.category]; done) | rfl
def Q_own_chk1 (Z : State) (a1 : Addr) (a2 : Addr) (t : Addr) (cd : Int32) (h0 : Heap) (n0 : Nat) (v : Option Value) (h : Heap) (L : List Loc) : Prop := v = some (.ref a2) ∧ Fr n0 L ∧ h = h0
set_option maxRecDepth 65536 in
set_option maxHeartbeats 400000000 in
theorem own_chk1 (l : Launch) (Z : State) (a0 : Array Value) (hw : ∀ d ∈ tables_1, d.before a0 Z = true) (ws : List Jvm.Cond) (a1 : Addr) (a2 : Addr) (t : Addr) (cd : Int32) (h0 : Heap) (n0 : Nat) (Z0 : n0 ≤ h0.size) (P_E_a2 : Exa Z h0 a2 "java/lang/String") (P_F_a2_value : Fld Z h0 a2 "java/lang/String" "value" "[B" (.ref t)) (P_G_t_sz : own_Sz Z h0 t cd 1) :
    MetFree l (⟨"com/example/rate_to_limit/ratetolimit/balance/PolicyCounter", "checkedStatus", "(Ljava/lang/String;Ljava/lang/String;)Ljava/lang/String;"⟩ : MethodName) (head1 (Jvm.Cond.code (⟨"com/example/rate_to_limit/ratetolimit/balance/PolicyCounter", "checkedStatus", "(Ljava/lang/String;Ljava/lang/String;)Ljava/lang/String;"⟩ : MethodName) prog_42_method_2_code 2 (some (.object "java/lang/String")) :: ws) R_own_chk1) (fun a U => a = #[(.ref a1), (.ref a2)] ∧ Z.Warmed39 U.vm ∧ U.heap = h0) (fun _ _ _ _ _ => True) (fun _ U o U' => ∃ v L, o = .returned v ∧ Q_own_chk1 Z a1 a2 t cd h0 n0 v U'.heap L ∧ FrameEnd U o U' L R_own_chk1.cells R_own_chk1.slots) := by
  refine MetFree.of_bodySF (plainFor_of_name own_pn3) hisR ?_
  intro p e s m args below meth c s₁ Bd hml0 hP hK
  obtain ⟨rfl, hZ, hh⟩ := hP
  have hx := Bd.exec
  have hby := Bd.bytes
  have hml : c.maxLocals = 2 := hml0
  have hown : s.vm.findClass "com/example/rate_to_limit/ratetolimit/balance/PolicyCounter" = some m.cls := findClass_of_methodNamed Bd.named
  have hnm := (name_of_methodNamed Bd.named Bd.method).1
  have X0 : Stand p l e R_own_chk1 s m #[(.ref a1), (.ref a2)] below meth c s₁ [] 0 0 := Stand.of_body Bd
  have e0 : s₁.heap = h0 := by rw [← hh, Bd.state]; rfl
  have N0 := Fr.nil n0
  have K0 : Keep h0 h0 [] := Keep.refl h0 []
  show own_Fin p e below s (Q_own_chk1 Z a1 a2 t cd h0 n0) R_own_chk1.cells R_own_chk1.slots (s₁.setTop (entryFrame m #[(.ref a1), (.ref a2)] 2))
  refine own_go (fun _ k => castTop (ef_own_chk1 m a1 a2) k) ?_
  show own_Fin _ _ _ _ _ _ _ (s₁.setTop (mkF m 0 #[.val (.ref a1), .val (.ref a2)] []))
  refine own_go (B := s₁.setTop (mkF m 1 #[.val (.ref a1), .val (.ref a2)] [(.ref a2)])) (fun _ k => XS.aloadN X0.here hx rfl (hb hby d7_0) rfl rfl k) ?_
  obtain ⟨cq1, kq1, q1a, q1b, q1c⟩ := isOf hZ e0 P_E_a2
  obtain ⟨_, _, ⟨T1, L1, k1, n1⟩, -, X1, ⟨Lc1, hQ1, l1, y1, z1⟩, st1⟩ := X0.virtualBack hx (y := (⟨"java/lang/String", "isEmpty", "()Z"⟩ : MethodName)) (z := (⟨"java/lang/String", "isEmpty", "()Z"⟩ : MethodName)) hown (mvT hZ (own_w hw 39 rfl)) (mvT hZ (own_w hw 40 rfl)) (notFace_of_selects (args := #[]) (mvT hZ (own_w hw 42 rfl))) (mvT hZ (own_w hw 42 rfl)) (mvT hZ (own_w hw 41 rfl)) (by decide) (backOf (W := 0) (own_empA1 l Z a0 hw [] a2 t cd h0 n0 (Nat.le_trans Z0 K0.1) P_F_a2_value P_G_t_sz) hZ (own_w hw 43 rfl) (own_w hw 3 rfl) (by decide) (by decide)) q1a q1c (g := (mkF m 1 #[.val (.ref a1), .val (.ref a2)] [(.ref a2)])) rfl (by rw [hml]; rfl) (Steps.refl _) (argsL := []) (rest := []) (lenOf own_pd12 rfl) rfl (by show 2 * 0 + _ ≤ _; exact Nat.le_of_eq rfl) (hb hby d7_1) (fun _ _ => ⟨rfl, e0, (by decide : 0 + 0 ≤ _), (by decide : 0 + 0 ≤ _)⟩)
  dsimp only [Pt.U, Pt.locs, Pt.cells, Pt.slots] at X1 l1 y1 z1 st1 hQ1
  subst l1 y1 z1
  obtain ⟨rfl, N1q, e1⟩ := hQ1
  have N1 := Fr.app N0 N1q
  refine own_go (B := T1.setTop (mkF m 4 #[.val (.ref a1), .val (.ref a2)] [(.int (0 : Int32))])) (fun _ k => st1.trans k) ?_
  have hc2 : (0 : Int32) = (0 : Int32) := by decide
  refine own_go (B := T1.setTop (mkF m 22 #[.val (.ref a1), .val (.ref a2)] [(.ref a2)])) (fun _ k => XS.ifYes X1.here hx rfl (pc0 := 4) (pc' := 21) rfl (hb hby d7_4) rfl ((if0 _ _).trans (teq hc2).1) (by decide) (by decide) (XS.aloadN X1.here hx rfl (hb hby d7_21) rfl rfl k)) ?_
  exact own_retA X1 hx Bd.notSynchronized Bd.returns rfl rfl (hb hby d7_22) e1 ⟨rfl, N1, rfl⟩ (by decide) (by decide)
abbrev R_own_chk2 : Room := { frames := 1, cells := 0, slots := 0, locals := 12 }
theorem ef_own_chk2 (m : MethodId) (x0 : Addr) (x1 : Addr) : entryFrame m #[(.ref x0), (.ref x1)] 2 = mkF m 0 #[.val (.ref x0), .val (.ref x1)] [] := by first | (simp [entryFrame, mkF, argsToLocals, Value.category]; done) | rfl
def Q_own_chk2 (Z : State) (a1 : Addr) (a2 : Addr) (t : Addr) (cd : Int32) (h0 : Heap) (n0 : Nat) (v : Option Value) (h : Heap) (L : List Loc) : Prop := v = some (.ref a2) ∧ Fr n0 L ∧ h = h0
set_option maxRecDepth 65536 in
set_option maxHeartbeats 400000000 in
theorem own_chk2 (l : Launch) (Z : State) (a0 : Array Value) (hw : ∀ d ∈ tables_1, d.before a0 Z = true) (ws : List Jvm.Cond) (a1 : Addr) (a2 : Addr) (t : Addr) (cd : Int32) (h0 : Heap) (n0 : Nat) (Z0 : n0 ≤ h0.size) (P_E_a2 : Exa Z h0 a2 "java/lang/String") (P_F_a2_value : Fld Z h0 a2 "java/lang/String" "value" "[B" (.ref t)) (P_G_t_sz : own_Sz Z h0 t cd 2) :
    MetFree l (⟨"com/example/rate_to_limit/ratetolimit/balance/PolicyCounter", "checkedStatus", "(Ljava/lang/String;Ljava/lang/String;)Ljava/lang/String;"⟩ : MethodName) (head1 (Jvm.Cond.code (⟨"com/example/rate_to_limit/ratetolimit/balance/PolicyCounter", "checkedStatus", "(Ljava/lang/String;Ljava/lang/String;)Ljava/lang/String;"⟩ : MethodName) prog_42_method_2_code 2 (some (.object "java/lang/String")) :: ws) R_own_chk2) (fun a U => a = #[(.ref a1), (.ref a2)] ∧ Z.Warmed39 U.vm ∧ U.heap = h0) (fun _ _ _ _ _ => True) (fun _ U o U' => ∃ v L, o = .returned v ∧ Q_own_chk2 Z a1 a2 t cd h0 n0 v U'.heap L ∧ FrameEnd U o U' L R_own_chk2.cells R_own_chk2.slots) := by
  refine MetFree.of_bodySF (plainFor_of_name own_pn3) hisR ?_
  intro p e s m args below meth c s₁ Bd hml0 hP hK
  obtain ⟨rfl, hZ, hh⟩ := hP
  have hx := Bd.exec
  have hby := Bd.bytes
  have hml : c.maxLocals = 2 := hml0
  have hown : s.vm.findClass "com/example/rate_to_limit/ratetolimit/balance/PolicyCounter" = some m.cls := findClass_of_methodNamed Bd.named
  have hnm := (name_of_methodNamed Bd.named Bd.method).1
  have X0 : Stand p l e R_own_chk2 s m #[(.ref a1), (.ref a2)] below meth c s₁ [] 0 0 := Stand.of_body Bd
  have e0 : s₁.heap = h0 := by rw [← hh, Bd.state]; rfl
  have N0 := Fr.nil n0
  have K0 : Keep h0 h0 [] := Keep.refl h0 []
  show own_Fin p e below s (Q_own_chk2 Z a1 a2 t cd h0 n0) R_own_chk2.cells R_own_chk2.slots (s₁.setTop (entryFrame m #[(.ref a1), (.ref a2)] 2))
  refine own_go (fun _ k => castTop (ef_own_chk2 m a1 a2) k) ?_
  show own_Fin _ _ _ _ _ _ _ (s₁.setTop (mkF m 0 #[.val (.ref a1), .val (.ref a2)] []))
  refine own_go (B := s₁.setTop (mkF m 1 #[.val (.ref a1), .val (.ref a2)] [(.ref a2)])) (fun _ k => XS.aloadN X0.here hx rfl (hb hby d7_0) rfl rfl k) ?_
  obtain ⟨cq1, kq1, q1a, q1b, q1c⟩ := isOf hZ e0 P_E_a2
  obtain ⟨_, _, ⟨T1, L1, k1, n1⟩, -, X1, ⟨Lc1, hQ1, l1, y1, z1⟩, st1⟩ := X0.virtualBack hx (y := (⟨"java/lang/String", "isEmpty", "()Z"⟩ : MethodName)) (z := (⟨"java/lang/String", "isEmpty", "()Z"⟩ : MethodName)) hown (mvT hZ (own_w hw 39 rfl)) (mvT hZ (own_w hw 40 rfl)) (notFace_of_selects (args := #[]) (mvT hZ (own_w hw 42 rfl))) (mvT hZ (own_w hw 42 rfl)) (mvT hZ (own_w hw 41 rfl)) (by decide) (backOf (W := 0) (own_empA2 l Z a0 hw [] a2 t cd h0 n0 (Nat.le_trans Z0 K0.1) P_F_a2_value P_G_t_sz) hZ (own_w hw 43 rfl) (own_w hw 3 rfl) (by decide) (by decide)) q1a q1c (g := (mkF m 1 #[.val (.ref a1), .val (.ref a2)] [(.ref a2)])) rfl (by rw [hml]; rfl) (Steps.refl _) (argsL := []) (rest := []) (lenOf own_pd12 rfl) rfl (by show 2 * 0 + _ ≤ _; exact Nat.le_of_eq rfl) (hb hby d7_1) (fun _ _ => ⟨rfl, e0, (by decide : 0 + 0 ≤ _), (by decide : 0 + 0 ≤ _)⟩)
  dsimp only [Pt.U, Pt.locs, Pt.cells, Pt.slots] at X1 l1 y1 z1 st1 hQ1
  subst l1 y1 z1
  obtain ⟨rfl, N1q, e1⟩ := hQ1
  have N1 := Fr.app N0 N1q
  refine own_go (B := T1.setTop (mkF m 4 #[.val (.ref a1), .val (.ref a2)] [(.int (0 : Int32))])) (fun _ k => st1.trans k) ?_
  have hc2 : (0 : Int32) = (0 : Int32) := by decide
  refine own_go (B := T1.setTop (mkF m 22 #[.val (.ref a1), .val (.ref a2)] [(.ref a2)])) (fun _ k => XS.ifYes X1.here hx rfl (pc0 := 4) (pc' := 21) rfl (hb hby d7_4) rfl ((if0 _ _).trans (teq hc2).1) (by decide) (by decide) (XS.aloadN X1.here hx rfl (hb hby d7_21) rfl rfl k)) ?_
  exact own_retA X1 hx Bd.notSynchronized Bd.returns rfl rfl (hb hby d7_22) e1 ⟨rfl, N1, rfl⟩ (by decide) (by decide)
abbrev R_own_chk3 : Room := { frames := 1, cells := 0, slots := 0, locals := 12 }
theorem ef_own_chk3 (m : MethodId) (x0 : Addr) (x1 : Addr) : entryFrame m #[(.ref x0), (.ref x1)] 2 = mkF m 0 #[.val (.ref x0), .val (.ref x1)] [] := by first | (simp [entryFrame, mkF, argsToLocals, Value.category]; done) | rfl
def Q_own_chk3 (Z : State) (a1 : Addr) (a2 : Addr) (t : Addr) (cd : Int32) (h0 : Heap) (n0 : Nat) (v : Option Value) (h : Heap) (L : List Loc) : Prop := v = some (.ref a2) ∧ Fr n0 L ∧ h = h0
set_option maxRecDepth 65536 in
set_option maxHeartbeats 400000000 in
theorem own_chk3 (l : Launch) (Z : State) (a0 : Array Value) (hw : ∀ d ∈ tables_1, d.before a0 Z = true) (ws : List Jvm.Cond) (a1 : Addr) (a2 : Addr) (t : Addr) (cd : Int32) (h0 : Heap) (n0 : Nat) (Z0 : n0 ≤ h0.size) (P_E_a2 : Exa Z h0 a2 "java/lang/String") (P_F_a2_value : Fld Z h0 a2 "java/lang/String" "value" "[B" (.ref t)) (P_G_t_sz : own_Sz Z h0 t cd 3) :
    MetFree l (⟨"com/example/rate_to_limit/ratetolimit/balance/PolicyCounter", "checkedStatus", "(Ljava/lang/String;Ljava/lang/String;)Ljava/lang/String;"⟩ : MethodName) (head1 (Jvm.Cond.code (⟨"com/example/rate_to_limit/ratetolimit/balance/PolicyCounter", "checkedStatus", "(Ljava/lang/String;Ljava/lang/String;)Ljava/lang/String;"⟩ : MethodName) prog_42_method_2_code 2 (some (.object "java/lang/String")) :: ws) R_own_chk3) (fun a U => a = #[(.ref a1), (.ref a2)] ∧ Z.Warmed39 U.vm ∧ U.heap = h0) (fun _ _ _ _ _ => True) (fun _ U o U' => ∃ v L, o = .returned v ∧ Q_own_chk3 Z a1 a2 t cd h0 n0 v U'.heap L ∧ FrameEnd U o U' L R_own_chk3.cells R_own_chk3.slots) := by
  refine MetFree.of_bodySF (plainFor_of_name own_pn3) hisR ?_
  intro p e s m args below meth c s₁ Bd hml0 hP hK
  obtain ⟨rfl, hZ, hh⟩ := hP
  have hx := Bd.exec
  have hby := Bd.bytes
  have hml : c.maxLocals = 2 := hml0
  have hown : s.vm.findClass "com/example/rate_to_limit/ratetolimit/balance/PolicyCounter" = some m.cls := findClass_of_methodNamed Bd.named
  have hnm := (name_of_methodNamed Bd.named Bd.method).1
  have X0 : Stand p l e R_own_chk3 s m #[(.ref a1), (.ref a2)] below meth c s₁ [] 0 0 := Stand.of_body Bd
  have e0 : s₁.heap = h0 := by rw [← hh, Bd.state]; rfl
  have N0 := Fr.nil n0
  have K0 : Keep h0 h0 [] := Keep.refl h0 []
  show own_Fin p e below s (Q_own_chk3 Z a1 a2 t cd h0 n0) R_own_chk3.cells R_own_chk3.slots (s₁.setTop (entryFrame m #[(.ref a1), (.ref a2)] 2))
  refine own_go (fun _ k => castTop (ef_own_chk3 m a1 a2) k) ?_
  show own_Fin _ _ _ _ _ _ _ (s₁.setTop (mkF m 0 #[.val (.ref a1), .val (.ref a2)] []))
  refine own_go (B := s₁.setTop (mkF m 1 #[.val (.ref a1), .val (.ref a2)] [(.ref a2)])) (fun _ k => XS.aloadN X0.here hx rfl (hb hby d7_0) rfl rfl k) ?_
  obtain ⟨cq1, kq1, q1a, q1b, q1c⟩ := isOf hZ e0 P_E_a2
  obtain ⟨_, _, ⟨T1, L1, k1, n1⟩, -, X1, ⟨Lc1, hQ1, l1, y1, z1⟩, st1⟩ := X0.virtualBack hx (y := (⟨"java/lang/String", "isEmpty", "()Z"⟩ : MethodName)) (z := (⟨"java/lang/String", "isEmpty", "()Z"⟩ : MethodName)) hown (mvT hZ (own_w hw 39 rfl)) (mvT hZ (own_w hw 40 rfl)) (notFace_of_selects (args := #[]) (mvT hZ (own_w hw 42 rfl))) (mvT hZ (own_w hw 42 rfl)) (mvT hZ (own_w hw 41 rfl)) (by decide) (backOf (W := 0) (own_empA3 l Z a0 hw [] a2 t cd h0 n0 (Nat.le_trans Z0 K0.1) P_F_a2_value P_G_t_sz) hZ (own_w hw 43 rfl) (own_w hw 3 rfl) (by decide) (by decide)) q1a q1c (g := (mkF m 1 #[.val (.ref a1), .val (.ref a2)] [(.ref a2)])) rfl (by rw [hml]; rfl) (Steps.refl _) (argsL := []) (rest := []) (lenOf own_pd12 rfl) rfl (by show 2 * 0 + _ ≤ _; exact Nat.le_of_eq rfl) (hb hby d7_1) (fun _ _ => ⟨rfl, e0, (by decide : 0 + 0 ≤ _), (by decide : 0 + 0 ≤ _)⟩)
  dsimp only [Pt.U, Pt.locs, Pt.cells, Pt.slots] at X1 l1 y1 z1 st1 hQ1
  subst l1 y1 z1
  obtain ⟨rfl, N1q, e1⟩ := hQ1
  have N1 := Fr.app N0 N1q
  refine own_go (B := T1.setTop (mkF m 4 #[.val (.ref a1), .val (.ref a2)] [(.int (0 : Int32))])) (fun _ k => st1.trans k) ?_
  have hc2 : (0 : Int32) = (0 : Int32) := by decide
  refine own_go (B := T1.setTop (mkF m 22 #[.val (.ref a1), .val (.ref a2)] [(.ref a2)])) (fun _ k => XS.ifYes X1.here hx rfl (pc0 := 4) (pc' := 21) rfl (hb hby d7_4) rfl ((if0 _ _).trans (teq hc2).1) (by decide) (by decide) (XS.aloadN X1.here hx rfl (hb hby d7_21) rfl rfl k)) ?_
  exact own_retA X1 hx Bd.notSynchronized Bd.returns rfl rfl (hb hby d7_22) e1 ⟨rfl, N1, rfl⟩ (by decide) (by decide)
theorem own_pn4 : plainName "com/example/rate_to_limit/ratetolimit/balance/PolicyCounterCheckedStatusPinLaw" = true := by first | (simp [plainName, overriddenIn]; done) | decide +kernel
theorem ef_own_rm0 (m : MethodId) (x0 : Int32) (x1 : Int32) (x2 : Int32) (x3 : Int32) (x4 : Int32) : entryFrame m #[(.int x0), (.int x1), (.int x2), (.int x3), (.int x4)] maxLocals = mkF m 0 #[.val (.int x0), .val (.int x1), .val (.int x2), .val (.int x3), .val (.int x4), .unset, .unset, .unset, .unset, .unset, .unset, .unset, .unset, .unset, .unset] [] := by first | (simp [entryFrame, mkF, argsToLocals, Value.category, maxLocals]; done) | rfl
set_option maxRecDepth 65536 in
set_option maxHeartbeats 4000000 in
theorem own_pl_rm0_1 (p1 : Int32) (cs : Int32) (hcs : ¬ (cs = (0 : Int32))) : 0 ≤ ((p1 &&& (65535 : Int32)).toUInt32.toUInt16.toUInt32.toInt32).toInt := by
  have := rng32 cs
  have := rng32 p1
  have := rng32 (p1 &&& (65535 : Int32))
  have := Jvm.Kit.i32_mask p1 (65535 : Int32) (k := 16) (by decide) (by decide)
  have := rng32 ((p1 &&& (65535 : Int32)).toUInt32.toUInt16.toUInt32.toInt32)
  have := own_i2c (p1 &&& (65535 : Int32))
  try simp only [own_i32_0, own_i32_65535] at *
  have := own_i32_0
  have := own_i32_65535
  try simp only [Int32.lt_iff_toInt_lt, Int32.le_iff_toInt_le, Int64.lt_iff_toInt_lt, Int64.le_iff_toInt_le, ← Int32.toInt_inj, ← Int64.toInt_inj, true_and, and_true, true_or, or_true, false_or, or_false, not_true_eq_false, not_false_eq_true, false_and, and_false, ne_eq] at *
  all_goals first | omega | (simp; done)
set_option maxRecDepth 65536 in
set_option maxHeartbeats 4000000 in
theorem own_pl_rm0_2 (p1 : Int32) (cs : Int32) (hcs : ¬ (cs = (0 : Int32))) : ((p1 &&& (65535 : Int32)).toUInt32.toUInt16.toUInt32.toInt32).toInt ≤ 65535 := by
  have := rng32 cs
  have := rng32 p1
  have := rng32 (p1 &&& (65535 : Int32))
  have := Jvm.Kit.i32_mask p1 (65535 : Int32) (k := 16) (by decide) (by decide)
  have := rng32 ((p1 &&& (65535 : Int32)).toUInt32.toUInt16.toUInt32.toInt32)
  have := own_i2c (p1 &&& (65535 : Int32))
  try simp only [own_i32_0, own_i32_65535] at *
  have := own_i32_0
  have := own_i32_65535
  try simp only [Int32.lt_iff_toInt_lt, Int32.le_iff_toInt_le, Int64.lt_iff_toInt_lt, Int64.le_iff_toInt_le, ← Int32.toInt_inj, ← Int64.toInt_inj, true_and, and_true, true_or, or_true, false_or, or_false, not_true_eq_false, not_false_eq_true, false_and, and_false, ne_eq] at *
  all_goals first | omega | (simp; done)
set_option maxRecDepth 65536 in
set_option maxHeartbeats 4000000 in
theorem own_pl_rm0_3 (p2 : Int32) (cs : Int32) (hcs : ¬ (cs = (0 : Int32))) : 0 ≤ ((p2 &&& (65535 : Int32)).toUInt32.toUInt16.toUInt32.toInt32).toInt := by
  have := rng32 cs
  have := rng32 p2
  have := rng32 (p2 &&& (65535 : Int32))
  have := Jvm.Kit.i32_mask p2 (65535 : Int32) (k := 16) (by decide) (by decide)
  have := rng32 ((p2 &&& (65535 : Int32)).toUInt32.toUInt16.toUInt32.toInt32)
  have := own_i2c (p2 &&& (65535 : Int32))
  try simp only [own_i32_0, own_i32_65535] at *
  have := own_i32_0
  have := own_i32_65535
  try simp only [Int32.lt_iff_toInt_lt, Int32.le_iff_toInt_le, Int64.lt_iff_toInt_lt, Int64.le_iff_toInt_le, ← Int32.toInt_inj, ← Int64.toInt_inj, true_and, and_true, true_or, or_true, false_or, or_false, not_true_eq_false, not_false_eq_true, false_and, and_false, ne_eq] at *
  all_goals first | omega | (simp; done)
set_option maxRecDepth 65536 in
set_option maxHeartbeats 4000000 in
theorem own_pl_rm0_4 (p2 : Int32) (cs : Int32) (hcs : ¬ (cs = (0 : Int32))) : ((p2 &&& (65535 : Int32)).toUInt32.toUInt16.toUInt32.toInt32).toInt ≤ 65535 := by
  have := rng32 cs
  have := rng32 p2
  have := rng32 (p2 &&& (65535 : Int32))
  have := Jvm.Kit.i32_mask p2 (65535 : Int32) (k := 16) (by decide) (by decide)
  have := rng32 ((p2 &&& (65535 : Int32)).toUInt32.toUInt16.toUInt32.toInt32)
  have := own_i2c (p2 &&& (65535 : Int32))
  try simp only [own_i32_0, own_i32_65535] at *
  have := own_i32_0
  have := own_i32_65535
  try simp only [Int32.lt_iff_toInt_lt, Int32.le_iff_toInt_le, Int64.lt_iff_toInt_lt, Int64.le_iff_toInt_le, ← Int32.toInt_inj, ← Int64.toInt_inj, true_and, and_true, true_or, or_true, false_or, or_false, not_true_eq_false, not_false_eq_true, false_and, and_false, ne_eq] at *
  all_goals first | omega | (simp; done)
set_option maxRecDepth 65536 in
set_option maxHeartbeats 4000000 in
theorem own_pl_rm0_5 (p3 : Int32) (cs : Int32) (hcs : ¬ (cs = (0 : Int32))) : 0 ≤ ((p3 &&& (65535 : Int32)).toUInt32.toUInt16.toUInt32.toInt32).toInt := by
  have := rng32 cs
  have := rng32 p3
  have := rng32 (p3 &&& (65535 : Int32))
  have := Jvm.Kit.i32_mask p3 (65535 : Int32) (k := 16) (by decide) (by decide)
  have := rng32 ((p3 &&& (65535 : Int32)).toUInt32.toUInt16.toUInt32.toInt32)
  have := own_i2c (p3 &&& (65535 : Int32))
  try simp only [own_i32_0, own_i32_65535] at *
  have := own_i32_0
  have := own_i32_65535
  try simp only [Int32.lt_iff_toInt_lt, Int32.le_iff_toInt_le, Int64.lt_iff_toInt_lt, Int64.le_iff_toInt_le, ← Int32.toInt_inj, ← Int64.toInt_inj, true_and, and_true, true_or, or_true, false_or, or_false, not_true_eq_false, not_false_eq_true, false_and, and_false, ne_eq] at *
  all_goals first | omega | (simp; done)
set_option maxRecDepth 65536 in
set_option maxHeartbeats 4000000 in
theorem own_pl_rm0_6 (p3 : Int32) (cs : Int32) (hcs : ¬ (cs = (0 : Int32))) : ((p3 &&& (65535 : Int32)).toUInt32.toUInt16.toUInt32.toInt32).toInt ≤ 65535 := by
  have := rng32 cs
  have := rng32 p3
  have := rng32 (p3 &&& (65535 : Int32))
  have := Jvm.Kit.i32_mask p3 (65535 : Int32) (k := 16) (by decide) (by decide)
  have := rng32 ((p3 &&& (65535 : Int32)).toUInt32.toUInt16.toUInt32.toInt32)
  have := own_i2c (p3 &&& (65535 : Int32))
  try simp only [own_i32_0, own_i32_65535] at *
  have := own_i32_0
  have := own_i32_65535
  try simp only [Int32.lt_iff_toInt_lt, Int32.le_iff_toInt_le, Int64.lt_iff_toInt_lt, Int64.le_iff_toInt_le, ← Int32.toInt_inj, ← Int64.toInt_inj, true_and, and_true, true_or, or_true, false_or, or_false, not_true_eq_false, not_false_eq_true, false_and, and_false, ne_eq] at *
  all_goals first | omega | (simp; done)
set_option maxRecDepth 65536 in
set_option maxHeartbeats 4000000 in
theorem own_pl_rm0_7 (p4 : Int32) (p5 : Int32) (cs : Int32) (c0 : Int32) (c1 : Int32) (c2 : Int32) (hcs : ¬ (cs = (0 : Int32))) (hl0 : 0 ≤ c0.toInt) (hu0 : c0.toInt ≤ 65535) (hl1 : 0 ≤ c1.toInt) (hu1 : c1.toInt ≤ 65535) (hl2 : 0 ≤ c2.toInt) (hu2 : c2.toInt ≤ 65535) (hc280 : ((p4 &&& (2147483647 : Int32)) % (3 : Int32)) = (0 : Int32)) (hc281 : (p5 &&& (1 : Int32)) = (0 : Int32)) : (1 : Int32) = (((p4 &&& (2147483647 : Int32)) % (3 : Int32)) + (1 : Int32)) := by
  have := own_i32_0
  have := own_i32_1
  have := own_i32_3
  have := own_i32_2147483647
  have := rng32 cs
  have := rng32 c0
  have := rng32 c1
  have := rng32 c2
  have := rng32 p4
  have := rng32 (p4 &&& (2147483647 : Int32))
  have := Jvm.Kit.i32_mask p4 (2147483647 : Int32) (k := 31) (by decide) (by decide)
  have := rng32 ((p4 &&& (2147483647 : Int32)) % (3 : Int32))
  have := Jvm.Kit.i32_rem_nonneg (x := (p4 &&& (2147483647 : Int32))) (y := (3 : Int32)) (by omega)
  have := rng32 p5
  have := rng32 (p5 &&& (1 : Int32))
  have := Jvm.Kit.i32_mask p5 (1 : Int32) (k := 1) (by decide) (by decide)
  have := rng32 (((p4 &&& (2147483647 : Int32)) % (3 : Int32)) + (1 : Int32))
  have := c_iadd ((p4 &&& (2147483647 : Int32)) % (3 : Int32)) (1 : Int32)
  try simp only [own_i32_0, own_i32_1, own_i32_3, own_i32_2147483647] at *
  have := own_i32_0
  have := own_i32_1
  have := own_i32_3
  have := own_i32_2147483647
  try simp only [Int32.lt_iff_toInt_lt, Int32.le_iff_toInt_le, Int64.lt_iff_toInt_lt, Int64.le_iff_toInt_le, ← Int32.toInt_inj, ← Int64.toInt_inj, true_and, and_true, true_or, or_true, false_or, or_false, not_true_eq_false, not_false_eq_true, false_and, and_false, ne_eq] at *
  all_goals first | omega | (simp; done)
set_option maxRecDepth 65536 in
set_option maxHeartbeats 4000000 in
theorem own_pl_rm0_8 (p4 : Int32) (p5 : Int32) (cs : Int32) (c0 : Int32) (c1 : Int32) (c2 : Int32) (hcs : ¬ (cs = (0 : Int32))) (hl0 : 0 ≤ c0.toInt) (hu0 : c0.toInt ≤ 65535) (hl1 : 0 ≤ c1.toInt) (hu1 : c1.toInt ≤ 65535) (hl2 : 0 ≤ c2.toInt) (hu2 : c2.toInt ≤ 65535) (hc280 : ((p4 &&& (2147483647 : Int32)) % (3 : Int32)) = (0 : Int32)) (hc281 : ¬ ((p5 &&& (1 : Int32)) = (0 : Int32))) : ((((p5.toUInt32 >>> ((1 : Int32) &&& 31).toUInt32).toInt32) &&& (255 : Int32)).toUInt32.toUInt16.toUInt32.toInt32).toInt ≤ 255 := by
  have := own_i32_0
  have := own_i32_1
  have := own_i32_3
  have := own_i32_255
  have := own_i32_2147483647
  have := rng32 cs
  have := rng32 c0
  have := rng32 c1
  have := rng32 c2
  have := rng32 p4
  have := rng32 (p4 &&& (2147483647 : Int32))
  have := Jvm.Kit.i32_mask p4 (2147483647 : Int32) (k := 31) (by decide) (by decide)
  have := rng32 ((p4 &&& (2147483647 : Int32)) % (3 : Int32))
  have := Jvm.Kit.i32_rem_nonneg (x := (p4 &&& (2147483647 : Int32))) (y := (3 : Int32)) (by omega)
  have := rng32 p5
  have := rng32 (p5 &&& (1 : Int32))
  have := Jvm.Kit.i32_mask p5 (1 : Int32) (k := 1) (by decide) (by decide)
  have := rng32 ((p5.toUInt32 >>> ((1 : Int32) &&& 31).toUInt32).toInt32)
  have := own_iushr p5 (n := ((1 : Int32) &&& 31).toUInt32) (k := 1) (by decide) (by decide) (by decide)
  have := rng32 (((p5.toUInt32 >>> ((1 : Int32) &&& 31).toUInt32).toInt32) &&& (255 : Int32))
  have := Jvm.Kit.i32_mask ((p5.toUInt32 >>> ((1 : Int32) &&& 31).toUInt32).toInt32) (255 : Int32) (k := 8) (by decide) (by decide)
  have := rng32 ((((p5.toUInt32 >>> ((1 : Int32) &&& 31).toUInt32).toInt32) &&& (255 : Int32)).toUInt32.toUInt16.toUInt32.toInt32)
  have := own_i2c (((p5.toUInt32 >>> ((1 : Int32) &&& 31).toUInt32).toInt32) &&& (255 : Int32))
  try simp only [own_i32_0, own_i32_1, own_i32_3, own_i32_255, own_i32_2147483647] at *
  have := own_i32_0
  have := own_i32_1
  have := own_i32_3
  have := own_i32_255
  have := own_i32_2147483647
  try simp only [Int32.lt_iff_toInt_lt, Int32.le_iff_toInt_le, Int64.lt_iff_toInt_lt, Int64.le_iff_toInt_le, ← Int32.toInt_inj, ← Int64.toInt_inj, true_and, and_true, true_or, or_true, false_or, or_false, not_true_eq_false, not_false_eq_true, false_and, and_false, ne_eq] at *
  all_goals first | omega | (simp; done)
set_option maxRecDepth 65536 in
set_option maxHeartbeats 4000000 in
theorem own_pl_rm0_9 (p4 : Int32) (p5 : Int32) (cs : Int32) (c0 : Int32) (c1 : Int32) (c2 : Int32) (hcs : ¬ (cs = (0 : Int32))) (hl0 : 0 ≤ c0.toInt) (hu0 : c0.toInt ≤ 65535) (hl1 : 0 ≤ c1.toInt) (hu1 : c1.toInt ≤ 65535) (hl2 : 0 ≤ c2.toInt) (hu2 : c2.toInt ≤ 65535) (hc280 : ((p4 &&& (2147483647 : Int32)) % (3 : Int32)) = (0 : Int32)) (hc281 : ¬ ((p5 &&& (1 : Int32)) = (0 : Int32))) : (1 : Int32) = (((p4 &&& (2147483647 : Int32)) % (3 : Int32)) + (1 : Int32)) := by
  have := own_i32_0
  have := own_i32_1
  have := own_i32_3
  have := own_i32_2147483647
  have := rng32 cs
  have := rng32 c0
  have := rng32 c1
  have := rng32 c2
  have := rng32 p4
  have := rng32 (p4 &&& (2147483647 : Int32))
  have := Jvm.Kit.i32_mask p4 (2147483647 : Int32) (k := 31) (by decide) (by decide)
  have := rng32 ((p4 &&& (2147483647 : Int32)) % (3 : Int32))
  have := Jvm.Kit.i32_rem_nonneg (x := (p4 &&& (2147483647 : Int32))) (y := (3 : Int32)) (by omega)
  have := rng32 p5
  have := rng32 (p5 &&& (1 : Int32))
  have := Jvm.Kit.i32_mask p5 (1 : Int32) (k := 1) (by decide) (by decide)
  have := rng32 (((p4 &&& (2147483647 : Int32)) % (3 : Int32)) + (1 : Int32))
  have := c_iadd ((p4 &&& (2147483647 : Int32)) % (3 : Int32)) (1 : Int32)
  try simp only [own_i32_0, own_i32_1, own_i32_3, own_i32_2147483647] at *
  have := own_i32_0
  have := own_i32_1
  have := own_i32_3
  have := own_i32_2147483647
  try simp only [Int32.lt_iff_toInt_lt, Int32.le_iff_toInt_le, Int64.lt_iff_toInt_lt, Int64.le_iff_toInt_le, ← Int32.toInt_inj, ← Int64.toInt_inj, true_and, and_true, true_or, or_true, false_or, or_false, not_true_eq_false, not_false_eq_true, false_and, and_false, ne_eq] at *
  all_goals first | omega | (simp; done)
set_option maxRecDepth 65536 in
set_option maxHeartbeats 4000000 in
theorem own_pl_rm0_10 (p4 : Int32) (p5 : Int32) (cs : Int32) (c0 : Int32) (c1 : Int32) (c2 : Int32) (hcs : ¬ (cs = (0 : Int32))) (hl0 : 0 ≤ c0.toInt) (hu0 : c0.toInt ≤ 65535) (hl1 : 0 ≤ c1.toInt) (hu1 : c1.toInt ≤ 65535) (hl2 : 0 ≤ c2.toInt) (hu2 : c2.toInt ≤ 65535) (hc280 : ¬ (((p4 &&& (2147483647 : Int32)) % (3 : Int32)) = (0 : Int32))) (hc350 : ((p4 &&& (2147483647 : Int32)) % (3 : Int32)) = (1 : Int32)) (hc351 : (p5 &&& (1 : Int32)) = (0 : Int32)) : (2 : Int32) = (((p4 &&& (2147483647 : Int32)) % (3 : Int32)) + (1 : Int32)) := by
  have := own_i32_0
  have := own_i32_1
  have := own_i32_2
  have := own_i32_3
  have := own_i32_2147483647
  have := rng32 cs
  have := rng32 c0
  have := rng32 c1
  have := rng32 c2
  have := rng32 p4
  have := rng32 (p4 &&& (2147483647 : Int32))
  have := Jvm.Kit.i32_mask p4 (2147483647 : Int32) (k := 31) (by decide) (by decide)
  have := rng32 ((p4 &&& (2147483647 : Int32)) % (3 : Int32))
  have := Jvm.Kit.i32_rem_nonneg (x := (p4 &&& (2147483647 : Int32))) (y := (3 : Int32)) (by omega)
  have := rng32 p5
  have := rng32 (p5 &&& (1 : Int32))
  have := Jvm.Kit.i32_mask p5 (1 : Int32) (k := 1) (by decide) (by decide)
  have := rng32 (((p4 &&& (2147483647 : Int32)) % (3 : Int32)) + (1 : Int32))
  have := c_iadd ((p4 &&& (2147483647 : Int32)) % (3 : Int32)) (1 : Int32)
  try simp only [own_i32_0, own_i32_1, own_i32_2, own_i32_3, own_i32_2147483647] at *
  have := own_i32_0
  have := own_i32_1
  have := own_i32_2
  have := own_i32_3
  have := own_i32_2147483647
  try simp only [Int32.lt_iff_toInt_lt, Int32.le_iff_toInt_le, Int64.lt_iff_toInt_lt, Int64.le_iff_toInt_le, ← Int32.toInt_inj, ← Int64.toInt_inj, true_and, and_true, true_or, or_true, false_or, or_false, not_true_eq_false, not_false_eq_true, false_and, and_false, ne_eq] at *
  all_goals first | omega | (simp; done)
set_option maxRecDepth 65536 in
set_option maxHeartbeats 4000000 in
theorem own_pl_rm0_11 (p4 : Int32) (p5 : Int32) (cs : Int32) (c0 : Int32) (c1 : Int32) (c2 : Int32) (hcs : ¬ (cs = (0 : Int32))) (hl0 : 0 ≤ c0.toInt) (hu0 : c0.toInt ≤ 65535) (hl1 : 0 ≤ c1.toInt) (hu1 : c1.toInt ≤ 65535) (hl2 : 0 ≤ c2.toInt) (hu2 : c2.toInt ≤ 65535) (hc280 : ¬ (((p4 &&& (2147483647 : Int32)) % (3 : Int32)) = (0 : Int32))) (hc350 : ((p4 &&& (2147483647 : Int32)) % (3 : Int32)) = (1 : Int32)) (hc351 : ¬ ((p5 &&& (1 : Int32)) = (0 : Int32))) : ((((p5.toUInt32 >>> ((1 : Int32) &&& 31).toUInt32).toInt32) &&& (255 : Int32)).toUInt32.toUInt16.toUInt32.toInt32).toInt ≤ 255 := by
  have := own_i32_0
  have := own_i32_1
  have := own_i32_3
  have := own_i32_255
  have := own_i32_2147483647
  have := rng32 cs
  have := rng32 c0
  have := rng32 c1
  have := rng32 c2
  have := rng32 p4
  have := rng32 (p4 &&& (2147483647 : Int32))
  have := Jvm.Kit.i32_mask p4 (2147483647 : Int32) (k := 31) (by decide) (by decide)
  have := rng32 ((p4 &&& (2147483647 : Int32)) % (3 : Int32))
  have := Jvm.Kit.i32_rem_nonneg (x := (p4 &&& (2147483647 : Int32))) (y := (3 : Int32)) (by omega)
  have := rng32 p5
  have := rng32 (p5 &&& (1 : Int32))
  have := Jvm.Kit.i32_mask p5 (1 : Int32) (k := 1) (by decide) (by decide)
  have := rng32 ((p5.toUInt32 >>> ((1 : Int32) &&& 31).toUInt32).toInt32)
  have := own_iushr p5 (n := ((1 : Int32) &&& 31).toUInt32) (k := 1) (by decide) (by decide) (by decide)
  have := rng32 (((p5.toUInt32 >>> ((1 : Int32) &&& 31).toUInt32).toInt32) &&& (255 : Int32))
  have := Jvm.Kit.i32_mask ((p5.toUInt32 >>> ((1 : Int32) &&& 31).toUInt32).toInt32) (255 : Int32) (k := 8) (by decide) (by decide)
  have := rng32 ((((p5.toUInt32 >>> ((1 : Int32) &&& 31).toUInt32).toInt32) &&& (255 : Int32)).toUInt32.toUInt16.toUInt32.toInt32)
  have := own_i2c (((p5.toUInt32 >>> ((1 : Int32) &&& 31).toUInt32).toInt32) &&& (255 : Int32))
  try simp only [own_i32_0, own_i32_1, own_i32_3, own_i32_255, own_i32_2147483647] at *
  have := own_i32_0
  have := own_i32_1
  have := own_i32_3
  have := own_i32_255
  have := own_i32_2147483647
  try simp only [Int32.lt_iff_toInt_lt, Int32.le_iff_toInt_le, Int64.lt_iff_toInt_lt, Int64.le_iff_toInt_le, ← Int32.toInt_inj, ← Int64.toInt_inj, true_and, and_true, true_or, or_true, false_or, or_false, not_true_eq_false, not_false_eq_true, false_and, and_false, ne_eq] at *
  all_goals first | omega | (simp; done)
set_option maxRecDepth 65536 in
set_option maxHeartbeats 4000000 in
theorem own_pl_rm0_12 (p4 : Int32) (p5 : Int32) (cs : Int32) (c0 : Int32) (c1 : Int32) (c2 : Int32) (hcs : ¬ (cs = (0 : Int32))) (hl0 : 0 ≤ c0.toInt) (hu0 : c0.toInt ≤ 65535) (hl1 : 0 ≤ c1.toInt) (hu1 : c1.toInt ≤ 65535) (hl2 : 0 ≤ c2.toInt) (hu2 : c2.toInt ≤ 65535) (hc280 : ¬ (((p4 &&& (2147483647 : Int32)) % (3 : Int32)) = (0 : Int32))) (hc350 : ((p4 &&& (2147483647 : Int32)) % (3 : Int32)) = (1 : Int32)) (hc351 : ¬ ((p5 &&& (1 : Int32)) = (0 : Int32))) : (2 : Int32) = (((p4 &&& (2147483647 : Int32)) % (3 : Int32)) + (1 : Int32)) := by
  have := own_i32_0
  have := own_i32_1
  have := own_i32_2
  have := own_i32_3
  have := own_i32_2147483647
  have := rng32 cs
  have := rng32 c0
  have := rng32 c1
  have := rng32 c2
  have := rng32 p4
  have := rng32 (p4 &&& (2147483647 : Int32))
  have := Jvm.Kit.i32_mask p4 (2147483647 : Int32) (k := 31) (by decide) (by decide)
  have := rng32 ((p4 &&& (2147483647 : Int32)) % (3 : Int32))
  have := Jvm.Kit.i32_rem_nonneg (x := (p4 &&& (2147483647 : Int32))) (y := (3 : Int32)) (by omega)
  have := rng32 p5
  have := rng32 (p5 &&& (1 : Int32))
  have := Jvm.Kit.i32_mask p5 (1 : Int32) (k := 1) (by decide) (by decide)
  have := rng32 (((p4 &&& (2147483647 : Int32)) % (3 : Int32)) + (1 : Int32))
  have := c_iadd ((p4 &&& (2147483647 : Int32)) % (3 : Int32)) (1 : Int32)
  try simp only [own_i32_0, own_i32_1, own_i32_2, own_i32_3, own_i32_2147483647] at *
  have := own_i32_0
  have := own_i32_1
  have := own_i32_2
  have := own_i32_3
  have := own_i32_2147483647
  try simp only [Int32.lt_iff_toInt_lt, Int32.le_iff_toInt_le, Int64.lt_iff_toInt_lt, Int64.le_iff_toInt_le, ← Int32.toInt_inj, ← Int64.toInt_inj, true_and, and_true, true_or, or_true, false_or, or_false, not_true_eq_false, not_false_eq_true, false_and, and_false, ne_eq] at *
  all_goals first | omega | (simp; done)
set_option maxRecDepth 65536 in
set_option maxHeartbeats 4000000 in
theorem own_pl_rm0_13 (p4 : Int32) (p5 : Int32) (cs : Int32) (c0 : Int32) (c1 : Int32) (c2 : Int32) (hcs : ¬ (cs = (0 : Int32))) (hl0 : 0 ≤ c0.toInt) (hu0 : c0.toInt ≤ 65535) (hl1 : 0 ≤ c1.toInt) (hu1 : c1.toInt ≤ 65535) (hl2 : 0 ≤ c2.toInt) (hu2 : c2.toInt ≤ 65535) (hc280 : ¬ (((p4 &&& (2147483647 : Int32)) % (3 : Int32)) = (0 : Int32))) (hc350 : ¬ (((p4 &&& (2147483647 : Int32)) % (3 : Int32)) = (1 : Int32))) (hc420 : (p5 &&& (1 : Int32)) = (0 : Int32)) : (3 : Int32) = (((p4 &&& (2147483647 : Int32)) % (3 : Int32)) + (1 : Int32)) := by
  have := own_i32_0
  have := own_i32_1
  have := own_i32_3
  have := own_i32_2147483647
  have := rng32 cs
  have := rng32 c0
  have := rng32 c1
  have := rng32 c2
  have := rng32 p4
  have := rng32 (p4 &&& (2147483647 : Int32))
  have := Jvm.Kit.i32_mask p4 (2147483647 : Int32) (k := 31) (by decide) (by decide)
  have := rng32 ((p4 &&& (2147483647 : Int32)) % (3 : Int32))
  have := Jvm.Kit.i32_rem_nonneg (x := (p4 &&& (2147483647 : Int32))) (y := (3 : Int32)) (by omega)
  have := rng32 p5
  have := rng32 (p5 &&& (1 : Int32))
  have := Jvm.Kit.i32_mask p5 (1 : Int32) (k := 1) (by decide) (by decide)
  have := rng32 (((p4 &&& (2147483647 : Int32)) % (3 : Int32)) + (1 : Int32))
  have := c_iadd ((p4 &&& (2147483647 : Int32)) % (3 : Int32)) (1 : Int32)
  try simp only [own_i32_0, own_i32_1, own_i32_3, own_i32_2147483647] at *
  have := own_i32_0
  have := own_i32_1
  have := own_i32_3
  have := own_i32_2147483647
  try simp only [Int32.lt_iff_toInt_lt, Int32.le_iff_toInt_le, Int64.lt_iff_toInt_lt, Int64.le_iff_toInt_le, ← Int32.toInt_inj, ← Int64.toInt_inj, true_and, and_true, true_or, or_true, false_or, or_false, not_true_eq_false, not_false_eq_true, false_and, and_false, ne_eq] at *
  all_goals first | omega | (simp; done)
set_option maxRecDepth 65536 in
set_option maxHeartbeats 4000000 in
theorem own_pl_rm0_14 (p4 : Int32) (p5 : Int32) (cs : Int32) (c0 : Int32) (c1 : Int32) (c2 : Int32) (hcs : ¬ (cs = (0 : Int32))) (hl0 : 0 ≤ c0.toInt) (hu0 : c0.toInt ≤ 65535) (hl1 : 0 ≤ c1.toInt) (hu1 : c1.toInt ≤ 65535) (hl2 : 0 ≤ c2.toInt) (hu2 : c2.toInt ≤ 65535) (hc280 : ¬ (((p4 &&& (2147483647 : Int32)) % (3 : Int32)) = (0 : Int32))) (hc350 : ¬ (((p4 &&& (2147483647 : Int32)) % (3 : Int32)) = (1 : Int32))) (hc420 : ¬ ((p5 &&& (1 : Int32)) = (0 : Int32))) : ((((p5.toUInt32 >>> ((1 : Int32) &&& 31).toUInt32).toInt32) &&& (255 : Int32)).toUInt32.toUInt16.toUInt32.toInt32).toInt ≤ 255 := by
  have := own_i32_0
  have := own_i32_1
  have := own_i32_3
  have := own_i32_255
  have := own_i32_2147483647
  have := rng32 cs
  have := rng32 c0
  have := rng32 c1
  have := rng32 c2
  have := rng32 p4
  have := rng32 (p4 &&& (2147483647 : Int32))
  have := Jvm.Kit.i32_mask p4 (2147483647 : Int32) (k := 31) (by decide) (by decide)
  have := rng32 ((p4 &&& (2147483647 : Int32)) % (3 : Int32))
  have := Jvm.Kit.i32_rem_nonneg (x := (p4 &&& (2147483647 : Int32))) (y := (3 : Int32)) (by omega)
  have := rng32 p5
  have := rng32 (p5 &&& (1 : Int32))
  have := Jvm.Kit.i32_mask p5 (1 : Int32) (k := 1) (by decide) (by decide)
  have := rng32 ((p5.toUInt32 >>> ((1 : Int32) &&& 31).toUInt32).toInt32)
  have := own_iushr p5 (n := ((1 : Int32) &&& 31).toUInt32) (k := 1) (by decide) (by decide) (by decide)
  have := rng32 (((p5.toUInt32 >>> ((1 : Int32) &&& 31).toUInt32).toInt32) &&& (255 : Int32))
  have := Jvm.Kit.i32_mask ((p5.toUInt32 >>> ((1 : Int32) &&& 31).toUInt32).toInt32) (255 : Int32) (k := 8) (by decide) (by decide)
  have := rng32 ((((p5.toUInt32 >>> ((1 : Int32) &&& 31).toUInt32).toInt32) &&& (255 : Int32)).toUInt32.toUInt16.toUInt32.toInt32)
  have := own_i2c (((p5.toUInt32 >>> ((1 : Int32) &&& 31).toUInt32).toInt32) &&& (255 : Int32))
  try simp only [own_i32_0, own_i32_1, own_i32_3, own_i32_255, own_i32_2147483647] at *
  have := own_i32_0
  have := own_i32_1
  have := own_i32_3
  have := own_i32_255
  have := own_i32_2147483647
  try simp only [Int32.lt_iff_toInt_lt, Int32.le_iff_toInt_le, Int64.lt_iff_toInt_lt, Int64.le_iff_toInt_le, ← Int32.toInt_inj, ← Int64.toInt_inj, true_and, and_true, true_or, or_true, false_or, or_false, not_true_eq_false, not_false_eq_true, false_and, and_false, ne_eq] at *
  all_goals first | omega | (simp; done)
set_option maxRecDepth 65536 in
set_option maxHeartbeats 4000000 in
theorem own_pl_rm0_15 (p4 : Int32) (p5 : Int32) (cs : Int32) (c0 : Int32) (c1 : Int32) (c2 : Int32) (hcs : ¬ (cs = (0 : Int32))) (hl0 : 0 ≤ c0.toInt) (hu0 : c0.toInt ≤ 65535) (hl1 : 0 ≤ c1.toInt) (hu1 : c1.toInt ≤ 65535) (hl2 : 0 ≤ c2.toInt) (hu2 : c2.toInt ≤ 65535) (hc280 : ¬ (((p4 &&& (2147483647 : Int32)) % (3 : Int32)) = (0 : Int32))) (hc350 : ¬ (((p4 &&& (2147483647 : Int32)) % (3 : Int32)) = (1 : Int32))) (hc420 : ¬ ((p5 &&& (1 : Int32)) = (0 : Int32))) : (3 : Int32) = (((p4 &&& (2147483647 : Int32)) % (3 : Int32)) + (1 : Int32)) := by
  have := own_i32_0
  have := own_i32_1
  have := own_i32_3
  have := own_i32_2147483647
  have := rng32 cs
  have := rng32 c0
  have := rng32 c1
  have := rng32 c2
  have := rng32 p4
  have := rng32 (p4 &&& (2147483647 : Int32))
  have := Jvm.Kit.i32_mask p4 (2147483647 : Int32) (k := 31) (by decide) (by decide)
  have := rng32 ((p4 &&& (2147483647 : Int32)) % (3 : Int32))
  have := Jvm.Kit.i32_rem_nonneg (x := (p4 &&& (2147483647 : Int32))) (y := (3 : Int32)) (by omega)
  have := rng32 p5
  have := rng32 (p5 &&& (1 : Int32))
  have := Jvm.Kit.i32_mask p5 (1 : Int32) (k := 1) (by decide) (by decide)
  have := rng32 (((p4 &&& (2147483647 : Int32)) % (3 : Int32)) + (1 : Int32))
  have := c_iadd ((p4 &&& (2147483647 : Int32)) % (3 : Int32)) (1 : Int32)
  try simp only [own_i32_0, own_i32_1, own_i32_3, own_i32_2147483647] at *
  have := own_i32_0
  have := own_i32_1
  have := own_i32_3
  have := own_i32_2147483647
  try simp only [Int32.lt_iff_toInt_lt, Int32.le_iff_toInt_le, Int64.lt_iff_toInt_lt, Int64.le_iff_toInt_le, ← Int32.toInt_inj, ← Int64.toInt_inj, true_and, and_true, true_or, or_true, false_or, or_false, not_true_eq_false, not_false_eq_true, false_and, and_false, ne_eq] at *
  all_goals first | omega | (simp; done)
def Q_own_rm0 (Z : State) (p1 : Int32) (p2 : Int32) (p3 : Int32) (p4 : Int32) (p5 : Int32) (cs : Int32) (h0 : Heap) (n0 : Nat) (v : Option Value) (h : Heap) (L : List Loc) : Prop := v = some (.int (1 : Int32)) ∧ Fr n0 L ∧ Keep h0 h []
set_option maxRecDepth 65536 in
set_option maxHeartbeats 400000000 in
theorem own_rm0 (l : Launch) (Z : State) (a0 : Array Value) (hw : ∀ d ∈ tables_1, d.before a0 Z = true) (ws : List Jvm.Cond) (p1 : Int32) (p2 : Int32) (p3 : Int32) (p4 : Int32) (p5 : Int32) (cs : Int32) (h0 : Heap) (n0 : Nat) (Z0 : n0 ≤ h0.size) (P_S_java_lang_String_COMPACT_STRINGS : Sta Z h0 "java/lang/String" "COMPACT_STRINGS" "Z" (.int cs)) (hcs : ¬ (cs = (0 : Int32))) (P_S_java_lang_StringUTF16__assertionsDisabled : Sta Z h0 "java/lang/StringUTF16" "$assertionsDisabled" "Z" (.int (1 : Int32))) (P_S_java_lang_StringUTF16_HI_BYTE_SHIFT : Sta Z h0 "java/lang/StringUTF16" "HI_BYTE_SHIFT" "I" (.int (0 : Int32))) (P_S_java_lang_StringUTF16_LO_BYTE_SHIFT : Sta Z h0 "java/lang/StringUTF16" "LO_BYTE_SHIFT" "I" (.int (8 : Int32))) :
    MetFree l x (head1 (Jvm.Cond.code x code maxLocals ret :: ws) room_1) (fun a U => a = #[(.int p1), (.int p2), (.int p3), (.int p4), (.int p5)] ∧ Z.Warmed39 U.vm ∧ U.heap = h0) (fun _ _ _ _ _ => True) (fun _ U o U' => ∃ v L, o = .returned v ∧ Q_own_rm0 Z p1 p2 p3 p4 p5 cs h0 n0 v U'.heap L ∧ ReturnedEndW U o U' L 14 41) := by
  refine MetFree.of_bodySF (plainFor_of_name own_pn4) hisR ?_
  intro p e s m args below meth c s₁ Bd hml0 hP hK
  obtain ⟨rfl, hZ, hh⟩ := hP
  have hx := Bd.exec
  have hby := Bd.bytes
  have hml : c.maxLocals = 15 := hml0
  have hown : s.vm.findClass "com/example/rate_to_limit/ratetolimit/balance/PolicyCounterCheckedStatusPinLaw" = some m.cls := findClass_of_methodNamed Bd.named
  have hnm := (name_of_methodNamed Bd.named Bd.method).1
  have X0 : Stand p l e room_1 (s.setVm s.vm) m #[(.int p1), (.int p2), (.int p3), (.int p4), (.int p5)] below meth c s₁ [] 0 0 := Stand.of_body Bd
  have e0 : s₁.heap = h0 := by rw [← hh, Bd.state]; rfl
  have N0 := Fr.nil n0
  have K0 : Keep h0 h0 [] := Keep.refl h0 []
  have hS : s.Since s.vm h0.size := (State.WarmedH.refl s).since _
  have hk : h0.size ≤ h0.size := Nat.le_refl _
  have hZ : Z.Warmed39 (s.setVm s.vm).vm := hZ
  have hown : (s.setVm s.vm).vm.findClass "com/example/rate_to_limit/ratetolimit/balance/PolicyCounterCheckedStatusPinLaw" = some m.cls := hown
  have wS : ∀ d ∈ Bundle.stringAtoms, d.before a0 Z = true := fun d hd => hw d (own_strs d hd)
  show own_FinW p e below s (Q_own_rm0 Z p1 p2 p3 p4 p5 cs h0 n0) 14 41 (s₁.setTop (entryFrame m #[(.int p1), (.int p2), (.int p3), (.int p4), (.int p5)] maxLocals))
  refine own_goW (fun _ k => castTop (ef_own_rm0 m p1 p2 p3 p4 p5) k) ?_
  show own_FinW _ _ _ _ _ _ _ (s₁.setTop (mkF m 0 #[.val (.int p1), .val (.int p2), .val (.int p3), .val (.int p4), .val (.int p5), .unset, .unset, .unset, .unset, .unset, .unset, .unset, .unset, .unset, .unset] []))
  have J1 : ∀ (c0 : Int32) (c1 : Int32) (c2 : Int32) (hl0 : 0 ≤ c0.toInt) (hu0 : c0.toInt ≤ 65535) (hl1 : 0 ≤ c1.toInt) (hu1 : c1.toInt ≤ 65535) (hl2 : 0 ≤ c2.toInt) (hu2 : c2.toInt ≤ 65535), own_FinW p e below s (Q_own_rm0 Z p1 p2 p3 p4 p5 cs h0 n0) 14 41 (s₁.setTop (mkF m 21 #[.val (.int p1), .val (.int p2), .val (.int p3), .val (.int p4), .val (.int p5), .val (.int c0), .val (.int c1), .val (.int c2), .unset, .unset, .unset, .unset, .unset, .unset, .unset] [])) := by
    intro c0 c1 c2 hl0 hu0 hl1 hu1 hl2 hu2
    obtain ⟨T2, h2, X2, e2, E2, A2, D2, -, st2⟩ := newO X0 hx hZ hown (own_w hw 1 rfl) (own_w hw 2 rfl) (own_w hw 3 rfl) e0 (g := (mkF m 21 #[.val (.int p1), .val (.int p2), .val (.int p3), .val (.int p4), .val (.int p5), .val (.int c0), .val (.int c1), .val (.int c2), .unset, .unset, .unset, .unset, .unset, .unset, .unset] [])) rfl (hb hby at_21) (by decide) (by decide)
    obtain ⟨b2, g2⟩ : ∃ z, z = h0.size := ⟨_, rfl⟩
    rw [← g2] at A2 D2 st2
    have sz_b2 : h0.size ≤ b2 := Nat.le_trans K0.1 (Nat.le_of_eq g2.symm)
    have g_b2 : n0 ≤ b2 := Nat.le_trans Z0 sz_b2
    have S_4 := P_S_java_lang_String_COMPACT_STRINGS.ext E2
    have S_5 := P_S_java_lang_StringUTF16__assertionsDisabled.ext E2
    have S_6 := P_S_java_lang_StringUTF16_HI_BYTE_SHIFT.ext E2
    have S_7 := P_S_java_lang_StringUTF16_LO_BYTE_SHIFT.ext E2
    have F_coder_b2 : Fld Z h2 b2 "java/lang/String" "coder" "B" (.int (0 : Int32)) := D2 (Or.inr (own_w hw 28 rfl)) (ty := .byte) (by decide)
    have F_value_b2 : Fld Z h2 b2 "java/lang/String" "value" "[B" .null := D2 (Or.inr (own_w hw 30 rfl)) (ty := (.array .byte)) (by decide)
    have hk := Nat.le_trans hk E2.1
    have K8 : Keep h0 h2 [] := K0.ext E2
    refine own_goW (B := T2.setTop (mkF m 24 #[.val (.int p1), .val (.int p2), .val (.int p3), .val (.int p4), .val (.int p5), .val (.int c0), .val (.int c1), .val (.int c2), .unset, .unset, .unset, .unset, .unset, .unset, .unset] [(.ref b2)])) st2 ?_
    refine own_goW (B := T2.setTop (mkF m 26 #[.val (.int p1), .val (.int p2), .val (.int p3), .val (.int p4), .val (.int p5), .val (.int c0), .val (.int c1), .val (.int c2), .unset, .unset, .unset, .unset, .unset, .unset, .unset] [(.int (1 : Int32)), (.ref b2), (.ref b2)])) (fun _ k => XS.dup X2.here hx rfl (hb hby at_24) rfl rfl (XS.iconst X2.here hx rfl (hb hby at_25) k)) ?_
    obtain ⟨T9, h9, kc9, X9, e9, E9, A9, st9⟩ := newP X2 hx hZ (own_w hw 4 rfl) e2 (g := (mkF m 26 #[.val (.int p1), .val (.int p2), .val (.int p3), .val (.int p4), .val (.int p5), .val (.int c0), .val (.int c1), .val (.int c2), .unset, .unset, .unset, .unset, .unset, .unset, .unset] [(.int (1 : Int32)), (.ref b2), (.ref b2)])) rfl (hb hby at_26) rfl (by decide) (cap := 1) (by decide) (by decide) (by decide) (by decide)
    obtain ⟨b9, g9⟩ : ∃ z, z = h2.size := ⟨_, rfl⟩
    rw [← g9] at A9 st9
    have ne_b2_b9_10 : b2 ≠ b9 := Nat.ne_of_lt (Nat.lt_of_lt_of_le A2.lt (Nat.le_of_eq g9.symm))
    have sz_b9 : h0.size ≤ b9 := Nat.le_trans K8.1 (Nat.le_of_eq g9.symm)
    have g_b9 : n0 ≤ b9 := Nat.le_trans Z0 sz_b9
    have S_12 := S_4.ext E9
    have S_13 := S_5.ext E9
    have S_14 := S_6.ext E9
    have S_15 := S_7.ext E9
    have E_16 := A2.ext E9
    have F_17 := F_coder_b2.ext E9
    have F_18 := F_value_b2.ext E9
    have V_b9 : Arv Z h9 b9 kc9 .char (1 : Int32) [(.int (0 : Int32))] (.int (0 : Int32)) := (Arv.new A9 (by decide)).pad (pad_rep [] (.int (0 : Int32)) 1)
    have hk := Nat.le_trans hk E9.1
    have K19 : Keep h0 h9 [] := K8.ext E9
    refine own_goW (B := T9.setTop (mkF m 28 #[.val (.int p1), .val (.int p2), .val (.int p3), .val (.int p4), .val (.int p5), .val (.int c0), .val (.int c1), .val (.int c2), .unset, .unset, .unset, .unset, .unset, .unset, .unset] [(.ref b9), (.ref b2), (.ref b2)])) st9 ?_
    refine own_goW (B := T9.setTop (mkF m 32 #[.val (.int p1), .val (.int p2), .val (.int p3), .val (.int p4), .val (.int p5), .val (.int c0), .val (.int c1), .val (.int c2), .unset, .unset, .unset, .unset, .unset, .unset, .unset] [(.int c0), (.int (0 : Int32)), (.ref b9), (.ref b9), (.ref b2), (.ref b2)])) (fun _ k => XS.dup X9.here hx rfl (hb hby at_28) rfl rfl (XS.iconst X9.here hx rfl (hb hby at_29) (XS.iload X9.here hx rfl (hb hby at_30) rfl  k))) ?_
    obtain ⟨cl20, Ar20, q20, S20, N20n, H20, G20⟩ := id V_b9
    have hin21 : ¬ ((0 : Int32) < 0 ∨ cl20.slots.size ≤ ((0 : Int32)).toNatClampNeg) := inb_of S20 ⟨by decide, by decide⟩
    obtain ⟨T21, h21, X21, e21, W21, st21⟩ := stC X9 hx hZ e9 Ar20 (j := (0 : Int32)) hin21 (g := (mkF m 32 #[.val (.int p1), .val (.int p2), .val (.int p3), .val (.int p4), .val (.int p5), .val (.int c0), .val (.int c1), .val (.int c2), .unset, .unset, .unset, .unset, .unset, .unset, .unset] [(.int c0), (.int (0 : Int32)), (.ref b9), (.ref b9), (.ref b2), (.ref b2)])) rfl rfl (hb hby at_32)
    rw [own_narcid hl0 hu0] at W21
    have V_b9_21 : Arv Z h21 b9 kc9 .char (1 : Int32) [(.int c0)] (.int (0 : Int32)) := Arv.set Ar20 q20 S20 N20n H20 G20 (own_fitsc hl0 hu0) W21 0 rfl (Nat.le_of_ble_eq_true rfl)
    have S_23 := S_12.wr W21
    have S_24 := S_13.wr W21
    have S_25 := S_14.wr W21
    have S_26 := S_15.wr W21
    have E_27 := E_16.wr W21
    have F_28 := F_17.other W21 (Or.inl ne_b2_b9_10)
    have F_29 := F_18.other W21 (Or.inl ne_b2_b9_10)
    have hk := Nat.le_trans hk (Keep.of_wr W21).1
    have K31 : Keep h0 h21 [] := K19.wr W21 (Or.inr sz_b9)
    have N21 := Fr.snoc X21 N0 g_b9
    refine own_goW (B := T21.setTop (mkF m 33 #[.val (.int p1), .val (.int p2), .val (.int p3), .val (.int p4), .val (.int p5), .val (.int c0), .val (.int c1), .val (.int c2), .unset, .unset, .unset, .unset, .unset, .unset, .unset] [(.ref b9), (.ref b2), (.ref b2)])) st21 ?_
    obtain ⟨_, _, ⟨T32, L32, k32, n32⟩, -, X32, ⟨Lc32, hQ32, l32, y32, z32⟩, st32⟩ := X21.specialBack hx (y := (⟨"java/lang/String", "<init>", "([C)V"⟩ : MethodName)) rfl hown (mvT hZ (own_w hw 5 rfl)) (mvT hZ (own_w hw 6 rfl)) (mvT hZ (own_w hw 7 rfl)) (by decide) (backOf (W := 1) (own_strA1 l Z a0 hw [] b2 b9 kc9 c0 cs h21 n0 (Nat.le_trans Z0 K31.1) E_27 F_29 F_28 V_b9_21 g_b2 ne_b2_b9_10 S_23 hcs S_24 S_25 S_26 hl0 hu0) hZ (own_w hw 7 rfl) (own_w hw 3 rfl) (by decide) (by decide)) (g := (mkF m 33 #[.val (.int p1), .val (.int p2), .val (.int p3), .val (.int p4), .val (.int p5), .val (.int c0), .val (.int c1), .val (.int c2), .unset, .unset, .unset, .unset, .unset, .unset, .unset] [(.ref b9), (.ref b2), (.ref b2)])) rfl (by rw [hml]; rfl) (Steps.refl _) (a := b2) (argsL := [(.ref b9)]) (rest := [(.ref b2)]) (lenOf own_pd13 rfl) rfl (by show 2 * 0 + _ ≤ _; exact Nat.le_of_eq rfl) (hb hby at_33) (fun _ _ => ⟨rfl, e21, (by decide : 2 + 2 ≤ _), (by decide : 5 + 3 ≤ _)⟩)
    dsimp only [Pt.U, Pt.locs, Pt.cells, Pt.slots] at X32 l32 y32 z32 st32 hQ32
    subst l32 y32 z32
    obtain ⟨t_32, cd_32, rfl, N32q, K32q, Q32_0, Q32_1, Q32_2, Q32_3, x32_0⟩ := hQ32
    have N32 := Fr.app N21 N32q
    have hk := Nat.le_trans hk K32q.1
    have ne_b2_t_32_33 : b2 ≠ t_32 := Nat.ne_of_lt (Nat.lt_of_lt_of_le E_27.lt x32_0)
    have ne_b9_t_32_34 : b9 ≠ t_32 := Nat.ne_of_lt (Nat.lt_of_lt_of_le V_b9_21.lt x32_0)
    have sz_t_32 : h0.size ≤ t_32 := Nat.le_trans K31.1 x32_0
    have g_t_32 : n0 ≤ t_32 := Nat.le_trans Z0 sz_t_32
    have S_36 := own_Sta_keep S_23 K32q (allS (own_plain E_27) all0)
    have S_37 := own_Sta_keep S_24 K32q (allS (own_plain E_27) all0)
    have S_38 := own_Sta_keep S_25 K32q (allS (own_plain E_27) all0)
    have S_39 := own_Sta_keep S_26 K32q (allS (own_plain E_27) all0)
    have V_43 := V_b9_21.keep K32q (ninS (Ne.symm ne_b2_b9_10) nin0)
    have K44 : Keep h0 T32.heap [] := K31.trans K32q (allS (Or.inr sz_b2) all0)
    refine own_goW (B := T32.setTop (mkF m 38 #[.val (.int p1), .val (.int p2), .val (.int p3), .val (.int p4), .val (.int p5), .val (.int c0), .val (.int c1), .val (.int c2), .val (.ref b2), .unset, .unset, .unset, .unset, .unset, .unset] [])) (fun _ k => st32.trans (XS.astore X32.here hx rfl (hb hby at_36) rfl rfl (l' := #[.val (.int p1), .val (.int p2), .val (.int p3), .val (.int p4), .val (.int p5), .val (.int c0), .val (.int c1), .val (.int c2), .val (.ref b2), .unset, .unset, .unset, .unset, .unset, .unset]) rfl k)) ?_
    obtain ⟨T45, h45, X45, e45, E45, A45, D45, -, st45⟩ := newO X32 hx hZ hown (own_w hw 1 rfl) (own_w hw 2 rfl) (own_w hw 3 rfl) rfl (g := (mkF m 38 #[.val (.int p1), .val (.int p2), .val (.int p3), .val (.int p4), .val (.int p5), .val (.int c0), .val (.int c1), .val (.int c2), .val (.ref b2), .unset, .unset, .unset, .unset, .unset, .unset] [])) rfl (hb hby at_38) (by decide) (by decide)
    obtain ⟨b45, g45⟩ : ∃ z, z = T32.heap.size := ⟨_, rfl⟩
    rw [← g45] at A45 D45 st45
    have ne_b9_b45_46 : b9 ≠ b45 := Nat.ne_of_lt (Nat.lt_of_lt_of_le V_43.lt (Nat.le_of_eq g45.symm))
    have ne_b2_b45_47 : b2 ≠ b45 := Nat.ne_of_lt (Nat.lt_of_lt_of_le Q32_0.lt (Nat.le_of_eq g45.symm))
    have ne_t_32_b45_48 : t_32 ≠ b45 := Nat.ne_of_lt (Nat.lt_of_lt_of_le Q32_3.lt (Nat.le_of_eq g45.symm))
    have sz_b45 : h0.size ≤ b45 := Nat.le_trans K44.1 (Nat.le_of_eq g45.symm)
    have g_b45 : n0 ≤ b45 := Nat.le_trans Z0 sz_b45
    have S_50 := S_36.ext E45
    have S_51 := S_37.ext E45
    have S_52 := S_38.ext E45
    have S_53 := S_39.ext E45
    have V_54 := V_43.ext E45
    have E_55 := Q32_0.ext E45
    have F_56 := Q32_1.ext E45
    have F_57 := Q32_2.ext E45
    have G_58 := Q32_3.ext E45
    have F_coder_b45 : Fld Z h45 b45 "java/lang/String" "coder" "B" (.int (0 : Int32)) := D45 (Or.inr (own_w hw 28 rfl)) (ty := .byte) (by decide)
    have F_value_b45 : Fld Z h45 b45 "java/lang/String" "value" "[B" .null := D45 (Or.inr (own_w hw 30 rfl)) (ty := (.array .byte)) (by decide)
    have hk := Nat.le_trans hk E45.1
    have K59 : Keep h0 h45 [] := K44.ext E45
    refine own_goW (B := T45.setTop (mkF m 41 #[.val (.int p1), .val (.int p2), .val (.int p3), .val (.int p4), .val (.int p5), .val (.int c0), .val (.int c1), .val (.int c2), .val (.ref b2), .unset, .unset, .unset, .unset, .unset, .unset] [(.ref b45)])) st45 ?_
    refine own_goW (B := T45.setTop (mkF m 43 #[.val (.int p1), .val (.int p2), .val (.int p3), .val (.int p4), .val (.int p5), .val (.int c0), .val (.int c1), .val (.int c2), .val (.ref b2), .unset, .unset, .unset, .unset, .unset, .unset] [(.int (2 : Int32)), (.ref b45), (.ref b45)])) (fun _ k => XS.dup X45.here hx rfl (hb hby at_41) rfl rfl (XS.iconst X45.here hx rfl (hb hby at_42) k)) ?_
    obtain ⟨T60, h60, kc60, X60, e60, E60, A60, st60⟩ := newP X45 hx hZ (own_w hw 4 rfl) e45 (g := (mkF m 43 #[.val (.int p1), .val (.int p2), .val (.int p3), .val (.int p4), .val (.int p5), .val (.int c0), .val (.int c1), .val (.int c2), .val (.ref b2), .unset, .unset, .unset, .unset, .unset, .unset] [(.int (2 : Int32)), (.ref b45), (.ref b45)])) rfl (hb hby at_43) rfl (by decide) (cap := 2) (by decide) (by decide) (by decide) (by decide)
    obtain ⟨b60, g60⟩ : ∃ z, z = h45.size := ⟨_, rfl⟩
    rw [← g60] at A60 st60
    have ne_b9_b60_61 : b9 ≠ b60 := Nat.ne_of_lt (Nat.lt_of_lt_of_le V_54.lt (Nat.le_of_eq g60.symm))
    have ne_b2_b60_62 : b2 ≠ b60 := Nat.ne_of_lt (Nat.lt_of_lt_of_le E_55.lt (Nat.le_of_eq g60.symm))
    have ne_t_32_b60_63 : t_32 ≠ b60 := Nat.ne_of_lt (Nat.lt_of_lt_of_le G_58.lt (Nat.le_of_eq g60.symm))
    have ne_b45_b60_64 : b45 ≠ b60 := Nat.ne_of_lt (Nat.lt_of_lt_of_le A45.lt (Nat.le_of_eq g60.symm))
    have sz_b60 : h0.size ≤ b60 := Nat.le_trans K59.1 (Nat.le_of_eq g60.symm)
    have g_b60 : n0 ≤ b60 := Nat.le_trans Z0 sz_b60
    have S_66 := S_50.ext E60
    have S_67 := S_51.ext E60
    have S_68 := S_52.ext E60
    have S_69 := S_53.ext E60
    have V_70 := V_54.ext E60
    have E_71 := E_55.ext E60
    have F_72 := F_56.ext E60
    have F_73 := F_57.ext E60
    have G_74 := G_58.ext E60
    have E_75 := A45.ext E60
    have F_76 := F_coder_b45.ext E60
    have F_77 := F_value_b45.ext E60
    have V_b60 : Arv Z h60 b60 kc60 .char (2 : Int32) [(.int (0 : Int32)), (.int (0 : Int32))] (.int (0 : Int32)) := (Arv.new A60 (by decide)).pad (pad_rep [] (.int (0 : Int32)) 2)
    have hk := Nat.le_trans hk E60.1
    have K78 : Keep h0 h60 [] := K59.ext E60
    refine own_goW (B := T60.setTop (mkF m 45 #[.val (.int p1), .val (.int p2), .val (.int p3), .val (.int p4), .val (.int p5), .val (.int c0), .val (.int c1), .val (.int c2), .val (.ref b2), .unset, .unset, .unset, .unset, .unset, .unset] [(.ref b60), (.ref b45), (.ref b45)])) st60 ?_
    refine own_goW (B := T60.setTop (mkF m 49 #[.val (.int p1), .val (.int p2), .val (.int p3), .val (.int p4), .val (.int p5), .val (.int c0), .val (.int c1), .val (.int c2), .val (.ref b2), .unset, .unset, .unset, .unset, .unset, .unset] [(.int c0), (.int (0 : Int32)), (.ref b60), (.ref b60), (.ref b45), (.ref b45)])) (fun _ k => XS.dup X60.here hx rfl (hb hby at_45) rfl rfl (XS.iconst X60.here hx rfl (hb hby at_46) (XS.iload X60.here hx rfl (hb hby at_47) rfl  k))) ?_
    obtain ⟨cl79, Ar79, q79, S79, N79n, H79, G79⟩ := id V_b60
    have hin80 : ¬ ((0 : Int32) < 0 ∨ cl79.slots.size ≤ ((0 : Int32)).toNatClampNeg) := inb_of S79 ⟨by decide, by decide⟩
    obtain ⟨T80, h80, X80, e80, W80, st80⟩ := stC X60 hx hZ e60 Ar79 (j := (0 : Int32)) hin80 (g := (mkF m 49 #[.val (.int p1), .val (.int p2), .val (.int p3), .val (.int p4), .val (.int p5), .val (.int c0), .val (.int c1), .val (.int c2), .val (.ref b2), .unset, .unset, .unset, .unset, .unset, .unset] [(.int c0), (.int (0 : Int32)), (.ref b60), (.ref b60), (.ref b45), (.ref b45)])) rfl rfl (hb hby at_49)
    rw [own_narcid hl0 hu0] at W80
    have V_b60_80 : Arv Z h80 b60 kc60 .char (2 : Int32) [(.int c0), (.int (0 : Int32))] (.int (0 : Int32)) := Arv.set Ar79 q79 S79 N79n H79 G79 (own_fitsc hl0 hu0) W80 0 rfl (Nat.le_of_ble_eq_true rfl)
    have S_82 := S_66.wr W80
    have S_83 := S_67.wr W80
    have S_84 := S_68.wr W80
    have S_85 := S_69.wr W80
    have V_86 := V_70.other W80 ne_b9_b60_61
    have E_87 := E_71.wr W80
    have F_88 := F_72.other W80 (Or.inl ne_b2_b60_62)
    have F_89 := F_73.other W80 (Or.inl ne_b2_b60_62)
    have G_90 := G_74.other W80 ne_t_32_b60_63
    have E_91 := E_75.wr W80
    have F_92 := F_76.other W80 (Or.inl ne_b45_b60_64)
    have F_93 := F_77.other W80 (Or.inl ne_b45_b60_64)
    have hk := Nat.le_trans hk (Keep.of_wr W80).1
    have K95 : Keep h0 h80 [] := K78.wr W80 (Or.inr sz_b60)
    have N80 := Fr.snoc X80 N32 g_b60
    refine own_goW (B := T80.setTop (mkF m 50 #[.val (.int p1), .val (.int p2), .val (.int p3), .val (.int p4), .val (.int p5), .val (.int c0), .val (.int c1), .val (.int c2), .val (.ref b2), .unset, .unset, .unset, .unset, .unset, .unset] [(.ref b60), (.ref b45), (.ref b45)])) st80 ?_
    refine own_goW (B := T80.setTop (mkF m 54 #[.val (.int p1), .val (.int p2), .val (.int p3), .val (.int p4), .val (.int p5), .val (.int c0), .val (.int c1), .val (.int c2), .val (.ref b2), .unset, .unset, .unset, .unset, .unset, .unset] [(.int c1), (.int (1 : Int32)), (.ref b60), (.ref b60), (.ref b45), (.ref b45)])) (fun _ k => XS.dup X80.here hx rfl (hb hby at_50) rfl rfl (XS.iconst X80.here hx rfl (hb hby at_51) (XS.iload X80.here hx rfl (hb hby at_52) rfl  k))) ?_
    obtain ⟨cl96, Ar96, q96, S96, N96n, H96, G96⟩ := id V_b60_80
    have hin97 : ¬ ((1 : Int32) < 0 ∨ cl96.slots.size ≤ ((1 : Int32)).toNatClampNeg) := inb_of S96 ⟨by decide, by decide⟩
    obtain ⟨T97, h97, X97, e97, W97, st97⟩ := stC X80 hx hZ e80 Ar96 (j := (1 : Int32)) hin97 (g := (mkF m 54 #[.val (.int p1), .val (.int p2), .val (.int p3), .val (.int p4), .val (.int p5), .val (.int c0), .val (.int c1), .val (.int c2), .val (.ref b2), .unset, .unset, .unset, .unset, .unset, .unset] [(.int c1), (.int (1 : Int32)), (.ref b60), (.ref b60), (.ref b45), (.ref b45)])) rfl rfl (hb hby at_54)
    rw [own_narcid hl1 hu1] at W97
    have V_b60_97 : Arv Z h97 b60 kc60 .char (2 : Int32) [(.int c0), (.int c1)] (.int (0 : Int32)) := Arv.set Ar96 q96 S96 N96n H96 G96 (own_fitsc hl1 hu1) W97 1 rfl (Nat.le_of_ble_eq_true rfl)
    have S_99 := S_82.wr W97
    have S_100 := S_83.wr W97
    have S_101 := S_84.wr W97
    have S_102 := S_85.wr W97
    have V_103 := V_86.other W97 ne_b9_b60_61
    have E_104 := E_87.wr W97
    have F_105 := F_88.other W97 (Or.inl ne_b2_b60_62)
    have F_106 := F_89.other W97 (Or.inl ne_b2_b60_62)
    have G_107 := G_90.other W97 ne_t_32_b60_63
    have E_108 := E_91.wr W97
    have F_109 := F_92.other W97 (Or.inl ne_b45_b60_64)
    have F_110 := F_93.other W97 (Or.inl ne_b45_b60_64)
    have hk := Nat.le_trans hk (Keep.of_wr W97).1
    have K112 : Keep h0 h97 [] := K95.wr W97 (Or.inr sz_b60)
    have N97 := Fr.snoc X97 N80 g_b60
    refine own_goW (B := T97.setTop (mkF m 55 #[.val (.int p1), .val (.int p2), .val (.int p3), .val (.int p4), .val (.int p5), .val (.int c0), .val (.int c1), .val (.int c2), .val (.ref b2), .unset, .unset, .unset, .unset, .unset, .unset] [(.ref b60), (.ref b45), (.ref b45)])) st97 ?_
    obtain ⟨_, _, ⟨T113, L113, k113, n113⟩, -, X113, ⟨Lc113, hQ113, l113, y113, z113⟩, st113⟩ := X97.specialBack hx (y := (⟨"java/lang/String", "<init>", "([C)V"⟩ : MethodName)) rfl hown (mvT hZ (own_w hw 5 rfl)) (mvT hZ (own_w hw 6 rfl)) (mvT hZ (own_w hw 7 rfl)) (by decide) (backOf (W := 1) (own_strA2 l Z a0 hw [] b45 b60 kc60 c0 c1 cs h97 n0 (Nat.le_trans Z0 K112.1) E_108 F_110 F_109 V_b60_97 g_b45 ne_b45_b60_64 S_99 hcs S_100 S_101 S_102 hl0 hu0 hl1 hu1) hZ (own_w hw 7 rfl) (own_w hw 3 rfl) (by decide) (by decide)) (g := (mkF m 55 #[.val (.int p1), .val (.int p2), .val (.int p3), .val (.int p4), .val (.int p5), .val (.int c0), .val (.int c1), .val (.int c2), .val (.ref b2), .unset, .unset, .unset, .unset, .unset, .unset] [(.ref b60), (.ref b45), (.ref b45)])) rfl (by rw [hml]; rfl) (Steps.refl _) (a := b45) (argsL := [(.ref b60)]) (rest := [(.ref b45)]) (lenOf own_pd13 rfl) rfl (by show 2 * 0 + _ ≤ _; exact Nat.le_of_eq rfl) (hb hby at_55) (fun _ _ => ⟨rfl, e97, (by decide : 6 + 2 ≤ _), (by decide : 14 + 6 ≤ _)⟩)
    dsimp only [Pt.U, Pt.locs, Pt.cells, Pt.slots] at X113 l113 y113 z113 st113 hQ113
    subst l113 y113 z113
    obtain ⟨t_113, cd_113, rfl, N113q, K113q, Q113_0, Q113_1, Q113_2, Q113_3, x113_0⟩ := hQ113
    have N113 := Fr.app N97 N113q
    have hk := Nat.le_trans hk K113q.1
    have ne_b9_t_113_114 : b9 ≠ t_113 := Nat.ne_of_lt (Nat.lt_of_lt_of_le V_103.lt x113_0)
    have ne_b2_t_113_115 : b2 ≠ t_113 := Nat.ne_of_lt (Nat.lt_of_lt_of_le E_104.lt x113_0)
    have ne_t_32_t_113_116 : t_32 ≠ t_113 := Nat.ne_of_lt (Nat.lt_of_lt_of_le G_107.lt x113_0)
    have ne_b45_t_113_117 : b45 ≠ t_113 := Nat.ne_of_lt (Nat.lt_of_lt_of_le E_108.lt x113_0)
    have ne_b60_t_113_118 : b60 ≠ t_113 := Nat.ne_of_lt (Nat.lt_of_lt_of_le V_b60_97.lt x113_0)
    have sz_t_113 : h0.size ≤ t_113 := Nat.le_trans K112.1 x113_0
    have g_t_113 : n0 ≤ t_113 := Nat.le_trans Z0 sz_t_113
    have S_120 := own_Sta_keep S_99 K113q (allS (own_plain E_108) all0)
    have S_121 := own_Sta_keep S_100 K113q (allS (own_plain E_108) all0)
    have S_122 := own_Sta_keep S_101 K113q (allS (own_plain E_108) all0)
    have S_123 := own_Sta_keep S_102 K113q (allS (own_plain E_108) all0)
    have V_124 := V_103.keep K113q (ninS ne_b9_b45_46 nin0)
    have E_125 := E_104.keep K113q
    have F_126 := F_105.keep K113q (ninS ne_b2_b45_47 nin0)
    have F_127 := F_106.keep K113q (ninS ne_b2_b45_47 nin0)
    have G_128 := G_107.keep K113q (ninS ne_t_32_b45_48 nin0)
    have V_132 := V_b60_97.keep K113q (ninS (Ne.symm ne_b45_b60_64) nin0)
    have K133 : Keep h0 T113.heap [] := K112.trans K113q (allS (Or.inr sz_b45) all0)
    refine own_goW (B := T113.setTop (mkF m 60 #[.val (.int p1), .val (.int p2), .val (.int p3), .val (.int p4), .val (.int p5), .val (.int c0), .val (.int c1), .val (.int c2), .val (.ref b2), .val (.ref b45), .unset, .unset, .unset, .unset, .unset] [])) (fun _ k => st113.trans (XS.astore X113.here hx rfl (hb hby at_58) rfl rfl (l' := #[.val (.int p1), .val (.int p2), .val (.int p3), .val (.int p4), .val (.int p5), .val (.int c0), .val (.int c1), .val (.int c2), .val (.ref b2), .val (.ref b45), .unset, .unset, .unset, .unset, .unset]) rfl k)) ?_
    obtain ⟨T134, h134, X134, e134, E134, A134, D134, -, st134⟩ := newO X113 hx hZ hown (own_w hw 1 rfl) (own_w hw 2 rfl) (own_w hw 3 rfl) rfl (g := (mkF m 60 #[.val (.int p1), .val (.int p2), .val (.int p3), .val (.int p4), .val (.int p5), .val (.int c0), .val (.int c1), .val (.int c2), .val (.ref b2), .val (.ref b45), .unset, .unset, .unset, .unset, .unset] [])) rfl (hb hby at_60) (by decide) (by decide)
    obtain ⟨b134, g134⟩ : ∃ z, z = T113.heap.size := ⟨_, rfl⟩
    rw [← g134] at A134 D134 st134
    have ne_b9_b134_135 : b9 ≠ b134 := Nat.ne_of_lt (Nat.lt_of_lt_of_le V_124.lt (Nat.le_of_eq g134.symm))
    have ne_b2_b134_136 : b2 ≠ b134 := Nat.ne_of_lt (Nat.lt_of_lt_of_le E_125.lt (Nat.le_of_eq g134.symm))
    have ne_t_32_b134_137 : t_32 ≠ b134 := Nat.ne_of_lt (Nat.lt_of_lt_of_le G_128.lt (Nat.le_of_eq g134.symm))
    have ne_b60_b134_138 : b60 ≠ b134 := Nat.ne_of_lt (Nat.lt_of_lt_of_le V_132.lt (Nat.le_of_eq g134.symm))
    have ne_b45_b134_139 : b45 ≠ b134 := Nat.ne_of_lt (Nat.lt_of_lt_of_le Q113_0.lt (Nat.le_of_eq g134.symm))
    have ne_t_113_b134_140 : t_113 ≠ b134 := Nat.ne_of_lt (Nat.lt_of_lt_of_le Q113_3.lt (Nat.le_of_eq g134.symm))
    have sz_b134 : h0.size ≤ b134 := Nat.le_trans K133.1 (Nat.le_of_eq g134.symm)
    have g_b134 : n0 ≤ b134 := Nat.le_trans Z0 sz_b134
    have S_142 := S_120.ext E134
    have S_143 := S_121.ext E134
    have S_144 := S_122.ext E134
    have S_145 := S_123.ext E134
    have V_146 := V_124.ext E134
    have E_147 := E_125.ext E134
    have F_148 := F_126.ext E134
    have F_149 := F_127.ext E134
    have G_150 := G_128.ext E134
    have V_151 := V_132.ext E134
    have E_152 := Q113_0.ext E134
    have F_153 := Q113_1.ext E134
    have F_154 := Q113_2.ext E134
    have G_155 := Q113_3.ext E134
    have F_coder_b134 : Fld Z h134 b134 "java/lang/String" "coder" "B" (.int (0 : Int32)) := D134 (Or.inr (own_w hw 28 rfl)) (ty := .byte) (by decide)
    have F_value_b134 : Fld Z h134 b134 "java/lang/String" "value" "[B" .null := D134 (Or.inr (own_w hw 30 rfl)) (ty := (.array .byte)) (by decide)
    have hk := Nat.le_trans hk E134.1
    have K156 : Keep h0 h134 [] := K133.ext E134
    refine own_goW (B := T134.setTop (mkF m 63 #[.val (.int p1), .val (.int p2), .val (.int p3), .val (.int p4), .val (.int p5), .val (.int c0), .val (.int c1), .val (.int c2), .val (.ref b2), .val (.ref b45), .unset, .unset, .unset, .unset, .unset] [(.ref b134)])) st134 ?_
    refine own_goW (B := T134.setTop (mkF m 65 #[.val (.int p1), .val (.int p2), .val (.int p3), .val (.int p4), .val (.int p5), .val (.int c0), .val (.int c1), .val (.int c2), .val (.ref b2), .val (.ref b45), .unset, .unset, .unset, .unset, .unset] [(.int (3 : Int32)), (.ref b134), (.ref b134)])) (fun _ k => XS.dup X134.here hx rfl (hb hby at_63) rfl rfl (XS.iconst X134.here hx rfl (hb hby at_64) k)) ?_
    obtain ⟨T157, h157, kc157, X157, e157, E157, A157, st157⟩ := newP X134 hx hZ (own_w hw 4 rfl) e134 (g := (mkF m 65 #[.val (.int p1), .val (.int p2), .val (.int p3), .val (.int p4), .val (.int p5), .val (.int c0), .val (.int c1), .val (.int c2), .val (.ref b2), .val (.ref b45), .unset, .unset, .unset, .unset, .unset] [(.int (3 : Int32)), (.ref b134), (.ref b134)])) rfl (hb hby at_65) rfl (by decide) (cap := 3) (by decide) (by decide) (by decide) (by decide)
    obtain ⟨b157, g157⟩ : ∃ z, z = h134.size := ⟨_, rfl⟩
    rw [← g157] at A157 st157
    have ne_b9_b157_158 : b9 ≠ b157 := Nat.ne_of_lt (Nat.lt_of_lt_of_le V_146.lt (Nat.le_of_eq g157.symm))
    have ne_b2_b157_159 : b2 ≠ b157 := Nat.ne_of_lt (Nat.lt_of_lt_of_le E_147.lt (Nat.le_of_eq g157.symm))
    have ne_t_32_b157_160 : t_32 ≠ b157 := Nat.ne_of_lt (Nat.lt_of_lt_of_le G_150.lt (Nat.le_of_eq g157.symm))
    have ne_b60_b157_161 : b60 ≠ b157 := Nat.ne_of_lt (Nat.lt_of_lt_of_le V_151.lt (Nat.le_of_eq g157.symm))
    have ne_b45_b157_162 : b45 ≠ b157 := Nat.ne_of_lt (Nat.lt_of_lt_of_le E_152.lt (Nat.le_of_eq g157.symm))
    have ne_t_113_b157_163 : t_113 ≠ b157 := Nat.ne_of_lt (Nat.lt_of_lt_of_le G_155.lt (Nat.le_of_eq g157.symm))
    have ne_b134_b157_164 : b134 ≠ b157 := Nat.ne_of_lt (Nat.lt_of_lt_of_le A134.lt (Nat.le_of_eq g157.symm))
    have sz_b157 : h0.size ≤ b157 := Nat.le_trans K156.1 (Nat.le_of_eq g157.symm)
    have g_b157 : n0 ≤ b157 := Nat.le_trans Z0 sz_b157
    have S_166 := S_142.ext E157
    have S_167 := S_143.ext E157
    have S_168 := S_144.ext E157
    have S_169 := S_145.ext E157
    have V_170 := V_146.ext E157
    have E_171 := E_147.ext E157
    have F_172 := F_148.ext E157
    have F_173 := F_149.ext E157
    have G_174 := G_150.ext E157
    have V_175 := V_151.ext E157
    have E_176 := E_152.ext E157
    have F_177 := F_153.ext E157
    have F_178 := F_154.ext E157
    have G_179 := G_155.ext E157
    have E_180 := A134.ext E157
    have F_181 := F_coder_b134.ext E157
    have F_182 := F_value_b134.ext E157
    have V_b157 : Arv Z h157 b157 kc157 .char (3 : Int32) [(.int (0 : Int32)), (.int (0 : Int32)), (.int (0 : Int32))] (.int (0 : Int32)) := (Arv.new A157 (by decide)).pad (pad_rep [] (.int (0 : Int32)) 3)
    have hk := Nat.le_trans hk E157.1
    have K183 : Keep h0 h157 [] := K156.ext E157
    refine own_goW (B := T157.setTop (mkF m 67 #[.val (.int p1), .val (.int p2), .val (.int p3), .val (.int p4), .val (.int p5), .val (.int c0), .val (.int c1), .val (.int c2), .val (.ref b2), .val (.ref b45), .unset, .unset, .unset, .unset, .unset] [(.ref b157), (.ref b134), (.ref b134)])) st157 ?_
    refine own_goW (B := T157.setTop (mkF m 71 #[.val (.int p1), .val (.int p2), .val (.int p3), .val (.int p4), .val (.int p5), .val (.int c0), .val (.int c1), .val (.int c2), .val (.ref b2), .val (.ref b45), .unset, .unset, .unset, .unset, .unset] [(.int c0), (.int (0 : Int32)), (.ref b157), (.ref b157), (.ref b134), (.ref b134)])) (fun _ k => XS.dup X157.here hx rfl (hb hby at_67) rfl rfl (XS.iconst X157.here hx rfl (hb hby at_68) (XS.iload X157.here hx rfl (hb hby at_69) rfl  k))) ?_
    obtain ⟨cl184, Ar184, q184, S184, N184n, H184, G184⟩ := id V_b157
    have hin185 : ¬ ((0 : Int32) < 0 ∨ cl184.slots.size ≤ ((0 : Int32)).toNatClampNeg) := inb_of S184 ⟨by decide, by decide⟩
    obtain ⟨T185, h185, X185, e185, W185, st185⟩ := stC X157 hx hZ e157 Ar184 (j := (0 : Int32)) hin185 (g := (mkF m 71 #[.val (.int p1), .val (.int p2), .val (.int p3), .val (.int p4), .val (.int p5), .val (.int c0), .val (.int c1), .val (.int c2), .val (.ref b2), .val (.ref b45), .unset, .unset, .unset, .unset, .unset] [(.int c0), (.int (0 : Int32)), (.ref b157), (.ref b157), (.ref b134), (.ref b134)])) rfl rfl (hb hby at_71)
    rw [own_narcid hl0 hu0] at W185
    have V_b157_185 : Arv Z h185 b157 kc157 .char (3 : Int32) [(.int c0), (.int (0 : Int32)), (.int (0 : Int32))] (.int (0 : Int32)) := Arv.set Ar184 q184 S184 N184n H184 G184 (own_fitsc hl0 hu0) W185 0 rfl (Nat.le_of_ble_eq_true rfl)
    have S_187 := S_166.wr W185
    have S_188 := S_167.wr W185
    have S_189 := S_168.wr W185
    have S_190 := S_169.wr W185
    have V_191 := V_170.other W185 ne_b9_b157_158
    have E_192 := E_171.wr W185
    have F_193 := F_172.other W185 (Or.inl ne_b2_b157_159)
    have F_194 := F_173.other W185 (Or.inl ne_b2_b157_159)
    have G_195 := G_174.other W185 ne_t_32_b157_160
    have V_196 := V_175.other W185 ne_b60_b157_161
    have E_197 := E_176.wr W185
    have F_198 := F_177.other W185 (Or.inl ne_b45_b157_162)
    have F_199 := F_178.other W185 (Or.inl ne_b45_b157_162)
    have G_200 := G_179.other W185 ne_t_113_b157_163
    have E_201 := E_180.wr W185
    have F_202 := F_181.other W185 (Or.inl ne_b134_b157_164)
    have F_203 := F_182.other W185 (Or.inl ne_b134_b157_164)
    have hk := Nat.le_trans hk (Keep.of_wr W185).1
    have K205 : Keep h0 h185 [] := K183.wr W185 (Or.inr sz_b157)
    have N185 := Fr.snoc X185 N113 g_b157
    refine own_goW (B := T185.setTop (mkF m 72 #[.val (.int p1), .val (.int p2), .val (.int p3), .val (.int p4), .val (.int p5), .val (.int c0), .val (.int c1), .val (.int c2), .val (.ref b2), .val (.ref b45), .unset, .unset, .unset, .unset, .unset] [(.ref b157), (.ref b134), (.ref b134)])) st185 ?_
    refine own_goW (B := T185.setTop (mkF m 76 #[.val (.int p1), .val (.int p2), .val (.int p3), .val (.int p4), .val (.int p5), .val (.int c0), .val (.int c1), .val (.int c2), .val (.ref b2), .val (.ref b45), .unset, .unset, .unset, .unset, .unset] [(.int c1), (.int (1 : Int32)), (.ref b157), (.ref b157), (.ref b134), (.ref b134)])) (fun _ k => XS.dup X185.here hx rfl (hb hby at_72) rfl rfl (XS.iconst X185.here hx rfl (hb hby at_73) (XS.iload X185.here hx rfl (hb hby at_74) rfl  k))) ?_
    obtain ⟨cl206, Ar206, q206, S206, N206n, H206, G206⟩ := id V_b157_185
    have hin207 : ¬ ((1 : Int32) < 0 ∨ cl206.slots.size ≤ ((1 : Int32)).toNatClampNeg) := inb_of S206 ⟨by decide, by decide⟩
    obtain ⟨T207, h207, X207, e207, W207, st207⟩ := stC X185 hx hZ e185 Ar206 (j := (1 : Int32)) hin207 (g := (mkF m 76 #[.val (.int p1), .val (.int p2), .val (.int p3), .val (.int p4), .val (.int p5), .val (.int c0), .val (.int c1), .val (.int c2), .val (.ref b2), .val (.ref b45), .unset, .unset, .unset, .unset, .unset] [(.int c1), (.int (1 : Int32)), (.ref b157), (.ref b157), (.ref b134), (.ref b134)])) rfl rfl (hb hby at_76)
    rw [own_narcid hl1 hu1] at W207
    have V_b157_207 : Arv Z h207 b157 kc157 .char (3 : Int32) [(.int c0), (.int c1), (.int (0 : Int32))] (.int (0 : Int32)) := Arv.set Ar206 q206 S206 N206n H206 G206 (own_fitsc hl1 hu1) W207 1 rfl (Nat.le_of_ble_eq_true rfl)
    have S_209 := S_187.wr W207
    have S_210 := S_188.wr W207
    have S_211 := S_189.wr W207
    have S_212 := S_190.wr W207
    have V_213 := V_191.other W207 ne_b9_b157_158
    have E_214 := E_192.wr W207
    have F_215 := F_193.other W207 (Or.inl ne_b2_b157_159)
    have F_216 := F_194.other W207 (Or.inl ne_b2_b157_159)
    have G_217 := G_195.other W207 ne_t_32_b157_160
    have V_218 := V_196.other W207 ne_b60_b157_161
    have E_219 := E_197.wr W207
    have F_220 := F_198.other W207 (Or.inl ne_b45_b157_162)
    have F_221 := F_199.other W207 (Or.inl ne_b45_b157_162)
    have G_222 := G_200.other W207 ne_t_113_b157_163
    have E_223 := E_201.wr W207
    have F_224 := F_202.other W207 (Or.inl ne_b134_b157_164)
    have F_225 := F_203.other W207 (Or.inl ne_b134_b157_164)
    have hk := Nat.le_trans hk (Keep.of_wr W207).1
    have K227 : Keep h0 h207 [] := K205.wr W207 (Or.inr sz_b157)
    have N207 := Fr.snoc X207 N185 g_b157
    refine own_goW (B := T207.setTop (mkF m 77 #[.val (.int p1), .val (.int p2), .val (.int p3), .val (.int p4), .val (.int p5), .val (.int c0), .val (.int c1), .val (.int c2), .val (.ref b2), .val (.ref b45), .unset, .unset, .unset, .unset, .unset] [(.ref b157), (.ref b134), (.ref b134)])) st207 ?_
    refine own_goW (B := T207.setTop (mkF m 81 #[.val (.int p1), .val (.int p2), .val (.int p3), .val (.int p4), .val (.int p5), .val (.int c0), .val (.int c1), .val (.int c2), .val (.ref b2), .val (.ref b45), .unset, .unset, .unset, .unset, .unset] [(.int c2), (.int (2 : Int32)), (.ref b157), (.ref b157), (.ref b134), (.ref b134)])) (fun _ k => XS.dup X207.here hx rfl (hb hby at_77) rfl rfl (XS.iconst X207.here hx rfl (hb hby at_78) (XS.iload X207.here hx rfl (hb hby at_79) rfl  k))) ?_
    obtain ⟨cl228, Ar228, q228, S228, N228n, H228, G228⟩ := id V_b157_207
    have hin229 : ¬ ((2 : Int32) < 0 ∨ cl228.slots.size ≤ ((2 : Int32)).toNatClampNeg) := inb_of S228 ⟨by decide, by decide⟩
    obtain ⟨T229, h229, X229, e229, W229, st229⟩ := stC X207 hx hZ e207 Ar228 (j := (2 : Int32)) hin229 (g := (mkF m 81 #[.val (.int p1), .val (.int p2), .val (.int p3), .val (.int p4), .val (.int p5), .val (.int c0), .val (.int c1), .val (.int c2), .val (.ref b2), .val (.ref b45), .unset, .unset, .unset, .unset, .unset] [(.int c2), (.int (2 : Int32)), (.ref b157), (.ref b157), (.ref b134), (.ref b134)])) rfl rfl (hb hby at_81)
    rw [own_narcid hl2 hu2] at W229
    have V_b157_229 : Arv Z h229 b157 kc157 .char (3 : Int32) [(.int c0), (.int c1), (.int c2)] (.int (0 : Int32)) := Arv.set Ar228 q228 S228 N228n H228 G228 (own_fitsc hl2 hu2) W229 2 rfl (Nat.le_of_ble_eq_true rfl)
    have S_231 := S_209.wr W229
    have S_232 := S_210.wr W229
    have S_233 := S_211.wr W229
    have S_234 := S_212.wr W229
    have V_235 := V_213.other W229 ne_b9_b157_158
    have E_236 := E_214.wr W229
    have F_237 := F_215.other W229 (Or.inl ne_b2_b157_159)
    have F_238 := F_216.other W229 (Or.inl ne_b2_b157_159)
    have G_239 := G_217.other W229 ne_t_32_b157_160
    have V_240 := V_218.other W229 ne_b60_b157_161
    have E_241 := E_219.wr W229
    have F_242 := F_220.other W229 (Or.inl ne_b45_b157_162)
    have F_243 := F_221.other W229 (Or.inl ne_b45_b157_162)
    have G_244 := G_222.other W229 ne_t_113_b157_163
    have E_245 := E_223.wr W229
    have F_246 := F_224.other W229 (Or.inl ne_b134_b157_164)
    have F_247 := F_225.other W229 (Or.inl ne_b134_b157_164)
    have hk := Nat.le_trans hk (Keep.of_wr W229).1
    have K249 : Keep h0 h229 [] := K227.wr W229 (Or.inr sz_b157)
    have N229 := Fr.snoc X229 N207 g_b157
    refine own_goW (B := T229.setTop (mkF m 82 #[.val (.int p1), .val (.int p2), .val (.int p3), .val (.int p4), .val (.int p5), .val (.int c0), .val (.int c1), .val (.int c2), .val (.ref b2), .val (.ref b45), .unset, .unset, .unset, .unset, .unset] [(.ref b157), (.ref b134), (.ref b134)])) st229 ?_
    obtain ⟨_, _, ⟨T250, L250, k250, n250⟩, -, X250, ⟨Lc250, hQ250, l250, y250, z250⟩, st250⟩ := X229.specialBack hx (y := (⟨"java/lang/String", "<init>", "([C)V"⟩ : MethodName)) rfl hown (mvT hZ (own_w hw 5 rfl)) (mvT hZ (own_w hw 6 rfl)) (mvT hZ (own_w hw 7 rfl)) (by decide) (backOf (W := 1) (own_strA3 l Z a0 hw [] b134 b157 kc157 c0 c1 c2 cs h229 n0 (Nat.le_trans Z0 K249.1) E_245 F_247 F_246 V_b157_229 g_b134 ne_b134_b157_164 S_231 hcs S_232 S_233 S_234 hl0 hu0 hl1 hu1 hl2 hu2) hZ (own_w hw 7 rfl) (own_w hw 3 rfl) (by decide) (by decide)) (g := (mkF m 82 #[.val (.int p1), .val (.int p2), .val (.int p3), .val (.int p4), .val (.int p5), .val (.int c0), .val (.int c1), .val (.int c2), .val (.ref b2), .val (.ref b45), .unset, .unset, .unset, .unset, .unset] [(.ref b157), (.ref b134), (.ref b134)])) rfl (by rw [hml]; rfl) (Steps.refl _) (a := b134) (argsL := [(.ref b157)]) (rest := [(.ref b134)]) (lenOf own_pd13 rfl) rfl (by show 2 * 0 + _ ≤ _; exact Nat.le_of_eq rfl) (hb hby at_82) (fun _ _ => ⟨rfl, e229, (by decide : 10 + 2 ≤ _), (by decide : 27 + 9 ≤ _)⟩)
    dsimp only [Pt.U, Pt.locs, Pt.cells, Pt.slots] at X250 l250 y250 z250 st250 hQ250
    subst l250 y250 z250
    obtain ⟨t_250, cd_250, rfl, N250q, K250q, Q250_0, Q250_1, Q250_2, Q250_3, x250_0⟩ := hQ250
    have N250 := Fr.app N229 N250q
    have hk := Nat.le_trans hk K250q.1
    have ne_b9_t_250_251 : b9 ≠ t_250 := Nat.ne_of_lt (Nat.lt_of_lt_of_le V_235.lt x250_0)
    have ne_b2_t_250_252 : b2 ≠ t_250 := Nat.ne_of_lt (Nat.lt_of_lt_of_le E_236.lt x250_0)
    have ne_t_32_t_250_253 : t_32 ≠ t_250 := Nat.ne_of_lt (Nat.lt_of_lt_of_le G_239.lt x250_0)
    have ne_b60_t_250_254 : b60 ≠ t_250 := Nat.ne_of_lt (Nat.lt_of_lt_of_le V_240.lt x250_0)
    have ne_b45_t_250_255 : b45 ≠ t_250 := Nat.ne_of_lt (Nat.lt_of_lt_of_le E_241.lt x250_0)
    have ne_t_113_t_250_256 : t_113 ≠ t_250 := Nat.ne_of_lt (Nat.lt_of_lt_of_le G_244.lt x250_0)
    have ne_b134_t_250_257 : b134 ≠ t_250 := Nat.ne_of_lt (Nat.lt_of_lt_of_le E_245.lt x250_0)
    have ne_b157_t_250_258 : b157 ≠ t_250 := Nat.ne_of_lt (Nat.lt_of_lt_of_le V_b157_229.lt x250_0)
    have sz_t_250 : h0.size ≤ t_250 := Nat.le_trans K249.1 x250_0
    have g_t_250 : n0 ≤ t_250 := Nat.le_trans Z0 sz_t_250
    have S_260 := own_Sta_keep S_231 K250q (allS (own_plain E_245) all0)
    have S_261 := own_Sta_keep S_232 K250q (allS (own_plain E_245) all0)
    have S_262 := own_Sta_keep S_233 K250q (allS (own_plain E_245) all0)
    have S_263 := own_Sta_keep S_234 K250q (allS (own_plain E_245) all0)
    have V_264 := V_235.keep K250q (ninS ne_b9_b134_135 nin0)
    have E_265 := E_236.keep K250q
    have F_266 := F_237.keep K250q (ninS ne_b2_b134_136 nin0)
    have F_267 := F_238.keep K250q (ninS ne_b2_b134_136 nin0)
    have G_268 := G_239.keep K250q (ninS ne_t_32_b134_137 nin0)
    have V_269 := V_240.keep K250q (ninS ne_b60_b134_138 nin0)
    have E_270 := E_241.keep K250q
    have F_271 := F_242.keep K250q (ninS ne_b45_b134_139 nin0)
    have F_272 := F_243.keep K250q (ninS ne_b45_b134_139 nin0)
    have G_273 := G_244.keep K250q (ninS ne_t_113_b134_140 nin0)
    have V_277 := V_b157_229.keep K250q (ninS (Ne.symm ne_b134_b157_164) nin0)
    have K278 : Keep h0 T250.heap [] := K249.trans K250q (allS (Or.inr sz_b134) all0)
    refine own_goW (B := T250.setTop (mkF m 92 #[.val (.int p1), .val (.int p2), .val (.int p3), .val (.int p4), .val (.int p5), .val (.int c0), .val (.int c1), .val (.int c2), .val (.ref b2), .val (.ref b45), .val (.ref b134), .unset, .unset, .unset, .unset] [(.int (3 : Int32)), (.int (p4 &&& (2147483647 : Int32)))])) (fun _ k => st250.trans (XS.astore X250.here hx rfl (hb hby at_85) rfl rfl (l' := #[.val (.int p1), .val (.int p2), .val (.int p3), .val (.int p4), .val (.int p5), .val (.int c0), .val (.int c1), .val (.int c2), .val (.ref b2), .val (.ref b45), .val (.ref b134), .unset, .unset, .unset, .unset]) rfl (XS.iloadN X250.here hx rfl (hb hby at_87) rfl  (X250.ldcInt hx hown (mvT hZ (own_w hw 31 rfl)) (g := (mkF m 88 #[.val (.int p1), .val (.int p2), .val (.int p3), .val (.int p4), .val (.int p5), .val (.int c0), .val (.int c1), .val (.int c2), .val (.ref b2), .val (.ref b45), .val (.ref b134), .unset, .unset, .unset, .unset] [(.int p4)])) rfl (hb hby at_88) _ (XS.iand X250.here hx rfl (hb hby at_90) rfl (XS.iconst X250.here hx rfl (hb hby at_91) k)))))) ?_
    have hnz279 : (3 : Int32) ≠ (0 : Int32) := by decide
    refine own_goW (B := T250.setTop (mkF m 97 #[.val (.int p1), .val (.int p2), .val (.int p3), .val (.int p4), .val (.int p5), .val (.int c0), .val (.int c1), .val (.int c2), .val (.ref b2), .val (.ref b45), .val (.ref b134), .val (.int ((p4 &&& (2147483647 : Int32)) % (3 : Int32))), .unset, .unset, .unset] [(.int ((p4 &&& (2147483647 : Int32)) % (3 : Int32)))])) (fun _ k => iremM X250 hx rfl (hb hby at_92) rfl hnz279 (XS.istore X250.here hx rfl (hb hby at_93) rfl (l' := #[.val (.int p1), .val (.int p2), .val (.int p3), .val (.int p4), .val (.int p5), .val (.int c0), .val (.int c1), .val (.int c2), .val (.ref b2), .val (.ref b45), .val (.ref b134), .val (.int ((p4 &&& (2147483647 : Int32)) % (3 : Int32))), .unset, .unset, .unset]) rfl (XS.iload X250.here hx rfl (hb hby at_95) rfl  k))) ?_
    by_cases hc280 : ((p4 &&& (2147483647 : Int32)) % (3 : Int32)) = (0 : Int32)
    · skip
      refine own_goW (B := T250.setTop (mkF m 127 #[.val (.int p1), .val (.int p2), .val (.int p3), .val (.int p4), .val (.int p5), .val (.int c0), .val (.int c1), .val (.int c2), .val (.ref b2), .val (.ref b45), .val (.ref b134), .val (.int ((p4 &&& (2147483647 : Int32)) % (3 : Int32))), .val (.ref b2), .unset, .unset] [(.int (1 : Int32)), (.int p5)])) (fun _ k => XS.ifNo X250.here hx rfl (hb hby at_97) rfl ((if0 _ _).trans (teq hc280).2) (XS.aload X250.here hx rfl (hb hby at_100) rfl rfl (XS.astore X250.here hx rfl (hb hby at_102) rfl rfl (l' := #[.val (.int p1), .val (.int p2), .val (.int p3), .val (.int p4), .val (.int p5), .val (.int c0), .val (.int c1), .val (.int c2), .val (.ref b2), .val (.ref b45), .val (.ref b134), .val (.int ((p4 &&& (2147483647 : Int32)) % (3 : Int32))), .val (.ref b2), .unset, .unset]) rfl (XS.goto X250.here hx rfl (pc0 := 104) (pc' := 124) rfl (hb hby at_104) (by decide) (by decide) (XS.iload X250.here hx rfl (hb hby at_124) rfl  (XS.iconst X250.here hx rfl (hb hby at_126) k)))))) ?_
      refine own_goW (B := T250.setTop (mkF m 128 #[.val (.int p1), .val (.int p2), .val (.int p3), .val (.int p4), .val (.int p5), .val (.int c0), .val (.int c1), .val (.int c2), .val (.ref b2), .val (.ref b45), .val (.ref b134), .val (.int ((p4 &&& (2147483647 : Int32)) % (3 : Int32))), .val (.ref b2), .unset, .unset] [(.int (p5 &&& (1 : Int32)))])) (fun _ k => XS.iand X250.here hx rfl (hb hby at_127) rfl k) ?_
      by_cases hc281 : (p5 &&& (1 : Int32)) = (0 : Int32)
      · skip
        refine own_goW (B := T250.setTop (mkF m 148 #[.val (.int p1), .val (.int p2), .val (.int p3), .val (.int p4), .val (.int p5), .val (.int c0), .val (.int c1), .val (.int c2), .val (.ref b2), .val (.ref b45), .val (.ref b134), .val (.int ((p4 &&& (2147483647 : Int32)) % (3 : Int32))), .val (.ref b2), .unset, .unset] [])) (fun _ k => XS.ifYes X250.here hx rfl (pc0 := 128) (pc' := 148) rfl (hb hby at_128) rfl ((if0 _ _).trans (teq hc281).1) (by decide) (by decide) k) ?_
        obtain ⟨as282, T282, h282, kk282, X282, e282, E282, hS, hk, hZ, hown, st282⟩ := ldcS X250 hx hZ hown (own_w hw 32 rfl) wS rfl hS hk (g := (mkF m 148 #[.val (.int p1), .val (.int p2), .val (.int p3), .val (.int p4), .val (.int p5), .val (.int c0), .val (.int c1), .val (.int c2), .val (.ref b2), .val (.ref b45), .val (.ref b134), .val (.int ((p4 &&& (2147483647 : Int32)) % (3 : Int32))), .val (.ref b2), .unset, .unset] [])) rfl (hb hby at_148) (n := 0) (by decide +kernel) (by decide) (by decide) (by decide)
        have S_284 := S_260.ext E282
        have S_285 := S_261.ext E282
        have S_286 := S_262.ext E282
        have S_287 := S_263.ext E282
        have V_288 := V_264.ext E282
        have E_289 := E_265.ext E282
        have F_290 := F_266.ext E282
        have F_291 := F_267.ext E282
        have G_292 := G_268.ext E282
        have V_293 := V_269.ext E282
        have E_294 := E_270.ext E282
        have F_295 := F_271.ext E282
        have F_296 := F_272.ext E282
        have G_297 := G_273.ext E282
        have V_298 := V_277.ext E282
        have E_299 := Q250_0.ext E282
        have F_300 := Q250_1.ext E282
        have F_301 := Q250_2.ext E282
        have G_302 := Q250_3.ext E282
        have K303 : Keep h0 h282 [] := K278.ext E282
        refine own_goW (B := T282.setTop (mkF m 150 #[.val (.int p1), .val (.int p2), .val (.int p3), .val (.int p4), .val (.int p5), .val (.int c0), .val (.int c1), .val (.int c2), .val (.ref b2), .val (.ref b45), .val (.ref b134), .val (.int ((p4 &&& (2147483647 : Int32)) % (3 : Int32))), .val (.ref b2), .unset, .unset] [(.ref as282)])) st282 ?_
        refine own_goW (B := T282.setTop (mkF m 156 #[.val (.int p1), .val (.int p2), .val (.int p3), .val (.int p4), .val (.int p5), .val (.int c0), .val (.int c1), .val (.int c2), .val (.ref b2), .val (.ref b45), .val (.ref b134), .val (.int ((p4 &&& (2147483647 : Int32)) % (3 : Int32))), .val (.ref b2), .val (.ref as282), .unset] [(.ref b2), (.ref as282)])) (fun _ k => XS.astore X282.here hx rfl (hb hby at_150) rfl rfl (l' := #[.val (.int p1), .val (.int p2), .val (.int p3), .val (.int p4), .val (.int p5), .val (.int c0), .val (.int c1), .val (.int c2), .val (.ref b2), .val (.ref b45), .val (.ref b134), .val (.int ((p4 &&& (2147483647 : Int32)) % (3 : Int32))), .val (.ref b2), .val (.ref as282), .unset]) rfl (XS.aload X282.here hx rfl (hb hby at_152) rfl rfl (XS.aload X282.here hx rfl (hb hby at_154) rfl rfl k))) ?_
        obtain ⟨_, _, ⟨T304, L304, k304, n304⟩, -, X304, ⟨Lc304, hQ304, l304, y304, z304⟩, st304⟩ := Jvm.LawKit.callS X282 hx (y := (⟨"com/example/rate_to_limit/ratetolimit/balance/PolicyCounter", "checkedStatus", "(Ljava/lang/String;Ljava/lang/String;)Ljava/lang/String;"⟩ : MethodName)) hown (mvT hZ (own_w hw 35 rfl)) (mvT hZ (own_w hw 36 rfl)) (mvT hZ (own_w hw 37 rfl)) (mvT hZ (own_w hw 38 rfl)) (by decide) (backOf (W := 0) (own_chk1 l Z a0 hw [] as282 b2 t_32 cd_32 h282 n0 (Nat.le_trans Z0 K303.1) E_289 F_290 G_292) hZ (own_w hw 38 rfl) (own_w hw 37 rfl) (by decide) (by decide)) (g := (mkF m 156 #[.val (.int p1), .val (.int p2), .val (.int p3), .val (.int p4), .val (.int p5), .val (.int c0), .val (.int c1), .val (.int c2), .val (.ref b2), .val (.ref b45), .val (.ref b134), .val (.int ((p4 &&& (2147483647 : Int32)) % (3 : Int32))), .val (.ref b2), .val (.ref as282), .unset] [(.ref b2), (.ref as282)])) rfl (by rw [hml]; rfl) (argsL := [(.ref as282), (.ref b2)]) (rest := []) (lenOf own_pd14 rfl) rfl (by show 2 * 0 + _ ≤ _; exact Nat.le_of_eq rfl) (hb hby at_156) (fun _ _ => ⟨rfl, e282, (by decide : 14 + 0 ≤ _), (by decide : 40 + 0 ≤ _)⟩)
        dsimp only [Pt.U, Pt.locs, Pt.cells, Pt.slots] at X304 l304 y304 z304 st304 hQ304
        subst l304 y304 z304
        obtain ⟨rfl, N304q, e304⟩ := hQ304
        have N304 := Fr.app N250 N304q
        refine own_goW (B := T304.setTop (mkF m 159 #[.val (.int p1), .val (.int p2), .val (.int p3), .val (.int p4), .val (.int p5), .val (.int c0), .val (.int c1), .val (.int c2), .val (.ref b2), .val (.ref b45), .val (.ref b134), .val (.int ((p4 &&& (2147483647 : Int32)) % (3 : Int32))), .val (.ref b2), .val (.ref as282), .unset] [(.ref b2)])) st304 ?_
        refine own_goW (B := T304.setTop (mkF m 170 #[.val (.int p1), .val (.int p2), .val (.int p3), .val (.int p4), .val (.int p5), .val (.int c0), .val (.int c1), .val (.int c2), .val (.ref b2), .val (.ref b45), .val (.ref b134), .val (.int ((p4 &&& (2147483647 : Int32)) % (3 : Int32))), .val (.ref b2), .val (.ref as282), .val (.ref b2)] [(.ref b2)])) (fun _ k => XS.astore X304.here hx rfl (hb hby at_159) rfl rfl (l' := #[.val (.int p1), .val (.int p2), .val (.int p3), .val (.int p4), .val (.int p5), .val (.int c0), .val (.int c1), .val (.int c2), .val (.ref b2), .val (.ref b45), .val (.ref b134), .val (.int ((p4 &&& (2147483647 : Int32)) % (3 : Int32))), .val (.ref b2), .val (.ref as282), .val (.ref b2)]) rfl (XS.aload X304.here hx rfl (hb hby at_161) rfl rfl (XS.aload X304.here hx rfl (hb hby at_163) rfl rfl (Jvm.RoadKit.acmp (g := (mkF m 165 #[.val (.int p1), .val (.int p2), .val (.int p3), .val (.int p4), .val (.int p5), .val (.int c0), .val (.int c1), .val (.int c2), .val (.ref b2), .val (.ref b45), .val (.ref b134), .val (.int ((p4 &&& (2147483647 : Int32)) % (3 : Int32))), .val (.ref b2), .val (.ref as282), .val (.ref b2)] [(.ref b2), (.ref b2)])) X304 hx rfl rfl rfl (pc0 := 165) (pc' := 168) (same := true) rfl (hb hby at_165) rfl (decide_eq_true rfl) (by decide) (by decide) (XS.aload X304.here hx rfl (hb hby at_168) rfl rfl k))))) ?_
        obtain ⟨cq305, kq305, q305a, q305b, q305c⟩ := isOf hZ e304 E_289
        obtain ⟨_, _, ⟨T305, L305, k305, n305⟩, -, X305, ⟨Lc305, hQ305, l305, y305, z305⟩, st305⟩ := X304.virtualBack hx (y := (⟨"java/lang/String", "length", "()I"⟩ : MethodName)) (z := (⟨"java/lang/String", "length", "()I"⟩ : MethodName)) hown (mvT hZ (own_w hw 44 rfl)) (mvT hZ (own_w hw 45 rfl)) (notFace_of_selects (args := #[]) (mvT hZ (own_w hw 47 rfl))) (mvT hZ (own_w hw 47 rfl)) (mvT hZ (own_w hw 46 rfl)) (by decide) (backOf (W := 0) (own_lenA1 l Z a0 hw [] b2 t_32 cd_32 cs h282 n0 (Nat.le_trans Z0 K303.1) E_289 F_290 F_291 G_292 S_284 hcs) hZ (own_w hw 48 rfl) (own_w hw 3 rfl) (by decide) (by decide)) q305a q305c (g := (mkF m 170 #[.val (.int p1), .val (.int p2), .val (.int p3), .val (.int p4), .val (.int p5), .val (.int c0), .val (.int c1), .val (.int c2), .val (.ref b2), .val (.ref b45), .val (.ref b134), .val (.int ((p4 &&& (2147483647 : Int32)) % (3 : Int32))), .val (.ref b2), .val (.ref as282), .val (.ref b2)] [(.ref b2)])) rfl (by rw [hml]; rfl) (Steps.refl _) (argsL := []) (rest := []) (lenOf own_pd15 rfl) rfl (by show 2 * 0 + _ ≤ _; exact Nat.le_of_eq rfl) (hb hby at_170) (fun _ _ => ⟨rfl, e304, (by decide : 14 + 0 ≤ _), (by decide : 40 + 0 ≤ _)⟩)
        dsimp only [Pt.U, Pt.locs, Pt.cells, Pt.slots] at X305 l305 y305 z305 st305 hQ305
        subst l305 y305 z305
        obtain ⟨rfl, N305q, e305⟩ := hQ305
        have N305 := Fr.app N304 N305q
        refine own_goW (B := T305.setTop (mkF m 177 #[.val (.int p1), .val (.int p2), .val (.int p3), .val (.int p4), .val (.int p5), .val (.int c0), .val (.int c1), .val (.int c2), .val (.ref b2), .val (.ref b45), .val (.ref b134), .val (.int ((p4 &&& (2147483647 : Int32)) % (3 : Int32))), .val (.ref b2), .val (.ref as282), .val (.ref b2)] [(.int (((p4 &&& (2147483647 : Int32)) % (3 : Int32)) + (1 : Int32))), (.int (1 : Int32))])) (fun _ k => st305.trans (XS.iload X305.here hx rfl (hb hby at_173) rfl  (XS.iconst X305.here hx rfl (hb hby at_175) (XS.iadd X305.here hx rfl (hb hby at_176) rfl k)))) ?_
        have hc306 : (1 : Int32) = (((p4 &&& (2147483647 : Int32)) % (3 : Int32)) + (1 : Int32)) := (own_pl_rm0_7 p4 p5 cs c0 c1 c2 hcs hl0 hu0 hl1 hu1 hl2 hu2 hc280 hc281)
        refine own_goW (B := T305.setTop (mkF m 185 #[.val (.int p1), .val (.int p2), .val (.int p3), .val (.int p4), .val (.int p5), .val (.int c0), .val (.int c1), .val (.int c2), .val (.ref b2), .val (.ref b45), .val (.ref b134), .val (.int ((p4 &&& (2147483647 : Int32)) % (3 : Int32))), .val (.ref b2), .val (.ref as282), .val (.ref b2)] [(.int (1 : Int32))])) (fun _ k => XS.icmpNo X305.here hx rfl (hb hby at_177) rfl (teq hc306).2 (XS.iconst X305.here hx rfl (hb hby at_180) (XS.goto X305.here hx rfl (pc0 := 181) (pc' := 185) rfl (hb hby at_181) (by decide) (by decide) k))) ?_
        exact own_retNW X305 hx hS Bd.notSynchronized (t := .boolean) (w := (1 : Int32)) Bd.returns (by simp) (hb hby at_185) e305 hk rfl ⟨rfl, N305, K303⟩ (by decide) (by decide)
      · skip
        refine own_goW (B := T250.setTop (mkF m 139 #[.val (.int p1), .val (.int p2), .val (.int p3), .val (.int p4), .val (.int p5), .val (.int c0), .val (.int c1), .val (.int c2), .val (.ref b2), .val (.ref b45), .val (.ref b134), .val (.int ((p4 &&& (2147483647 : Int32)) % (3 : Int32))), .val (.ref b2), .unset, .unset] [(.int (((p5.toUInt32 >>> ((1 : Int32) &&& 31).toUInt32).toInt32) &&& (255 : Int32)))])) (fun _ k => XS.ifNo X250.here hx rfl (hb hby at_128) rfl ((if0 _ _).trans (feq hc281).1) (XS.iload X250.here hx rfl (hb hby at_131) rfl  (XS.iconst X250.here hx rfl (hb hby at_133) (XS.iushr X250.here hx rfl (hb hby at_134) rfl (XS.sipush X250.here hx rfl (hb hby at_135) (XS.iand X250.here hx rfl (hb hby at_138) rfl k)))))) ?_
        refine own_goW (B := T250.setTop (mkF m 140 #[.val (.int p1), .val (.int p2), .val (.int p3), .val (.int p4), .val (.int p5), .val (.int c0), .val (.int c1), .val (.int c2), .val (.ref b2), .val (.ref b45), .val (.ref b134), .val (.int ((p4 &&& (2147483647 : Int32)) % (3 : Int32))), .val (.ref b2), .unset, .unset] [(.int ((((p5.toUInt32 >>> ((1 : Int32) &&& 31).toUInt32).toInt32) &&& (255 : Int32)).toUInt32.toUInt16.toUInt32.toInt32))])) (fun _ k => XS.i2c X250.here hx rfl (hb hby at_139) rfl k) ?_
        obtain ⟨_, _, ⟨T307, L307, k307, n307⟩, -, X307, ⟨Lc307, hQ307, l307, y307, z307⟩, st307⟩ := Jvm.LawKit.callS X250 hx (y := (⟨"java/lang/String", "valueOf", "(C)Ljava/lang/String;"⟩ : MethodName)) hown (mvT hZ (own_w hw 54 rfl)) (mvT hZ (own_w hw 55 rfl)) (mvT hZ (own_w hw 3 rfl)) (mvT hZ (own_w hw 56 rfl)) (by decide) (backOf (W := 0) (own_valC l Z a0 hw [] ((((p5.toUInt32 >>> ((1 : Int32) &&& 31).toUInt32).toInt32) &&& (255 : Int32)).toUInt32.toUInt16.toUInt32.toInt32) cs T250.heap n0 (Nat.le_trans Z0 K278.1) S_260 hcs (own_pl_rm0_8 p4 p5 cs c0 c1 c2 hcs hl0 hu0 hl1 hu1 hl2 hu2 hc280 hc281)) hZ (own_w hw 56 rfl) (own_w hw 3 rfl) (by decide) (by decide)) (g := (mkF m 140 #[.val (.int p1), .val (.int p2), .val (.int p3), .val (.int p4), .val (.int p5), .val (.int c0), .val (.int c1), .val (.int c2), .val (.ref b2), .val (.ref b45), .val (.ref b134), .val (.int ((p4 &&& (2147483647 : Int32)) % (3 : Int32))), .val (.ref b2), .unset, .unset] [(.int ((((p5.toUInt32 >>> ((1 : Int32) &&& 31).toUInt32).toInt32) &&& (255 : Int32)).toUInt32.toUInt16.toUInt32.toInt32))])) rfl (by rw [hml]; rfl) (argsL := [(.int ((((p5.toUInt32 >>> ((1 : Int32) &&& 31).toUInt32).toInt32) &&& (255 : Int32)).toUInt32.toUInt16.toUInt32.toInt32))]) (rest := []) (lenOf own_pd16 rfl) rfl (by show 2 * 0 + _ ≤ _; exact Nat.le_of_eq rfl) (hb hby at_140) (fun _ _ => ⟨rfl, rfl, (by decide : 12 + 2 ≤ _), (by decide : 36 + 5 ≤ _)⟩)
        dsimp only [Pt.U, Pt.locs, Pt.cells, Pt.slots] at X307 l307 y307 z307 st307 hQ307
        subst l307 y307 z307
        obtain ⟨b_307, t_307, kt_307, rfl, N307q, K307q, Q307_0, Q307_1, Q307_2, Q307_3, x307_0, x307_1⟩ := hQ307
        have N307 := Fr.app N250 N307q
        have hk := Nat.le_trans hk K307q.1
        have ne_b9_b_307_308 : b9 ≠ b_307 := Nat.ne_of_lt (Nat.lt_of_lt_of_le V_264.lt x307_0)
        have ne_b2_b_307_309 : b2 ≠ b_307 := Nat.ne_of_lt (Nat.lt_of_lt_of_le E_265.lt x307_0)
        have ne_t_32_b_307_310 : t_32 ≠ b_307 := Nat.ne_of_lt (Nat.lt_of_lt_of_le G_268.lt x307_0)
        have ne_b60_b_307_311 : b60 ≠ b_307 := Nat.ne_of_lt (Nat.lt_of_lt_of_le V_269.lt x307_0)
        have ne_b45_b_307_312 : b45 ≠ b_307 := Nat.ne_of_lt (Nat.lt_of_lt_of_le E_270.lt x307_0)
        have ne_t_113_b_307_313 : t_113 ≠ b_307 := Nat.ne_of_lt (Nat.lt_of_lt_of_le G_273.lt x307_0)
        have ne_b157_b_307_314 : b157 ≠ b_307 := Nat.ne_of_lt (Nat.lt_of_lt_of_le V_277.lt x307_0)
        have ne_b134_b_307_315 : b134 ≠ b_307 := Nat.ne_of_lt (Nat.lt_of_lt_of_le Q250_0.lt x307_0)
        have ne_t_250_b_307_316 : t_250 ≠ b_307 := Nat.ne_of_lt (Nat.lt_of_lt_of_le Q250_3.lt x307_0)
        have sz_b_307 : h0.size ≤ b_307 := Nat.le_trans K278.1 x307_0
        have g_b_307 : n0 ≤ b_307 := Nat.le_trans Z0 sz_b_307
        have ne_b9_t_307_317 : b9 ≠ t_307 := Nat.ne_of_lt (Nat.lt_of_lt_of_le V_264.lt x307_1)
        have ne_b2_t_307_318 : b2 ≠ t_307 := Nat.ne_of_lt (Nat.lt_of_lt_of_le E_265.lt x307_1)
        have ne_t_32_t_307_319 : t_32 ≠ t_307 := Nat.ne_of_lt (Nat.lt_of_lt_of_le G_268.lt x307_1)
        have ne_b60_t_307_320 : b60 ≠ t_307 := Nat.ne_of_lt (Nat.lt_of_lt_of_le V_269.lt x307_1)
        have ne_b45_t_307_321 : b45 ≠ t_307 := Nat.ne_of_lt (Nat.lt_of_lt_of_le E_270.lt x307_1)
        have ne_t_113_t_307_322 : t_113 ≠ t_307 := Nat.ne_of_lt (Nat.lt_of_lt_of_le G_273.lt x307_1)
        have ne_b157_t_307_323 : b157 ≠ t_307 := Nat.ne_of_lt (Nat.lt_of_lt_of_le V_277.lt x307_1)
        have ne_b134_t_307_324 : b134 ≠ t_307 := Nat.ne_of_lt (Nat.lt_of_lt_of_le Q250_0.lt x307_1)
        have ne_t_250_t_307_325 : t_250 ≠ t_307 := Nat.ne_of_lt (Nat.lt_of_lt_of_le Q250_3.lt x307_1)
        have sz_t_307 : h0.size ≤ t_307 := Nat.le_trans K278.1 x307_1
        have g_t_307 : n0 ≤ t_307 := Nat.le_trans Z0 sz_t_307
        have S_327 := own_Sta_keep S_260 K307q all0
        have S_328 := own_Sta_keep S_261 K307q all0
        have S_329 := own_Sta_keep S_262 K307q all0
        have S_330 := own_Sta_keep S_263 K307q all0
        have V_331 := V_264.keep K307q nin0
        have E_332 := E_265.keep K307q
        have F_333 := F_266.keep K307q nin0
        have F_334 := F_267.keep K307q nin0
        have G_335 := G_268.keep K307q nin0
        have V_336 := V_269.keep K307q nin0
        have E_337 := E_270.keep K307q
        have F_338 := F_271.keep K307q nin0
        have F_339 := F_272.keep K307q nin0
        have G_340 := G_273.keep K307q nin0
        have V_341 := V_277.keep K307q nin0
        have E_342 := Q250_0.keep K307q
        have F_343 := Q250_1.keep K307q nin0
        have F_344 := Q250_2.keep K307q nin0
        have G_345 := Q250_3.keep K307q nin0
        have K346 : Keep h0 T307.heap [] := K278.trans K307q all0
        refine own_goW (B := T307.setTop (mkF m 143 #[.val (.int p1), .val (.int p2), .val (.int p3), .val (.int p4), .val (.int p5), .val (.int c0), .val (.int c1), .val (.int c2), .val (.ref b2), .val (.ref b45), .val (.ref b134), .val (.int ((p4 &&& (2147483647 : Int32)) % (3 : Int32))), .val (.ref b2), .unset, .unset] [(.ref b_307)])) st307 ?_
        refine own_goW (B := T307.setTop (mkF m 156 #[.val (.int p1), .val (.int p2), .val (.int p3), .val (.int p4), .val (.int p5), .val (.int c0), .val (.int c1), .val (.int c2), .val (.ref b2), .val (.ref b45), .val (.ref b134), .val (.int ((p4 &&& (2147483647 : Int32)) % (3 : Int32))), .val (.ref b2), .val (.ref b_307), .unset] [(.ref b2), (.ref b_307)])) (fun _ k => XS.astore X307.here hx rfl (hb hby at_143) rfl rfl (l' := #[.val (.int p1), .val (.int p2), .val (.int p3), .val (.int p4), .val (.int p5), .val (.int c0), .val (.int c1), .val (.int c2), .val (.ref b2), .val (.ref b45), .val (.ref b134), .val (.int ((p4 &&& (2147483647 : Int32)) % (3 : Int32))), .val (.ref b2), .val (.ref b_307), .unset]) rfl (XS.goto X307.here hx rfl (pc0 := 145) (pc' := 152) rfl (hb hby at_145) (by decide) (by decide) (XS.aload X307.here hx rfl (hb hby at_152) rfl rfl (XS.aload X307.here hx rfl (hb hby at_154) rfl rfl k)))) ?_
        obtain ⟨_, _, ⟨T347, L347, k347, n347⟩, -, X347, ⟨Lc347, hQ347, l347, y347, z347⟩, st347⟩ := Jvm.LawKit.callS X307 hx (y := (⟨"com/example/rate_to_limit/ratetolimit/balance/PolicyCounter", "checkedStatus", "(Ljava/lang/String;Ljava/lang/String;)Ljava/lang/String;"⟩ : MethodName)) hown (mvT hZ (own_w hw 35 rfl)) (mvT hZ (own_w hw 36 rfl)) (mvT hZ (own_w hw 37 rfl)) (mvT hZ (own_w hw 38 rfl)) (by decide) (backOf (W := 0) (own_chk1 l Z a0 hw [] b_307 b2 t_32 cd_32 T307.heap n0 (Nat.le_trans Z0 K346.1) E_332 F_333 G_335) hZ (own_w hw 38 rfl) (own_w hw 37 rfl) (by decide) (by decide)) (g := (mkF m 156 #[.val (.int p1), .val (.int p2), .val (.int p3), .val (.int p4), .val (.int p5), .val (.int c0), .val (.int c1), .val (.int c2), .val (.ref b2), .val (.ref b45), .val (.ref b134), .val (.int ((p4 &&& (2147483647 : Int32)) % (3 : Int32))), .val (.ref b2), .val (.ref b_307), .unset] [(.ref b2), (.ref b_307)])) rfl (by rw [hml]; rfl) (argsL := [(.ref b_307), (.ref b2)]) (rest := []) (lenOf own_pd14 rfl) rfl (by show 2 * 0 + _ ≤ _; exact Nat.le_of_eq rfl) (hb hby at_156) (fun _ _ => ⟨rfl, rfl, (by decide : 14 + 0 ≤ _), (by decide : 41 + 0 ≤ _)⟩)
        dsimp only [Pt.U, Pt.locs, Pt.cells, Pt.slots] at X347 l347 y347 z347 st347 hQ347
        subst l347 y347 z347
        obtain ⟨rfl, N347q, e347⟩ := hQ347
        have N347 := Fr.app N307 N347q
        refine own_goW (B := T347.setTop (mkF m 159 #[.val (.int p1), .val (.int p2), .val (.int p3), .val (.int p4), .val (.int p5), .val (.int c0), .val (.int c1), .val (.int c2), .val (.ref b2), .val (.ref b45), .val (.ref b134), .val (.int ((p4 &&& (2147483647 : Int32)) % (3 : Int32))), .val (.ref b2), .val (.ref b_307), .unset] [(.ref b2)])) st347 ?_
        refine own_goW (B := T347.setTop (mkF m 170 #[.val (.int p1), .val (.int p2), .val (.int p3), .val (.int p4), .val (.int p5), .val (.int c0), .val (.int c1), .val (.int c2), .val (.ref b2), .val (.ref b45), .val (.ref b134), .val (.int ((p4 &&& (2147483647 : Int32)) % (3 : Int32))), .val (.ref b2), .val (.ref b_307), .val (.ref b2)] [(.ref b2)])) (fun _ k => XS.astore X347.here hx rfl (hb hby at_159) rfl rfl (l' := #[.val (.int p1), .val (.int p2), .val (.int p3), .val (.int p4), .val (.int p5), .val (.int c0), .val (.int c1), .val (.int c2), .val (.ref b2), .val (.ref b45), .val (.ref b134), .val (.int ((p4 &&& (2147483647 : Int32)) % (3 : Int32))), .val (.ref b2), .val (.ref b_307), .val (.ref b2)]) rfl (XS.aload X347.here hx rfl (hb hby at_161) rfl rfl (XS.aload X347.here hx rfl (hb hby at_163) rfl rfl (Jvm.RoadKit.acmp (g := (mkF m 165 #[.val (.int p1), .val (.int p2), .val (.int p3), .val (.int p4), .val (.int p5), .val (.int c0), .val (.int c1), .val (.int c2), .val (.ref b2), .val (.ref b45), .val (.ref b134), .val (.int ((p4 &&& (2147483647 : Int32)) % (3 : Int32))), .val (.ref b2), .val (.ref b_307), .val (.ref b2)] [(.ref b2), (.ref b2)])) X347 hx rfl rfl rfl (pc0 := 165) (pc' := 168) (same := true) rfl (hb hby at_165) rfl (decide_eq_true rfl) (by decide) (by decide) (XS.aload X347.here hx rfl (hb hby at_168) rfl rfl k))))) ?_
        obtain ⟨cq348, kq348, q348a, q348b, q348c⟩ := isOf hZ e347 E_332
        obtain ⟨_, _, ⟨T348, L348, k348, n348⟩, -, X348, ⟨Lc348, hQ348, l348, y348, z348⟩, st348⟩ := X347.virtualBack hx (y := (⟨"java/lang/String", "length", "()I"⟩ : MethodName)) (z := (⟨"java/lang/String", "length", "()I"⟩ : MethodName)) hown (mvT hZ (own_w hw 44 rfl)) (mvT hZ (own_w hw 45 rfl)) (notFace_of_selects (args := #[]) (mvT hZ (own_w hw 47 rfl))) (mvT hZ (own_w hw 47 rfl)) (mvT hZ (own_w hw 46 rfl)) (by decide) (backOf (W := 0) (own_lenA1 l Z a0 hw [] b2 t_32 cd_32 cs T307.heap n0 (Nat.le_trans Z0 K346.1) E_332 F_333 F_334 G_335 S_327 hcs) hZ (own_w hw 48 rfl) (own_w hw 3 rfl) (by decide) (by decide)) q348a q348c (g := (mkF m 170 #[.val (.int p1), .val (.int p2), .val (.int p3), .val (.int p4), .val (.int p5), .val (.int c0), .val (.int c1), .val (.int c2), .val (.ref b2), .val (.ref b45), .val (.ref b134), .val (.int ((p4 &&& (2147483647 : Int32)) % (3 : Int32))), .val (.ref b2), .val (.ref b_307), .val (.ref b2)] [(.ref b2)])) rfl (by rw [hml]; rfl) (Steps.refl _) (argsL := []) (rest := []) (lenOf own_pd15 rfl) rfl (by show 2 * 0 + _ ≤ _; exact Nat.le_of_eq rfl) (hb hby at_170) (fun _ _ => ⟨rfl, e347, (by decide : 14 + 0 ≤ _), (by decide : 41 + 0 ≤ _)⟩)
        dsimp only [Pt.U, Pt.locs, Pt.cells, Pt.slots] at X348 l348 y348 z348 st348 hQ348
        subst l348 y348 z348
        obtain ⟨rfl, N348q, e348⟩ := hQ348
        have N348 := Fr.app N347 N348q
        refine own_goW (B := T348.setTop (mkF m 177 #[.val (.int p1), .val (.int p2), .val (.int p3), .val (.int p4), .val (.int p5), .val (.int c0), .val (.int c1), .val (.int c2), .val (.ref b2), .val (.ref b45), .val (.ref b134), .val (.int ((p4 &&& (2147483647 : Int32)) % (3 : Int32))), .val (.ref b2), .val (.ref b_307), .val (.ref b2)] [(.int (((p4 &&& (2147483647 : Int32)) % (3 : Int32)) + (1 : Int32))), (.int (1 : Int32))])) (fun _ k => st348.trans (XS.iload X348.here hx rfl (hb hby at_173) rfl  (XS.iconst X348.here hx rfl (hb hby at_175) (XS.iadd X348.here hx rfl (hb hby at_176) rfl k)))) ?_
        have hc349 : (1 : Int32) = (((p4 &&& (2147483647 : Int32)) % (3 : Int32)) + (1 : Int32)) := (own_pl_rm0_9 p4 p5 cs c0 c1 c2 hcs hl0 hu0 hl1 hu1 hl2 hu2 hc280 hc281)
        refine own_goW (B := T348.setTop (mkF m 185 #[.val (.int p1), .val (.int p2), .val (.int p3), .val (.int p4), .val (.int p5), .val (.int c0), .val (.int c1), .val (.int c2), .val (.ref b2), .val (.ref b45), .val (.ref b134), .val (.int ((p4 &&& (2147483647 : Int32)) % (3 : Int32))), .val (.ref b2), .val (.ref b_307), .val (.ref b2)] [(.int (1 : Int32))])) (fun _ k => XS.icmpNo X348.here hx rfl (hb hby at_177) rfl (teq hc349).2 (XS.iconst X348.here hx rfl (hb hby at_180) (XS.goto X348.here hx rfl (pc0 := 181) (pc' := 185) rfl (hb hby at_181) (by decide) (by decide) k))) ?_
        exact own_retNW X348 hx hS Bd.notSynchronized (t := .boolean) (w := (1 : Int32)) Bd.returns (by simp) (hb hby at_185) e348 hk rfl ⟨rfl, N348, K346⟩ (by decide) (by decide)
    · skip
      refine own_goW (B := T250.setTop (mkF m 110 #[.val (.int p1), .val (.int p2), .val (.int p3), .val (.int p4), .val (.int p5), .val (.int c0), .val (.int c1), .val (.int c2), .val (.ref b2), .val (.ref b45), .val (.ref b134), .val (.int ((p4 &&& (2147483647 : Int32)) % (3 : Int32))), .unset, .unset, .unset] [(.int (1 : Int32)), (.int ((p4 &&& (2147483647 : Int32)) % (3 : Int32)))])) (fun _ k => XS.ifYes X250.here hx rfl (pc0 := 97) (pc' := 107) rfl (hb hby at_97) rfl ((if0 _ _).trans (feq hc280).2) (by decide) (by decide) (XS.iload X250.here hx rfl (hb hby at_107) rfl  (XS.iconst X250.here hx rfl (hb hby at_109) k))) ?_
      by_cases hc350 : ((p4 &&& (2147483647 : Int32)) % (3 : Int32)) = (1 : Int32)
      · skip
        refine own_goW (B := T250.setTop (mkF m 127 #[.val (.int p1), .val (.int p2), .val (.int p3), .val (.int p4), .val (.int p5), .val (.int c0), .val (.int c1), .val (.int c2), .val (.ref b2), .val (.ref b45), .val (.ref b134), .val (.int ((p4 &&& (2147483647 : Int32)) % (3 : Int32))), .val (.ref b45), .unset, .unset] [(.int (1 : Int32)), (.int p5)])) (fun _ k => XS.icmpNo X250.here hx rfl (hb hby at_110) rfl (teq hc350).2 (XS.aload X250.here hx rfl (hb hby at_113) rfl rfl (XS.astore X250.here hx rfl (hb hby at_115) rfl rfl (l' := #[.val (.int p1), .val (.int p2), .val (.int p3), .val (.int p4), .val (.int p5), .val (.int c0), .val (.int c1), .val (.int c2), .val (.ref b2), .val (.ref b45), .val (.ref b134), .val (.int ((p4 &&& (2147483647 : Int32)) % (3 : Int32))), .val (.ref b45), .unset, .unset]) rfl (XS.goto X250.here hx rfl (pc0 := 117) (pc' := 124) rfl (hb hby at_117) (by decide) (by decide) (XS.iload X250.here hx rfl (hb hby at_124) rfl  (XS.iconst X250.here hx rfl (hb hby at_126) k)))))) ?_
        refine own_goW (B := T250.setTop (mkF m 128 #[.val (.int p1), .val (.int p2), .val (.int p3), .val (.int p4), .val (.int p5), .val (.int c0), .val (.int c1), .val (.int c2), .val (.ref b2), .val (.ref b45), .val (.ref b134), .val (.int ((p4 &&& (2147483647 : Int32)) % (3 : Int32))), .val (.ref b45), .unset, .unset] [(.int (p5 &&& (1 : Int32)))])) (fun _ k => XS.iand X250.here hx rfl (hb hby at_127) rfl k) ?_
        by_cases hc351 : (p5 &&& (1 : Int32)) = (0 : Int32)
        · skip
          refine own_goW (B := T250.setTop (mkF m 148 #[.val (.int p1), .val (.int p2), .val (.int p3), .val (.int p4), .val (.int p5), .val (.int c0), .val (.int c1), .val (.int c2), .val (.ref b2), .val (.ref b45), .val (.ref b134), .val (.int ((p4 &&& (2147483647 : Int32)) % (3 : Int32))), .val (.ref b45), .unset, .unset] [])) (fun _ k => XS.ifYes X250.here hx rfl (pc0 := 128) (pc' := 148) rfl (hb hby at_128) rfl ((if0 _ _).trans (teq hc351).1) (by decide) (by decide) k) ?_
          obtain ⟨as352, T352, h352, kk352, X352, e352, E352, hS, hk, hZ, hown, st352⟩ := ldcS X250 hx hZ hown (own_w hw 32 rfl) wS rfl hS hk (g := (mkF m 148 #[.val (.int p1), .val (.int p2), .val (.int p3), .val (.int p4), .val (.int p5), .val (.int c0), .val (.int c1), .val (.int c2), .val (.ref b2), .val (.ref b45), .val (.ref b134), .val (.int ((p4 &&& (2147483647 : Int32)) % (3 : Int32))), .val (.ref b45), .unset, .unset] [])) rfl (hb hby at_148) (n := 0) (by decide +kernel) (by decide) (by decide) (by decide)
          have S_354 := S_260.ext E352
          have S_355 := S_261.ext E352
          have S_356 := S_262.ext E352
          have S_357 := S_263.ext E352
          have V_358 := V_264.ext E352
          have E_359 := E_265.ext E352
          have F_360 := F_266.ext E352
          have F_361 := F_267.ext E352
          have G_362 := G_268.ext E352
          have V_363 := V_269.ext E352
          have E_364 := E_270.ext E352
          have F_365 := F_271.ext E352
          have F_366 := F_272.ext E352
          have G_367 := G_273.ext E352
          have V_368 := V_277.ext E352
          have E_369 := Q250_0.ext E352
          have F_370 := Q250_1.ext E352
          have F_371 := Q250_2.ext E352
          have G_372 := Q250_3.ext E352
          have K373 : Keep h0 h352 [] := K278.ext E352
          refine own_goW (B := T352.setTop (mkF m 150 #[.val (.int p1), .val (.int p2), .val (.int p3), .val (.int p4), .val (.int p5), .val (.int c0), .val (.int c1), .val (.int c2), .val (.ref b2), .val (.ref b45), .val (.ref b134), .val (.int ((p4 &&& (2147483647 : Int32)) % (3 : Int32))), .val (.ref b45), .unset, .unset] [(.ref as352)])) st352 ?_
          refine own_goW (B := T352.setTop (mkF m 156 #[.val (.int p1), .val (.int p2), .val (.int p3), .val (.int p4), .val (.int p5), .val (.int c0), .val (.int c1), .val (.int c2), .val (.ref b2), .val (.ref b45), .val (.ref b134), .val (.int ((p4 &&& (2147483647 : Int32)) % (3 : Int32))), .val (.ref b45), .val (.ref as352), .unset] [(.ref b45), (.ref as352)])) (fun _ k => XS.astore X352.here hx rfl (hb hby at_150) rfl rfl (l' := #[.val (.int p1), .val (.int p2), .val (.int p3), .val (.int p4), .val (.int p5), .val (.int c0), .val (.int c1), .val (.int c2), .val (.ref b2), .val (.ref b45), .val (.ref b134), .val (.int ((p4 &&& (2147483647 : Int32)) % (3 : Int32))), .val (.ref b45), .val (.ref as352), .unset]) rfl (XS.aload X352.here hx rfl (hb hby at_152) rfl rfl (XS.aload X352.here hx rfl (hb hby at_154) rfl rfl k))) ?_
          obtain ⟨_, _, ⟨T374, L374, k374, n374⟩, -, X374, ⟨Lc374, hQ374, l374, y374, z374⟩, st374⟩ := Jvm.LawKit.callS X352 hx (y := (⟨"com/example/rate_to_limit/ratetolimit/balance/PolicyCounter", "checkedStatus", "(Ljava/lang/String;Ljava/lang/String;)Ljava/lang/String;"⟩ : MethodName)) hown (mvT hZ (own_w hw 35 rfl)) (mvT hZ (own_w hw 36 rfl)) (mvT hZ (own_w hw 37 rfl)) (mvT hZ (own_w hw 38 rfl)) (by decide) (backOf (W := 0) (own_chk2 l Z a0 hw [] as352 b45 t_113 cd_113 h352 n0 (Nat.le_trans Z0 K373.1) E_364 F_365 G_367) hZ (own_w hw 38 rfl) (own_w hw 37 rfl) (by decide) (by decide)) (g := (mkF m 156 #[.val (.int p1), .val (.int p2), .val (.int p3), .val (.int p4), .val (.int p5), .val (.int c0), .val (.int c1), .val (.int c2), .val (.ref b2), .val (.ref b45), .val (.ref b134), .val (.int ((p4 &&& (2147483647 : Int32)) % (3 : Int32))), .val (.ref b45), .val (.ref as352), .unset] [(.ref b45), (.ref as352)])) rfl (by rw [hml]; rfl) (argsL := [(.ref as352), (.ref b45)]) (rest := []) (lenOf own_pd14 rfl) rfl (by show 2 * 0 + _ ≤ _; exact Nat.le_of_eq rfl) (hb hby at_156) (fun _ _ => ⟨rfl, e352, (by decide : 14 + 0 ≤ _), (by decide : 40 + 0 ≤ _)⟩)
          dsimp only [Pt.U, Pt.locs, Pt.cells, Pt.slots] at X374 l374 y374 z374 st374 hQ374
          subst l374 y374 z374
          obtain ⟨rfl, N374q, e374⟩ := hQ374
          have N374 := Fr.app N250 N374q
          refine own_goW (B := T374.setTop (mkF m 159 #[.val (.int p1), .val (.int p2), .val (.int p3), .val (.int p4), .val (.int p5), .val (.int c0), .val (.int c1), .val (.int c2), .val (.ref b2), .val (.ref b45), .val (.ref b134), .val (.int ((p4 &&& (2147483647 : Int32)) % (3 : Int32))), .val (.ref b45), .val (.ref as352), .unset] [(.ref b45)])) st374 ?_
          refine own_goW (B := T374.setTop (mkF m 170 #[.val (.int p1), .val (.int p2), .val (.int p3), .val (.int p4), .val (.int p5), .val (.int c0), .val (.int c1), .val (.int c2), .val (.ref b2), .val (.ref b45), .val (.ref b134), .val (.int ((p4 &&& (2147483647 : Int32)) % (3 : Int32))), .val (.ref b45), .val (.ref as352), .val (.ref b45)] [(.ref b45)])) (fun _ k => XS.astore X374.here hx rfl (hb hby at_159) rfl rfl (l' := #[.val (.int p1), .val (.int p2), .val (.int p3), .val (.int p4), .val (.int p5), .val (.int c0), .val (.int c1), .val (.int c2), .val (.ref b2), .val (.ref b45), .val (.ref b134), .val (.int ((p4 &&& (2147483647 : Int32)) % (3 : Int32))), .val (.ref b45), .val (.ref as352), .val (.ref b45)]) rfl (XS.aload X374.here hx rfl (hb hby at_161) rfl rfl (XS.aload X374.here hx rfl (hb hby at_163) rfl rfl (Jvm.RoadKit.acmp (g := (mkF m 165 #[.val (.int p1), .val (.int p2), .val (.int p3), .val (.int p4), .val (.int p5), .val (.int c0), .val (.int c1), .val (.int c2), .val (.ref b2), .val (.ref b45), .val (.ref b134), .val (.int ((p4 &&& (2147483647 : Int32)) % (3 : Int32))), .val (.ref b45), .val (.ref as352), .val (.ref b45)] [(.ref b45), (.ref b45)])) X374 hx rfl rfl rfl (pc0 := 165) (pc' := 168) (same := true) rfl (hb hby at_165) rfl (decide_eq_true rfl) (by decide) (by decide) (XS.aload X374.here hx rfl (hb hby at_168) rfl rfl k))))) ?_
          obtain ⟨cq375, kq375, q375a, q375b, q375c⟩ := isOf hZ e374 E_364
          obtain ⟨_, _, ⟨T375, L375, k375, n375⟩, -, X375, ⟨Lc375, hQ375, l375, y375, z375⟩, st375⟩ := X374.virtualBack hx (y := (⟨"java/lang/String", "length", "()I"⟩ : MethodName)) (z := (⟨"java/lang/String", "length", "()I"⟩ : MethodName)) hown (mvT hZ (own_w hw 44 rfl)) (mvT hZ (own_w hw 45 rfl)) (notFace_of_selects (args := #[]) (mvT hZ (own_w hw 47 rfl))) (mvT hZ (own_w hw 47 rfl)) (mvT hZ (own_w hw 46 rfl)) (by decide) (backOf (W := 0) (own_lenA2 l Z a0 hw [] b45 t_113 cd_113 cs h352 n0 (Nat.le_trans Z0 K373.1) E_364 F_365 F_366 G_367 S_354 hcs) hZ (own_w hw 48 rfl) (own_w hw 3 rfl) (by decide) (by decide)) q375a q375c (g := (mkF m 170 #[.val (.int p1), .val (.int p2), .val (.int p3), .val (.int p4), .val (.int p5), .val (.int c0), .val (.int c1), .val (.int c2), .val (.ref b2), .val (.ref b45), .val (.ref b134), .val (.int ((p4 &&& (2147483647 : Int32)) % (3 : Int32))), .val (.ref b45), .val (.ref as352), .val (.ref b45)] [(.ref b45)])) rfl (by rw [hml]; rfl) (Steps.refl _) (argsL := []) (rest := []) (lenOf own_pd15 rfl) rfl (by show 2 * 0 + _ ≤ _; exact Nat.le_of_eq rfl) (hb hby at_170) (fun _ _ => ⟨rfl, e374, (by decide : 14 + 0 ≤ _), (by decide : 40 + 0 ≤ _)⟩)
          dsimp only [Pt.U, Pt.locs, Pt.cells, Pt.slots] at X375 l375 y375 z375 st375 hQ375
          subst l375 y375 z375
          obtain ⟨rfl, N375q, e375⟩ := hQ375
          have N375 := Fr.app N374 N375q
          refine own_goW (B := T375.setTop (mkF m 177 #[.val (.int p1), .val (.int p2), .val (.int p3), .val (.int p4), .val (.int p5), .val (.int c0), .val (.int c1), .val (.int c2), .val (.ref b2), .val (.ref b45), .val (.ref b134), .val (.int ((p4 &&& (2147483647 : Int32)) % (3 : Int32))), .val (.ref b45), .val (.ref as352), .val (.ref b45)] [(.int (((p4 &&& (2147483647 : Int32)) % (3 : Int32)) + (1 : Int32))), (.int (2 : Int32))])) (fun _ k => st375.trans (XS.iload X375.here hx rfl (hb hby at_173) rfl  (XS.iconst X375.here hx rfl (hb hby at_175) (XS.iadd X375.here hx rfl (hb hby at_176) rfl k)))) ?_
          have hc376 : (2 : Int32) = (((p4 &&& (2147483647 : Int32)) % (3 : Int32)) + (1 : Int32)) := (own_pl_rm0_10 p4 p5 cs c0 c1 c2 hcs hl0 hu0 hl1 hu1 hl2 hu2 hc280 hc350 hc351)
          refine own_goW (B := T375.setTop (mkF m 185 #[.val (.int p1), .val (.int p2), .val (.int p3), .val (.int p4), .val (.int p5), .val (.int c0), .val (.int c1), .val (.int c2), .val (.ref b2), .val (.ref b45), .val (.ref b134), .val (.int ((p4 &&& (2147483647 : Int32)) % (3 : Int32))), .val (.ref b45), .val (.ref as352), .val (.ref b45)] [(.int (1 : Int32))])) (fun _ k => XS.icmpNo X375.here hx rfl (hb hby at_177) rfl (teq hc376).2 (XS.iconst X375.here hx rfl (hb hby at_180) (XS.goto X375.here hx rfl (pc0 := 181) (pc' := 185) rfl (hb hby at_181) (by decide) (by decide) k))) ?_
          exact own_retNW X375 hx hS Bd.notSynchronized (t := .boolean) (w := (1 : Int32)) Bd.returns (by simp) (hb hby at_185) e375 hk rfl ⟨rfl, N375, K373⟩ (by decide) (by decide)
        · skip
          refine own_goW (B := T250.setTop (mkF m 139 #[.val (.int p1), .val (.int p2), .val (.int p3), .val (.int p4), .val (.int p5), .val (.int c0), .val (.int c1), .val (.int c2), .val (.ref b2), .val (.ref b45), .val (.ref b134), .val (.int ((p4 &&& (2147483647 : Int32)) % (3 : Int32))), .val (.ref b45), .unset, .unset] [(.int (((p5.toUInt32 >>> ((1 : Int32) &&& 31).toUInt32).toInt32) &&& (255 : Int32)))])) (fun _ k => XS.ifNo X250.here hx rfl (hb hby at_128) rfl ((if0 _ _).trans (feq hc351).1) (XS.iload X250.here hx rfl (hb hby at_131) rfl  (XS.iconst X250.here hx rfl (hb hby at_133) (XS.iushr X250.here hx rfl (hb hby at_134) rfl (XS.sipush X250.here hx rfl (hb hby at_135) (XS.iand X250.here hx rfl (hb hby at_138) rfl k)))))) ?_
          refine own_goW (B := T250.setTop (mkF m 140 #[.val (.int p1), .val (.int p2), .val (.int p3), .val (.int p4), .val (.int p5), .val (.int c0), .val (.int c1), .val (.int c2), .val (.ref b2), .val (.ref b45), .val (.ref b134), .val (.int ((p4 &&& (2147483647 : Int32)) % (3 : Int32))), .val (.ref b45), .unset, .unset] [(.int ((((p5.toUInt32 >>> ((1 : Int32) &&& 31).toUInt32).toInt32) &&& (255 : Int32)).toUInt32.toUInt16.toUInt32.toInt32))])) (fun _ k => XS.i2c X250.here hx rfl (hb hby at_139) rfl k) ?_
          obtain ⟨_, _, ⟨T377, L377, k377, n377⟩, -, X377, ⟨Lc377, hQ377, l377, y377, z377⟩, st377⟩ := Jvm.LawKit.callS X250 hx (y := (⟨"java/lang/String", "valueOf", "(C)Ljava/lang/String;"⟩ : MethodName)) hown (mvT hZ (own_w hw 54 rfl)) (mvT hZ (own_w hw 55 rfl)) (mvT hZ (own_w hw 3 rfl)) (mvT hZ (own_w hw 56 rfl)) (by decide) (backOf (W := 0) (own_valC l Z a0 hw [] ((((p5.toUInt32 >>> ((1 : Int32) &&& 31).toUInt32).toInt32) &&& (255 : Int32)).toUInt32.toUInt16.toUInt32.toInt32) cs T250.heap n0 (Nat.le_trans Z0 K278.1) S_260 hcs (own_pl_rm0_11 p4 p5 cs c0 c1 c2 hcs hl0 hu0 hl1 hu1 hl2 hu2 hc280 hc350 hc351)) hZ (own_w hw 56 rfl) (own_w hw 3 rfl) (by decide) (by decide)) (g := (mkF m 140 #[.val (.int p1), .val (.int p2), .val (.int p3), .val (.int p4), .val (.int p5), .val (.int c0), .val (.int c1), .val (.int c2), .val (.ref b2), .val (.ref b45), .val (.ref b134), .val (.int ((p4 &&& (2147483647 : Int32)) % (3 : Int32))), .val (.ref b45), .unset, .unset] [(.int ((((p5.toUInt32 >>> ((1 : Int32) &&& 31).toUInt32).toInt32) &&& (255 : Int32)).toUInt32.toUInt16.toUInt32.toInt32))])) rfl (by rw [hml]; rfl) (argsL := [(.int ((((p5.toUInt32 >>> ((1 : Int32) &&& 31).toUInt32).toInt32) &&& (255 : Int32)).toUInt32.toUInt16.toUInt32.toInt32))]) (rest := []) (lenOf own_pd16 rfl) rfl (by show 2 * 0 + _ ≤ _; exact Nat.le_of_eq rfl) (hb hby at_140) (fun _ _ => ⟨rfl, rfl, (by decide : 12 + 2 ≤ _), (by decide : 36 + 5 ≤ _)⟩)
          dsimp only [Pt.U, Pt.locs, Pt.cells, Pt.slots] at X377 l377 y377 z377 st377 hQ377
          subst l377 y377 z377
          obtain ⟨b_377, t_377, kt_377, rfl, N377q, K377q, Q377_0, Q377_1, Q377_2, Q377_3, x377_0, x377_1⟩ := hQ377
          have N377 := Fr.app N250 N377q
          have hk := Nat.le_trans hk K377q.1
          have ne_b9_b_377_378 : b9 ≠ b_377 := Nat.ne_of_lt (Nat.lt_of_lt_of_le V_264.lt x377_0)
          have ne_b2_b_377_379 : b2 ≠ b_377 := Nat.ne_of_lt (Nat.lt_of_lt_of_le E_265.lt x377_0)
          have ne_t_32_b_377_380 : t_32 ≠ b_377 := Nat.ne_of_lt (Nat.lt_of_lt_of_le G_268.lt x377_0)
          have ne_b60_b_377_381 : b60 ≠ b_377 := Nat.ne_of_lt (Nat.lt_of_lt_of_le V_269.lt x377_0)
          have ne_b45_b_377_382 : b45 ≠ b_377 := Nat.ne_of_lt (Nat.lt_of_lt_of_le E_270.lt x377_0)
          have ne_t_113_b_377_383 : t_113 ≠ b_377 := Nat.ne_of_lt (Nat.lt_of_lt_of_le G_273.lt x377_0)
          have ne_b157_b_377_384 : b157 ≠ b_377 := Nat.ne_of_lt (Nat.lt_of_lt_of_le V_277.lt x377_0)
          have ne_b134_b_377_385 : b134 ≠ b_377 := Nat.ne_of_lt (Nat.lt_of_lt_of_le Q250_0.lt x377_0)
          have ne_t_250_b_377_386 : t_250 ≠ b_377 := Nat.ne_of_lt (Nat.lt_of_lt_of_le Q250_3.lt x377_0)
          have sz_b_377 : h0.size ≤ b_377 := Nat.le_trans K278.1 x377_0
          have g_b_377 : n0 ≤ b_377 := Nat.le_trans Z0 sz_b_377
          have ne_b9_t_377_387 : b9 ≠ t_377 := Nat.ne_of_lt (Nat.lt_of_lt_of_le V_264.lt x377_1)
          have ne_b2_t_377_388 : b2 ≠ t_377 := Nat.ne_of_lt (Nat.lt_of_lt_of_le E_265.lt x377_1)
          have ne_t_32_t_377_389 : t_32 ≠ t_377 := Nat.ne_of_lt (Nat.lt_of_lt_of_le G_268.lt x377_1)
          have ne_b60_t_377_390 : b60 ≠ t_377 := Nat.ne_of_lt (Nat.lt_of_lt_of_le V_269.lt x377_1)
          have ne_b45_t_377_391 : b45 ≠ t_377 := Nat.ne_of_lt (Nat.lt_of_lt_of_le E_270.lt x377_1)
          have ne_t_113_t_377_392 : t_113 ≠ t_377 := Nat.ne_of_lt (Nat.lt_of_lt_of_le G_273.lt x377_1)
          have ne_b157_t_377_393 : b157 ≠ t_377 := Nat.ne_of_lt (Nat.lt_of_lt_of_le V_277.lt x377_1)
          have ne_b134_t_377_394 : b134 ≠ t_377 := Nat.ne_of_lt (Nat.lt_of_lt_of_le Q250_0.lt x377_1)
          have ne_t_250_t_377_395 : t_250 ≠ t_377 := Nat.ne_of_lt (Nat.lt_of_lt_of_le Q250_3.lt x377_1)
          have sz_t_377 : h0.size ≤ t_377 := Nat.le_trans K278.1 x377_1
          have g_t_377 : n0 ≤ t_377 := Nat.le_trans Z0 sz_t_377
          have S_397 := own_Sta_keep S_260 K377q all0
          have S_398 := own_Sta_keep S_261 K377q all0
          have S_399 := own_Sta_keep S_262 K377q all0
          have S_400 := own_Sta_keep S_263 K377q all0
          have V_401 := V_264.keep K377q nin0
          have E_402 := E_265.keep K377q
          have F_403 := F_266.keep K377q nin0
          have F_404 := F_267.keep K377q nin0
          have G_405 := G_268.keep K377q nin0
          have V_406 := V_269.keep K377q nin0
          have E_407 := E_270.keep K377q
          have F_408 := F_271.keep K377q nin0
          have F_409 := F_272.keep K377q nin0
          have G_410 := G_273.keep K377q nin0
          have V_411 := V_277.keep K377q nin0
          have E_412 := Q250_0.keep K377q
          have F_413 := Q250_1.keep K377q nin0
          have F_414 := Q250_2.keep K377q nin0
          have G_415 := Q250_3.keep K377q nin0
          have K416 : Keep h0 T377.heap [] := K278.trans K377q all0
          refine own_goW (B := T377.setTop (mkF m 143 #[.val (.int p1), .val (.int p2), .val (.int p3), .val (.int p4), .val (.int p5), .val (.int c0), .val (.int c1), .val (.int c2), .val (.ref b2), .val (.ref b45), .val (.ref b134), .val (.int ((p4 &&& (2147483647 : Int32)) % (3 : Int32))), .val (.ref b45), .unset, .unset] [(.ref b_377)])) st377 ?_
          refine own_goW (B := T377.setTop (mkF m 156 #[.val (.int p1), .val (.int p2), .val (.int p3), .val (.int p4), .val (.int p5), .val (.int c0), .val (.int c1), .val (.int c2), .val (.ref b2), .val (.ref b45), .val (.ref b134), .val (.int ((p4 &&& (2147483647 : Int32)) % (3 : Int32))), .val (.ref b45), .val (.ref b_377), .unset] [(.ref b45), (.ref b_377)])) (fun _ k => XS.astore X377.here hx rfl (hb hby at_143) rfl rfl (l' := #[.val (.int p1), .val (.int p2), .val (.int p3), .val (.int p4), .val (.int p5), .val (.int c0), .val (.int c1), .val (.int c2), .val (.ref b2), .val (.ref b45), .val (.ref b134), .val (.int ((p4 &&& (2147483647 : Int32)) % (3 : Int32))), .val (.ref b45), .val (.ref b_377), .unset]) rfl (XS.goto X377.here hx rfl (pc0 := 145) (pc' := 152) rfl (hb hby at_145) (by decide) (by decide) (XS.aload X377.here hx rfl (hb hby at_152) rfl rfl (XS.aload X377.here hx rfl (hb hby at_154) rfl rfl k)))) ?_
          obtain ⟨_, _, ⟨T417, L417, k417, n417⟩, -, X417, ⟨Lc417, hQ417, l417, y417, z417⟩, st417⟩ := Jvm.LawKit.callS X377 hx (y := (⟨"com/example/rate_to_limit/ratetolimit/balance/PolicyCounter", "checkedStatus", "(Ljava/lang/String;Ljava/lang/String;)Ljava/lang/String;"⟩ : MethodName)) hown (mvT hZ (own_w hw 35 rfl)) (mvT hZ (own_w hw 36 rfl)) (mvT hZ (own_w hw 37 rfl)) (mvT hZ (own_w hw 38 rfl)) (by decide) (backOf (W := 0) (own_chk2 l Z a0 hw [] b_377 b45 t_113 cd_113 T377.heap n0 (Nat.le_trans Z0 K416.1) E_407 F_408 G_410) hZ (own_w hw 38 rfl) (own_w hw 37 rfl) (by decide) (by decide)) (g := (mkF m 156 #[.val (.int p1), .val (.int p2), .val (.int p3), .val (.int p4), .val (.int p5), .val (.int c0), .val (.int c1), .val (.int c2), .val (.ref b2), .val (.ref b45), .val (.ref b134), .val (.int ((p4 &&& (2147483647 : Int32)) % (3 : Int32))), .val (.ref b45), .val (.ref b_377), .unset] [(.ref b45), (.ref b_377)])) rfl (by rw [hml]; rfl) (argsL := [(.ref b_377), (.ref b45)]) (rest := []) (lenOf own_pd14 rfl) rfl (by show 2 * 0 + _ ≤ _; exact Nat.le_of_eq rfl) (hb hby at_156) (fun _ _ => ⟨rfl, rfl, (by decide : 14 + 0 ≤ _), (by decide : 41 + 0 ≤ _)⟩)
          dsimp only [Pt.U, Pt.locs, Pt.cells, Pt.slots] at X417 l417 y417 z417 st417 hQ417
          subst l417 y417 z417
          obtain ⟨rfl, N417q, e417⟩ := hQ417
          have N417 := Fr.app N377 N417q
          refine own_goW (B := T417.setTop (mkF m 159 #[.val (.int p1), .val (.int p2), .val (.int p3), .val (.int p4), .val (.int p5), .val (.int c0), .val (.int c1), .val (.int c2), .val (.ref b2), .val (.ref b45), .val (.ref b134), .val (.int ((p4 &&& (2147483647 : Int32)) % (3 : Int32))), .val (.ref b45), .val (.ref b_377), .unset] [(.ref b45)])) st417 ?_
          refine own_goW (B := T417.setTop (mkF m 170 #[.val (.int p1), .val (.int p2), .val (.int p3), .val (.int p4), .val (.int p5), .val (.int c0), .val (.int c1), .val (.int c2), .val (.ref b2), .val (.ref b45), .val (.ref b134), .val (.int ((p4 &&& (2147483647 : Int32)) % (3 : Int32))), .val (.ref b45), .val (.ref b_377), .val (.ref b45)] [(.ref b45)])) (fun _ k => XS.astore X417.here hx rfl (hb hby at_159) rfl rfl (l' := #[.val (.int p1), .val (.int p2), .val (.int p3), .val (.int p4), .val (.int p5), .val (.int c0), .val (.int c1), .val (.int c2), .val (.ref b2), .val (.ref b45), .val (.ref b134), .val (.int ((p4 &&& (2147483647 : Int32)) % (3 : Int32))), .val (.ref b45), .val (.ref b_377), .val (.ref b45)]) rfl (XS.aload X417.here hx rfl (hb hby at_161) rfl rfl (XS.aload X417.here hx rfl (hb hby at_163) rfl rfl (Jvm.RoadKit.acmp (g := (mkF m 165 #[.val (.int p1), .val (.int p2), .val (.int p3), .val (.int p4), .val (.int p5), .val (.int c0), .val (.int c1), .val (.int c2), .val (.ref b2), .val (.ref b45), .val (.ref b134), .val (.int ((p4 &&& (2147483647 : Int32)) % (3 : Int32))), .val (.ref b45), .val (.ref b_377), .val (.ref b45)] [(.ref b45), (.ref b45)])) X417 hx rfl rfl rfl (pc0 := 165) (pc' := 168) (same := true) rfl (hb hby at_165) rfl (decide_eq_true rfl) (by decide) (by decide) (XS.aload X417.here hx rfl (hb hby at_168) rfl rfl k))))) ?_
          obtain ⟨cq418, kq418, q418a, q418b, q418c⟩ := isOf hZ e417 E_407
          obtain ⟨_, _, ⟨T418, L418, k418, n418⟩, -, X418, ⟨Lc418, hQ418, l418, y418, z418⟩, st418⟩ := X417.virtualBack hx (y := (⟨"java/lang/String", "length", "()I"⟩ : MethodName)) (z := (⟨"java/lang/String", "length", "()I"⟩ : MethodName)) hown (mvT hZ (own_w hw 44 rfl)) (mvT hZ (own_w hw 45 rfl)) (notFace_of_selects (args := #[]) (mvT hZ (own_w hw 47 rfl))) (mvT hZ (own_w hw 47 rfl)) (mvT hZ (own_w hw 46 rfl)) (by decide) (backOf (W := 0) (own_lenA2 l Z a0 hw [] b45 t_113 cd_113 cs T377.heap n0 (Nat.le_trans Z0 K416.1) E_407 F_408 F_409 G_410 S_397 hcs) hZ (own_w hw 48 rfl) (own_w hw 3 rfl) (by decide) (by decide)) q418a q418c (g := (mkF m 170 #[.val (.int p1), .val (.int p2), .val (.int p3), .val (.int p4), .val (.int p5), .val (.int c0), .val (.int c1), .val (.int c2), .val (.ref b2), .val (.ref b45), .val (.ref b134), .val (.int ((p4 &&& (2147483647 : Int32)) % (3 : Int32))), .val (.ref b45), .val (.ref b_377), .val (.ref b45)] [(.ref b45)])) rfl (by rw [hml]; rfl) (Steps.refl _) (argsL := []) (rest := []) (lenOf own_pd15 rfl) rfl (by show 2 * 0 + _ ≤ _; exact Nat.le_of_eq rfl) (hb hby at_170) (fun _ _ => ⟨rfl, e417, (by decide : 14 + 0 ≤ _), (by decide : 41 + 0 ≤ _)⟩)
          dsimp only [Pt.U, Pt.locs, Pt.cells, Pt.slots] at X418 l418 y418 z418 st418 hQ418
          subst l418 y418 z418
          obtain ⟨rfl, N418q, e418⟩ := hQ418
          have N418 := Fr.app N417 N418q
          refine own_goW (B := T418.setTop (mkF m 177 #[.val (.int p1), .val (.int p2), .val (.int p3), .val (.int p4), .val (.int p5), .val (.int c0), .val (.int c1), .val (.int c2), .val (.ref b2), .val (.ref b45), .val (.ref b134), .val (.int ((p4 &&& (2147483647 : Int32)) % (3 : Int32))), .val (.ref b45), .val (.ref b_377), .val (.ref b45)] [(.int (((p4 &&& (2147483647 : Int32)) % (3 : Int32)) + (1 : Int32))), (.int (2 : Int32))])) (fun _ k => st418.trans (XS.iload X418.here hx rfl (hb hby at_173) rfl  (XS.iconst X418.here hx rfl (hb hby at_175) (XS.iadd X418.here hx rfl (hb hby at_176) rfl k)))) ?_
          have hc419 : (2 : Int32) = (((p4 &&& (2147483647 : Int32)) % (3 : Int32)) + (1 : Int32)) := (own_pl_rm0_12 p4 p5 cs c0 c1 c2 hcs hl0 hu0 hl1 hu1 hl2 hu2 hc280 hc350 hc351)
          refine own_goW (B := T418.setTop (mkF m 185 #[.val (.int p1), .val (.int p2), .val (.int p3), .val (.int p4), .val (.int p5), .val (.int c0), .val (.int c1), .val (.int c2), .val (.ref b2), .val (.ref b45), .val (.ref b134), .val (.int ((p4 &&& (2147483647 : Int32)) % (3 : Int32))), .val (.ref b45), .val (.ref b_377), .val (.ref b45)] [(.int (1 : Int32))])) (fun _ k => XS.icmpNo X418.here hx rfl (hb hby at_177) rfl (teq hc419).2 (XS.iconst X418.here hx rfl (hb hby at_180) (XS.goto X418.here hx rfl (pc0 := 181) (pc' := 185) rfl (hb hby at_181) (by decide) (by decide) k))) ?_
          exact own_retNW X418 hx hS Bd.notSynchronized (t := .boolean) (w := (1 : Int32)) Bd.returns (by simp) (hb hby at_185) e418 hk rfl ⟨rfl, N418, K416⟩ (by decide) (by decide)
      · skip
        refine own_goW (B := T250.setTop (mkF m 128 #[.val (.int p1), .val (.int p2), .val (.int p3), .val (.int p4), .val (.int p5), .val (.int c0), .val (.int c1), .val (.int c2), .val (.ref b2), .val (.ref b45), .val (.ref b134), .val (.int ((p4 &&& (2147483647 : Int32)) % (3 : Int32))), .val (.ref b134), .unset, .unset] [(.int (p5 &&& (1 : Int32)))])) (fun _ k => XS.icmpYes X250.here hx rfl (pc0 := 110) (pc' := 120) rfl (hb hby at_110) rfl (feq hc350).2 (by decide) (by decide) (XS.aload X250.here hx rfl (hb hby at_120) rfl rfl (XS.astore X250.here hx rfl (hb hby at_122) rfl rfl (l' := #[.val (.int p1), .val (.int p2), .val (.int p3), .val (.int p4), .val (.int p5), .val (.int c0), .val (.int c1), .val (.int c2), .val (.ref b2), .val (.ref b45), .val (.ref b134), .val (.int ((p4 &&& (2147483647 : Int32)) % (3 : Int32))), .val (.ref b134), .unset, .unset]) rfl (XS.iload X250.here hx rfl (hb hby at_124) rfl  (XS.iconst X250.here hx rfl (hb hby at_126) (XS.iand X250.here hx rfl (hb hby at_127) rfl k)))))) ?_
        by_cases hc420 : (p5 &&& (1 : Int32)) = (0 : Int32)
        · skip
          refine own_goW (B := T250.setTop (mkF m 148 #[.val (.int p1), .val (.int p2), .val (.int p3), .val (.int p4), .val (.int p5), .val (.int c0), .val (.int c1), .val (.int c2), .val (.ref b2), .val (.ref b45), .val (.ref b134), .val (.int ((p4 &&& (2147483647 : Int32)) % (3 : Int32))), .val (.ref b134), .unset, .unset] [])) (fun _ k => XS.ifYes X250.here hx rfl (pc0 := 128) (pc' := 148) rfl (hb hby at_128) rfl ((if0 _ _).trans (teq hc420).1) (by decide) (by decide) k) ?_
          obtain ⟨as421, T421, h421, kk421, X421, e421, E421, hS, hk, hZ, hown, st421⟩ := ldcS X250 hx hZ hown (own_w hw 32 rfl) wS rfl hS hk (g := (mkF m 148 #[.val (.int p1), .val (.int p2), .val (.int p3), .val (.int p4), .val (.int p5), .val (.int c0), .val (.int c1), .val (.int c2), .val (.ref b2), .val (.ref b45), .val (.ref b134), .val (.int ((p4 &&& (2147483647 : Int32)) % (3 : Int32))), .val (.ref b134), .unset, .unset] [])) rfl (hb hby at_148) (n := 0) (by decide +kernel) (by decide) (by decide) (by decide)
          have S_423 := S_260.ext E421
          have S_424 := S_261.ext E421
          have S_425 := S_262.ext E421
          have S_426 := S_263.ext E421
          have V_427 := V_264.ext E421
          have E_428 := E_265.ext E421
          have F_429 := F_266.ext E421
          have F_430 := F_267.ext E421
          have G_431 := G_268.ext E421
          have V_432 := V_269.ext E421
          have E_433 := E_270.ext E421
          have F_434 := F_271.ext E421
          have F_435 := F_272.ext E421
          have G_436 := G_273.ext E421
          have V_437 := V_277.ext E421
          have E_438 := Q250_0.ext E421
          have F_439 := Q250_1.ext E421
          have F_440 := Q250_2.ext E421
          have G_441 := Q250_3.ext E421
          have K442 : Keep h0 h421 [] := K278.ext E421
          refine own_goW (B := T421.setTop (mkF m 150 #[.val (.int p1), .val (.int p2), .val (.int p3), .val (.int p4), .val (.int p5), .val (.int c0), .val (.int c1), .val (.int c2), .val (.ref b2), .val (.ref b45), .val (.ref b134), .val (.int ((p4 &&& (2147483647 : Int32)) % (3 : Int32))), .val (.ref b134), .unset, .unset] [(.ref as421)])) st421 ?_
          refine own_goW (B := T421.setTop (mkF m 156 #[.val (.int p1), .val (.int p2), .val (.int p3), .val (.int p4), .val (.int p5), .val (.int c0), .val (.int c1), .val (.int c2), .val (.ref b2), .val (.ref b45), .val (.ref b134), .val (.int ((p4 &&& (2147483647 : Int32)) % (3 : Int32))), .val (.ref b134), .val (.ref as421), .unset] [(.ref b134), (.ref as421)])) (fun _ k => XS.astore X421.here hx rfl (hb hby at_150) rfl rfl (l' := #[.val (.int p1), .val (.int p2), .val (.int p3), .val (.int p4), .val (.int p5), .val (.int c0), .val (.int c1), .val (.int c2), .val (.ref b2), .val (.ref b45), .val (.ref b134), .val (.int ((p4 &&& (2147483647 : Int32)) % (3 : Int32))), .val (.ref b134), .val (.ref as421), .unset]) rfl (XS.aload X421.here hx rfl (hb hby at_152) rfl rfl (XS.aload X421.here hx rfl (hb hby at_154) rfl rfl k))) ?_
          obtain ⟨_, _, ⟨T443, L443, k443, n443⟩, -, X443, ⟨Lc443, hQ443, l443, y443, z443⟩, st443⟩ := Jvm.LawKit.callS X421 hx (y := (⟨"com/example/rate_to_limit/ratetolimit/balance/PolicyCounter", "checkedStatus", "(Ljava/lang/String;Ljava/lang/String;)Ljava/lang/String;"⟩ : MethodName)) hown (mvT hZ (own_w hw 35 rfl)) (mvT hZ (own_w hw 36 rfl)) (mvT hZ (own_w hw 37 rfl)) (mvT hZ (own_w hw 38 rfl)) (by decide) (backOf (W := 0) (own_chk3 l Z a0 hw [] as421 b134 t_250 cd_250 h421 n0 (Nat.le_trans Z0 K442.1) E_438 F_439 G_441) hZ (own_w hw 38 rfl) (own_w hw 37 rfl) (by decide) (by decide)) (g := (mkF m 156 #[.val (.int p1), .val (.int p2), .val (.int p3), .val (.int p4), .val (.int p5), .val (.int c0), .val (.int c1), .val (.int c2), .val (.ref b2), .val (.ref b45), .val (.ref b134), .val (.int ((p4 &&& (2147483647 : Int32)) % (3 : Int32))), .val (.ref b134), .val (.ref as421), .unset] [(.ref b134), (.ref as421)])) rfl (by rw [hml]; rfl) (argsL := [(.ref as421), (.ref b134)]) (rest := []) (lenOf own_pd14 rfl) rfl (by show 2 * 0 + _ ≤ _; exact Nat.le_of_eq rfl) (hb hby at_156) (fun _ _ => ⟨rfl, e421, (by decide : 14 + 0 ≤ _), (by decide : 40 + 0 ≤ _)⟩)
          dsimp only [Pt.U, Pt.locs, Pt.cells, Pt.slots] at X443 l443 y443 z443 st443 hQ443
          subst l443 y443 z443
          obtain ⟨rfl, N443q, e443⟩ := hQ443
          have N443 := Fr.app N250 N443q
          refine own_goW (B := T443.setTop (mkF m 159 #[.val (.int p1), .val (.int p2), .val (.int p3), .val (.int p4), .val (.int p5), .val (.int c0), .val (.int c1), .val (.int c2), .val (.ref b2), .val (.ref b45), .val (.ref b134), .val (.int ((p4 &&& (2147483647 : Int32)) % (3 : Int32))), .val (.ref b134), .val (.ref as421), .unset] [(.ref b134)])) st443 ?_
          refine own_goW (B := T443.setTop (mkF m 170 #[.val (.int p1), .val (.int p2), .val (.int p3), .val (.int p4), .val (.int p5), .val (.int c0), .val (.int c1), .val (.int c2), .val (.ref b2), .val (.ref b45), .val (.ref b134), .val (.int ((p4 &&& (2147483647 : Int32)) % (3 : Int32))), .val (.ref b134), .val (.ref as421), .val (.ref b134)] [(.ref b134)])) (fun _ k => XS.astore X443.here hx rfl (hb hby at_159) rfl rfl (l' := #[.val (.int p1), .val (.int p2), .val (.int p3), .val (.int p4), .val (.int p5), .val (.int c0), .val (.int c1), .val (.int c2), .val (.ref b2), .val (.ref b45), .val (.ref b134), .val (.int ((p4 &&& (2147483647 : Int32)) % (3 : Int32))), .val (.ref b134), .val (.ref as421), .val (.ref b134)]) rfl (XS.aload X443.here hx rfl (hb hby at_161) rfl rfl (XS.aload X443.here hx rfl (hb hby at_163) rfl rfl (Jvm.RoadKit.acmp (g := (mkF m 165 #[.val (.int p1), .val (.int p2), .val (.int p3), .val (.int p4), .val (.int p5), .val (.int c0), .val (.int c1), .val (.int c2), .val (.ref b2), .val (.ref b45), .val (.ref b134), .val (.int ((p4 &&& (2147483647 : Int32)) % (3 : Int32))), .val (.ref b134), .val (.ref as421), .val (.ref b134)] [(.ref b134), (.ref b134)])) X443 hx rfl rfl rfl (pc0 := 165) (pc' := 168) (same := true) rfl (hb hby at_165) rfl (decide_eq_true rfl) (by decide) (by decide) (XS.aload X443.here hx rfl (hb hby at_168) rfl rfl k))))) ?_
          obtain ⟨cq444, kq444, q444a, q444b, q444c⟩ := isOf hZ e443 E_438
          obtain ⟨_, _, ⟨T444, L444, k444, n444⟩, -, X444, ⟨Lc444, hQ444, l444, y444, z444⟩, st444⟩ := X443.virtualBack hx (y := (⟨"java/lang/String", "length", "()I"⟩ : MethodName)) (z := (⟨"java/lang/String", "length", "()I"⟩ : MethodName)) hown (mvT hZ (own_w hw 44 rfl)) (mvT hZ (own_w hw 45 rfl)) (notFace_of_selects (args := #[]) (mvT hZ (own_w hw 47 rfl))) (mvT hZ (own_w hw 47 rfl)) (mvT hZ (own_w hw 46 rfl)) (by decide) (backOf (W := 0) (own_lenA3 l Z a0 hw [] b134 t_250 cd_250 cs h421 n0 (Nat.le_trans Z0 K442.1) E_438 F_439 F_440 G_441 S_423 hcs) hZ (own_w hw 48 rfl) (own_w hw 3 rfl) (by decide) (by decide)) q444a q444c (g := (mkF m 170 #[.val (.int p1), .val (.int p2), .val (.int p3), .val (.int p4), .val (.int p5), .val (.int c0), .val (.int c1), .val (.int c2), .val (.ref b2), .val (.ref b45), .val (.ref b134), .val (.int ((p4 &&& (2147483647 : Int32)) % (3 : Int32))), .val (.ref b134), .val (.ref as421), .val (.ref b134)] [(.ref b134)])) rfl (by rw [hml]; rfl) (Steps.refl _) (argsL := []) (rest := []) (lenOf own_pd15 rfl) rfl (by show 2 * 0 + _ ≤ _; exact Nat.le_of_eq rfl) (hb hby at_170) (fun _ _ => ⟨rfl, e443, (by decide : 14 + 0 ≤ _), (by decide : 40 + 0 ≤ _)⟩)
          dsimp only [Pt.U, Pt.locs, Pt.cells, Pt.slots] at X444 l444 y444 z444 st444 hQ444
          subst l444 y444 z444
          obtain ⟨rfl, N444q, e444⟩ := hQ444
          have N444 := Fr.app N443 N444q
          refine own_goW (B := T444.setTop (mkF m 177 #[.val (.int p1), .val (.int p2), .val (.int p3), .val (.int p4), .val (.int p5), .val (.int c0), .val (.int c1), .val (.int c2), .val (.ref b2), .val (.ref b45), .val (.ref b134), .val (.int ((p4 &&& (2147483647 : Int32)) % (3 : Int32))), .val (.ref b134), .val (.ref as421), .val (.ref b134)] [(.int (((p4 &&& (2147483647 : Int32)) % (3 : Int32)) + (1 : Int32))), (.int (3 : Int32))])) (fun _ k => st444.trans (XS.iload X444.here hx rfl (hb hby at_173) rfl  (XS.iconst X444.here hx rfl (hb hby at_175) (XS.iadd X444.here hx rfl (hb hby at_176) rfl k)))) ?_
          have hc445 : (3 : Int32) = (((p4 &&& (2147483647 : Int32)) % (3 : Int32)) + (1 : Int32)) := (own_pl_rm0_13 p4 p5 cs c0 c1 c2 hcs hl0 hu0 hl1 hu1 hl2 hu2 hc280 hc350 hc420)
          refine own_goW (B := T444.setTop (mkF m 185 #[.val (.int p1), .val (.int p2), .val (.int p3), .val (.int p4), .val (.int p5), .val (.int c0), .val (.int c1), .val (.int c2), .val (.ref b2), .val (.ref b45), .val (.ref b134), .val (.int ((p4 &&& (2147483647 : Int32)) % (3 : Int32))), .val (.ref b134), .val (.ref as421), .val (.ref b134)] [(.int (1 : Int32))])) (fun _ k => XS.icmpNo X444.here hx rfl (hb hby at_177) rfl (teq hc445).2 (XS.iconst X444.here hx rfl (hb hby at_180) (XS.goto X444.here hx rfl (pc0 := 181) (pc' := 185) rfl (hb hby at_181) (by decide) (by decide) k))) ?_
          exact own_retNW X444 hx hS Bd.notSynchronized (t := .boolean) (w := (1 : Int32)) Bd.returns (by simp) (hb hby at_185) e444 hk rfl ⟨rfl, N444, K442⟩ (by decide) (by decide)
        · skip
          refine own_goW (B := T250.setTop (mkF m 139 #[.val (.int p1), .val (.int p2), .val (.int p3), .val (.int p4), .val (.int p5), .val (.int c0), .val (.int c1), .val (.int c2), .val (.ref b2), .val (.ref b45), .val (.ref b134), .val (.int ((p4 &&& (2147483647 : Int32)) % (3 : Int32))), .val (.ref b134), .unset, .unset] [(.int (((p5.toUInt32 >>> ((1 : Int32) &&& 31).toUInt32).toInt32) &&& (255 : Int32)))])) (fun _ k => XS.ifNo X250.here hx rfl (hb hby at_128) rfl ((if0 _ _).trans (feq hc420).1) (XS.iload X250.here hx rfl (hb hby at_131) rfl  (XS.iconst X250.here hx rfl (hb hby at_133) (XS.iushr X250.here hx rfl (hb hby at_134) rfl (XS.sipush X250.here hx rfl (hb hby at_135) (XS.iand X250.here hx rfl (hb hby at_138) rfl k)))))) ?_
          refine own_goW (B := T250.setTop (mkF m 140 #[.val (.int p1), .val (.int p2), .val (.int p3), .val (.int p4), .val (.int p5), .val (.int c0), .val (.int c1), .val (.int c2), .val (.ref b2), .val (.ref b45), .val (.ref b134), .val (.int ((p4 &&& (2147483647 : Int32)) % (3 : Int32))), .val (.ref b134), .unset, .unset] [(.int ((((p5.toUInt32 >>> ((1 : Int32) &&& 31).toUInt32).toInt32) &&& (255 : Int32)).toUInt32.toUInt16.toUInt32.toInt32))])) (fun _ k => XS.i2c X250.here hx rfl (hb hby at_139) rfl k) ?_
          obtain ⟨_, _, ⟨T446, L446, k446, n446⟩, -, X446, ⟨Lc446, hQ446, l446, y446, z446⟩, st446⟩ := Jvm.LawKit.callS X250 hx (y := (⟨"java/lang/String", "valueOf", "(C)Ljava/lang/String;"⟩ : MethodName)) hown (mvT hZ (own_w hw 54 rfl)) (mvT hZ (own_w hw 55 rfl)) (mvT hZ (own_w hw 3 rfl)) (mvT hZ (own_w hw 56 rfl)) (by decide) (backOf (W := 0) (own_valC l Z a0 hw [] ((((p5.toUInt32 >>> ((1 : Int32) &&& 31).toUInt32).toInt32) &&& (255 : Int32)).toUInt32.toUInt16.toUInt32.toInt32) cs T250.heap n0 (Nat.le_trans Z0 K278.1) S_260 hcs (own_pl_rm0_14 p4 p5 cs c0 c1 c2 hcs hl0 hu0 hl1 hu1 hl2 hu2 hc280 hc350 hc420)) hZ (own_w hw 56 rfl) (own_w hw 3 rfl) (by decide) (by decide)) (g := (mkF m 140 #[.val (.int p1), .val (.int p2), .val (.int p3), .val (.int p4), .val (.int p5), .val (.int c0), .val (.int c1), .val (.int c2), .val (.ref b2), .val (.ref b45), .val (.ref b134), .val (.int ((p4 &&& (2147483647 : Int32)) % (3 : Int32))), .val (.ref b134), .unset, .unset] [(.int ((((p5.toUInt32 >>> ((1 : Int32) &&& 31).toUInt32).toInt32) &&& (255 : Int32)).toUInt32.toUInt16.toUInt32.toInt32))])) rfl (by rw [hml]; rfl) (argsL := [(.int ((((p5.toUInt32 >>> ((1 : Int32) &&& 31).toUInt32).toInt32) &&& (255 : Int32)).toUInt32.toUInt16.toUInt32.toInt32))]) (rest := []) (lenOf own_pd16 rfl) rfl (by show 2 * 0 + _ ≤ _; exact Nat.le_of_eq rfl) (hb hby at_140) (fun _ _ => ⟨rfl, rfl, (by decide : 12 + 2 ≤ _), (by decide : 36 + 5 ≤ _)⟩)
          dsimp only [Pt.U, Pt.locs, Pt.cells, Pt.slots] at X446 l446 y446 z446 st446 hQ446
          subst l446 y446 z446
          obtain ⟨b_446, t_446, kt_446, rfl, N446q, K446q, Q446_0, Q446_1, Q446_2, Q446_3, x446_0, x446_1⟩ := hQ446
          have N446 := Fr.app N250 N446q
          have hk := Nat.le_trans hk K446q.1
          have ne_b9_b_446_447 : b9 ≠ b_446 := Nat.ne_of_lt (Nat.lt_of_lt_of_le V_264.lt x446_0)
          have ne_b2_b_446_448 : b2 ≠ b_446 := Nat.ne_of_lt (Nat.lt_of_lt_of_le E_265.lt x446_0)
          have ne_t_32_b_446_449 : t_32 ≠ b_446 := Nat.ne_of_lt (Nat.lt_of_lt_of_le G_268.lt x446_0)
          have ne_b60_b_446_450 : b60 ≠ b_446 := Nat.ne_of_lt (Nat.lt_of_lt_of_le V_269.lt x446_0)
          have ne_b45_b_446_451 : b45 ≠ b_446 := Nat.ne_of_lt (Nat.lt_of_lt_of_le E_270.lt x446_0)
          have ne_t_113_b_446_452 : t_113 ≠ b_446 := Nat.ne_of_lt (Nat.lt_of_lt_of_le G_273.lt x446_0)
          have ne_b157_b_446_453 : b157 ≠ b_446 := Nat.ne_of_lt (Nat.lt_of_lt_of_le V_277.lt x446_0)
          have ne_b134_b_446_454 : b134 ≠ b_446 := Nat.ne_of_lt (Nat.lt_of_lt_of_le Q250_0.lt x446_0)
          have ne_t_250_b_446_455 : t_250 ≠ b_446 := Nat.ne_of_lt (Nat.lt_of_lt_of_le Q250_3.lt x446_0)
          have sz_b_446 : h0.size ≤ b_446 := Nat.le_trans K278.1 x446_0
          have g_b_446 : n0 ≤ b_446 := Nat.le_trans Z0 sz_b_446
          have ne_b9_t_446_456 : b9 ≠ t_446 := Nat.ne_of_lt (Nat.lt_of_lt_of_le V_264.lt x446_1)
          have ne_b2_t_446_457 : b2 ≠ t_446 := Nat.ne_of_lt (Nat.lt_of_lt_of_le E_265.lt x446_1)
          have ne_t_32_t_446_458 : t_32 ≠ t_446 := Nat.ne_of_lt (Nat.lt_of_lt_of_le G_268.lt x446_1)
          have ne_b60_t_446_459 : b60 ≠ t_446 := Nat.ne_of_lt (Nat.lt_of_lt_of_le V_269.lt x446_1)
          have ne_b45_t_446_460 : b45 ≠ t_446 := Nat.ne_of_lt (Nat.lt_of_lt_of_le E_270.lt x446_1)
          have ne_t_113_t_446_461 : t_113 ≠ t_446 := Nat.ne_of_lt (Nat.lt_of_lt_of_le G_273.lt x446_1)
          have ne_b157_t_446_462 : b157 ≠ t_446 := Nat.ne_of_lt (Nat.lt_of_lt_of_le V_277.lt x446_1)
          have ne_b134_t_446_463 : b134 ≠ t_446 := Nat.ne_of_lt (Nat.lt_of_lt_of_le Q250_0.lt x446_1)
          have ne_t_250_t_446_464 : t_250 ≠ t_446 := Nat.ne_of_lt (Nat.lt_of_lt_of_le Q250_3.lt x446_1)
          have sz_t_446 : h0.size ≤ t_446 := Nat.le_trans K278.1 x446_1
          have g_t_446 : n0 ≤ t_446 := Nat.le_trans Z0 sz_t_446
          have S_466 := own_Sta_keep S_260 K446q all0
          have S_467 := own_Sta_keep S_261 K446q all0
          have S_468 := own_Sta_keep S_262 K446q all0
          have S_469 := own_Sta_keep S_263 K446q all0
          have V_470 := V_264.keep K446q nin0
          have E_471 := E_265.keep K446q
          have F_472 := F_266.keep K446q nin0
          have F_473 := F_267.keep K446q nin0
          have G_474 := G_268.keep K446q nin0
          have V_475 := V_269.keep K446q nin0
          have E_476 := E_270.keep K446q
          have F_477 := F_271.keep K446q nin0
          have F_478 := F_272.keep K446q nin0
          have G_479 := G_273.keep K446q nin0
          have V_480 := V_277.keep K446q nin0
          have E_481 := Q250_0.keep K446q
          have F_482 := Q250_1.keep K446q nin0
          have F_483 := Q250_2.keep K446q nin0
          have G_484 := Q250_3.keep K446q nin0
          have K485 : Keep h0 T446.heap [] := K278.trans K446q all0
          refine own_goW (B := T446.setTop (mkF m 143 #[.val (.int p1), .val (.int p2), .val (.int p3), .val (.int p4), .val (.int p5), .val (.int c0), .val (.int c1), .val (.int c2), .val (.ref b2), .val (.ref b45), .val (.ref b134), .val (.int ((p4 &&& (2147483647 : Int32)) % (3 : Int32))), .val (.ref b134), .unset, .unset] [(.ref b_446)])) st446 ?_
          refine own_goW (B := T446.setTop (mkF m 156 #[.val (.int p1), .val (.int p2), .val (.int p3), .val (.int p4), .val (.int p5), .val (.int c0), .val (.int c1), .val (.int c2), .val (.ref b2), .val (.ref b45), .val (.ref b134), .val (.int ((p4 &&& (2147483647 : Int32)) % (3 : Int32))), .val (.ref b134), .val (.ref b_446), .unset] [(.ref b134), (.ref b_446)])) (fun _ k => XS.astore X446.here hx rfl (hb hby at_143) rfl rfl (l' := #[.val (.int p1), .val (.int p2), .val (.int p3), .val (.int p4), .val (.int p5), .val (.int c0), .val (.int c1), .val (.int c2), .val (.ref b2), .val (.ref b45), .val (.ref b134), .val (.int ((p4 &&& (2147483647 : Int32)) % (3 : Int32))), .val (.ref b134), .val (.ref b_446), .unset]) rfl (XS.goto X446.here hx rfl (pc0 := 145) (pc' := 152) rfl (hb hby at_145) (by decide) (by decide) (XS.aload X446.here hx rfl (hb hby at_152) rfl rfl (XS.aload X446.here hx rfl (hb hby at_154) rfl rfl k)))) ?_
          obtain ⟨_, _, ⟨T486, L486, k486, n486⟩, -, X486, ⟨Lc486, hQ486, l486, y486, z486⟩, st486⟩ := Jvm.LawKit.callS X446 hx (y := (⟨"com/example/rate_to_limit/ratetolimit/balance/PolicyCounter", "checkedStatus", "(Ljava/lang/String;Ljava/lang/String;)Ljava/lang/String;"⟩ : MethodName)) hown (mvT hZ (own_w hw 35 rfl)) (mvT hZ (own_w hw 36 rfl)) (mvT hZ (own_w hw 37 rfl)) (mvT hZ (own_w hw 38 rfl)) (by decide) (backOf (W := 0) (own_chk3 l Z a0 hw [] b_446 b134 t_250 cd_250 T446.heap n0 (Nat.le_trans Z0 K485.1) E_481 F_482 G_484) hZ (own_w hw 38 rfl) (own_w hw 37 rfl) (by decide) (by decide)) (g := (mkF m 156 #[.val (.int p1), .val (.int p2), .val (.int p3), .val (.int p4), .val (.int p5), .val (.int c0), .val (.int c1), .val (.int c2), .val (.ref b2), .val (.ref b45), .val (.ref b134), .val (.int ((p4 &&& (2147483647 : Int32)) % (3 : Int32))), .val (.ref b134), .val (.ref b_446), .unset] [(.ref b134), (.ref b_446)])) rfl (by rw [hml]; rfl) (argsL := [(.ref b_446), (.ref b134)]) (rest := []) (lenOf own_pd14 rfl) rfl (by show 2 * 0 + _ ≤ _; exact Nat.le_of_eq rfl) (hb hby at_156) (fun _ _ => ⟨rfl, rfl, (by decide : 14 + 0 ≤ _), (by decide : 41 + 0 ≤ _)⟩)
          dsimp only [Pt.U, Pt.locs, Pt.cells, Pt.slots] at X486 l486 y486 z486 st486 hQ486
          subst l486 y486 z486
          obtain ⟨rfl, N486q, e486⟩ := hQ486
          have N486 := Fr.app N446 N486q
          refine own_goW (B := T486.setTop (mkF m 159 #[.val (.int p1), .val (.int p2), .val (.int p3), .val (.int p4), .val (.int p5), .val (.int c0), .val (.int c1), .val (.int c2), .val (.ref b2), .val (.ref b45), .val (.ref b134), .val (.int ((p4 &&& (2147483647 : Int32)) % (3 : Int32))), .val (.ref b134), .val (.ref b_446), .unset] [(.ref b134)])) st486 ?_
          refine own_goW (B := T486.setTop (mkF m 170 #[.val (.int p1), .val (.int p2), .val (.int p3), .val (.int p4), .val (.int p5), .val (.int c0), .val (.int c1), .val (.int c2), .val (.ref b2), .val (.ref b45), .val (.ref b134), .val (.int ((p4 &&& (2147483647 : Int32)) % (3 : Int32))), .val (.ref b134), .val (.ref b_446), .val (.ref b134)] [(.ref b134)])) (fun _ k => XS.astore X486.here hx rfl (hb hby at_159) rfl rfl (l' := #[.val (.int p1), .val (.int p2), .val (.int p3), .val (.int p4), .val (.int p5), .val (.int c0), .val (.int c1), .val (.int c2), .val (.ref b2), .val (.ref b45), .val (.ref b134), .val (.int ((p4 &&& (2147483647 : Int32)) % (3 : Int32))), .val (.ref b134), .val (.ref b_446), .val (.ref b134)]) rfl (XS.aload X486.here hx rfl (hb hby at_161) rfl rfl (XS.aload X486.here hx rfl (hb hby at_163) rfl rfl (Jvm.RoadKit.acmp (g := (mkF m 165 #[.val (.int p1), .val (.int p2), .val (.int p3), .val (.int p4), .val (.int p5), .val (.int c0), .val (.int c1), .val (.int c2), .val (.ref b2), .val (.ref b45), .val (.ref b134), .val (.int ((p4 &&& (2147483647 : Int32)) % (3 : Int32))), .val (.ref b134), .val (.ref b_446), .val (.ref b134)] [(.ref b134), (.ref b134)])) X486 hx rfl rfl rfl (pc0 := 165) (pc' := 168) (same := true) rfl (hb hby at_165) rfl (decide_eq_true rfl) (by decide) (by decide) (XS.aload X486.here hx rfl (hb hby at_168) rfl rfl k))))) ?_
          obtain ⟨cq487, kq487, q487a, q487b, q487c⟩ := isOf hZ e486 E_481
          obtain ⟨_, _, ⟨T487, L487, k487, n487⟩, -, X487, ⟨Lc487, hQ487, l487, y487, z487⟩, st487⟩ := X486.virtualBack hx (y := (⟨"java/lang/String", "length", "()I"⟩ : MethodName)) (z := (⟨"java/lang/String", "length", "()I"⟩ : MethodName)) hown (mvT hZ (own_w hw 44 rfl)) (mvT hZ (own_w hw 45 rfl)) (notFace_of_selects (args := #[]) (mvT hZ (own_w hw 47 rfl))) (mvT hZ (own_w hw 47 rfl)) (mvT hZ (own_w hw 46 rfl)) (by decide) (backOf (W := 0) (own_lenA3 l Z a0 hw [] b134 t_250 cd_250 cs T446.heap n0 (Nat.le_trans Z0 K485.1) E_481 F_482 F_483 G_484 S_466 hcs) hZ (own_w hw 48 rfl) (own_w hw 3 rfl) (by decide) (by decide)) q487a q487c (g := (mkF m 170 #[.val (.int p1), .val (.int p2), .val (.int p3), .val (.int p4), .val (.int p5), .val (.int c0), .val (.int c1), .val (.int c2), .val (.ref b2), .val (.ref b45), .val (.ref b134), .val (.int ((p4 &&& (2147483647 : Int32)) % (3 : Int32))), .val (.ref b134), .val (.ref b_446), .val (.ref b134)] [(.ref b134)])) rfl (by rw [hml]; rfl) (Steps.refl _) (argsL := []) (rest := []) (lenOf own_pd15 rfl) rfl (by show 2 * 0 + _ ≤ _; exact Nat.le_of_eq rfl) (hb hby at_170) (fun _ _ => ⟨rfl, e486, (by decide : 14 + 0 ≤ _), (by decide : 41 + 0 ≤ _)⟩)
          dsimp only [Pt.U, Pt.locs, Pt.cells, Pt.slots] at X487 l487 y487 z487 st487 hQ487
          subst l487 y487 z487
          obtain ⟨rfl, N487q, e487⟩ := hQ487
          have N487 := Fr.app N486 N487q
          refine own_goW (B := T487.setTop (mkF m 177 #[.val (.int p1), .val (.int p2), .val (.int p3), .val (.int p4), .val (.int p5), .val (.int c0), .val (.int c1), .val (.int c2), .val (.ref b2), .val (.ref b45), .val (.ref b134), .val (.int ((p4 &&& (2147483647 : Int32)) % (3 : Int32))), .val (.ref b134), .val (.ref b_446), .val (.ref b134)] [(.int (((p4 &&& (2147483647 : Int32)) % (3 : Int32)) + (1 : Int32))), (.int (3 : Int32))])) (fun _ k => st487.trans (XS.iload X487.here hx rfl (hb hby at_173) rfl  (XS.iconst X487.here hx rfl (hb hby at_175) (XS.iadd X487.here hx rfl (hb hby at_176) rfl k)))) ?_
          have hc488 : (3 : Int32) = (((p4 &&& (2147483647 : Int32)) % (3 : Int32)) + (1 : Int32)) := (own_pl_rm0_15 p4 p5 cs c0 c1 c2 hcs hl0 hu0 hl1 hu1 hl2 hu2 hc280 hc350 hc420)
          refine own_goW (B := T487.setTop (mkF m 185 #[.val (.int p1), .val (.int p2), .val (.int p3), .val (.int p4), .val (.int p5), .val (.int c0), .val (.int c1), .val (.int c2), .val (.ref b2), .val (.ref b45), .val (.ref b134), .val (.int ((p4 &&& (2147483647 : Int32)) % (3 : Int32))), .val (.ref b134), .val (.ref b_446), .val (.ref b134)] [(.int (1 : Int32))])) (fun _ k => XS.icmpNo X487.here hx rfl (hb hby at_177) rfl (teq hc488).2 (XS.iconst X487.here hx rfl (hb hby at_180) (XS.goto X487.here hx rfl (pc0 := 181) (pc' := 185) rfl (hb hby at_181) (by decide) (by decide) k))) ?_
          exact own_retNW X487 hx hS Bd.notSynchronized (t := .boolean) (w := (1 : Int32)) Bd.returns (by simp) (hb hby at_185) e487 hk rfl ⟨rfl, N487, K485⟩ (by decide) (by decide)
  refine own_goW (B := s₁.setTop (mkF m 8 #[.val (.int p1), .val (.int p2), .val (.int p3), .val (.int p4), .val (.int p5), .val (.int ((p1 &&& (65535 : Int32)).toUInt32.toUInt16.toUInt32.toInt32)), .unset, .unset, .unset, .unset, .unset, .unset, .unset, .unset, .unset] [(.int p2)])) (fun _ k => XS.iloadN X0.here hx rfl (hb hby at_0) rfl  (X0.ldcInt hx hown (mvT hZ (own_w hw 0 rfl)) (g := (mkF m 1 #[.val (.int p1), .val (.int p2), .val (.int p3), .val (.int p4), .val (.int p5), .unset, .unset, .unset, .unset, .unset, .unset, .unset, .unset, .unset, .unset] [(.int p1)])) rfl (hb hby at_1) _ (XS.iand X0.here hx rfl (hb hby at_3) rfl (XS.i2c X0.here hx rfl (hb hby at_4) rfl (XS.istore X0.here hx rfl (hb hby at_5) rfl (l' := #[.val (.int p1), .val (.int p2), .val (.int p3), .val (.int p4), .val (.int p5), .val (.int ((p1 &&& (65535 : Int32)).toUInt32.toUInt16.toUInt32.toInt32)), .unset, .unset, .unset, .unset, .unset, .unset, .unset, .unset, .unset]) rfl (XS.iloadN X0.here hx rfl (hb hby at_7) rfl  k)))))) ?_
  refine own_goW (B := s₁.setTop (mkF m 17 #[.val (.int p1), .val (.int p2), .val (.int p3), .val (.int p4), .val (.int p5), .val (.int ((p1 &&& (65535 : Int32)).toUInt32.toUInt16.toUInt32.toInt32)), .val (.int ((p2 &&& (65535 : Int32)).toUInt32.toUInt16.toUInt32.toInt32)), .unset, .unset, .unset, .unset, .unset, .unset, .unset, .unset] [(.int (65535 : Int32)), (.int p3)])) (fun _ k => X0.ldcInt hx hown (mvT hZ (own_w hw 0 rfl)) (g := (mkF m 8 #[.val (.int p1), .val (.int p2), .val (.int p3), .val (.int p4), .val (.int p5), .val (.int ((p1 &&& (65535 : Int32)).toUInt32.toUInt16.toUInt32.toInt32)), .unset, .unset, .unset, .unset, .unset, .unset, .unset, .unset, .unset] [(.int p2)])) rfl (hb hby at_8) _ (XS.iand X0.here hx rfl (hb hby at_10) rfl (XS.i2c X0.here hx rfl (hb hby at_11) rfl (XS.istore X0.here hx rfl (hb hby at_12) rfl (l' := #[.val (.int p1), .val (.int p2), .val (.int p3), .val (.int p4), .val (.int p5), .val (.int ((p1 &&& (65535 : Int32)).toUInt32.toUInt16.toUInt32.toInt32)), .val (.int ((p2 &&& (65535 : Int32)).toUInt32.toUInt16.toUInt32.toInt32)), .unset, .unset, .unset, .unset, .unset, .unset, .unset, .unset]) rfl (XS.iloadN X0.here hx rfl (hb hby at_14) rfl  (X0.ldcInt hx hown (mvT hZ (own_w hw 0 rfl)) (g := (mkF m 15 #[.val (.int p1), .val (.int p2), .val (.int p3), .val (.int p4), .val (.int p5), .val (.int ((p1 &&& (65535 : Int32)).toUInt32.toUInt16.toUInt32.toInt32)), .val (.int ((p2 &&& (65535 : Int32)).toUInt32.toUInt16.toUInt32.toInt32)), .unset, .unset, .unset, .unset, .unset, .unset, .unset, .unset] [(.int p3)])) rfl (hb hby at_15) _ k)))))) ?_
  refine own_goW (B := s₁.setTop (mkF m 21 #[.val (.int p1), .val (.int p2), .val (.int p3), .val (.int p4), .val (.int p5), .val (.int ((p1 &&& (65535 : Int32)).toUInt32.toUInt16.toUInt32.toInt32)), .val (.int ((p2 &&& (65535 : Int32)).toUInt32.toUInt16.toUInt32.toInt32)), .val (.int ((p3 &&& (65535 : Int32)).toUInt32.toUInt16.toUInt32.toInt32)), .unset, .unset, .unset, .unset, .unset, .unset, .unset] [])) (fun _ k => XS.iand X0.here hx rfl (hb hby at_17) rfl (XS.i2c X0.here hx rfl (hb hby at_18) rfl (XS.istore X0.here hx rfl (hb hby at_19) rfl (l' := #[.val (.int p1), .val (.int p2), .val (.int p3), .val (.int p4), .val (.int p5), .val (.int ((p1 &&& (65535 : Int32)).toUInt32.toUInt16.toUInt32.toInt32)), .val (.int ((p2 &&& (65535 : Int32)).toUInt32.toUInt16.toUInt32.toInt32)), .val (.int ((p3 &&& (65535 : Int32)).toUInt32.toUInt16.toUInt32.toInt32)), .unset, .unset, .unset, .unset, .unset, .unset, .unset]) rfl k))) ?_
  exact J1 ((p1 &&& (65535 : Int32)).toUInt32.toUInt16.toUInt32.toInt32) ((p2 &&& (65535 : Int32)).toUInt32.toUInt16.toUInt32.toInt32) ((p3 &&& (65535 : Int32)).toUInt32.toUInt16.toUInt32.toInt32) (own_pl_rm0_1 p1 cs hcs) (own_pl_rm0_2 p1 cs hcs) (own_pl_rm0_3 p2 cs hcs) (own_pl_rm0_4 p2 cs hcs) (own_pl_rm0_5 p3 cs hcs) (own_pl_rm0_6 p3 cs hcs)
set_option maxRecDepth 65536 in
set_option maxHeartbeats 40000000 in
theorem comes_1 {Post : Tables → Env → Array Value → State → Outcome → State → Prop} (hpost : ∀ tb e args s v u, (limb_1_1.after args s (.returned v) u = true ∧ limb_1_2.after args s (.returned v) u = true ∧ True) → ReturnedEndW s (.returned v) u (Jvm.fieldLocs frame_1_writes args s ++ Jvm.arrayLocs frame_1_arrays args s ++ Jvm.staticLocs frame_1_statics s) 40 1216 → Post tb e args s (.returned v) u) :
    ArmFor flags0 classFile x code maxLocals ret World_1 tables_1 room_1 Calls_1 rest_1 Pre_1 Post := by
  intro l hfl _ _ p e ha hc hk s m args below hf hA hF happ hP
  obtain ⟨hcalls, hrest, hpre⟩ := hP
  obtain ⟨-, -, -, hnamed, -, -, -, hat⟩ := (Spec.applies_iff hf).mp happ
  obtain ⟨hg, hn⟩ := and_e (Cond.before_iff.mp (show (Jvm.Cond.and given_1 narrow_1).before args s = true from hpre))
  obtain ⟨gg1, gg2⟩ := and_e hg
  obtain ⟨gg3, gg4⟩ := and_e gg2
  obtain ⟨gg5, gg6⟩ := and_e gg4
  obtain ⟨gg7, gg8⟩ := and_e gg6
  obtain ⟨gg9, gg10⟩ := and_e gg8
  obtain ⟨w0, w1, w2, w3, w4, rfl⟩ : ∃ w0 w1 w2 w3 w4 : Value, args = #[w0, w1, w2, w3, w4] := by
    have hs : args.size = 5 := by simpa [Cond.value, given_1] using gg1
    obtain ⟨L⟩ := args
    match L, hs with
    | [w0, w1, w2, w3, w4], _ => exact ⟨w0, w1, w2, w3, w4, rfl⟩
  have hw := fun d (hd : d ∈ tables_1) => atoms_spec (ws := Jvm.Cond.code x code maxLocals ret :: tables_1) hat d (List.mem_cons_of_mem _ hd)
  have hfit : Fit s := fun {y c} hc i hi => by
    obtain ⟨ha, rfl⟩ := Array.getElem?_eq_some_iff.mp hc
    have q := List.all_eq_true.mp ((Array.all_eq_true_iff_forall_mem.mp hF) _ (Array.getElem_mem ha)) i (List.mem_range.mpr hi)
    simpa [Array.getElem?_eq_getElem hi] using q
  obtain ⟨hsets, hown0⟩ := atoms_of _ (rest_1_c_eq ▸ (show rest_1_c.before _ s = true from hrest))
  have hr0 := Cond.before_iff.mp hown0
  obtain ⟨i0, ei0⟩ := is_v gg3
  obtain rfl : w0 = (.int i0) := Option.some.inj ei0
  obtain ⟨i1, ei1⟩ := is_v gg5
  obtain rfl : w1 = (.int i1) := Option.some.inj ei1
  obtain ⟨i2, ei2⟩ := is_v gg7
  obtain rfl : w2 = (.int i2) := Option.some.inj ei2
  obtain ⟨i3, ei3⟩ := is_v gg9
  obtain rfl : w3 = (.int i3) := Option.some.inj ei3
  obtain ⟨i4, ei4⟩ := is_v gg10
  obtain rfl : w4 = (.int i4) := Option.some.inj ei4
  obtain ⟨cs, Scs, hcs⟩ := own_cs (hsets _ (List.mem_of_getElem? (i := 0) rfl)) (hsets _ (List.mem_of_getElem? (i := 1) rfl)) (hsets _ (List.mem_of_getElem? (i := 2) rfl))
  have Sua := own_stai (hsets _ (List.mem_of_getElem? (i := 11) rfl)) (hsets _ (List.mem_of_getElem? (i := 12) rfl)) 
  have Suh := own_stai (hsets _ (List.mem_of_getElem? (i := 14) rfl)) (hsets _ (List.mem_of_getElem? (i := 15) rfl)) 
  have Sul := own_stai (hsets _ (List.mem_of_getElem? (i := 17) rfl)) (hsets _ (List.mem_of_getElem? (i := 18) rfl)) 
  obtain ⟨n, o, h1, h2, h3, _, L, rfl, ⟨rfl, N, _⟩, hq⟩ := own_rm0 l s _ hw tables_1 i0 i1 i2 i3 i4 cs s.heap s.heap.size (Nat.le_refl _) Scs hcs Sua Suh Sul p e ha hc hk s m _ below hf ((Spec.applies_iff_loose hf).mp happ).1 ⟨rfl, State.Warmed39.refl s, rfl⟩ trivial
  refine ⟨n, _, h1, h2, h3, hpost _ _ _ _ _ _ ⟨Cond.after_iff.mpr rfl, Cond.after_iff.mpr (eq_i res_at (Term.int_eval (1)) rfl), trivial⟩ ⟨hq.1, hq.2.1, hq.2.2.1, (hq.2.2.2.sift fun y hy => Or.inr (N y hy)).mono (by decide) (by decide)⟩⟩
theorem main_1_1 : Claimed_1_1 := comes_1 fun _ _ _ _ _ _ h hF => ⟨h.1, hF⟩
theorem main_1_2 : Claimed_1_2 := comes_1 fun _ _ _ _ _ _ h hF => ⟨h.2.1, hF⟩
end Jvm.Pilot.@@N@@
namespace Jvm.Pilot.@@N@@
open Jvm Jvm.ClassFile Sem Op Lib Jvm.Free Jvm.Stand Jvm.Pilot.@@N@@.Jvm.D
/-! MADE BY PROGRAM (witnessworld.py) out of the Statement's table words and the real class files: 20 classes; the members and pool entries that the words name. The judged class is class 1, her method 1. -/
namespace start1
open Jvm.ClassFile
def u (s : String) : CpInfo := .utf8 (stringToUtf16 s)
/-- a pool by its gaps: so many unusable entries, then the entry; so many at the end -/
def gap : Nat → List CpInfo → List CpInfo
  | 0, r => r
  | n + 1, r => .unusable :: gap n r
def poolList (es : List (Nat × CpInfo)) (last : Nat) : List CpInfo := es.foldr (fun e r => gap e.1 (e.2 :: r)) (gap last [])
def pool (es : List (Nat × CpInfo)) (last : Nat) : Array CpInfo := ⟨poolList es last⟩
def fileOf (pool : Array CpInfo) (this : Nat) (attrs : Array Attribute := #[]) (ms : Array MethodInfo := #[]) (fl : Nat := 33) (sup : Nat := 0) (ifs : Array Nat := #[]) (fds : Array FieldInfo := #[]) : ClassFile where
  minorVersion := 0
  majorVersion := 65
  constantPool := pool
  accessFlags := fl
  thisClass := this
  superClass := sup
  interfaces := ifs
  fields := fds
  methods := ms
  attributes := attrs
def plain (name : String) (sup : Option ClassId) : Class where
  name := name
  kind := .ordinary
  loader := none
  accessFlags := 33
  super := sup
  interfaces := #[]
  cf := none
  fields := #[]
  methods := #[]
  instanceTypes := #[]
  staticTypes := #[]
  resolved := #[]
  callSites := []
  init := .initialized
  statics := none
  mirror := none

def pool0 : Array CpInfo := pool [(5, u "<init>"), (0, u "()V"), (1, .class_ 10), (1, u "java/lang/Object")] 113

def k0c0 : Code := { maxStack := 0, maxLocals := 1, code := object_method_1_code, exceptionTable := #[], attributes := #[] }
def k0m0 : Method := { name := "<init>", desc := "()V", sig := { parameters := [], returnType := none }, accessFlags := 1, code := some k0c0 }
/-- java/lang/Object -/
def k0 : Class := { plain "java/lang/Object" none with
  accessFlags := 33
  interfaces := #[]
  cf := some (fileOf pool0 8 #[] #[{ accessFlags := 1, nameIndex := 5, descriptorIndex := 6, attributes := #[] }] 33 0 #[] #[])
  fields := #[]
  methods := #[k0m0]
  instanceTypes := #[]
  staticTypes := #[]
  resolved := Array.replicate 124 none
  statics := none }

def pool1 : Array CpInfo := pool [(2, .class_ 4), (1, u "java/lang/Object"), (0, u "<init>"), (0, u "()V"), (0, .integer 65535), (0, .class_ 9), (0, u "java/lang/String"), (0, .methodref 8 11), (0, .nameAndType 5 12), (0, u "([C)V"), (0, .integer 2147483647), (0, .methodref 8 15), (0, .nameAndType 16 17), (0, u "valueOf"), (0, u "(C)Ljava/lang/String;"), (0, .string 19), (0, u ""), (0, .methodref 21 22), (0, .class_ 23), (0, .nameAndType 24 25), (0, u "com/example/rate_to_limit/ratetolimit/balance/PolicyCounter"), (0, u "checkedStatus"), (0, u "(Ljava/lang/String;Ljava/lang/String;)Ljava/lang/String;"), (0, .methodref 8 27), (0, .nameAndType 28 29), (0, u "length"), (0, u "()I"), (0, .class_ 31), (0, u "com/example/rate_to_limit/ratetolimit/balance/PolicyCounterCheckedStatusPinLaw"), (2, u "law"), (0, u "(IIIII)Z")] 3

def k1m0 : Method := { name := "<init>", desc := "()V", sig := { parameters := [], returnType := none }, accessFlags := 1, code := none }
def k1c1 : Code := { maxStack := 6, maxLocals := 15, code := code, exceptionTable := #[], attributes := #[] }
def k1m1 : Method := { name := "law", desc := "(IIIII)Z", sig := { parameters := [.int, .int, .int, .int, .int], returnType := some .boolean }, accessFlags := 9, code := some k1c1 }
/-- com/example/rate_to_limit/ratetolimit/balance/PolicyCounterCheckedStatusPinLaw -/
def k1 : Class := { plain "com/example/rate_to_limit/ratetolimit/balance/PolicyCounterCheckedStatusPinLaw" (some 0) with
  accessFlags := 49
  interfaces := #[]
  cf := some (fileOf pool1 30 #[] #[{ accessFlags := 1, nameIndex := 5, descriptorIndex := 6, attributes := #[] }, { accessFlags := 9, nameIndex := 34, descriptorIndex := 35, attributes := #[] }] 49 2 #[] #[])
  fields := #[]
  methods := #[k1m0, k1m1]
  instanceTypes := #[]
  staticTypes := #[]
  resolved := Array.replicate 39 none
  statics := none }

def pool2 : Array CpInfo := pool [(1, .class_ 2), (0, u "java/io/Serializable"), (0, .class_ 4), (0, u "java/lang/Object")] 2

/-- java/io/Serializable -/
def k2 : Class := { plain "java/io/Serializable" (some 0) with
  accessFlags := 1537
  interfaces := #[]
  cf := some (fileOf pool2 1 #[] #[] 1537 3 #[] #[])
  fields := #[]
  methods := #[]
  instanceTypes := #[]
  staticTypes := #[]
  resolved := Array.replicate 7 none
  statics := none }

def pool3 : Array CpInfo := pool [(1, .class_ 2), (0, u "java/lang/Comparable"), (0, .class_ 4), (0, u "java/lang/Object")] 7

/-- java/lang/Comparable -/
def k3 : Class := { plain "java/lang/Comparable" (some 0) with
  accessFlags := 1537
  interfaces := #[]
  cf := some (fileOf pool3 1 #[] #[] 1537 3 #[] #[])
  fields := #[]
  methods := #[]
  instanceTypes := #[]
  staticTypes := #[]
  resolved := Array.replicate 12 none
  statics := none }

def pool4 : Array CpInfo := pool [(2, .class_ 4), (1, u "java/lang/CharSequence"), (42, .class_ 48), (0, u "java/lang/CharSequence$1CodePointIterator"), (10, .class_ 60), (0, u "java/lang/CharSequence$1CharIterator"), (5, .class_ 67), (0, u "java/lang/Object")] 63

/-- java/lang/CharSequence -/
def k4 : Class := { plain "java/lang/CharSequence" (some 0) with
  accessFlags := 1537
  interfaces := #[]
  cf := some (fileOf pool4 2 #[.nestMembers #[47, 59]] #[] 1537 66 #[] #[])
  fields := #[]
  methods := #[]
  instanceTypes := #[]
  staticTypes := #[]
  resolved := Array.replicate 131 none
  statics := none }

def pool5 : Array CpInfo := pool [(1, .class_ 2), (0, u "java/lang/constant/Constable"), (0, .class_ 4), (0, u "java/lang/Object")] 6

/-- java/lang/constant/Constable -/
def k5 : Class := { plain "java/lang/constant/Constable" (some 0) with
  accessFlags := 1537
  interfaces := #[]
  cf := some (fileOf pool5 1 #[] #[] 1537 3 #[] #[])
  fields := #[]
  methods := #[]
  instanceTypes := #[]
  staticTypes := #[]
  resolved := Array.replicate 11 none
  statics := none }

def pool6 : Array CpInfo := pool [(1, .class_ 2), (0, u "java/lang/constant/ConstantDesc"), (0, .class_ 4), (0, u "java/lang/Object")] 32

/-- java/lang/constant/ConstantDesc -/
def k6 : Class := { plain "java/lang/constant/ConstantDesc" (some 0) with
  accessFlags := 1537
  interfaces := #[]
  cf := some (fileOf pool6 1 #[] #[] 1537 3 #[] #[])
  fields := #[]
  methods := #[]
  instanceTypes := #[]
  staticTypes := #[]
  resolved := Array.replicate 37 none
  statics := none }

def pool7 : Array CpInfo := pool [(1, .methodref 2 3), (0, .class_ 4), (0, .nameAndType 5 6), (0, u "java/lang/Object"), (0, u "<init>"), (0, u "()V"), (2, .fieldref 10 11), (0, .class_ 12), (0, .nameAndType 13 14), (0, u "java/lang/String"), (0, u "value"), (0, u "[B"), (0, .fieldref 10 16), (0, .nameAndType 17 18), (0, u "coder"), (0, u "B"), (2, u "hash"), (0, u "I"), (2, u "hashIsZero"), (0, u "Z"), (0, .methodref 10 28), (0, .nameAndType 5 29), (0, u "([CIILjava/lang/Void;)V"), (8, .fieldref 10 39), (0, .nameAndType 40 26), (0, u "COMPACT_STRINGS"), (1, .class_ 44), (1, u "java/lang/StringUTF16"), (0, u "compress"), (1, .methodref 42 48), (0, .nameAndType 49 50), (0, u "coderFromArrayLen"), (0, u "([BI)B"), (2, u "toBytes"), (53, .class_ 109), (1, u "java/lang/StringLatin1"), (32, u "()Z"), (34, .methodref 42 178), (0, .nameAndType 45 179), (0, u "([CII)[B"), (29, .methodref 10 210), (0, .nameAndType 5 211), (0, u "([BB)V"), (122, u "()I"), (0, .methodref 10 336), (0, .nameAndType 17 337), (0, u "()B"), (31, u "(C)Z"), (137, u "length"), (67, .class_ 576), (0, u "java/lang/CharSequence"), (22, u "CASE_INSENSITIVE_ORDER"), (0, u "Ljava/util/Comparator;"), (91, u "isEmpty"), (89, u "valueOf"), (0, u "(C)Ljava/lang/String;"), (226, u "([C)V"), (4, .methodref 107 1016), (0, .nameAndType 1017 369), (0, u "canEncode"), (0, .methodref 107 1019), (0, .nameAndType 53 1020), (0, u "(C)[B"), (80, u "serialPersistentFields"), (0, u "[Ljava/io/ObjectStreamField;"), (0, .class_ 1104), (0, u "java/lang/String$CaseInsensitiveComparator"), (1, .class_ 1107), (0, u "java/io/Serializable"), (0, .class_ 1109), (0, u "java/lang/Comparable"), (0, .class_ 1111), (0, u "java/lang/constant/Constable"), (0, .class_ 1113), (0, u "java/lang/constant/ConstantDesc"), (2, u "serialVersionUID"), (0, u "J"), (3, u "REPL"), (0, u "C"), (2, u "LATIN1"), (1, u "UTF16")] 323

def k7m0 : Method := { name := "<init>", desc := "()V", sig := { parameters := [], returnType := none }, accessFlags := 1, code := none }
def k7c1 : Code := { maxStack := 5, maxLocals := 2, code := jdk_42_method_3_code, exceptionTable := #[], attributes := #[] }
def k7m1 : Method := { name := "<init>", desc := "([C)V", sig := { parameters := [(.array .char)], returnType := none }, accessFlags := 1, code := some k7c1 }
def k7c2 : Code := { maxStack := 2, maxLocals := 1, code := jdk_42_method_54_code, exceptionTable := #[], attributes := #[] }
def k7m2 : Method := { name := "length", desc := "()I", sig := { parameters := [], returnType := some .int }, accessFlags := 1, code := some k7c2 }
def k7c3 : Code := { maxStack := 1, maxLocals := 1, code := jdk_42_method_55_code, exceptionTable := #[], attributes := #[] }
def k7m3 : Method := { name := "isEmpty", desc := "()Z", sig := { parameters := [], returnType := some .boolean }, accessFlags := 1, code := some k7c3 }
def k7c4 : Code := { maxStack := 4, maxLocals := 1, code := jdk_42_method_139_code, exceptionTable := #[], attributes := #[] }
def k7m4 : Method := { name := "valueOf", desc := "(C)Ljava/lang/String;", sig := { parameters := [.char], returnType := some (.object "java/lang/String") }, accessFlags := 9, code := some k7c4 }
def k7c5 : Code := { maxStack := 4, maxLocals := 6, code := jdk_42_method_149_code, exceptionTable := #[], attributes := #[] }
def k7m5 : Method := { name := "<init>", desc := "([CIILjava/lang/Void;)V", sig := { parameters := [(.array .char), .int, .int, (.object "java/lang/Void")], returnType := none }, accessFlags := 2, code := some k7c5 }
def k7c6 : Code := { maxStack := 2, maxLocals := 3, code := jdk_42_method_151_code, exceptionTable := #[], attributes := #[] }
def k7m6 : Method := { name := "<init>", desc := "([BB)V", sig := { parameters := [(.array .byte), .byte], returnType := none }, accessFlags := 0, code := some k7c6 }
def k7c7 : Code := { maxStack := 1, maxLocals := 1, code := jdk_42_method_152_code, exceptionTable := #[], attributes := #[] }
def k7m7 : Method := { name := "coder", desc := "()B", sig := { parameters := [], returnType := some .byte }, accessFlags := 0, code := some k7c7 }
/-- java/lang/String -/
def k7 : Class := { plain "java/lang/String" (some 0) with
  accessFlags := 49
  interfaces := #[2, 3, 4, 5, 6]
  cf := some (fileOf pool7 10 #[.nestMembers #[1103]] #[{ accessFlags := 1, nameIndex := 5, descriptorIndex := 6, attributes := #[] }, { accessFlags := 1, nameIndex := 5, descriptorIndex := 1010, attributes := #[] }, { accessFlags := 1, nameIndex := 507, descriptorIndex := 334, attributes := #[] }, { accessFlags := 1, nameIndex := 692, descriptorIndex := 142, attributes := #[] }, { accessFlags := 9, nameIndex := 782, descriptorIndex := 783, attributes := #[] }, { accessFlags := 2, nameIndex := 5, descriptorIndex := 29, attributes := #[] }, { accessFlags := 0, nameIndex := 5, descriptorIndex := 211, attributes := #[] }, { accessFlags := 0, nameIndex := 17, descriptorIndex := 337, attributes := #[] }] 49 2 #[1106, 1108, 575, 1110, 1112] #[{ accessFlags := 18, nameIndex := 13, descriptorIndex := 14, attributes := #[] }, { accessFlags := 18, nameIndex := 17, descriptorIndex := 18, attributes := #[] }, { accessFlags := 2, nameIndex := 21, descriptorIndex := 22, attributes := #[] }, { accessFlags := 2, nameIndex := 25, descriptorIndex := 26, attributes := #[] }, { accessFlags := 26, nameIndex := 1116, descriptorIndex := 1117, attributes := #[] }, { accessFlags := 24, nameIndex := 40, descriptorIndex := 26, attributes := #[] }, { accessFlags := 26, nameIndex := 1101, descriptorIndex := 1102, attributes := #[] }, { accessFlags := 26, nameIndex := 1121, descriptorIndex := 1122, attributes := #[] }, { accessFlags := 25, nameIndex := 599, descriptorIndex := 600, attributes := #[] }, { accessFlags := 24, nameIndex := 1125, descriptorIndex := 18, attributes := #[] }, { accessFlags := 24, nameIndex := 1127, descriptorIndex := 18, attributes := #[] }])
  fields := #[{ name := "value", type := (.array .byte), accessFlags := 18, slot := 0, constantValue := 0 }, { name := "coder", type := .byte, accessFlags := 18, slot := 1, constantValue := 0 }, { name := "hash", type := .int, accessFlags := 2, slot := 2, constantValue := 0 }, { name := "hashIsZero", type := .boolean, accessFlags := 2, slot := 3, constantValue := 0 }, { name := "serialVersionUID", type := .long, accessFlags := 26, slot := 0, constantValue := 0 }, { name := "COMPACT_STRINGS", type := .boolean, accessFlags := 24, slot := 1, constantValue := 0 }, { name := "serialPersistentFields", type := (.array (.object "java/io/ObjectStreamField")), accessFlags := 26, slot := 2, constantValue := 0 }, { name := "REPL", type := .char, accessFlags := 26, slot := 3, constantValue := 0 }, { name := "CASE_INSENSITIVE_ORDER", type := (.object "java/util/Comparator"), accessFlags := 25, slot := 4, constantValue := 0 }, { name := "LATIN1", type := .byte, accessFlags := 24, slot := 5, constantValue := 0 }, { name := "UTF16", type := .byte, accessFlags := 24, slot := 6, constantValue := 0 }]
  methods := #[k7m0, k7m1, k7m2, k7m3, k7m4, k7m5, k7m6, k7m7]
  instanceTypes := #[(.array .byte), .byte, .int, .boolean]
  staticTypes := #[.long, .boolean, (.array (.object "java/io/ObjectStreamField")), .char, (.object "java/util/Comparator"), .byte, .byte]
  resolved := Array.replicate 1451 none
  statics := some 0 }

def pool8 : Array CpInfo := pool [(6, .class_ 8), (1, u "java/lang/Object"), (0, u "<init>"), (0, u "()V"), (0, .methodref 12 13), (0, .class_ 14), (0, .nameAndType 15 16), (0, u "java/lang/StringUTF16"), (0, u "newBytesLength"), (0, u "(I)I"), (3, .integer 1073741823), (23, .fieldref 12 45), (0, .nameAndType 46 47), (0, u "$assertionsDisabled"), (0, u "Z"), (11, .fieldref 12 60), (0, .nameAndType 61 62), (0, u "HI_BYTE_SHIFT"), (0, u "I"), (0, .fieldref 12 64), (0, .nameAndType 65 62), (0, u "LO_BYTE_SHIFT"), (5, .methodref 12 72), (0, .nameAndType 73 74), (0, u "getChar"), (0, u "([BI)C"), (32, .methodref 12 108), (0, .nameAndType 109 110), (0, u "newBytesFor"), (0, u "(I)[B"), (0, .methodref 12 112), (0, .nameAndType 113 114), (0, u "putChar"), (0, u "([BII)V"), (0, .methodref 12 116), (0, .nameAndType 117 118), (0, u "compress"), (0, u "([CI[BII)I"), (0, .methodref 12 120), (0, .nameAndType 121 122), (0, u "toBytes"), (0, u "([CII)[B"), (138, u "coderFromArrayLen"), (0, u "([BI)B"), (106, .class_ 371), (1, u "java/lang/StringUTF16$LinesSpliterator"), (58, u "MAX_LENGTH"), (196, .class_ 628), (0, u "java/lang/StringUTF16$CodePointsSpliterator"), (0, .class_ 630), (0, u "java/lang/StringUTF16$CharsSpliterator")] 4

def k8m0 : Method := { name := "<init>", desc := "()V", sig := { parameters := [], returnType := none }, accessFlags := 0, code := none }
def k8c1 : Code := { maxStack := 1, maxLocals := 1, code := jdk_52_method_2_code, exceptionTable := #[], attributes := #[] }
def k8m1 : Method := { name := "newBytesFor", desc := "(I)[B", sig := { parameters := [.int], returnType := some (.array .byte) }, accessFlags := 9, code := some k8c1 }
def k8c2 : Code := { maxStack := 4, maxLocals := 1, code := jdk_52_method_3_code, exceptionTable := #[], attributes := #[] }
def k8m2 : Method := { name := "newBytesLength", desc := "(I)I", sig := { parameters := [.int], returnType := some .int }, accessFlags := 9, code := some k8c2 }
def k8c3 : Code := { maxStack := 4, maxLocals := 3, code := jdk_52_method_4_code, exceptionTable := #[], attributes := #[] }
def k8m3 : Method := { name := "putChar", desc := "([BII)V", sig := { parameters := [(.array .byte), .int, .int], returnType := none }, accessFlags := 8, code := some k8c3 }
def k8c4 : Code := { maxStack := 3, maxLocals := 2, code := jdk_52_method_5_code, exceptionTable := #[], attributes := #[] }
def k8m4 : Method := { name := "getChar", desc := "([BI)C", sig := { parameters := [(.array .byte), .int], returnType := some .char }, accessFlags := 8, code := some k8c4 }
def k8c5 : Code := { maxStack := 4, maxLocals := 5, code := jdk_52_method_14_code, exceptionTable := #[], attributes := #[] }
def k8m5 : Method := { name := "toBytes", desc := "([CII)[B", sig := { parameters := [(.array .char), .int, .int], returnType := some (.array .byte) }, accessFlags := 9, code := some k8c5 }
def k8c6 : Code := { maxStack := 2, maxLocals := 2, code := jdk_52_method_15_code, exceptionTable := #[], attributes := #[] }
def k8m6 : Method := { name := "coderFromArrayLen", desc := "([BI)B", sig := { parameters := [(.array .byte), .int], returnType := some .byte }, accessFlags := 8, code := some k8c6 }
def k8c7 : Code := { maxStack := 5, maxLocals := 6, code := jdk_52_method_16_code, exceptionTable := #[], attributes := #[] }
def k8m7 : Method := { name := "compress", desc := "([CII)[B", sig := { parameters := [(.array .char), .int, .int], returnType := some (.array .byte) }, accessFlags := 9, code := some k8c7 }
def k8c8 : Code := { maxStack := 3, maxLocals := 7, code := jdk_52_method_21_code, exceptionTable := #[], attributes := #[] }
def k8m8 : Method := { name := "compress", desc := "([CI[BII)I", sig := { parameters := [(.array .char), .int, (.array .byte), .int, .int], returnType := some .int }, accessFlags := 9, code := some k8c8 }
/-- java/lang/StringUTF16 -/
def k8 : Class := { plain "java/lang/StringUTF16" (some 0) with
  accessFlags := 48
  interfaces := #[]
  cf := some (fileOf pool8 12 #[.nestMembers #[627, 629, 369]] #[{ accessFlags := 0, nameIndex := 9, descriptorIndex := 10, attributes := #[] }, { accessFlags := 9, nameIndex := 109, descriptorIndex := 110, attributes := #[] }, { accessFlags := 9, nameIndex := 15, descriptorIndex := 16, attributes := #[] }, { accessFlags := 8, nameIndex := 113, descriptorIndex := 114, attributes := #[] }, { accessFlags := 8, nameIndex := 73, descriptorIndex := 74, attributes := #[] }, { accessFlags := 9, nameIndex := 121, descriptorIndex := 122, attributes := #[] }, { accessFlags := 8, nameIndex := 261, descriptorIndex := 262, attributes := #[] }, { accessFlags := 9, nameIndex := 117, descriptorIndex := 122, attributes := #[] }, { accessFlags := 9, nameIndex := 117, descriptorIndex := 118, attributes := #[] }] 48 6 #[] #[{ accessFlags := 26, nameIndex := 61, descriptorIndex := 62, attributes := #[] }, { accessFlags := 26, nameIndex := 65, descriptorIndex := 62, attributes := #[] }, { accessFlags := 24, nameIndex := 430, descriptorIndex := 62, attributes := #[] }, { accessFlags := 4120, nameIndex := 46, descriptorIndex := 47, attributes := #[] }])
  fields := #[{ name := "HI_BYTE_SHIFT", type := .int, accessFlags := 26, slot := 0, constantValue := 0 }, { name := "LO_BYTE_SHIFT", type := .int, accessFlags := 26, slot := 1, constantValue := 0 }, { name := "MAX_LENGTH", type := .int, accessFlags := 24, slot := 2, constantValue := 0 }, { name := "$assertionsDisabled", type := .boolean, accessFlags := 4120, slot := 3, constantValue := 0 }]
  methods := #[k8m0, k8m1, k8m2, k8m3, k8m4, k8m5, k8m6, k8m7, k8m8]
  instanceTypes := #[]
  staticTypes := #[.int, .int, .int, .boolean]
  resolved := Array.replicate 635 none
  statics := some 1 }

def pool9 : Array CpInfo := pool [(2, .class_ 4), (1, u "java/lang/Object"), (3, u "supi"), (5, u "(Ljava/lang/String;Ljava/lang/String;)Ljava/lang/String;"), (1, .class_ 18), (1, u "com/example/rate_to_limit/ratetolimit/balance/PolicyCounter"), (0, u "Ljava/lang/String;"), (7, u "id"), (1, u "balanceId"), (6, .class_ 37), (0, u "java/lang/String"), (3, u "type"), (4, u "Lcom/example/rate_to_limit/ratetolimit/balance/Quantity;"), (1, u "initial"), (2, u "checkedStatus"), (10, u "steps"), (0, u "Ljava/util/List;"), (3, u "()Z"), (29, .methodref 36 98), (0, .nameAndType 99 67), (0, u "isEmpty")] 53

def k9c0 : Code := { maxStack := 3, maxLocals := 2, code := prog_42_method_2_code, exceptionTable := #[], attributes := #[] }
def k9m0 : Method := { name := "checkedStatus", desc := "(Ljava/lang/String;Ljava/lang/String;)Ljava/lang/String;", sig := { parameters := [(.object "java/lang/String"), (.object "java/lang/String")], returnType := some (.object "java/lang/String") }, accessFlags := 8, code := some k9c0 }
/-- com/example/rate_to_limit/ratetolimit/balance/PolicyCounter -/
def k9 : Class := { plain "com/example/rate_to_limit/ratetolimit/balance/PolicyCounter" (some 0) with
  accessFlags := 33
  interfaces := #[]
  cf := some (fileOf pool9 16 #[] #[{ accessFlags := 8, nameIndex := 51, descriptorIndex := 14, attributes := #[] }] 33 2 #[] #[{ accessFlags := 18, nameIndex := 8, descriptorIndex := 19, attributes := #[] }, { accessFlags := 18, nameIndex := 27, descriptorIndex := 19, attributes := #[] }, { accessFlags := 18, nameIndex := 29, descriptorIndex := 19, attributes := #[] }, { accessFlags := 18, nameIndex := 41, descriptorIndex := 46, attributes := #[] }, { accessFlags := 18, nameIndex := 48, descriptorIndex := 19, attributes := #[] }, { accessFlags := 18, nameIndex := 62, descriptorIndex := 63, attributes := #[] }])
  fields := #[{ name := "supi", type := (.object "java/lang/String"), accessFlags := 18, slot := 0, constantValue := 0 }, { name := "id", type := (.object "java/lang/String"), accessFlags := 18, slot := 1, constantValue := 0 }, { name := "balanceId", type := (.object "java/lang/String"), accessFlags := 18, slot := 2, constantValue := 0 }, { name := "type", type := (.object "com/example/rate_to_limit/ratetolimit/balance/Quantity"), accessFlags := 18, slot := 3, constantValue := 0 }, { name := "initial", type := (.object "java/lang/String"), accessFlags := 18, slot := 4, constantValue := 0 }, { name := "steps", type := (.object "java/util/List"), accessFlags := 18, slot := 5, constantValue := 0 }]
  methods := #[k9m0]
  instanceTypes := #[(.object "java/lang/String"), (.object "java/lang/String"), (.object "java/lang/String"), (.object "com/example/rate_to_limit/ratetolimit/balance/Quantity"), (.object "java/lang/String"), (.object "java/util/List")]
  staticTypes := #[]
  resolved := Array.replicate 153 none
  statics := none }

def pool10 : Array CpInfo := pool [(4, .class_ 6), (1, u "java/lang/Object"), (0, u "<init>"), (0, u "()V"), (5, .class_ 16), (1, u "java/lang/StringLatin1"), (73, u "canEncode"), (14, u "(C)Z"), (15, u "$assertionsDisabled"), (0, u "Z"), (98, .class_ 223), (1, u "java/lang/StringLatin1$LinesSpliterator"), (156, u "toBytes"), (1, u "(C)[B"), (7, .class_ 391), (0, u "java/lang/StringLatin1$CharsSpliterator")] 3

def k10m0 : Method := { name := "<init>", desc := "()V", sig := { parameters := [], returnType := none }, accessFlags := 0, code := none }
def k10c1 : Code := { maxStack := 2, maxLocals := 1, code := jdk_43_method_3_code, exceptionTable := #[], attributes := #[] }
def k10m1 : Method := { name := "canEncode", desc := "(C)Z", sig := { parameters := [.char], returnType := some .boolean }, accessFlags := 9, code := some k10c1 }
def k10c2 : Code := { maxStack := 4, maxLocals := 1, code := jdk_43_method_46_code, exceptionTable := #[], attributes := #[] }
def k10m2 : Method := { name := "toBytes", desc := "(C)[B", sig := { parameters := [.char], returnType := some (.array .byte) }, accessFlags := 9, code := some k10c2 }
/-- java/lang/StringLatin1 -/
def k10 : Class := { plain "java/lang/StringLatin1" (some 0) with
  accessFlags := 48
  interfaces := #[]
  cf := some (fileOf pool10 14 #[.nestMembers #[390, 221]] #[{ accessFlags := 0, nameIndex := 7, descriptorIndex := 8, attributes := #[] }, { accessFlags := 9, nameIndex := 90, descriptorIndex := 105, attributes := #[] }, { accessFlags := 9, nameIndex := 380, descriptorIndex := 382, attributes := #[] }] 48 4 #[] #[{ accessFlags := 4120, nameIndex := 121, descriptorIndex := 122, attributes := #[] }])
  fields := #[{ name := "$assertionsDisabled", type := .boolean, accessFlags := 4120, slot := 0, constantValue := 0 }]
  methods := #[k10m0, k10m1, k10m2]
  instanceTypes := #[]
  staticTypes := #[.boolean]
  resolved := Array.replicate 395 none
  statics := none }

def pool11 : Array CpInfo := pool [(2, .class_ 4), (1, u "java/lang/Object"), (0, u "<init>"), (0, u "()V"), (17, .class_ 26), (1, u "jdk/internal/util/Preconditions"), (28, .class_ 56), (0, u "jdk/internal/util/Preconditions$4"), (57, .class_ 115), (0, u "jdk/internal/util/Preconditions$1"), (7, u "SIOOBE_FORMATTER"), (0, u "Ljava/util/function/BiFunction;"), (0, .class_ 126), (0, u "jdk/internal/util/Preconditions$2"), (3, u "AIOOBE_FORMATTER"), (0, .class_ 132), (0, u "jdk/internal/util/Preconditions$3"), (3, u "IOOBE_FORMATTER")] 57

def k11m0 : Method := { name := "<init>", desc := "()V", sig := { parameters := [], returnType := none }, accessFlags := 1, code := none }
/-- jdk/internal/util/Preconditions -/
def k11 : Class := { plain "jdk/internal/util/Preconditions" (some 0) with
  accessFlags := 33
  interfaces := #[]
  cf := some (fileOf pool11 24 #[.nestMembers #[55, 131, 125, 114]] #[{ accessFlags := 1, nameIndex := 5, descriptorIndex := 6, attributes := #[] }] 33 2 #[] #[{ accessFlags := 25, nameIndex := 123, descriptorIndex := 124, attributes := #[] }, { accessFlags := 25, nameIndex := 130, descriptorIndex := 124, attributes := #[] }, { accessFlags := 25, nameIndex := 136, descriptorIndex := 124, attributes := #[] }])
  fields := #[{ name := "SIOOBE_FORMATTER", type := (.object "java/util/function/BiFunction"), accessFlags := 25, slot := 0, constantValue := 0 }, { name := "AIOOBE_FORMATTER", type := (.object "java/util/function/BiFunction"), accessFlags := 25, slot := 1, constantValue := 0 }, { name := "IOOBE_FORMATTER", type := (.object "java/util/function/BiFunction"), accessFlags := 25, slot := 2, constantValue := 0 }]
  methods := #[k11m0]
  instanceTypes := #[]
  staticTypes := #[(.object "java/util/function/BiFunction"), (.object "java/util/function/BiFunction"), (.object "java/util/function/BiFunction")]
  resolved := Array.replicate 194 none
  statics := some 2 }

def pool12 : Array CpInfo := pool [(9, u "<init>"), (6, .class_ 18), (1, u "java/lang/Object"), (0, u "()V"), (1, .class_ 23), (1, u "jdk/internal/util/ArraysSupport"), (0, u "LOG2_ARRAY_LONG_INDEX_SCALE"), (0, u "I"), (2, u "U"), (0, u "Ljdk/internal/misc/Unsafe;"), (8, u "BIG_ENDIAN"), (0, u "Z"), (8, u "LOG2_BYTE_BIT_SIZE"), (4, u "LOG2_ARRAY_INT_INDEX_SCALE"), (54, u "JLA"), (0, u "Ljdk/internal/access/JavaLangAccess;"), (11, u "LOG2_ARRAY_BOOLEAN_INDEX_SCALE"), (9, u "LOG2_ARRAY_BYTE_INDEX_SCALE"), (5, u "LOG2_ARRAY_CHAR_INDEX_SCALE"), (5, u "LOG2_ARRAY_SHORT_INDEX_SCALE"), (18, u "LOG2_ARRAY_FLOAT_INDEX_SCALE"), (24, u "LOG2_ARRAY_DOUBLE_INDEX_SCALE"), (89, u "T_BOOLEAN"), (2, u "T_CHAR"), (1, u "T_FLOAT"), (1, u "T_DOUBLE"), (1, u "T_BYTE"), (1, u "T_SHORT"), (1, u "T_INT"), (1, u "T_LONG"), (1, u "SOFT_MAX_ARRAY_LENGTH")] 83

def k12m0 : Method := { name := "<init>", desc := "()V", sig := { parameters := [], returnType := none }, accessFlags := 2, code := none }
/-- jdk/internal/util/ArraysSupport -/
def k12 : Class := { plain "jdk/internal/util/ArraysSupport" (some 0) with
  accessFlags := 33
  interfaces := #[]
  cf := some (fileOf pool12 21 #[] #[{ accessFlags := 2, nameIndex := 9, descriptorIndex := 19, attributes := #[] }] 33 16 #[] #[{ accessFlags := 24, nameIndex := 28, descriptorIndex := 29, attributes := #[] }, { accessFlags := 26, nameIndex := 38, descriptorIndex := 39, attributes := #[] }, { accessFlags := 25, nameIndex := 121, descriptorIndex := 25, attributes := #[] }, { accessFlags := 25, nameIndex := 131, descriptorIndex := 25, attributes := #[] }, { accessFlags := 25, nameIndex := 137, descriptorIndex := 25, attributes := #[] }, { accessFlags := 25, nameIndex := 143, descriptorIndex := 25, attributes := #[] }, { accessFlags := 25, nameIndex := 53, descriptorIndex := 25, attributes := #[] }, { accessFlags := 25, nameIndex := 24, descriptorIndex := 25, attributes := #[] }, { accessFlags := 25, nameIndex := 162, descriptorIndex := 25, attributes := #[] }, { accessFlags := 25, nameIndex := 187, descriptorIndex := 25, attributes := #[] }, { accessFlags := 26, nameIndex := 48, descriptorIndex := 25, attributes := #[] }, { accessFlags := 25, nameIndex := 277, descriptorIndex := 25, attributes := #[] }, { accessFlags := 25, nameIndex := 280, descriptorIndex := 25, attributes := #[] }, { accessFlags := 25, nameIndex := 282, descriptorIndex := 25, attributes := #[] }, { accessFlags := 25, nameIndex := 284, descriptorIndex := 25, attributes := #[] }, { accessFlags := 25, nameIndex := 286, descriptorIndex := 25, attributes := #[] }, { accessFlags := 25, nameIndex := 288, descriptorIndex := 25, attributes := #[] }, { accessFlags := 25, nameIndex := 290, descriptorIndex := 25, attributes := #[] }, { accessFlags := 25, nameIndex := 292, descriptorIndex := 25, attributes := #[] }, { accessFlags := 26, nameIndex := 108, descriptorIndex := 109, attributes := #[] }, { accessFlags := 25, nameIndex := 294, descriptorIndex := 25, attributes := #[] }])
  fields := #[{ name := "U", type := (.object "jdk/internal/misc/Unsafe"), accessFlags := 24, slot := 0, constantValue := 0 }, { name := "BIG_ENDIAN", type := .boolean, accessFlags := 26, slot := 1, constantValue := 0 }, { name := "LOG2_ARRAY_BOOLEAN_INDEX_SCALE", type := .int, accessFlags := 25, slot := 2, constantValue := 0 }, { name := "LOG2_ARRAY_BYTE_INDEX_SCALE", type := .int, accessFlags := 25, slot := 3, constantValue := 0 }, { name := "LOG2_ARRAY_CHAR_INDEX_SCALE", type := .int, accessFlags := 25, slot := 4, constantValue := 0 }, { name := "LOG2_ARRAY_SHORT_INDEX_SCALE", type := .int, accessFlags := 25, slot := 5, constantValue := 0 }, { name := "LOG2_ARRAY_INT_INDEX_SCALE", type := .int, accessFlags := 25, slot := 6, constantValue := 0 }, { name := "LOG2_ARRAY_LONG_INDEX_SCALE", type := .int, accessFlags := 25, slot := 7, constantValue := 0 }, { name := "LOG2_ARRAY_FLOAT_INDEX_SCALE", type := .int, accessFlags := 25, slot := 8, constantValue := 0 }, { name := "LOG2_ARRAY_DOUBLE_INDEX_SCALE", type := .int, accessFlags := 25, slot := 9, constantValue := 0 }, { name := "LOG2_BYTE_BIT_SIZE", type := .int, accessFlags := 26, slot := 10, constantValue := 0 }, { name := "T_BOOLEAN", type := .int, accessFlags := 25, slot := 11, constantValue := 0 }, { name := "T_CHAR", type := .int, accessFlags := 25, slot := 12, constantValue := 0 }, { name := "T_FLOAT", type := .int, accessFlags := 25, slot := 13, constantValue := 0 }, { name := "T_DOUBLE", type := .int, accessFlags := 25, slot := 14, constantValue := 0 }, { name := "T_BYTE", type := .int, accessFlags := 25, slot := 15, constantValue := 0 }, { name := "T_SHORT", type := .int, accessFlags := 25, slot := 16, constantValue := 0 }, { name := "T_INT", type := .int, accessFlags := 25, slot := 17, constantValue := 0 }, { name := "T_LONG", type := .int, accessFlags := 25, slot := 18, constantValue := 0 }, { name := "JLA", type := (.object "jdk/internal/access/JavaLangAccess"), accessFlags := 26, slot := 19, constantValue := 0 }, { name := "SOFT_MAX_ARRAY_LENGTH", type := .int, accessFlags := 25, slot := 20, constantValue := 0 }]
  methods := #[k12m0]
  instanceTypes := #[]
  staticTypes := #[(.object "jdk/internal/misc/Unsafe"), .boolean, .int, .int, .int, .int, .int, .int, .int, .int, .int, .int, .int, .int, .int, .int, .int, .int, .int, (.object "jdk/internal/access/JavaLangAccess"), .int]
  resolved := Array.replicate 378 none
  statics := none }

def pool13 : Array CpInfo := pool [(1, u "java/lang/Cloneable"), (0, .class_ 1), (0, u "java/lang/Object"), (0, .class_ 3)] 3

/-- java/lang/Cloneable -/
def k13 : Class := { plain "java/lang/Cloneable" (some 0) with
  accessFlags := 1537
  interfaces := #[]
  cf := some (fileOf pool13 2 #[] #[] 1537 4 #[] #[])
  fields := #[]
  methods := #[]
  instanceTypes := #[]
  staticTypes := #[]
  resolved := Array.replicate 8 none
  statics := none }

/-- the primitive byte -/
def k14 : Class := { plain "byte" none with kind := .primitive 'B', accessFlags := 0x411 }
/-- [B -/
def k15 : Class := { plain "[B" (some 0) with kind := .array 14 .byte, interfaces := #[13, 2], accessFlags := 1041 }

/-- the primitive char -/
def k16 : Class := { plain "char" none with kind := .primitive 'C', accessFlags := 0x411 }
/-- [C -/
def k17 : Class := { plain "[C" (some 0) with kind := .array 16 .char, interfaces := #[13, 2], accessFlags := 1041 }

/-- the primitive int -/
def k18 : Class := { plain "int" none with kind := .primitive 'I', accessFlags := 0x411 }
/-- [I -/
def k19 : Class := { plain "[I" (some 0) with kind := .array 18 .int, interfaces := #[13, 2], accessFlags := 1041 }

def heap : Heap := #[{ cls := 7, slots := #[.long 0, .int 1, .null, .int 0, .null, .int 0, .int 0], vm := .statics 7 },
  { cls := 8, slots := #[.int 0, .int 8, .int 0, .int 1], vm := .statics 8 },
  { cls := 11, slots := #[.null, .null, .null], vm := .statics 11 }]
def classes : Array Class := #[k0, k1, k2, k3, k4, k5, k6, k7, k8, k9, k10, k11, k12, k13, k14, k15, k16, k17, k18, k19]
def interned : List (Array UInt16 × Addr) := []
def slotsUsed : Nat := 14
def theMethod : MethodId := ⟨1, 1⟩
def args0 : Array Value := #[.int 5, .int 5, .int 5, .int 5, .int 5]
def aboutOver (below : List Frame) : State where
  vm := { classes := classes, interned := interned.toArray }
  heap := heap
  slotsUsed := slotsUsed
  threads := #[{ frames := .invoking theMethod args0 :: below }]
def below0 : List Frame := [.native { method := ⟨0, 0⟩, args := #[] }]
def about1 : State := aboutOver below0
def p0 : Program := .bare "" "" ""
def e0 : Env := launch0.env 0 0 0
theorem w_frames : about1.frames = Frame.invoking theMethod args0 :: below0 := rfl
set_option maxRecDepth 65536 in
theorem w_args : argsFit about1.vm theMethod args0 = true := by decide +kernel
set_option maxRecDepth 65536 in
theorem w_heap : heapFits about1 = true := by decide +kernel
set_option maxRecDepth 65536 in
theorem w_runnable : about1.curStatus? = some .runnable := by decide +kernel
set_option maxRecDepth 65536 in
theorem w_alone : about1.alone = true := by decide +kernel
set_option maxRecDepth 65536 in
theorem w_named : about1.methodNamed? x = some theMethod := by decide +kernel
set_option maxRecDepth 65536 in
theorem w_hears : about1.hears theMethod below0 = true := by decide +kernel
set_option maxRecDepth 65536 in
theorem w_ripe : about1.ripe theMethod args0 below0 = true := by decide +kernel
theorem w_running : about1.status = .running := rfl
set_option maxRecDepth 65536 in
theorem w_room : about1.hasRoom e0.platform room_1 = true :=
  launch0.hasRoom_least _ room_1 (by decide +kernel) (by decide +kernel) (by decide +kernel) (by decide +kernel) (by decide +kernel) (by decide +kernel)
theorem allAtoms_all (ts : List Jvm.Cond) (a : Array Jvm.Value) (st : Jvm.State) : (allAtoms ts).before a st = ts.all (fun c => c.before a st) := by
  induction ts with
  | nil => rfl
  | cons c t ih =>
    show (Jvm.Cond.and c (allAtoms t)).before a st = _
    rw [Jvm.Cond.before_and, ih, List.all_cons]
def words1 : List Jvm.Cond := Jvm.Cond.code x code maxLocals ret :: tables_1
/-- a 'code' word, met by the world's own term for the bytes: nothing is compared byte by byte -/
theorem code_word {y : MethodName} {bytes : ByteArray} {mx : Nat} {rt : Option FieldType} {a : Array Value} {s : State} {m : MethodId} {meth : Method} {c : Code} (h1 : s.methodNamed? y = some m) (h2 : s.vm.method? m = some meth) (h3 : meth.code = some c) (h4 : c.code = bytes)
    (h5 : (c.maxLocals == mx && c.exceptionTable.isEmpty && decide (c.maxStack ≤ mostOperands) && decide (meth.sig.returnType = rt) && !meth.locks && decide (parseMethodDescriptor y.desc = some meth.sig)) = true) : (Jvm.Cond.code y bytes mx rt).before a s = true := by
  simp only [Bool.and_eq_true, beq_iff_eq, Bool.not_eq_true', decide_eq_true_eq] at h5
  obtain ⟨⟨⟨⟨⟨g1, g2⟩, g3⟩, g4⟩, g5⟩, g6⟩ := h5
  simp [Cond.before, Cond.holds, Cond.value, h1, h2, h3, h4, g1, g2, g3, g4, g5, g6]
def isCode : Jvm.Cond → Bool
  | .code _ _ _ _ => true
  | _ => false
theorem all_split {L : List Jvm.Cond} {P : Jvm.Cond → Bool} (h1 : L.all (fun c => isCode c || P c) = true) (h2 : ∀ c ∈ L.filter isCode, P c = true) : L.all P = true := by
  refine List.all_eq_true.mpr fun c hc => ?_
  have h := List.all_eq_true.mp h1 c hc
  rcases Bool.eq_false_or_eq_true (isCode c) with hi | hi
  · exact h2 c (List.mem_filter.mpr ⟨hc, hi⟩)
  · simpa [hi] using h
set_option maxRecDepth 65536 in
theorem w_c0 : (Jvm.Cond.code x code maxLocals ret).before args0 about1 = true := code_word (m := ⟨1, 1⟩) (meth := k1m1) (c := k1c1) (by decide +kernel) rfl rfl rfl (by decide +kernel)
set_option maxRecDepth 65536 in
theorem w_c1 : (Jvm.Cond.code ({ cls := "java/lang/String", name := "<init>", desc := "([C)V" } : Jvm.MethodName) jdk_42_method_3_code (2 : Nat) (Option.none : Option Jvm.ClassFile.FieldType)).before args0 about1 = true := code_word (m := ⟨7, 1⟩) (meth := k7m1) (c := k7c1) (by decide +kernel) rfl rfl rfl (by decide +kernel)
set_option maxRecDepth 65536 in
theorem w_c2 : (Jvm.Cond.code ({ cls := "java/lang/String", name := "<init>", desc := "([CIILjava/lang/Void;)V" } : Jvm.MethodName) jdk_42_method_149_code (6 : Nat) (Option.none : Option Jvm.ClassFile.FieldType)).before args0 about1 = true := code_word (m := ⟨7, 5⟩) (meth := k7m5) (c := k7c5) (by decide +kernel) rfl rfl rfl (by decide +kernel)
set_option maxRecDepth 65536 in
theorem w_c3 : (Jvm.Cond.code ({ cls := "java/lang/Object", name := "<init>", desc := "()V" } : Jvm.MethodName) object_method_1_code (1 : Nat) (Option.none : Option Jvm.ClassFile.FieldType)).before args0 about1 = true := code_word (m := ⟨0, 0⟩) (meth := k0m0) (c := k0c0) (by decide +kernel) rfl rfl rfl (by decide +kernel)
set_option maxRecDepth 65536 in
theorem w_c4 : (Jvm.Cond.code ({ cls := "java/lang/StringUTF16", name := "compress", desc := "([CII)[B" } : Jvm.MethodName) jdk_52_method_16_code (6 : Nat) (Option.some (Jvm.ClassFile.FieldType.array Jvm.ClassFile.FieldType.byte))).before args0 about1 = true := code_word (m := ⟨8, 7⟩) (meth := k8m7) (c := k8c7) (by decide +kernel) rfl rfl rfl (by decide +kernel)
set_option maxRecDepth 65536 in
theorem w_c5 : (Jvm.Cond.code ({ cls := "java/lang/StringUTF16", name := "compress", desc := "([CI[BII)I" } : Jvm.MethodName) jdk_52_method_21_code (7 : Nat) (Option.some Jvm.ClassFile.FieldType.int)).before args0 about1 = true := code_word (m := ⟨8, 8⟩) (meth := k8m8) (c := k8c8) (by decide +kernel) rfl rfl rfl (by decide +kernel)
set_option maxRecDepth 65536 in
theorem w_c6 : (Jvm.Cond.code ({ cls := "java/lang/StringUTF16", name := "coderFromArrayLen", desc := "([BI)B" } : Jvm.MethodName) jdk_52_method_15_code (2 : Nat) (Option.some Jvm.ClassFile.FieldType.byte)).before args0 about1 = true := code_word (m := ⟨8, 6⟩) (meth := k8m6) (c := k8c6) (by decide +kernel) rfl rfl rfl (by decide +kernel)
set_option maxRecDepth 65536 in
theorem w_c7 : (Jvm.Cond.code ({ cls := "com/example/rate_to_limit/ratetolimit/balance/PolicyCounter", name := "checkedStatus", desc := "(Ljava/lang/String;Ljava/lang/String;)Ljava/lang/String;" } : Jvm.MethodName) prog_42_method_2_code (2 : Nat) (Option.some (Jvm.ClassFile.FieldType.object "java/lang/String"))).before args0 about1 = true := code_word (m := ⟨9, 0⟩) (meth := k9m0) (c := k9c0) (by decide +kernel) rfl rfl rfl (by decide +kernel)
set_option maxRecDepth 65536 in
theorem w_c8 : (Jvm.Cond.code ({ cls := "java/lang/String", name := "isEmpty", desc := "()Z" } : Jvm.MethodName) jdk_42_method_55_code (1 : Nat) (Option.some Jvm.ClassFile.FieldType.boolean)).before args0 about1 = true := code_word (m := ⟨7, 3⟩) (meth := k7m3) (c := k7c3) (by decide +kernel) rfl rfl rfl (by decide +kernel)
set_option maxRecDepth 65536 in
theorem w_c9 : (Jvm.Cond.code ({ cls := "java/lang/String", name := "length", desc := "()I" } : Jvm.MethodName) jdk_42_method_54_code (1 : Nat) (Option.some Jvm.ClassFile.FieldType.int)).before args0 about1 = true := code_word (m := ⟨7, 2⟩) (meth := k7m2) (c := k7c2) (by decide +kernel) rfl rfl rfl (by decide +kernel)
set_option maxRecDepth 65536 in
theorem w_c10 : (Jvm.Cond.code ({ cls := "java/lang/String", name := "coder", desc := "()B" } : Jvm.MethodName) jdk_42_method_152_code (1 : Nat) (Option.some Jvm.ClassFile.FieldType.byte)).before args0 about1 = true := code_word (m := ⟨7, 7⟩) (meth := k7m7) (c := k7c7) (by decide +kernel) rfl rfl rfl (by decide +kernel)
set_option maxRecDepth 65536 in
theorem w_c11 : (Jvm.Cond.code ({ cls := "java/lang/String", name := "valueOf", desc := "(C)Ljava/lang/String;" } : Jvm.MethodName) jdk_42_method_139_code (1 : Nat) (Option.some (Jvm.ClassFile.FieldType.object "java/lang/String"))).before args0 about1 = true := code_word (m := ⟨7, 4⟩) (meth := k7m4) (c := k7c4) (by decide +kernel) rfl rfl rfl (by decide +kernel)
set_option maxRecDepth 65536 in
theorem w_c12 : (Jvm.Cond.code ({ cls := "java/lang/StringLatin1", name := "canEncode", desc := "(C)Z" } : Jvm.MethodName) jdk_43_method_3_code (1 : Nat) (Option.some Jvm.ClassFile.FieldType.boolean)).before args0 about1 = true := code_word (m := ⟨10, 1⟩) (meth := k10m1) (c := k10c1) (by decide +kernel) rfl rfl rfl (by decide +kernel)
set_option maxRecDepth 65536 in
theorem w_c13 : (Jvm.Cond.code ({ cls := "java/lang/StringLatin1", name := "toBytes", desc := "(C)[B" } : Jvm.MethodName) jdk_43_method_46_code (1 : Nat) (Option.some (Jvm.ClassFile.FieldType.array Jvm.ClassFile.FieldType.byte))).before args0 about1 = true := code_word (m := ⟨10, 2⟩) (meth := k10m2) (c := k10c2) (by decide +kernel) rfl rfl rfl (by decide +kernel)
set_option maxRecDepth 65536 in
theorem w_c14 : (Jvm.Cond.code ({ cls := "java/lang/String", name := "<init>", desc := "([BB)V" } : Jvm.MethodName) jdk_42_method_151_code (3 : Nat) (Option.none : Option Jvm.ClassFile.FieldType)).before args0 about1 = true := code_word (m := ⟨7, 6⟩) (meth := k7m6) (c := k7c6) (by decide +kernel) rfl rfl rfl (by decide +kernel)
set_option maxRecDepth 65536 in
theorem w_c15 : (Jvm.Cond.code ({ cls := "java/lang/StringUTF16", name := "toBytes", desc := "([CII)[B" } : Jvm.MethodName) jdk_52_method_14_code (5 : Nat) (Option.some (Jvm.ClassFile.FieldType.array Jvm.ClassFile.FieldType.byte))).before args0 about1 = true := code_word (m := ⟨8, 5⟩) (meth := k8m5) (c := k8c5) (by decide +kernel) rfl rfl rfl (by decide +kernel)
set_option maxRecDepth 65536 in
theorem w_c16 : (Jvm.Cond.code ({ cls := "java/lang/StringUTF16", name := "newBytesFor", desc := "(I)[B" } : Jvm.MethodName) jdk_52_method_2_code (1 : Nat) (Option.some (Jvm.ClassFile.FieldType.array Jvm.ClassFile.FieldType.byte))).before args0 about1 = true := code_word (m := ⟨8, 1⟩) (meth := k8m1) (c := k8c1) (by decide +kernel) rfl rfl rfl (by decide +kernel)
set_option maxRecDepth 65536 in
theorem w_c17 : (Jvm.Cond.code ({ cls := "java/lang/StringUTF16", name := "newBytesLength", desc := "(I)I" } : Jvm.MethodName) jdk_52_method_3_code (1 : Nat) (Option.some Jvm.ClassFile.FieldType.int)).before args0 about1 = true := code_word (m := ⟨8, 2⟩) (meth := k8m2) (c := k8c2) (by decide +kernel) rfl rfl rfl (by decide +kernel)
set_option maxRecDepth 65536 in
theorem w_c18 : (Jvm.Cond.code ({ cls := "java/lang/StringUTF16", name := "putChar", desc := "([BII)V" } : Jvm.MethodName) jdk_52_method_4_code (3 : Nat) (Option.none : Option Jvm.ClassFile.FieldType)).before args0 about1 = true := code_word (m := ⟨8, 3⟩) (meth := k8m3) (c := k8c3) (by decide +kernel) rfl rfl rfl (by decide +kernel)
set_option maxRecDepth 65536 in
theorem w_c19 : (Jvm.Cond.code ({ cls := "java/lang/StringUTF16", name := "getChar", desc := "([BI)C" } : Jvm.MethodName) jdk_52_method_5_code (2 : Nat) (Option.some Jvm.ClassFile.FieldType.char)).before args0 about1 = true := code_word (m := ⟨8, 4⟩) (meth := k8m4) (c := k8c4) (by decide +kernel) rfl rfl rfl (by decide +kernel)
def codes1 : List Jvm.Cond := [Jvm.Cond.code x code maxLocals ret, Jvm.Cond.code ({ cls := "java/lang/String", name := "<init>", desc := "([C)V" } : Jvm.MethodName) jdk_42_method_3_code (2 : Nat) (Option.none : Option Jvm.ClassFile.FieldType), Jvm.Cond.code ({ cls := "java/lang/String", name := "<init>", desc := "([CIILjava/lang/Void;)V" } : Jvm.MethodName) jdk_42_method_149_code (6 : Nat) (Option.none : Option Jvm.ClassFile.FieldType), Jvm.Cond.code ({ cls := "java/lang/Object", name := "<init>", desc := "()V" } : Jvm.MethodName) object_method_1_code (1 : Nat) (Option.none : Option Jvm.ClassFile.FieldType), Jvm.Cond.code ({ cls := "java/lang/StringUTF16", name := "compress", desc := "([CII)[B" } : Jvm.MethodName) jdk_52_method_16_code (6 : Nat) (Option.some (Jvm.ClassFile.FieldType.array Jvm.ClassFile.FieldType.byte)), Jvm.Cond.code ({ cls := "java/lang/StringUTF16", name := "compress", desc := "([CI[BII)I" } : Jvm.MethodName) jdk_52_method_21_code (7 : Nat) (Option.some Jvm.ClassFile.FieldType.int), Jvm.Cond.code ({ cls := "java/lang/StringUTF16", name := "coderFromArrayLen", desc := "([BI)B" } : Jvm.MethodName) jdk_52_method_15_code (2 : Nat) (Option.some Jvm.ClassFile.FieldType.byte), Jvm.Cond.code ({ cls := "com/example/rate_to_limit/ratetolimit/balance/PolicyCounter", name := "checkedStatus", desc := "(Ljava/lang/String;Ljava/lang/String;)Ljava/lang/String;" } : Jvm.MethodName) prog_42_method_2_code (2 : Nat) (Option.some (Jvm.ClassFile.FieldType.object "java/lang/String")), Jvm.Cond.code ({ cls := "java/lang/String", name := "isEmpty", desc := "()Z" } : Jvm.MethodName) jdk_42_method_55_code (1 : Nat) (Option.some Jvm.ClassFile.FieldType.boolean), Jvm.Cond.code ({ cls := "java/lang/String", name := "length", desc := "()I" } : Jvm.MethodName) jdk_42_method_54_code (1 : Nat) (Option.some Jvm.ClassFile.FieldType.int), Jvm.Cond.code ({ cls := "java/lang/String", name := "coder", desc := "()B" } : Jvm.MethodName) jdk_42_method_152_code (1 : Nat) (Option.some Jvm.ClassFile.FieldType.byte), Jvm.Cond.code ({ cls := "java/lang/String", name := "valueOf", desc := "(C)Ljava/lang/String;" } : Jvm.MethodName) jdk_42_method_139_code (1 : Nat) (Option.some (Jvm.ClassFile.FieldType.object "java/lang/String")), Jvm.Cond.code ({ cls := "java/lang/StringLatin1", name := "canEncode", desc := "(C)Z" } : Jvm.MethodName) jdk_43_method_3_code (1 : Nat) (Option.some Jvm.ClassFile.FieldType.boolean), Jvm.Cond.code ({ cls := "java/lang/StringLatin1", name := "toBytes", desc := "(C)[B" } : Jvm.MethodName) jdk_43_method_46_code (1 : Nat) (Option.some (Jvm.ClassFile.FieldType.array Jvm.ClassFile.FieldType.byte)), Jvm.Cond.code ({ cls := "java/lang/String", name := "<init>", desc := "([BB)V" } : Jvm.MethodName) jdk_42_method_151_code (3 : Nat) (Option.none : Option Jvm.ClassFile.FieldType), Jvm.Cond.code ({ cls := "java/lang/StringUTF16", name := "toBytes", desc := "([CII)[B" } : Jvm.MethodName) jdk_52_method_14_code (5 : Nat) (Option.some (Jvm.ClassFile.FieldType.array Jvm.ClassFile.FieldType.byte)), Jvm.Cond.code ({ cls := "java/lang/StringUTF16", name := "newBytesFor", desc := "(I)[B" } : Jvm.MethodName) jdk_52_method_2_code (1 : Nat) (Option.some (Jvm.ClassFile.FieldType.array Jvm.ClassFile.FieldType.byte)), Jvm.Cond.code ({ cls := "java/lang/StringUTF16", name := "newBytesLength", desc := "(I)I" } : Jvm.MethodName) jdk_52_method_3_code (1 : Nat) (Option.some Jvm.ClassFile.FieldType.int), Jvm.Cond.code ({ cls := "java/lang/StringUTF16", name := "putChar", desc := "([BII)V" } : Jvm.MethodName) jdk_52_method_4_code (3 : Nat) (Option.none : Option Jvm.ClassFile.FieldType), Jvm.Cond.code ({ cls := "java/lang/StringUTF16", name := "getChar", desc := "([BI)C" } : Jvm.MethodName) jdk_52_method_5_code (2 : Nat) (Option.some Jvm.ClassFile.FieldType.char)]
set_option maxRecDepth 65536 in
theorem codes_eq : words1.filter isCode = codes1 := rfl
theorem w_codes : ∀ c ∈ words1.filter isCode, c.before args0 about1 = true := by
  rw [codes_eq]
  intro c hc
  simp only [codes1, List.mem_cons, List.not_mem_nil, or_false] at hc
  rcases hc with rfl | rfl | rfl | rfl | rfl | rfl | rfl | rfl | rfl | rfl | rfl | rfl | rfl | rfl | rfl | rfl | rfl | rfl | rfl | rfl
  · exact w_c0
  · exact w_c1
  · exact w_c2
  · exact w_c3
  · exact w_c4
  · exact w_c5
  · exact w_c6
  · exact w_c7
  · exact w_c8
  · exact w_c9
  · exact w_c10
  · exact w_c11
  · exact w_c12
  · exact w_c13
  · exact w_c14
  · exact w_c15
  · exact w_c16
  · exact w_c17
  · exact w_c18
  · exact w_c19
set_option maxRecDepth 65536 in
theorem w_t1 : (words1.take 24).all (fun c => isCode c || c.before args0 about1) = true := by decide +kernel
set_option maxRecDepth 65536 in
theorem w_t2 : ((words1.drop 24).take 24).all (fun c => isCode c || c.before args0 about1) = true := by decide +kernel
set_option maxRecDepth 65536 in
theorem w_t3 : (((words1.drop 24).drop 24).take 24).all (fun c => isCode c || c.before args0 about1) = true := by decide +kernel
set_option maxRecDepth 65536 in
theorem w_t4 : (((words1.drop 24).drop 24).drop 24).all (fun c => isCode c || c.before args0 about1) = true := by decide +kernel
theorem w_tables : (allAtoms (Jvm.Cond.code x code maxLocals ret :: tables_1)).before args0 about1 = true := by
  rw [allAtoms_all]
  show words1.all (fun c => c.before args0 about1) = true
  refine all_split ?_ w_codes
  rw [← List.take_append_drop 24 words1, List.all_append, w_t1, ← List.take_append_drop 24 (words1.drop 24), List.all_append, w_t2, ← List.take_append_drop 24 ((words1.drop 24).drop 24), List.all_append, w_t3, w_t4]
  rfl
set_option maxRecDepth 65536 in
theorem w_rest : rest_1_c.before args0 about1 = true := by decide +kernel
set_option maxRecDepth 65536 in
theorem w_case : (Jvm.Cond.and given_1 narrow_1).before args0 about1 = true := by decide +kernel
theorem w_applies : (headSpec (Jvm.Cond.code x code maxLocals ret :: tables_1) room_1).applies x e0.platform about1 = true :=
  (Spec.applies_iff w_frames).mpr ⟨w_running, w_runnable, w_alone, w_named, w_hears, w_ripe, w_room, w_tables⟩
theorem atStart : AtStart classFile x code maxLocals ret World_1 tables_1 room_1 Calls_1 rest_1 Pre_1 launch0 p0 e0 about1 theMethod args0 below0 :=
  ⟨lists_1, trivial, launch0.admits_env _ _ _, launch0.least_env, fairChoices_fair.cas, fairChoices_fair.clock, w_frames, w_args, w_heap, w_applies, trivial, w_rest, w_case⟩
end start1
theorem witness_1 : WitnessClaimed_1 := ⟨start1.p0, start1.e0, start1.about1, start1.theMethod, start1.args0, start1.below0, start1.atStart⟩
end Jvm.Pilot.@@N@@
