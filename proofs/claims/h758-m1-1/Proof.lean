import JvmDerived
import JvmDerived.Pilot.@@N@@Statement
import JvmDerived.Pilot.@@N@@Code
set_option linter.unusedVariables false
set_option linter.unusedSimpArgs false
@@BLOCK:NumsL.lean.txt@@
namespace Jvm.Pilot.@@N@@
open Jvm Jvm.ClassFile Sem Op Lib Jvm.Free Jvm.Stand Jvm.LawKit Jvm.RoadKit Bundle Jvm.Pilot.@@N@@.Jvm.D
section OwnKit
theorem own_w {Z : State} {a0 : Array Value} (hw : ∀ d ∈ tables_1, d.before a0 Z = true) {d : Jvm.Cond} (i : Nat) (h : tables_1[i]? = some d) : d.before a0 Z = true := hw d (List.mem_of_getElem? h)
theorem own_narb (x : Int32) : nar .byte (x.toInt8.toInt32) = x.toInt8.toInt32 := by
  show (x.toInt8.toInt32).toInt8.toInt32 = x.toInt8.toInt32
  rw [Int8.toInt8_toInt32]
theorem own_narc (x : Int32) : nar .char (x.toUInt32.toUInt16.toUInt32.toInt32) = x.toUInt32.toUInt16.toUInt32.toInt32 := by
  show (x.toUInt32.toUInt16.toUInt32.toInt32).toUInt32.toUInt16.toUInt32.toInt32 = _
  have : (x.toUInt32.toUInt16.toUInt32.toInt32).toUInt32 = x.toUInt32.toUInt16.toUInt32 := rfl
  rw [this]
  have : x.toUInt32.toUInt16.toUInt32.toUInt16 = x.toUInt32.toUInt16 := by rw [← UInt16.toNat_inj]; simp
  rw [this]
theorem own_plain {Z : State} {h : Heap} {a : Addr} {C : String} (F : Exa Z h a C) : ∃ c : Cell, h[a]? = some c ∧ c.vm.isStatics = false := by
  obtain ⟨c, _, h1, -, -, h4, -⟩ := F; exact ⟨c, h1, h4⟩
theorem own_plainV {Z : State} {h : Heap} {a : Addr} {k : ClassId} {ty : FieldType} {z : Int32} {vs : List Value} {d : Value} (F : Arv Z h a k ty z vs d) : ∃ c : Cell, h[a]? = some c ∧ c.vm.isStatics = false := by
  obtain ⟨c, A, -⟩ := F; exact ⟨c, A.1, A.plain⟩
theorem own_Sta_keep {Z : State} {h h' : Heap} {C n d : String} {v : Value} {ws : List Addr} (F : Sta Z h C n d v) (K : Keep h h' ws) (q : ∀ a ∈ ws, ∃ c : Cell, h[a]? = some c ∧ c.vm.isStatics = false) : Sta Z h' C n d v := by
  obtain ⟨cf, i, k, f, st, cell, h1, h2, h3, h4, h5, h6, h7⟩ := F
  have ne : st ∉ ws := fun hm => by
    obtain ⟨c, g1, g2⟩ := q st hm
    cases h5.symm.trans g1
    rw [h6] at g2; cases g2
  exact ⟨cf, i, k, f, st, cell, h1, h2, h3, h4, K.2.1 _ _ h5 ne, h6, h7⟩
theorem own_NSroot {Z : State} {a0 : Array Value} {O K : String} {j : Nat} (w : (Cond.noSuperclass O).before a0 Z = true) (wk : (Cond.instantiable K j).before a0 Z = true) (hn : O ≠ K) : NS Z O K := by
  obtain ⟨c, k, h1, h2, h3, -⟩ := Cond.noSuperclass_spec w
  obtain ⟨t, kt, g1, -⟩ := Cond.instantiable_spec wk
  refine ⟨c, t, h1, g1, fun fuel => ?_⟩
  cases fuel with
  | zero => rfl
  | succ f => simp [Vm.isSubclassAux, ids_ne h1 g1 hn, h2, h3]
theorem own_NSno {Z : State} {a0 : Array Value} {C S K : String} {j : Nat} (w : (Cond.superclass C S).before a0 Z = true) (wk : (Cond.instantiable K j).before a0 Z = true) (q : NS Z C K) (hn : C ≠ K) : ∃ c t, Z.vm.findClass C = some c ∧ Z.vm.findClass K = some t ∧ Z.vm.assignable c t = false := by
  obtain ⟨c, t, h0, g0, n3⟩ := q
  obtain ⟨_, k, _, _, h2, _, _, h5, -⟩ := Cond.superclass_spec h0 w
  obtain ⟨t', kt, g1, g2, g5, g7, -⟩ := Cond.instantiable_spec wk
  cases g0.symm.trans g1
  have g8 : kt.isInterface = false := by simpa using (Bool.or_eq_false_iff.mp g7).1
  refine ⟨c, t, h0, g0, ?_⟩
  show Z.vm.assignableAux (255 + 1) c t = false
  simp [Vm.assignableAux, ids_ne h0 g0 hn, h2, g2, h5, g5, g8, Vm.isSubclass, n3]
theorem own_hc {T : State} {h : Heap} {a : Addr} {c : Cell} (e : T.heap = h) (q : h[a]? = some c) : T.heap[a]? = some c := by subst e; exact q
def own_b (P : Prop) [Decidable P] : Int32 := if P then 1 else 0
theorem own_b1 {P : Prop} [Decidable P] (h : P) : own_b P = 1 := if_pos h
theorem own_b0 {P : Prop} [Decidable P] (h : ¬ P) : own_b P = 0 := if_neg h
variable {p : Program} {l : Launch} {e : Env} {R : Room} {s : State} {m : MethodId} {args : Array Value} {below : List Frame} {meth : Method} {c : Code} {T : State} {locs : List Loc} {cells slots : Nat}
def own_Fin (p : Program) (e : Env) (below : List Frame) (s : State) (Q : Option Value → Heap → List Loc → Prop) (k n : Nat) (A : State) : Prop := ∃ s₂ o, Steps p.tables e below A s₂ ∧ s₂.status = .running ∧ Ended s₂ below o ∧ ∃ v L, o = .returned v ∧ Q v s₂.heap L ∧ FrameEnd s o s₂ L k n
theorem own_go {Q : Option Value → Heap → List Loc → Prop} {k n : Nat} {A B : State} (h : ∀ t, Steps p.tables e below B t → Steps p.tables e below A t) (q : own_Fin p e below s Q k n B) : own_Fin p e below s Q k n A := by
  obtain ⟨s₂, o, h1, h2⟩ := q
  exact ⟨s₂, o, h _ h1, h2⟩
theorem own_retN {Q : Option Value → Heap → List Loc → Prop} {k n : Nat} (X : Stand p l e R s m args below meth c T locs cells slots) (hx : p.tables.exec = Jvm.exec) (hlk : meth.locks = false) {pc : Nat} {Ls : Array Slot} {z w : Int32} {t : FieldType} {rest : List Value} (hret : meth.sig.returnType = some t) (ht : t = .boolean ∨ t = .byte ∨ t = .char ∨ t = .short)
    (hd : decode c.code pc = .ok (.ireturn, 1)) {h : Heap} (eT : T.heap = h) (hz : nar t z = w) (hQ : Q (some (.int w)) h locs) (hk : cells ≤ k) (hn : slots ≤ n) : own_Fin p e below s Q k n (T.setTop (mkF m pc Ls (.int z :: rest))) := by
  subst hz eT
  obtain ⟨fs, hr, hrun, hended, hW, hsame⟩ := X.leave (v := some (.int (nar t z))) (fun h => by rw [hret] at h; cases h) hlk
  exact ⟨_, _, retN X hx hret ht hd hr, hrun, hended, _, _, rfl, hQ, ⟨_, rfl⟩, hW, hsame.mono hk hn⟩
theorem own_retI {Q : Option Value → Heap → List Loc → Prop} {k n : Nat} (X : Stand p l e R s m args below meth c T locs cells slots) (hx : p.tables.exec = Jvm.exec) (hlk : meth.locks = false) {pc : Nat} {Ls : Array Slot} {z : Int32} {rest : List Value} (hret : meth.sig.returnType = some .int)
    (hd : decode c.code pc = .ok (.ireturn, 1)) {h : Heap} (eT : T.heap = h) (hQ : Q (some (.int z)) h locs) (hk : cells ≤ k) (hn : slots ≤ n) : own_Fin p e below s Q k n (T.setTop (mkF m pc Ls (.int z :: rest))) := by
  subst eT
  obtain ⟨fs, hr, hrun, hended, hW, hsame⟩ := X.leave (v := some (.int z)) (fun h => by rw [hret] at h; cases h) hlk
  exact ⟨_, _, retOut X hx hret rfl (Or.inl ⟨rfl, Or.inl rfl, z, rfl⟩) hd hr, hrun, hended, _, _, rfl, hQ, ⟨_, rfl⟩, hW, hsame.mono hk hn⟩
theorem own_retJ {Q : Option Value → Heap → List Loc → Prop} {k n : Nat} (X : Stand p l e R s m args below meth c T locs cells slots) (hx : p.tables.exec = Jvm.exec) (hlk : meth.locks = false) {pc : Nat} {Ls : Array Slot} {z : Int64} {rest : List Value} (hret : meth.sig.returnType = some .long)
    (hd : decode c.code pc = .ok (.lreturn, 1)) {h : Heap} (eT : T.heap = h) (hQ : Q (some (.long z)) h locs) (hk : cells ≤ k) (hn : slots ≤ n) : own_Fin p e below s Q k n (T.setTop (mkF m pc Ls (.long z :: rest))) := by
  subst eT
  obtain ⟨fs, hr, hrun, hended, hW, hsame⟩ := X.leave (v := some (.long z)) (fun h => by rw [hret] at h; cases h) hlk
  exact ⟨_, _, retOut X hx hret rfl (Or.inr (Or.inl ⟨rfl, rfl, z, rfl⟩)) hd hr, hrun, hended, _, _, rfl, hQ, ⟨_, rfl⟩, hW, hsame.mono hk hn⟩
theorem own_retD {Q : Option Value → Heap → List Loc → Prop} {k n : Nat} (X : Stand p l e R s m args below meth c T locs cells slots) (hx : p.tables.exec = Jvm.exec) (hlk : meth.locks = false) {pc : Nat} {Ls : Array Slot} {z : UInt64} {rest : List Value} (hret : meth.sig.returnType = some .double)
    (hd : decode c.code pc = .ok (.dreturn, 1)) {h : Heap} (eT : T.heap = h) (hQ : Q (some (.double z)) h locs) (hk : cells ≤ k) (hn : slots ≤ n) : own_Fin p e below s Q k n (T.setTop (mkF m pc Ls (.double z :: rest))) := by
  subst eT
  obtain ⟨fs, hr, hrun, hended, hW, hsame⟩ := X.leave (v := some (.double z)) (fun h => by rw [hret] at h; cases h) hlk
  exact ⟨_, _, retOut X hx hret rfl (Or.inr (Or.inr (Or.inl ⟨rfl, rfl, z, rfl⟩))) hd hr, hrun, hended, _, _, rfl, hQ, ⟨_, rfl⟩, hW, hsame.mono hk hn⟩
theorem own_retA {Q : Option Value → Heap → List Loc → Prop} {k n : Nat} (X : Stand p l e R s m args below meth c T locs cells slots) (hx : p.tables.exec = Jvm.exec) (hlk : meth.locks = false) {pc : Nat} {Ls : Array Slot} {w : Value} {t : FieldType} {rest : List Value} (hret : meth.sig.returnType = some t) (ht : t.isReference = true) (hw : w.isRef = true)
    (hd : decode c.code pc = .ok (.areturn, 1)) {h : Heap} (eT : T.heap = h) (hQ : Q (some w) h locs) (hk : cells ≤ k) (hn : slots ≤ n) : own_Fin p e below s Q k n (T.setTop (mkF m pc Ls (w :: rest))) := by
  subst eT
  obtain ⟨fs, hr, hrun, hended, hW, hsame⟩ := X.leave (v := some w) (fun h => by rw [hret] at h; cases h) hlk
  have hnw : narrow t w = w := by
    rcases ref_cases hw with rfl | ⟨z, rfl⟩ <;> cases t <;> first | rfl | (cases ht; done)
  exact ⟨_, _, retOut X hx hret hnw (Or.inr (Or.inr (Or.inr (Or.inr ⟨rfl, ht, hw⟩)))) hd hr, hrun, hended, _, _, rfl, hQ, ⟨_, rfl⟩, hW, hsame.mono hk hn⟩
theorem own_retV {Q : Option Value → Heap → List Loc → Prop} {k n : Nat} (X : Stand p l e R s m args below meth c T locs cells slots) (hx : p.tables.exec = Jvm.exec) (hlk : meth.locks = false) {pc : Nat} {Ls : Array Slot} (hret : meth.sig.returnType = none)
    (hd : decode c.code pc = .ok (.return_, 1)) {h : Heap} (eT : T.heap = h) (hQ : Q none h locs) (hk : cells ≤ k) (hn : slots ≤ n) : own_Fin p e below s Q k n (T.setTop (mkF m pc Ls [])) := by
  subst eT
  obtain ⟨fs, hr, hrun, hended, hW, hsame⟩ := X.leave (v := none) (fun _ => rfl) hlk
  exact ⟨_, _, X.returnOut hx hret hd hr, hrun, hended, _, _, rfl, hQ, ⟨_, rfl⟩, hW, hsame.mono hk hn⟩
def own_FinW (p : Program) (e : Env) (below : List Frame) (s : State) (Q : Option Value → Heap → List Loc → Prop) (k n : Nat) (A : State) : Prop := ∃ s₂ o, Steps p.tables e below A s₂ ∧ s₂.status = .running ∧ Ended s₂ below o ∧ ∃ v L, o = .returned v ∧ Q v s₂.heap L ∧ ReturnedEndW s o s₂ L k n
theorem own_goW {Q : Option Value → Heap → List Loc → Prop} {k n : Nat} {A B : State} (h : ∀ t, Steps p.tables e below B t → Steps p.tables e below A t) (q : own_FinW p e below s Q k n B) : own_FinW p e below s Q k n A := by
  obtain ⟨s₂, o, h1, h2⟩ := q
  exact ⟨s₂, o, h _ h1, h2⟩
theorem own_endW {t : State} {o : Outcome} {L : List Loc} {k n k' n' : Nat} (h : ReturnedEndW s o t L k n) (hk : k ≤ k') (hn : n ≤ n') : ReturnedEndW s o t L k' n' := ⟨h.1, h.2.1, h.2.2.1, h.2.2.2.mono hk hn⟩
theorem own_retNW {vm0 : Vm} {k0 : Nat} {Q : Option Value → Heap → List Loc → Prop} {k n : Nat} (X : Stand p l e R (s.setVm vm0) m args below meth c T locs cells slots) (hx : p.tables.exec = Jvm.exec) (hS : s.Since vm0 k0) (hlk : meth.locks = false) {pc : Nat} {Ls : Array Slot} {z w : Int32} {t : FieldType} {rest : List Value} (hret : meth.sig.returnType = some t) (ht : t = .boolean ∨ t = .byte ∨ t = .char ∨ t = .short)
    (hd : decode c.code pc = .ok (.ireturn, 1)) {h : Heap} (eT : T.heap = h) (hb : k0 ≤ h.size) (hz : nar t z = w) (hQ : Q (some (.int w)) h locs) (hk : cells ≤ k) (hn : slots ≤ n) : own_FinW p e below s Q k n (T.setTop (mkF m pc Ls (.int z :: rest))) := by
  subst hz eT
  obtain ⟨fs, hr, hrun, hended, hE⟩ := X.leaveW hS hb (v := some (.int (nar t z))) (fun h => by rw [hret] at h; cases h) hlk
  exact ⟨_, _, retN X hx hret ht hd hr, hrun, hended, _, _, rfl, hQ, own_endW hE hk hn⟩
theorem own_retOW {vm0 : Vm} {k0 : Nat} {Q : Option Value → Heap → List Loc → Prop} {k n : Nat} (X : Stand p l e R (s.setVm vm0) m args below meth c T locs cells slots) (hx : p.tables.exec = Jvm.exec) (hS : s.Since vm0 k0) (hlk : meth.locks = false) {pc : Nat} {Ls : Array Slot} {w : Value} {t : FieldType} {i : Instr} {rest : List Value} (hret : meth.sig.returnType = some t) (hnw : narrow t w = w)
    (hi : (i = .ireturn ∧ (t = .int ∨ t = .boolean ∨ t = .byte ∨ t = .char ∨ t = .short) ∧ ∃ z, w = .int z) ∨ (i = .lreturn ∧ t = .long ∧ ∃ z, w = .long z) ∨ (i = .dreturn ∧ t = .double ∧ ∃ z, w = .double z) ∨ (i = .freturn ∧ t = .float ∧ ∃ z, w = .float z) ∨ (i = .areturn ∧ t.isReference = true ∧ w.isRef = true))
    (hd : decode c.code pc = .ok (i, 1)) {h : Heap} (eT : T.heap = h) (hb : k0 ≤ h.size) (hQ : Q (some w) h locs) (hk : cells ≤ k) (hn : slots ≤ n) : own_FinW p e below s Q k n (T.setTop (mkF m pc Ls (w :: rest))) := by
  subst eT
  obtain ⟨fs, hr, hrun, hended, hE⟩ := X.leaveW hS hb (v := some w) (fun h => by rw [hret] at h; cases h) hlk
  exact ⟨_, _, retOut X hx hret hnw hi hd hr, hrun, hended, _, _, rfl, hQ, own_endW hE hk hn⟩
theorem own_retVW {vm0 : Vm} {k0 : Nat} {Q : Option Value → Heap → List Loc → Prop} {k n : Nat} (X : Stand p l e R (s.setVm vm0) m args below meth c T locs cells slots) (hx : p.tables.exec = Jvm.exec) (hS : s.Since vm0 k0) (hlk : meth.locks = false) {pc : Nat} {Ls : Array Slot} (hret : meth.sig.returnType = none)
    (hd : decode c.code pc = .ok (.return_, 1)) {h : Heap} (eT : T.heap = h) (hb : k0 ≤ h.size) (hQ : Q none h locs) (hk : cells ≤ k) (hn : slots ≤ n) : own_FinW p e below s Q k n (T.setTop (mkF m pc Ls [])) := by
  subst eT
  obtain ⟨fs, hr, hrun, hended, hE⟩ := X.leaveW hS hb (v := none) (fun _ => rfl) hlk
  exact ⟨_, _, X.returnOut hx hret hd hr, hrun, hended, _, _, rfl, hQ, own_endW hE hk hn⟩
end OwnKit
theorem own_strs : ∀ d ∈ Bundle.stringAtoms, d ∈ tables_1 := by
  intro d hd
  simp only [Bundle.stringAtoms, List.mem_cons, List.not_mem_nil, or_false] at hd
  rcases hd with rfl | rfl | rfl | rfl | rfl | rfl | rfl
  · exact List.mem_of_getElem? (i := 2) rfl
  · exact List.mem_of_getElem? (i := 3) rfl
  · exact List.mem_of_getElem? (i := 4) rfl
  · exact List.mem_of_getElem? (i := 5) rfl
  · exact List.mem_of_getElem? (i := 6) rfl
  · exact List.mem_of_getElem? (i := 7) rfl
  · exact List.mem_of_getElem? (i := 8) rfl
section OwnNums
theorem own_iushr (x : Int32) {n : UInt32} {k : Nat} (hn : n.toNat = k) (h0 : 0 < k) (hk : k < 32) : ((x.toUInt32 >>> n).toInt32).toInt = (x.toInt % 4294967296) / 2 ^ k := by
  have e2 : ((x.toUInt32 >>> n).toInt32).toBitVec.toNat = x.toBitVec.toNat / 2 ^ k := by
    simp only [UInt32.toBitVec_toInt32, UInt32.toBitVec_shiftRight, Int32.toBitVec_toUInt32]
    simp [BitVec.toNat_ushiftRight, Nat.shiftRight_eq_div_pow, hn, Nat.mod_eq_of_lt hk]
  have hb := x.toBitVec.isLt
  have hp : 2 ^ 1 ≤ 2 ^ k := Nat.pow_le_pow_right (by decide) h0
  have hle : x.toBitVec.toNat / 2 ^ k ≤ x.toBitVec.toNat / 2 ^ 1 := Nat.div_le_div_left hp (by decide)
  have e3 : ((x.toUInt32 >>> n).toInt32).toInt = ((x.toBitVec.toNat / 2 ^ k : Nat) : Int) := by
    have : ((x.toUInt32 >>> n).toInt32).toInt = ((x.toUInt32 >>> n).toInt32).toBitVec.toInt := rfl
    rw [this, BitVec.toInt_eq_toNat_cond, e2, if_pos (by omega)]
  have e4 : x.toInt % 4294967296 = (x.toBitVec.toNat : Int) := by
    have : x.toInt = x.toBitVec.toInt := rfl
    rw [this, BitVec.toInt_eq_toNat_cond]
    split <;> omega
  rw [e3, e4, Int.natCast_ediv, Int.natCast_pow]
  rfl
theorem own_lushr (x : Int64) {n : UInt64} {k : Nat} (hn : n.toNat = k) (h0 : 0 < k) (hk : k < 64) : ((x.toUInt64 >>> n).toInt64).toInt = (x.toInt % 18446744073709551616) / 2 ^ k := by
  have e2 : ((x.toUInt64 >>> n).toInt64).toBitVec.toNat = x.toBitVec.toNat / 2 ^ k := by
    simp only [UInt64.toBitVec_toInt64, UInt64.toBitVec_shiftRight, Int64.toBitVec_toUInt64]
    simp [BitVec.toNat_ushiftRight, Nat.shiftRight_eq_div_pow, hn, Nat.mod_eq_of_lt hk]
  have hb := x.toBitVec.isLt
  have hp : 2 ^ 1 ≤ 2 ^ k := Nat.pow_le_pow_right (by decide) h0
  have hle : x.toBitVec.toNat / 2 ^ k ≤ x.toBitVec.toNat / 2 ^ 1 := Nat.div_le_div_left hp (by decide)
  have e3 : ((x.toUInt64 >>> n).toInt64).toInt = ((x.toBitVec.toNat / 2 ^ k : Nat) : Int) := by
    have : ((x.toUInt64 >>> n).toInt64).toInt = ((x.toUInt64 >>> n).toInt64).toBitVec.toInt := rfl
    rw [this, BitVec.toInt_eq_toNat_cond, e2, if_pos (by omega)]
  have e4 : x.toInt % 18446744073709551616 = (x.toBitVec.toNat : Int) := by
    have : x.toInt = x.toBitVec.toInt := rfl
    rw [this, BitVec.toInt_eq_toNat_cond]
    split <;> omega
  rw [e3, e4, Int.natCast_ediv, Int.natCast_pow]
  rfl
theorem own_l2i (x : Int64) : (x.toInt32.toInt - x.toInt) % 4294967296 = 0 := by rw [Int64.toInt_toInt32]; exact bm32 _
theorem own_div32 {x y : Int32} (hx : 0 ≤ x.toInt) (hy : 0 < y.toInt) : (x / y).toInt = x.toInt / y.toInt := by
  rw [Jvm.Kit.i32_div (by omega), Int.tdiv_eq_ediv_of_nonneg hx]
theorem own_div64 {x y : Int64} (hx : 0 ≤ x.toInt) (hy : 0 < y.toInt) : (x / y).toInt = x.toInt / y.toInt := by
  rw [Jvm.Kit.i64_div (by omega), Int.tdiv_eq_ediv_of_nonneg hx]
theorem own_i2c (x : Int32) : (x.toUInt32.toUInt16.toUInt32.toInt32).toInt = x.toInt % 65536 := by
  have e2 : (x.toUInt32.toUInt16.toUInt32.toInt32).toBitVec.toNat = x.toBitVec.toNat % 65536 := by
    show (x.toUInt32.toUInt16.toUInt32).toNat = _
    simp
    rfl
  have hb := x.toBitVec.isLt
  have e3 : (x.toUInt32.toUInt16.toUInt32.toInt32).toInt = (x.toUInt32.toUInt16.toUInt32.toInt32).toBitVec.toInt := rfl
  have e4 : x.toInt = x.toBitVec.toInt := rfl
  rw [e3, e4, BitVec.toInt_eq_toNat_cond, BitVec.toInt_eq_toNat_cond, e2]
  split <;> split <;> omega
theorem own_i2b (x : Int32) : ((x.toInt8.toInt32).toInt - x.toInt) % 256 = 0 ∧ -128 ≤ (x.toInt8.toInt32).toInt ∧ (x.toInt8.toInt32).toInt < 128 := by
  have h1 : (x.toInt8.toInt32).toInt = x.toInt8.toInt := Int8.toInt_toInt32 _
  have h2 := x.toInt8.toInt_lt; have h3 := x.toInt8.le_toInt
  have h4 : x.toInt8.toInt = x.toInt.bmod 256 := Int32.toInt_toInt8 x
  have h5 := Int.bmod_emod (x := x.toInt) (m := 256)
  rw [h1]; omega
end OwnNums
theorem own_pd0 : parseMethodDescriptor "([CI[BII)I" = some ⟨[(.array .char), .int, (.array .byte), .int, .int], some .int⟩ := by decide +kernel
theorem own_pd1 : parseMethodDescriptor "([CII)[B" = some ⟨[(.array .char), .int, .int], some (.array .byte)⟩ := by decide +kernel
theorem own_pd2 : parseMethodDescriptor "([BI)B" = some ⟨[(.array .byte), .int], some .byte⟩ := by decide +kernel
theorem own_pd3 : parseMethodDescriptor "([CIILjava/lang/Void;)V" = some ⟨[(.array .char), .int, .int, (.object "java/lang/Void")], none⟩ := by decide +kernel
theorem own_pd4 : parseMethodDescriptor "(C)Z" = some ⟨[.char], some .boolean⟩ := by decide +kernel
theorem own_pd5 : parseMethodDescriptor "(C)[B" = some ⟨[.char], some (.array .byte)⟩ := by decide +kernel
theorem own_pd6 : parseMethodDescriptor "([BB)V" = some ⟨[(.array .byte), .byte], none⟩ := by decide +kernel
theorem own_pd7 : parseMethodDescriptor "(Ljava/lang/String;J)J" = some ⟨[(.object "java/lang/String"), .long], some .long⟩ := by decide +kernel
theorem own_pd8 : parseMethodDescriptor "(C)Ljava/lang/String;" = some ⟨[.char], some (.object "java/lang/String")⟩ := by decide +kernel
theorem own_pd9 : parseMethodDescriptor "([C)V" = some ⟨[(.array .char)], none⟩ := by decide +kernel
theorem own_i32_255 : (255 : Int32).toInt = 255 := by decide
theorem own_i64_0 : (0 : Int64).toInt = 0 := by decide
theorem own_i64_4294967295 : (4294967295 : Int64).toInt = 4294967295 := by decide
theorem own_i32_0 : (0 : Int32).toInt = 0 := by decide
theorem own_i32_3 : (3 : Int32).toInt = 3 := by decide
theorem own_i32_1 : (1 : Int32).toInt = 1 := by decide
theorem own_i32_2 : (2 : Int32).toInt = 2 := by decide
theorem own_cs {args : Array Value} {s : State} (h0 : (Cond.initializedFor "java/lang/String" "COMPACT_STRINGS" "Z").before args s = true) (h1 : (Cond.isInt (Term.static "java/lang/String" "COMPACT_STRINGS" "Z")).before args s = true)
    (h2 : (Cond.not (Cond.eq (Term.static "java/lang/String" "COMPACT_STRINGS" "Z") (Term.int 0))).before args s = true) : ∃ cs : Int32, Sta s s.heap "java/lang/String" "COMPACT_STRINGS" "Z" (.int cs) ∧ ¬ (cs = (0 : Int32)) := by
  obtain ⟨cs, e1⟩ := is_v (Cond.before_iff.mp h1)
  refine ⟨cs, Sta.start e1 (Or.inl h0), fun q => ?_⟩
  have h3 := Cond.before_iff.mp h2
  subst q
  have ei : (Term.int 0).eval args s none [] s = some (.int 0) := by simp [Term.eval]
  simp [Cond.value, e1, ei] at h3
abbrev R_own_cmpI2 : Room := { frames := 0, cells := 0, slots := 0, locals := 0 }
theorem d6_0 : decode jdk_52_method_21_code 0 = .ok (.iconst 0, 1) := by decide +kernel
theorem d6_1 : decode jdk_52_method_21_code 1 = .ok (.istore 5, 2) := by decide +kernel
theorem d6_3 : decode jdk_52_method_21_code 3 = .ok (.iload 5, 2) := by decide +kernel
theorem d6_5 : decode jdk_52_method_21_code 5 = .ok (.iload 4, 2) := by decide +kernel
theorem d6_7 : decode jdk_52_method_21_code 7 = .ok (.if_icmp .ge 37, 3) := by decide +kernel
theorem d6_10 : decode jdk_52_method_21_code 10 = .ok (.aload_n 0, 1) := by decide +kernel
theorem d6_11 : decode jdk_52_method_21_code 11 = .ok (.iload_n 1, 1) := by decide +kernel
theorem d6_12 : decode jdk_52_method_21_code 12 = .ok (.caload, 1) := by decide +kernel
theorem d6_13 : decode jdk_52_method_21_code 13 = .ok (.istore 6, 2) := by decide +kernel
theorem d6_15 : decode jdk_52_method_21_code 15 = .ok (.iload 6, 2) := by decide +kernel
theorem d6_17 : decode jdk_52_method_21_code 17 = .ok (.sipush 255, 3) := by decide +kernel
theorem d6_20 : decode jdk_52_method_21_code 20 = .ok (.if_icmp .le 6, 3) := by decide +kernel
theorem d6_26 : decode jdk_52_method_21_code 26 = .ok (.aload_n 2, 1) := by decide +kernel
theorem d6_27 : decode jdk_52_method_21_code 27 = .ok (.iload_n 3, 1) := by decide +kernel
theorem d6_28 : decode jdk_52_method_21_code 28 = .ok (.iload 6, 2) := by decide +kernel
theorem d6_30 : decode jdk_52_method_21_code 30 = .ok (.i2b, 1) := by decide +kernel
theorem d6_31 : decode jdk_52_method_21_code 31 = .ok (.bastore, 1) := by decide +kernel
theorem d6_32 : decode jdk_52_method_21_code 32 = .ok (.iinc 1 1, 3) := by decide +kernel
theorem d6_35 : decode jdk_52_method_21_code 35 = .ok (.iinc 3 1, 3) := by decide +kernel
theorem d6_38 : decode jdk_52_method_21_code 38 = .ok (.iinc 5 1, 3) := by decide +kernel
theorem d6_41 : decode jdk_52_method_21_code 41 = .ok (.goto (-38), 3) := by decide +kernel
theorem d6_44 : decode jdk_52_method_21_code 44 = .ok (.iload 4, 2) := by decide +kernel
theorem d6_46 : decode jdk_52_method_21_code 46 = .ok (.ireturn, 1) := by decide +kernel
theorem own_pn0 : plainName "java/lang/StringUTF16" = true := by first | (simp [plainName, overriddenIn]; done) | decide +kernel
theorem ef_own_cmpI2 (m : MethodId) (x0 : Addr) (x2 : Addr) : entryFrame m #[(.ref x0), (.int (0 : Int32)), (.ref x2), (.int (0 : Int32)), (.int (2 : Int32))] 7 = mkF m 0 #[.val (.ref x0), .val (.int (0 : Int32)), .val (.ref x2), .val (.int (0 : Int32)), .val (.int (2 : Int32)), .unset, .unset] [] := by first | (simp [entryFrame, mkF, argsToLocals, Value.category]; done) | rfl
set_option maxHeartbeats 2000000 in
theorem own_pl_cmpI2_1 (c0 : Int32) (c1 : Int32) (hh0 : c0.toInt ≤ 255) (hh1 : c1.toInt ≤ 255) : ¬ ((255 : Int32) < c0) := by
  have := rng32 c0
  have := rng32 c1
  try simp only [own_i32_255] at *
  have := own_i32_255
  try simp only [Int32.lt_iff_toInt_lt, Int32.le_iff_toInt_le, Int64.lt_iff_toInt_lt, Int64.le_iff_toInt_le, ← Int32.toInt_inj, ← Int64.toInt_inj] at *
  all_goals first | omega | (simp; done)
set_option maxHeartbeats 2000000 in
theorem own_pl_cmpI2_2 (c0 : Int32) (c1 : Int32) (hh0 : c0.toInt ≤ 255) (hh1 : c1.toInt ≤ 255) (hc4 : ¬ ((255 : Int32) < c0)) : ¬ ((255 : Int32) < c1) := by
  have := rng32 c0
  have := rng32 c1
  try simp only [own_i32_255] at *
  have := own_i32_255
  try simp only [Int32.lt_iff_toInt_lt, Int32.le_iff_toInt_le, Int64.lt_iff_toInt_lt, Int64.le_iff_toInt_le, ← Int32.toInt_inj, ← Int64.toInt_inj] at *
  all_goals first | omega | (simp; done)
def Q_own_cmpI2 (Z : State) (a1 : Addr) (a3 : Addr) (k1 : ClassId) (k3 : ClassId) (c0 : Int32) (c1 : Int32) (h0 : Heap) (n0 : Nat) (v : Option Value) (h : Heap) (L : List Loc) : Prop := v = some (.int (2 : Int32)) ∧ Fr n0 L ∧ Keep h0 h [a3] ∧ Arv Z h a3 k3 .byte (2 : Int32) [(.int (c0.toInt8.toInt32)), (.int (c1.toInt8.toInt32))] (.int (0 : Int32))
set_option maxRecDepth 65536 in
set_option maxHeartbeats 400000000 in
theorem own_cmpI2 (l : Launch) (Z : State) (a0 : Array Value) (hw : ∀ d ∈ tables_1, d.before a0 Z = true) (ws : List Jvm.Cond) (a1 : Addr) (a3 : Addr) (k1 : ClassId) (k3 : ClassId) (c0 : Int32) (c1 : Int32) (h0 : Heap) (n0 : Nat) (Z0 : n0 ≤ h0.size) (P_V_a1 : Arv Z h0 a1 k1 .char (2 : Int32) [(.int c0), (.int c1)] (.int (0 : Int32))) (P_V_a3 : Arv Z h0 a3 k3 .byte (2 : Int32) [(.int (0 : Int32)), (.int (0 : Int32))] (.int (0 : Int32))) (g_a3 : n0 ≤ a3) (ne_a1_a3 : a1 ≠ a3) (hh0 : c0.toInt ≤ 255) (hh1 : c1.toInt ≤ 255) :
    MetFree l (⟨"java/lang/StringUTF16", "compress", "([CI[BII)I"⟩ : MethodName) (head1 (Jvm.Cond.code (⟨"java/lang/StringUTF16", "compress", "([CI[BII)I"⟩ : MethodName) jdk_52_method_21_code 7 (some .int) :: ws) R_own_cmpI2) (fun a U => a = #[(.ref a1), (.int (0 : Int32)), (.ref a3), (.int (0 : Int32)), (.int (2 : Int32))] ∧ Z.Warmed39 U.vm ∧ U.heap = h0) (fun _ _ _ _ _ => True) (fun _ U o U' => ∃ v L, o = .returned v ∧ Q_own_cmpI2 Z a1 a3 k1 k3 c0 c1 h0 n0 v U'.heap L ∧ FrameEnd U o U' L R_own_cmpI2.cells R_own_cmpI2.slots) := by
  refine MetFree.of_bodySF (plainFor_of_name own_pn0) hisR ?_
  intro p e s m args below meth c s₁ Bd hml0 hP hK
  obtain ⟨rfl, hZ, hh⟩ := hP
  have hx := Bd.exec
  have hby := Bd.bytes
  have hml : c.maxLocals = 7 := hml0
  have hown : s.vm.findClass "java/lang/StringUTF16" = some m.cls := findClass_of_methodNamed Bd.named
  have hnm := (name_of_methodNamed Bd.named Bd.method).1
  have X0 : Stand p l e R_own_cmpI2 s m #[(.ref a1), (.int (0 : Int32)), (.ref a3), (.int (0 : Int32)), (.int (2 : Int32))] below meth c s₁ [] 0 0 := Stand.of_body Bd
  have e0 : s₁.heap = h0 := by rw [← hh, Bd.state]; rfl
  have N0 := Fr.nil n0
  have K0 : Keep h0 h0 [a3] := Keep.refl h0 [a3]
  show own_Fin p e below s (Q_own_cmpI2 Z a1 a3 k1 k3 c0 c1 h0 n0) R_own_cmpI2.cells R_own_cmpI2.slots (s₁.setTop (entryFrame m #[(.ref a1), (.int (0 : Int32)), (.ref a3), (.int (0 : Int32)), (.int (2 : Int32))] 7))
  refine own_go (fun _ k => castTop (ef_own_cmpI2 m a1 a3) k) ?_
  show own_Fin _ _ _ _ _ _ _ (s₁.setTop (mkF m 0 #[.val (.ref a1), .val (.int (0 : Int32)), .val (.ref a3), .val (.int (0 : Int32)), .val (.int (2 : Int32)), .unset, .unset] []))
  refine own_go (B := s₁.setTop (mkF m 1 #[.val (.ref a1), .val (.int (0 : Int32)), .val (.ref a3), .val (.int (0 : Int32)), .val (.int (2 : Int32)), .unset, .unset] [(.int (0 : Int32))])) (fun _ k => XS.iconst X0.here hx rfl (hb hby d6_0) k) ?_
  refine own_go (B := s₁.setTop (mkF m 3 #[.val (.ref a1), .val (.int (0 : Int32)), .val (.ref a3), .val (.int (0 : Int32)), .val (.int (2 : Int32)), .val (.int (0 : Int32)), .unset] [])) (fun _ k => XS.istore X0.here hx rfl (hb hby d6_1) rfl (l' := #[.val (.ref a1), .val (.int (0 : Int32)), .val (.ref a3), .val (.int (0 : Int32)), .val (.int (2 : Int32)), .val (.int (0 : Int32)), .unset]) rfl k) ?_
  refine own_go (B := s₁.setTop (mkF m 5 #[.val (.ref a1), .val (.int (0 : Int32)), .val (.ref a3), .val (.int (0 : Int32)), .val (.int (2 : Int32)), .val (.int (0 : Int32)), .unset] [(.int (0 : Int32))])) (fun _ k => XS.iload X0.here hx rfl (hb hby d6_3) rfl  k) ?_
  refine own_go (B := s₁.setTop (mkF m 7 #[.val (.ref a1), .val (.int (0 : Int32)), .val (.ref a3), .val (.int (0 : Int32)), .val (.int (2 : Int32)), .val (.int (0 : Int32)), .unset] [(.int (2 : Int32)), (.int (0 : Int32))])) (fun _ k => XS.iload X0.here hx rfl (hb hby d6_5) rfl  k) ?_
  have hc1 : (0 : Int32) < (2 : Int32) := by decide
  refine own_go (B := s₁.setTop (mkF m 10 #[.val (.ref a1), .val (.int (0 : Int32)), .val (.ref a3), .val (.int (0 : Int32)), .val (.int (2 : Int32)), .val (.int (0 : Int32)), .unset] [])) (fun _ k => XS.icmpNo X0.here hx rfl (hb hby d6_7) rfl (tlt hc1).2.1 k) ?_
  refine own_go (B := s₁.setTop (mkF m 11 #[.val (.ref a1), .val (.int (0 : Int32)), .val (.ref a3), .val (.int (0 : Int32)), .val (.int (2 : Int32)), .val (.int (0 : Int32)), .unset] [(.ref a1)])) (fun _ k => XS.aloadN X0.here hx rfl (hb hby d6_10) rfl rfl k) ?_
  refine own_go (B := s₁.setTop (mkF m 12 #[.val (.ref a1), .val (.int (0 : Int32)), .val (.ref a3), .val (.int (0 : Int32)), .val (.int (2 : Int32)), .val (.int (0 : Int32)), .unset] [(.int (0 : Int32)), (.ref a1)])) (fun _ k => XS.iloadN X0.here hx rfl (hb hby d6_11) rfl  k) ?_
  obtain ⟨cl2, Ar2, q2, S2, N2n, H2, G2⟩ := id P_V_a1
  have hin3 : ¬ ((0 : Int32) < 0 ∨ cl2.slots.size ≤ ((0 : Int32)).toNatClampNeg) := inb_of S2 ⟨by decide, by decide⟩
  have hat3 : cl2.slots[((0 : Int32)).toNatClampNeg]? = some (.int c0) := H2.at hin3 rfl
  refine own_go (B := s₁.setTop (mkF m 13 #[.val (.ref a1), .val (.int (0 : Int32)), .val (.ref a3), .val (.int (0 : Int32)), .val (.int (2 : Int32)), .val (.int (0 : Int32)), .unset] [(.int c0)])) (fun _ k => X0.caload hx (j := (0 : Int32)) (v := (.int c0)) (own_hc e0 Ar2.1) (State.isArrayOf_alike hZ.alike Ar2.2.1) Ar2.2.2 hin3 hat3 (g := (mkF m 12 #[.val (.ref a1), .val (.int (0 : Int32)), .val (.ref a3), .val (.int (0 : Int32)), .val (.int (2 : Int32)), .val (.int (0 : Int32)), .unset] [(.int (0 : Int32)), (.ref a1)])) rfl rfl (hb hby d6_12) _ k) ?_
  refine own_go (B := s₁.setTop (mkF m 15 #[.val (.ref a1), .val (.int (0 : Int32)), .val (.ref a3), .val (.int (0 : Int32)), .val (.int (2 : Int32)), .val (.int (0 : Int32)), .val (.int c0)] [])) (fun _ k => XS.istore X0.here hx rfl (hb hby d6_13) rfl (l' := #[.val (.ref a1), .val (.int (0 : Int32)), .val (.ref a3), .val (.int (0 : Int32)), .val (.int (2 : Int32)), .val (.int (0 : Int32)), .val (.int c0)]) rfl k) ?_
  refine own_go (B := s₁.setTop (mkF m 17 #[.val (.ref a1), .val (.int (0 : Int32)), .val (.ref a3), .val (.int (0 : Int32)), .val (.int (2 : Int32)), .val (.int (0 : Int32)), .val (.int c0)] [(.int c0)])) (fun _ k => XS.iload X0.here hx rfl (hb hby d6_15) rfl  k) ?_
  refine own_go (B := s₁.setTop (mkF m 20 #[.val (.ref a1), .val (.int (0 : Int32)), .val (.ref a3), .val (.int (0 : Int32)), .val (.int (2 : Int32)), .val (.int (0 : Int32)), .val (.int c0)] [(.int (255 : Int32)), (.int c0)])) (fun _ k => XS.sipush X0.here hx rfl (hb hby d6_17) k) ?_
  have hc4 : ¬ ((255 : Int32) < c0) := (own_pl_cmpI2_1 c0 c1 hh0 hh1)
  refine own_go (B := s₁.setTop (mkF m 26 #[.val (.ref a1), .val (.int (0 : Int32)), .val (.ref a3), .val (.int (0 : Int32)), .val (.int (2 : Int32)), .val (.int (0 : Int32)), .val (.int c0)] [])) (fun _ k => XS.icmpYes X0.here hx rfl (pc0 := 20) (pc' := 26) rfl (hb hby d6_20) rfl (flt hc4).2.2.2 (by decide) (by decide) k) ?_
  refine own_go (B := s₁.setTop (mkF m 27 #[.val (.ref a1), .val (.int (0 : Int32)), .val (.ref a3), .val (.int (0 : Int32)), .val (.int (2 : Int32)), .val (.int (0 : Int32)), .val (.int c0)] [(.ref a3)])) (fun _ k => XS.aloadN X0.here hx rfl (hb hby d6_26) rfl rfl k) ?_
  refine own_go (B := s₁.setTop (mkF m 28 #[.val (.ref a1), .val (.int (0 : Int32)), .val (.ref a3), .val (.int (0 : Int32)), .val (.int (2 : Int32)), .val (.int (0 : Int32)), .val (.int c0)] [(.int (0 : Int32)), (.ref a3)])) (fun _ k => XS.iloadN X0.here hx rfl (hb hby d6_27) rfl  k) ?_
  refine own_go (B := s₁.setTop (mkF m 30 #[.val (.ref a1), .val (.int (0 : Int32)), .val (.ref a3), .val (.int (0 : Int32)), .val (.int (2 : Int32)), .val (.int (0 : Int32)), .val (.int c0)] [(.int c0), (.int (0 : Int32)), (.ref a3)])) (fun _ k => XS.iload X0.here hx rfl (hb hby d6_28) rfl  k) ?_
  refine own_go (B := s₁.setTop (mkF m 31 #[.val (.ref a1), .val (.int (0 : Int32)), .val (.ref a3), .val (.int (0 : Int32)), .val (.int (2 : Int32)), .val (.int (0 : Int32)), .val (.int c0)] [(.int (c0.toInt8.toInt32)), (.int (0 : Int32)), (.ref a3)])) (fun _ k => XS.i2b X0.here hx rfl (hb hby d6_30) rfl k) ?_
  obtain ⟨cl5, Ar5, q5, S5, N5n, H5, G5⟩ := id P_V_a3
  have hin6 : ¬ ((0 : Int32) < 0 ∨ cl5.slots.size ≤ ((0 : Int32)).toNatClampNeg) := inb_of S5 ⟨by decide, by decide⟩
  obtain ⟨T6, h6, X6, e6, W6, st6⟩ := stB X0 hx hZ e0 Ar5 (j := (0 : Int32)) hin6 (g := (mkF m 31 #[.val (.ref a1), .val (.int (0 : Int32)), .val (.ref a3), .val (.int (0 : Int32)), .val (.int (2 : Int32)), .val (.int (0 : Int32)), .val (.int c0)] [(.int (c0.toInt8.toInt32)), (.int (0 : Int32)), (.ref a3)])) rfl rfl (hb hby d6_31)
  rw [own_narb] at W6
  have V_a3_6 : Arv Z h6 a3 k3 .byte (2 : Int32) [(.int (c0.toInt8.toInt32)), (.int (0 : Int32))] (.int (0 : Int32)) := Arv.set Ar5 q5 S5 N5n H5 G5 (fits_nar_byte _) W6 0 rfl (Nat.le_of_ble_eq_true rfl)
  have V_8 := P_V_a1.other W6 ne_a1_a3
  have K10 : Keep h0 h6 [a3] := K0.wr W6 (Or.inl (List.mem_of_getElem? (i := 0) rfl))
  have N6 := Fr.snoc X6 N0 g_a3
  refine own_go (B := T6.setTop (mkF m 32 #[.val (.ref a1), .val (.int (0 : Int32)), .val (.ref a3), .val (.int (0 : Int32)), .val (.int (2 : Int32)), .val (.int (0 : Int32)), .val (.int c0)] [])) st6 ?_
  refine own_go (B := T6.setTop (mkF m 35 #[.val (.ref a1), .val (.int ((0 : Int32) + (1 : Int32))), .val (.ref a3), .val (.int (0 : Int32)), .val (.int (2 : Int32)), .val (.int (0 : Int32)), .val (.int c0)] [])) (fun _ k => XS.iinc X6.here hx rfl (hb hby d6_32) rfl (l' := #[.val (.ref a1), .val (.int ((0 : Int32) + (1 : Int32))), .val (.ref a3), .val (.int (0 : Int32)), .val (.int (2 : Int32)), .val (.int (0 : Int32)), .val (.int c0)]) rfl k) ?_
  rw [show ((0 : Int32) + (1 : Int32)) = (1 : Int32) from by decide]
  show own_Fin _ _ _ _ _ _ _ (T6.setTop (mkF m 35 #[.val (.ref a1), .val (.int (1 : Int32)), .val (.ref a3), .val (.int (0 : Int32)), .val (.int (2 : Int32)), .val (.int (0 : Int32)), .val (.int c0)] []))
  refine own_go (B := T6.setTop (mkF m 38 #[.val (.ref a1), .val (.int (1 : Int32)), .val (.ref a3), .val (.int ((0 : Int32) + (1 : Int32))), .val (.int (2 : Int32)), .val (.int (0 : Int32)), .val (.int c0)] [])) (fun _ k => XS.iinc X6.here hx rfl (hb hby d6_35) rfl (l' := #[.val (.ref a1), .val (.int (1 : Int32)), .val (.ref a3), .val (.int ((0 : Int32) + (1 : Int32))), .val (.int (2 : Int32)), .val (.int (0 : Int32)), .val (.int c0)]) rfl k) ?_
  rw [show ((0 : Int32) + (1 : Int32)) = (1 : Int32) from by decide]
  show own_Fin _ _ _ _ _ _ _ (T6.setTop (mkF m 38 #[.val (.ref a1), .val (.int (1 : Int32)), .val (.ref a3), .val (.int (1 : Int32)), .val (.int (2 : Int32)), .val (.int (0 : Int32)), .val (.int c0)] []))
  refine own_go (B := T6.setTop (mkF m 41 #[.val (.ref a1), .val (.int (1 : Int32)), .val (.ref a3), .val (.int (1 : Int32)), .val (.int (2 : Int32)), .val (.int ((0 : Int32) + (1 : Int32))), .val (.int c0)] [])) (fun _ k => XS.iinc X6.here hx rfl (hb hby d6_38) rfl (l' := #[.val (.ref a1), .val (.int (1 : Int32)), .val (.ref a3), .val (.int (1 : Int32)), .val (.int (2 : Int32)), .val (.int ((0 : Int32) + (1 : Int32))), .val (.int c0)]) rfl k) ?_
  rw [show ((0 : Int32) + (1 : Int32)) = (1 : Int32) from by decide]
  show own_Fin _ _ _ _ _ _ _ (T6.setTop (mkF m 41 #[.val (.ref a1), .val (.int (1 : Int32)), .val (.ref a3), .val (.int (1 : Int32)), .val (.int (2 : Int32)), .val (.int (1 : Int32)), .val (.int c0)] []))
  refine own_go (B := T6.setTop (mkF m 3 #[.val (.ref a1), .val (.int (1 : Int32)), .val (.ref a3), .val (.int (1 : Int32)), .val (.int (2 : Int32)), .val (.int (1 : Int32)), .val (.int c0)] [])) (fun _ k => XS.goto X6.here hx rfl (pc0 := 41) (pc' := 3) rfl (hb hby d6_41) (by decide) (by decide) k) ?_
  refine own_go (B := T6.setTop (mkF m 5 #[.val (.ref a1), .val (.int (1 : Int32)), .val (.ref a3), .val (.int (1 : Int32)), .val (.int (2 : Int32)), .val (.int (1 : Int32)), .val (.int c0)] [(.int (1 : Int32))])) (fun _ k => XS.iload X6.here hx rfl (hb hby d6_3) rfl  k) ?_
  refine own_go (B := T6.setTop (mkF m 7 #[.val (.ref a1), .val (.int (1 : Int32)), .val (.ref a3), .val (.int (1 : Int32)), .val (.int (2 : Int32)), .val (.int (1 : Int32)), .val (.int c0)] [(.int (2 : Int32)), (.int (1 : Int32))])) (fun _ k => XS.iload X6.here hx rfl (hb hby d6_5) rfl  k) ?_
  have hc11 : (1 : Int32) < (2 : Int32) := by decide
  refine own_go (B := T6.setTop (mkF m 10 #[.val (.ref a1), .val (.int (1 : Int32)), .val (.ref a3), .val (.int (1 : Int32)), .val (.int (2 : Int32)), .val (.int (1 : Int32)), .val (.int c0)] [])) (fun _ k => XS.icmpNo X6.here hx rfl (hb hby d6_7) rfl (tlt hc11).2.1 k) ?_
  refine own_go (B := T6.setTop (mkF m 11 #[.val (.ref a1), .val (.int (1 : Int32)), .val (.ref a3), .val (.int (1 : Int32)), .val (.int (2 : Int32)), .val (.int (1 : Int32)), .val (.int c0)] [(.ref a1)])) (fun _ k => XS.aloadN X6.here hx rfl (hb hby d6_10) rfl rfl k) ?_
  refine own_go (B := T6.setTop (mkF m 12 #[.val (.ref a1), .val (.int (1 : Int32)), .val (.ref a3), .val (.int (1 : Int32)), .val (.int (2 : Int32)), .val (.int (1 : Int32)), .val (.int c0)] [(.int (1 : Int32)), (.ref a1)])) (fun _ k => XS.iloadN X6.here hx rfl (hb hby d6_11) rfl  k) ?_
  obtain ⟨cl12, Ar12, q12, S12, N12n, H12, G12⟩ := id V_8
  have hin13 : ¬ ((1 : Int32) < 0 ∨ cl12.slots.size ≤ ((1 : Int32)).toNatClampNeg) := inb_of S12 ⟨by decide, by decide⟩
  have hat13 : cl12.slots[((1 : Int32)).toNatClampNeg]? = some (.int c1) := H12.at hin13 rfl
  refine own_go (B := T6.setTop (mkF m 13 #[.val (.ref a1), .val (.int (1 : Int32)), .val (.ref a3), .val (.int (1 : Int32)), .val (.int (2 : Int32)), .val (.int (1 : Int32)), .val (.int c0)] [(.int c1)])) (fun _ k => X6.caload hx (j := (1 : Int32)) (v := (.int c1)) (own_hc e6 Ar12.1) (State.isArrayOf_alike hZ.alike Ar12.2.1) Ar12.2.2 hin13 hat13 (g := (mkF m 12 #[.val (.ref a1), .val (.int (1 : Int32)), .val (.ref a3), .val (.int (1 : Int32)), .val (.int (2 : Int32)), .val (.int (1 : Int32)), .val (.int c0)] [(.int (1 : Int32)), (.ref a1)])) rfl rfl (hb hby d6_12) _ k) ?_
  refine own_go (B := T6.setTop (mkF m 15 #[.val (.ref a1), .val (.int (1 : Int32)), .val (.ref a3), .val (.int (1 : Int32)), .val (.int (2 : Int32)), .val (.int (1 : Int32)), .val (.int c1)] [])) (fun _ k => XS.istore X6.here hx rfl (hb hby d6_13) rfl (l' := #[.val (.ref a1), .val (.int (1 : Int32)), .val (.ref a3), .val (.int (1 : Int32)), .val (.int (2 : Int32)), .val (.int (1 : Int32)), .val (.int c1)]) rfl k) ?_
  refine own_go (B := T6.setTop (mkF m 17 #[.val (.ref a1), .val (.int (1 : Int32)), .val (.ref a3), .val (.int (1 : Int32)), .val (.int (2 : Int32)), .val (.int (1 : Int32)), .val (.int c1)] [(.int c1)])) (fun _ k => XS.iload X6.here hx rfl (hb hby d6_15) rfl  k) ?_
  refine own_go (B := T6.setTop (mkF m 20 #[.val (.ref a1), .val (.int (1 : Int32)), .val (.ref a3), .val (.int (1 : Int32)), .val (.int (2 : Int32)), .val (.int (1 : Int32)), .val (.int c1)] [(.int (255 : Int32)), (.int c1)])) (fun _ k => XS.sipush X6.here hx rfl (hb hby d6_17) k) ?_
  have hc14 : ¬ ((255 : Int32) < c1) := (own_pl_cmpI2_2 c0 c1 hh0 hh1 hc4)
  refine own_go (B := T6.setTop (mkF m 26 #[.val (.ref a1), .val (.int (1 : Int32)), .val (.ref a3), .val (.int (1 : Int32)), .val (.int (2 : Int32)), .val (.int (1 : Int32)), .val (.int c1)] [])) (fun _ k => XS.icmpYes X6.here hx rfl (pc0 := 20) (pc' := 26) rfl (hb hby d6_20) rfl (flt hc14).2.2.2 (by decide) (by decide) k) ?_
  refine own_go (B := T6.setTop (mkF m 27 #[.val (.ref a1), .val (.int (1 : Int32)), .val (.ref a3), .val (.int (1 : Int32)), .val (.int (2 : Int32)), .val (.int (1 : Int32)), .val (.int c1)] [(.ref a3)])) (fun _ k => XS.aloadN X6.here hx rfl (hb hby d6_26) rfl rfl k) ?_
  refine own_go (B := T6.setTop (mkF m 28 #[.val (.ref a1), .val (.int (1 : Int32)), .val (.ref a3), .val (.int (1 : Int32)), .val (.int (2 : Int32)), .val (.int (1 : Int32)), .val (.int c1)] [(.int (1 : Int32)), (.ref a3)])) (fun _ k => XS.iloadN X6.here hx rfl (hb hby d6_27) rfl  k) ?_
  refine own_go (B := T6.setTop (mkF m 30 #[.val (.ref a1), .val (.int (1 : Int32)), .val (.ref a3), .val (.int (1 : Int32)), .val (.int (2 : Int32)), .val (.int (1 : Int32)), .val (.int c1)] [(.int c1), (.int (1 : Int32)), (.ref a3)])) (fun _ k => XS.iload X6.here hx rfl (hb hby d6_28) rfl  k) ?_
  refine own_go (B := T6.setTop (mkF m 31 #[.val (.ref a1), .val (.int (1 : Int32)), .val (.ref a3), .val (.int (1 : Int32)), .val (.int (2 : Int32)), .val (.int (1 : Int32)), .val (.int c1)] [(.int (c1.toInt8.toInt32)), (.int (1 : Int32)), (.ref a3)])) (fun _ k => XS.i2b X6.here hx rfl (hb hby d6_30) rfl k) ?_
  obtain ⟨cl15, Ar15, q15, S15, N15n, H15, G15⟩ := id V_a3_6
  have hin16 : ¬ ((1 : Int32) < 0 ∨ cl15.slots.size ≤ ((1 : Int32)).toNatClampNeg) := inb_of S15 ⟨by decide, by decide⟩
  obtain ⟨T16, h16, X16, e16, W16, st16⟩ := stB X6 hx hZ e6 Ar15 (j := (1 : Int32)) hin16 (g := (mkF m 31 #[.val (.ref a1), .val (.int (1 : Int32)), .val (.ref a3), .val (.int (1 : Int32)), .val (.int (2 : Int32)), .val (.int (1 : Int32)), .val (.int c1)] [(.int (c1.toInt8.toInt32)), (.int (1 : Int32)), (.ref a3)])) rfl rfl (hb hby d6_31)
  rw [own_narb] at W16
  have V_a3_16 : Arv Z h16 a3 k3 .byte (2 : Int32) [(.int (c0.toInt8.toInt32)), (.int (c1.toInt8.toInt32))] (.int (0 : Int32)) := Arv.set Ar15 q15 S15 N15n H15 G15 (fits_nar_byte _) W16 1 rfl (Nat.le_of_ble_eq_true rfl)
  have V_18 := V_8.other W16 ne_a1_a3
  have K20 : Keep h0 h16 [a3] := K10.wr W16 (Or.inl (List.mem_of_getElem? (i := 0) rfl))
  have N16 := Fr.snoc X16 N6 g_a3
  refine own_go (B := T16.setTop (mkF m 32 #[.val (.ref a1), .val (.int (1 : Int32)), .val (.ref a3), .val (.int (1 : Int32)), .val (.int (2 : Int32)), .val (.int (1 : Int32)), .val (.int c1)] [])) st16 ?_
  refine own_go (B := T16.setTop (mkF m 35 #[.val (.ref a1), .val (.int ((1 : Int32) + (1 : Int32))), .val (.ref a3), .val (.int (1 : Int32)), .val (.int (2 : Int32)), .val (.int (1 : Int32)), .val (.int c1)] [])) (fun _ k => XS.iinc X16.here hx rfl (hb hby d6_32) rfl (l' := #[.val (.ref a1), .val (.int ((1 : Int32) + (1 : Int32))), .val (.ref a3), .val (.int (1 : Int32)), .val (.int (2 : Int32)), .val (.int (1 : Int32)), .val (.int c1)]) rfl k) ?_
  rw [show ((1 : Int32) + (1 : Int32)) = (2 : Int32) from by decide]
  show own_Fin _ _ _ _ _ _ _ (T16.setTop (mkF m 35 #[.val (.ref a1), .val (.int (2 : Int32)), .val (.ref a3), .val (.int (1 : Int32)), .val (.int (2 : Int32)), .val (.int (1 : Int32)), .val (.int c1)] []))
  refine own_go (B := T16.setTop (mkF m 38 #[.val (.ref a1), .val (.int (2 : Int32)), .val (.ref a3), .val (.int ((1 : Int32) + (1 : Int32))), .val (.int (2 : Int32)), .val (.int (1 : Int32)), .val (.int c1)] [])) (fun _ k => XS.iinc X16.here hx rfl (hb hby d6_35) rfl (l' := #[.val (.ref a1), .val (.int (2 : Int32)), .val (.ref a3), .val (.int ((1 : Int32) + (1 : Int32))), .val (.int (2 : Int32)), .val (.int (1 : Int32)), .val (.int c1)]) rfl k) ?_
  rw [show ((1 : Int32) + (1 : Int32)) = (2 : Int32) from by decide]
  show own_Fin _ _ _ _ _ _ _ (T16.setTop (mkF m 38 #[.val (.ref a1), .val (.int (2 : Int32)), .val (.ref a3), .val (.int (2 : Int32)), .val (.int (2 : Int32)), .val (.int (1 : Int32)), .val (.int c1)] []))
  refine own_go (B := T16.setTop (mkF m 41 #[.val (.ref a1), .val (.int (2 : Int32)), .val (.ref a3), .val (.int (2 : Int32)), .val (.int (2 : Int32)), .val (.int ((1 : Int32) + (1 : Int32))), .val (.int c1)] [])) (fun _ k => XS.iinc X16.here hx rfl (hb hby d6_38) rfl (l' := #[.val (.ref a1), .val (.int (2 : Int32)), .val (.ref a3), .val (.int (2 : Int32)), .val (.int (2 : Int32)), .val (.int ((1 : Int32) + (1 : Int32))), .val (.int c1)]) rfl k) ?_
  rw [show ((1 : Int32) + (1 : Int32)) = (2 : Int32) from by decide]
  show own_Fin _ _ _ _ _ _ _ (T16.setTop (mkF m 41 #[.val (.ref a1), .val (.int (2 : Int32)), .val (.ref a3), .val (.int (2 : Int32)), .val (.int (2 : Int32)), .val (.int (2 : Int32)), .val (.int c1)] []))
  refine own_go (B := T16.setTop (mkF m 3 #[.val (.ref a1), .val (.int (2 : Int32)), .val (.ref a3), .val (.int (2 : Int32)), .val (.int (2 : Int32)), .val (.int (2 : Int32)), .val (.int c1)] [])) (fun _ k => XS.goto X16.here hx rfl (pc0 := 41) (pc' := 3) rfl (hb hby d6_41) (by decide) (by decide) k) ?_
  refine own_go (B := T16.setTop (mkF m 5 #[.val (.ref a1), .val (.int (2 : Int32)), .val (.ref a3), .val (.int (2 : Int32)), .val (.int (2 : Int32)), .val (.int (2 : Int32)), .val (.int c1)] [(.int (2 : Int32))])) (fun _ k => XS.iload X16.here hx rfl (hb hby d6_3) rfl  k) ?_
  refine own_go (B := T16.setTop (mkF m 7 #[.val (.ref a1), .val (.int (2 : Int32)), .val (.ref a3), .val (.int (2 : Int32)), .val (.int (2 : Int32)), .val (.int (2 : Int32)), .val (.int c1)] [(.int (2 : Int32)), (.int (2 : Int32))])) (fun _ k => XS.iload X16.here hx rfl (hb hby d6_5) rfl  k) ?_
  have hc21 : ¬ ((2 : Int32) < (2 : Int32)) := by decide
  refine own_go (B := T16.setTop (mkF m 44 #[.val (.ref a1), .val (.int (2 : Int32)), .val (.ref a3), .val (.int (2 : Int32)), .val (.int (2 : Int32)), .val (.int (2 : Int32)), .val (.int c1)] [])) (fun _ k => XS.icmpYes X16.here hx rfl (pc0 := 7) (pc' := 44) rfl (hb hby d6_7) rfl (flt hc21).2.1 (by decide) (by decide) k) ?_
  refine own_go (B := T16.setTop (mkF m 46 #[.val (.ref a1), .val (.int (2 : Int32)), .val (.ref a3), .val (.int (2 : Int32)), .val (.int (2 : Int32)), .val (.int (2 : Int32)), .val (.int c1)] [(.int (2 : Int32))])) (fun _ k => XS.iload X16.here hx rfl (hb hby d6_44) rfl  k) ?_
  exact own_retI X16 hx Bd.notSynchronized Bd.returns (hb hby d6_46) e16 ⟨rfl, N16, K20, V_a3_16⟩ (by decide) (by decide)
abbrev R_own_cmpB2 : Room := { frames := 1, cells := 1, slots := 2, locals := 18 }
theorem d5_0 : decode jdk_52_method_16_code 0 = .ok (.iload_n 2, 1) := by decide +kernel
theorem d5_1 : decode jdk_52_method_16_code 1 = .ok (.newarray .byte, 2) := by decide +kernel
theorem d5_3 : decode jdk_52_method_16_code 3 = .ok (.astore_n 3, 1) := by decide +kernel
theorem d5_4 : decode jdk_52_method_16_code 4 = .ok (.aload_n 0, 1) := by decide +kernel
theorem d5_5 : decode jdk_52_method_16_code 5 = .ok (.iload_n 1, 1) := by decide +kernel
theorem d5_6 : decode jdk_52_method_16_code 6 = .ok (.aload_n 3, 1) := by decide +kernel
theorem d5_7 : decode jdk_52_method_16_code 7 = .ok (.iconst 0, 1) := by decide +kernel
theorem d5_8 : decode jdk_52_method_16_code 8 = .ok (.iload_n 2, 1) := by decide +kernel
theorem d5_9 : decode jdk_52_method_16_code 9 = .ok (.invokestatic 115, 3) := by decide +kernel
theorem d5_12 : decode jdk_52_method_16_code 12 = .ok (.istore 4, 2) := by decide +kernel
theorem d5_14 : decode jdk_52_method_16_code 14 = .ok (.iload 4, 2) := by decide +kernel
theorem d5_16 : decode jdk_52_method_16_code 16 = .ok (.iload_n 2, 1) := by decide +kernel
theorem d5_17 : decode jdk_52_method_16_code 17 = .ok (.if_icmp .eq 40, 3) := by decide +kernel
theorem d5_57 : decode jdk_52_method_16_code 57 = .ok (.aload_n 3, 1) := by decide +kernel
theorem d5_58 : decode jdk_52_method_16_code 58 = .ok (.areturn, 1) := by decide +kernel
theorem ef_own_cmpB2 (m : MethodId) (x0 : Addr) : entryFrame m #[(.ref x0), (.int (0 : Int32)), (.int (2 : Int32))] 6 = mkF m 0 #[.val (.ref x0), .val (.int (0 : Int32)), .val (.int (2 : Int32)), .unset, .unset, .unset] [] := by first | (simp [entryFrame, mkF, argsToLocals, Value.category]; done) | rfl
def Q_own_cmpB2 (Z : State) (a1 : Addr) (k1 : ClassId) (c0 : Int32) (c1 : Int32) (h0 : Heap) (n0 : Nat) (v : Option Value) (h : Heap) (L : List Loc) : Prop := ∃ b : Addr, ∃ kb : ClassId, v = some (.ref b) ∧ Fr n0 L ∧ Keep h0 h [] ∧ Arv Z h b kb .byte (2 : Int32) [(.int (c0.toInt8.toInt32)), (.int (c1.toInt8.toInt32))] (.int (0 : Int32)) ∧ (h0.size ≤ b)
set_option maxRecDepth 65536 in
set_option maxHeartbeats 400000000 in
theorem own_cmpB2 (l : Launch) (Z : State) (a0 : Array Value) (hw : ∀ d ∈ tables_1, d.before a0 Z = true) (ws : List Jvm.Cond) (a1 : Addr) (k1 : ClassId) (c0 : Int32) (c1 : Int32) (h0 : Heap) (n0 : Nat) (Z0 : n0 ≤ h0.size) (P_V_a1 : Arv Z h0 a1 k1 .char (2 : Int32) [(.int c0), (.int c1)] (.int (0 : Int32))) (hh0 : c0.toInt ≤ 255) (hh1 : c1.toInt ≤ 255) :
    MetFree l (⟨"java/lang/StringUTF16", "compress", "([CII)[B"⟩ : MethodName) (head1 (Jvm.Cond.code (⟨"java/lang/StringUTF16", "compress", "([CII)[B"⟩ : MethodName) jdk_52_method_16_code 6 (some (.array .byte)) :: ws) R_own_cmpB2) (fun a U => a = #[(.ref a1), (.int (0 : Int32)), (.int (2 : Int32))] ∧ Z.Warmed39 U.vm ∧ U.heap = h0) (fun _ _ _ _ _ => True) (fun _ U o U' => ∃ v L, o = .returned v ∧ Q_own_cmpB2 Z a1 k1 c0 c1 h0 n0 v U'.heap L ∧ FrameEnd U o U' L R_own_cmpB2.cells R_own_cmpB2.slots) := by
  refine MetFree.of_bodySF (plainFor_of_name own_pn0) hisR ?_
  intro p e s m args below meth c s₁ Bd hml0 hP hK
  obtain ⟨rfl, hZ, hh⟩ := hP
  have hx := Bd.exec
  have hby := Bd.bytes
  have hml : c.maxLocals = 6 := hml0
  have hown : s.vm.findClass "java/lang/StringUTF16" = some m.cls := findClass_of_methodNamed Bd.named
  have hnm := (name_of_methodNamed Bd.named Bd.method).1
  have X0 : Stand p l e R_own_cmpB2 s m #[(.ref a1), (.int (0 : Int32)), (.int (2 : Int32))] below meth c s₁ [] 0 0 := Stand.of_body Bd
  have e0 : s₁.heap = h0 := by rw [← hh, Bd.state]; rfl
  have N0 := Fr.nil n0
  have K0 : Keep h0 h0 [] := Keep.refl h0 []
  show own_Fin p e below s (Q_own_cmpB2 Z a1 k1 c0 c1 h0 n0) R_own_cmpB2.cells R_own_cmpB2.slots (s₁.setTop (entryFrame m #[(.ref a1), (.int (0 : Int32)), (.int (2 : Int32))] 6))
  refine own_go (fun _ k => castTop (ef_own_cmpB2 m a1) k) ?_
  show own_Fin _ _ _ _ _ _ _ (s₁.setTop (mkF m 0 #[.val (.ref a1), .val (.int (0 : Int32)), .val (.int (2 : Int32)), .unset, .unset, .unset] []))
  refine own_go (B := s₁.setTop (mkF m 1 #[.val (.ref a1), .val (.int (0 : Int32)), .val (.int (2 : Int32)), .unset, .unset, .unset] [(.int (2 : Int32))])) (fun _ k => XS.iloadN X0.here hx rfl (hb hby d5_0) rfl  k) ?_
  obtain ⟨T1, h1, kc1, X1, e1, E1, A1, st1⟩ := newP X0 hx hZ (own_w hw 4 rfl) e0 (g := (mkF m 1 #[.val (.ref a1), .val (.int (0 : Int32)), .val (.int (2 : Int32)), .unset, .unset, .unset] [(.int (2 : Int32))])) rfl (hb hby d5_1) rfl (by decide) (cap := 2) (by decide) (by decide) (by decide) (by decide)
  obtain ⟨b1, g1⟩ : ∃ z, z = h0.size := ⟨_, rfl⟩
  rw [← g1] at A1 st1
  have ne_a1_b1_2 : a1 ≠ b1 := Nat.ne_of_lt (Nat.lt_of_lt_of_le P_V_a1.lt (Nat.le_of_eq g1.symm))
  have sz_b1 : h0.size ≤ b1 := Nat.le_trans K0.1 (Nat.le_of_eq g1.symm)
  have g_b1 : n0 ≤ b1 := Nat.le_trans Z0 sz_b1
  have V_4 := P_V_a1.ext E1
  have V_b1 : Arv Z h1 b1 kc1 .byte (2 : Int32) [(.int (0 : Int32)), (.int (0 : Int32))] (.int (0 : Int32)) := (Arv.new A1 (by decide)).pad (pad_rep [] (.int (0 : Int32)) 2)
  have K5 : Keep h0 h1 [] := K0.ext E1
  refine own_go (B := T1.setTop (mkF m 3 #[.val (.ref a1), .val (.int (0 : Int32)), .val (.int (2 : Int32)), .unset, .unset, .unset] [(.ref b1)])) st1 ?_
  refine own_go (B := T1.setTop (mkF m 4 #[.val (.ref a1), .val (.int (0 : Int32)), .val (.int (2 : Int32)), .val (.ref b1), .unset, .unset] [])) (fun _ k => XS.astoreN X1.here hx rfl (hb hby d5_3) rfl rfl (l' := #[.val (.ref a1), .val (.int (0 : Int32)), .val (.int (2 : Int32)), .val (.ref b1), .unset, .unset]) rfl k) ?_
  refine own_go (B := T1.setTop (mkF m 5 #[.val (.ref a1), .val (.int (0 : Int32)), .val (.int (2 : Int32)), .val (.ref b1), .unset, .unset] [(.ref a1)])) (fun _ k => XS.aloadN X1.here hx rfl (hb hby d5_4) rfl rfl k) ?_
  refine own_go (B := T1.setTop (mkF m 6 #[.val (.ref a1), .val (.int (0 : Int32)), .val (.int (2 : Int32)), .val (.ref b1), .unset, .unset] [(.int (0 : Int32)), (.ref a1)])) (fun _ k => XS.iloadN X1.here hx rfl (hb hby d5_5) rfl  k) ?_
  refine own_go (B := T1.setTop (mkF m 7 #[.val (.ref a1), .val (.int (0 : Int32)), .val (.int (2 : Int32)), .val (.ref b1), .unset, .unset] [(.ref b1), (.int (0 : Int32)), (.ref a1)])) (fun _ k => XS.aloadN X1.here hx rfl (hb hby d5_6) rfl rfl k) ?_
  refine own_go (B := T1.setTop (mkF m 8 #[.val (.ref a1), .val (.int (0 : Int32)), .val (.int (2 : Int32)), .val (.ref b1), .unset, .unset] [(.int (0 : Int32)), (.ref b1), (.int (0 : Int32)), (.ref a1)])) (fun _ k => XS.iconst X1.here hx rfl (hb hby d5_7) k) ?_
  refine own_go (B := T1.setTop (mkF m 9 #[.val (.ref a1), .val (.int (0 : Int32)), .val (.int (2 : Int32)), .val (.ref b1), .unset, .unset] [(.int (2 : Int32)), (.int (0 : Int32)), (.ref b1), (.int (0 : Int32)), (.ref a1)])) (fun _ k => XS.iloadN X1.here hx rfl (hb hby d5_8) rfl  k) ?_
  obtain ⟨_, _, ⟨T6, L6, k6, n6⟩, -, X6, ⟨Lc6, hQ6, l6, y6, z6⟩, st6⟩ := Jvm.LawKit.callS X1 hx (y := (⟨"java/lang/StringUTF16", "compress", "([CI[BII)I"⟩ : MethodName)) hown (mvT hZ (own_w hw 31 rfl)) (mvT hZ (own_w hw 32 rfl)) (mvT hZ (own_w hw 29 rfl)) (mvT hZ (own_w hw 33 rfl)) (by decide) (backOf (W := 0) (own_cmpI2 l Z a0 hw [] a1 b1 k1 kc1 c0 c1 h1 n0 (Nat.le_trans Z0 K5.1) V_4 V_b1 g_b1 ne_a1_b1_2 hh0 hh1) hZ (own_w hw 33 rfl) (own_w hw 29 rfl) (by decide) (by decide)) (g := (mkF m 9 #[.val (.ref a1), .val (.int (0 : Int32)), .val (.int (2 : Int32)), .val (.ref b1), .unset, .unset] [(.int (2 : Int32)), (.int (0 : Int32)), (.ref b1), (.int (0 : Int32)), (.ref a1)])) rfl (by rw [hml]; rfl) (argsL := [(.ref a1), (.int (0 : Int32)), (.ref b1), (.int (0 : Int32)), (.int (2 : Int32))]) (rest := []) (lenOf own_pd0 rfl) rfl (by show 2 * 0 + _ ≤ _; exact Nat.le_of_eq rfl) (hb hby d5_9) (fun _ _ => ⟨rfl, e1, (by decide : 1 + 0 ≤ _), (by decide : 2 + 0 ≤ _)⟩)
  dsimp only [Pt.U, Pt.locs, Pt.cells, Pt.slots] at X6 l6 y6 z6 st6 hQ6
  subst l6 y6 z6
  obtain ⟨rfl, N6q, K6q, Q6_0⟩ := hQ6
  have N6 := Fr.app N0 N6q
  have V_8 := V_4.keep K6q (ninS ne_a1_b1_2 nin0)
  have K10 : Keep h0 T6.heap [] := K5.trans K6q (allS (Or.inr sz_b1) all0)
  refine own_go (B := T6.setTop (mkF m 12 #[.val (.ref a1), .val (.int (0 : Int32)), .val (.int (2 : Int32)), .val (.ref b1), .unset, .unset] [(.int (2 : Int32))])) st6 ?_
  refine own_go (B := T6.setTop (mkF m 14 #[.val (.ref a1), .val (.int (0 : Int32)), .val (.int (2 : Int32)), .val (.ref b1), .val (.int (2 : Int32)), .unset] [])) (fun _ k => XS.istore X6.here hx rfl (hb hby d5_12) rfl (l' := #[.val (.ref a1), .val (.int (0 : Int32)), .val (.int (2 : Int32)), .val (.ref b1), .val (.int (2 : Int32)), .unset]) rfl k) ?_
  refine own_go (B := T6.setTop (mkF m 16 #[.val (.ref a1), .val (.int (0 : Int32)), .val (.int (2 : Int32)), .val (.ref b1), .val (.int (2 : Int32)), .unset] [(.int (2 : Int32))])) (fun _ k => XS.iload X6.here hx rfl (hb hby d5_14) rfl  k) ?_
  refine own_go (B := T6.setTop (mkF m 17 #[.val (.ref a1), .val (.int (0 : Int32)), .val (.int (2 : Int32)), .val (.ref b1), .val (.int (2 : Int32)), .unset] [(.int (2 : Int32)), (.int (2 : Int32))])) (fun _ k => XS.iloadN X6.here hx rfl (hb hby d5_16) rfl  k) ?_
  have hc11 : (2 : Int32) = (2 : Int32) := by decide
  refine own_go (B := T6.setTop (mkF m 57 #[.val (.ref a1), .val (.int (0 : Int32)), .val (.int (2 : Int32)), .val (.ref b1), .val (.int (2 : Int32)), .unset] [])) (fun _ k => XS.icmpYes X6.here hx rfl (pc0 := 17) (pc' := 57) rfl (hb hby d5_17) rfl (teq hc11).1 (by decide) (by decide) k) ?_
  refine own_go (B := T6.setTop (mkF m 58 #[.val (.ref a1), .val (.int (0 : Int32)), .val (.int (2 : Int32)), .val (.ref b1), .val (.int (2 : Int32)), .unset] [(.ref b1)])) (fun _ k => XS.aloadN X6.here hx rfl (hb hby d5_57) rfl rfl k) ?_
  exact own_retA X6 hx Bd.notSynchronized Bd.returns rfl rfl (hb hby d5_58) rfl ⟨b1, kc1, rfl, N6, K10, Q6_0, sz_b1⟩ (by decide) (by decide)
abbrev R_own_cod2 : Room := { frames := 0, cells := 0, slots := 0, locals := 0 }
theorem d7_0 : decode jdk_52_method_15_code 0 = .ok (.iload_n 1, 1) := by decide +kernel
theorem d7_1 : decode jdk_52_method_15_code 1 = .ok (.aload_n 0, 1) := by decide +kernel
theorem d7_2 : decode jdk_52_method_15_code 2 = .ok (.arraylength, 1) := by decide +kernel
theorem d7_3 : decode jdk_52_method_15_code 3 = .ok (.isub, 1) := by decide +kernel
theorem d7_4 : decode jdk_52_method_15_code 4 = .ok (.bipush 31, 2) := by decide +kernel
theorem d7_6 : decode jdk_52_method_15_code 6 = .ok (.iushr, 1) := by decide +kernel
theorem d7_7 : decode jdk_52_method_15_code 7 = .ok (.i2b, 1) := by decide +kernel
theorem d7_8 : decode jdk_52_method_15_code 8 = .ok (.ireturn, 1) := by decide +kernel
theorem ef_own_cod2 (m : MethodId) (x0 : Addr) : entryFrame m #[(.ref x0), (.int (2 : Int32))] 2 = mkF m 0 #[.val (.ref x0), .val (.int (2 : Int32))] [] := by first | (simp [entryFrame, mkF, argsToLocals, Value.category]; done) | rfl
def Q_own_cod2 (Z : State) (a1 : Addr) (k1 : ClassId) (v0 : Int32) (v1 : Int32) (h0 : Heap) (n0 : Nat) (v : Option Value) (h : Heap) (L : List Loc) : Prop := v = some (.int (0 : Int32)) ∧ Fr n0 L ∧ h = h0
set_option maxRecDepth 65536 in
set_option maxHeartbeats 400000000 in
theorem own_cod2 (l : Launch) (Z : State) (a0 : Array Value) (hw : ∀ d ∈ tables_1, d.before a0 Z = true) (ws : List Jvm.Cond) (a1 : Addr) (k1 : ClassId) (v0 : Int32) (v1 : Int32) (h0 : Heap) (n0 : Nat) (Z0 : n0 ≤ h0.size) (P_V_a1 : Arv Z h0 a1 k1 .byte (2 : Int32) [(.int v0), (.int v1)] (.int (0 : Int32))) :
    MetFree l (⟨"java/lang/StringUTF16", "coderFromArrayLen", "([BI)B"⟩ : MethodName) (head1 (Jvm.Cond.code (⟨"java/lang/StringUTF16", "coderFromArrayLen", "([BI)B"⟩ : MethodName) jdk_52_method_15_code 2 (some .byte) :: ws) R_own_cod2) (fun a U => a = #[(.ref a1), (.int (2 : Int32))] ∧ Z.Warmed39 U.vm ∧ U.heap = h0) (fun _ _ _ _ _ => True) (fun _ U o U' => ∃ v L, o = .returned v ∧ Q_own_cod2 Z a1 k1 v0 v1 h0 n0 v U'.heap L ∧ FrameEnd U o U' L R_own_cod2.cells R_own_cod2.slots) := by
  refine MetFree.of_bodySF (plainFor_of_name own_pn0) hisR ?_
  intro p e s m args below meth c s₁ Bd hml0 hP hK
  obtain ⟨rfl, hZ, hh⟩ := hP
  have hx := Bd.exec
  have hby := Bd.bytes
  have hml : c.maxLocals = 2 := hml0
  have hown : s.vm.findClass "java/lang/StringUTF16" = some m.cls := findClass_of_methodNamed Bd.named
  have hnm := (name_of_methodNamed Bd.named Bd.method).1
  have X0 : Stand p l e R_own_cod2 s m #[(.ref a1), (.int (2 : Int32))] below meth c s₁ [] 0 0 := Stand.of_body Bd
  have e0 : s₁.heap = h0 := by rw [← hh, Bd.state]; rfl
  have N0 := Fr.nil n0
  have K0 : Keep h0 h0 [] := Keep.refl h0 []
  show own_Fin p e below s (Q_own_cod2 Z a1 k1 v0 v1 h0 n0) R_own_cod2.cells R_own_cod2.slots (s₁.setTop (entryFrame m #[(.ref a1), (.int (2 : Int32))] 2))
  refine own_go (fun _ k => castTop (ef_own_cod2 m a1) k) ?_
  show own_Fin _ _ _ _ _ _ _ (s₁.setTop (mkF m 0 #[.val (.ref a1), .val (.int (2 : Int32))] []))
  refine own_go (B := s₁.setTop (mkF m 1 #[.val (.ref a1), .val (.int (2 : Int32))] [(.int (2 : Int32))])) (fun _ k => XS.iloadN X0.here hx rfl (hb hby d7_0) rfl  k) ?_
  refine own_go (B := s₁.setTop (mkF m 2 #[.val (.ref a1), .val (.int (2 : Int32))] [(.ref a1), (.int (2 : Int32))])) (fun _ k => XS.aloadN X0.here hx rfl (hb hby d7_1) rfl rfl k) ?_
  obtain ⟨cl1, Ar1, q1, S1, N1n, H1, G1⟩ := id P_V_a1
  refine own_go (fun _ k => X0.arraylength hx (own_hc e0 Ar1.1) (State.isArrayOf_alike hZ.alike Ar1.2.1) (g := (mkF m 2 #[.val (.ref a1), .val (.int (2 : Int32))] [(.ref a1), (.int (2 : Int32))])) rfl rfl (hb hby d7_2) _ k) ?_
  rw [len_of S1 N1n]
  show own_Fin _ _ _ _ _ _ _ (s₁.setTop (mkF m 3 #[.val (.ref a1), .val (.int (2 : Int32))] [(.int (2 : Int32)), (.int (2 : Int32))]))
  refine own_go (B := s₁.setTop (mkF m 4 #[.val (.ref a1), .val (.int (2 : Int32))] [(.int ((2 : Int32) - (2 : Int32)))])) (fun _ k => XS.isub X0.here hx rfl (hb hby d7_3) rfl k) ?_
  rw [show ((2 : Int32) - (2 : Int32)) = (0 : Int32) from by decide]
  show own_Fin _ _ _ _ _ _ _ (s₁.setTop (mkF m 4 #[.val (.ref a1), .val (.int (2 : Int32))] [(.int (0 : Int32))]))
  refine own_go (B := s₁.setTop (mkF m 6 #[.val (.ref a1), .val (.int (2 : Int32))] [(.int (31 : Int32)), (.int (0 : Int32))])) (fun _ k => XS.bipush X0.here hx rfl (hb hby d7_4) k) ?_
  refine own_go (B := s₁.setTop (mkF m 7 #[.val (.ref a1), .val (.int (2 : Int32))] [(.int (((0 : Int32).toUInt32 >>> ((31 : Int32) &&& 31).toUInt32).toInt32))])) (fun _ k => XS.iushr X0.here hx rfl (hb hby d7_6) rfl k) ?_
  rw [show (((0 : Int32).toUInt32 >>> ((31 : Int32) &&& 31).toUInt32).toInt32) = (0 : Int32) from by decide]
  show own_Fin _ _ _ _ _ _ _ (s₁.setTop (mkF m 7 #[.val (.ref a1), .val (.int (2 : Int32))] [(.int (0 : Int32))]))
  refine own_go (B := s₁.setTop (mkF m 8 #[.val (.ref a1), .val (.int (2 : Int32))] [(.int ((0 : Int32).toInt8.toInt32))])) (fun _ k => XS.i2b X0.here hx rfl (hb hby d7_7) rfl k) ?_
  rw [show ((0 : Int32).toInt8.toInt32) = (0 : Int32) from by decide]
  show own_Fin _ _ _ _ _ _ _ (s₁.setTop (mkF m 8 #[.val (.ref a1), .val (.int (2 : Int32))] [(.int (0 : Int32))]))
  exact own_retN X0 hx Bd.notSynchronized (t := .byte) (w := (0 : Int32)) Bd.returns (by simp) (hb hby d7_8) e0 rfl ⟨rfl, N0, rfl⟩ (by decide) (by decide)
abbrev R_own_str4_2 : Room := { frames := 2, cells := 1, slots := 2, locals := 35 }
theorem d3_0 : decode jdk_42_method_149_code 0 = .ok (.aload_n 0, 1) := by decide +kernel
theorem d3_1 : decode jdk_42_method_149_code 1 = .ok (.invokespecial 1, 3) := by decide +kernel
theorem d3_4 : decode jdk_42_method_149_code 4 = .ok (.iload_n 3, 1) := by decide +kernel
theorem d3_5 : decode jdk_42_method_149_code 5 = .ok (.ifCond .ne 22, 3) := by decide +kernel
theorem d3_27 : decode jdk_42_method_149_code 27 = .ok (.getstatic 38, 3) := by decide +kernel
theorem d3_30 : decode jdk_42_method_149_code 30 = .ok (.ifCond .eq 28, 3) := by decide +kernel
theorem d3_33 : decode jdk_42_method_149_code 33 = .ok (.aload_n 1, 1) := by decide +kernel
theorem d3_34 : decode jdk_42_method_149_code 34 = .ok (.iload_n 2, 1) := by decide +kernel
theorem d3_35 : decode jdk_42_method_149_code 35 = .ok (.iload_n 3, 1) := by decide +kernel
theorem d3_36 : decode jdk_42_method_149_code 36 = .ok (.invokestatic 177, 3) := by decide +kernel
theorem d3_39 : decode jdk_42_method_149_code 39 = .ok (.astore 5, 2) := by decide +kernel
theorem d3_41 : decode jdk_42_method_149_code 41 = .ok (.aload_n 0, 1) := by decide +kernel
theorem d3_42 : decode jdk_42_method_149_code 42 = .ok (.aload 5, 2) := by decide +kernel
theorem d3_44 : decode jdk_42_method_149_code 44 = .ok (.iload_n 3, 1) := by decide +kernel
theorem d3_45 : decode jdk_42_method_149_code 45 = .ok (.invokestatic 47, 3) := by decide +kernel
theorem d3_48 : decode jdk_42_method_149_code 48 = .ok (.putfield 15, 3) := by decide +kernel
theorem d3_51 : decode jdk_42_method_149_code 51 = .ok (.aload_n 0, 1) := by decide +kernel
theorem d3_52 : decode jdk_42_method_149_code 52 = .ok (.aload 5, 2) := by decide +kernel
theorem d3_54 : decode jdk_42_method_149_code 54 = .ok (.putfield 9, 3) := by decide +kernel
theorem d3_57 : decode jdk_42_method_149_code 57 = .ok (.return_, 1) := by decide +kernel
theorem own_pn1 : plainName "java/lang/String" = true := by first | (simp [plainName, overriddenIn]; done) | decide +kernel
theorem ef_own_str4_2 (m : MethodId) (x0 : Addr) (x1 : Addr) : entryFrame m #[(.ref x0), (.ref x1), (.int (0 : Int32)), (.int (2 : Int32)), .null] 6 = mkF m 0 #[.val (.ref x0), .val (.ref x1), .val (.int (0 : Int32)), .val (.int (2 : Int32)), .val .null, .unset] [] := by first | (simp [entryFrame, mkF, argsToLocals, Value.category]; done) | rfl
def Q_own_str4_2 (Z : State) (a1 : Addr) (a2 : Addr) (k2 : ClassId) (c0 : Int32) (c1 : Int32) (cs : Int32) (h0 : Heap) (n0 : Nat) (v : Option Value) (h : Heap) (L : List Loc) : Prop := ∃ t : Addr, ∃ kt : ClassId, v = none ∧ Fr n0 L ∧ Keep h0 h [a1] ∧ Exa Z h a1 "java/lang/String" ∧ Fld Z h a1 "java/lang/String" "value" "[B" (.ref t) ∧ Fld Z h a1 "java/lang/String" "coder" "B" (.int (0 : Int32)) ∧ Arv Z h t kt .byte (2 : Int32) [(.int (c0.toInt8.toInt32)), (.int (c1.toInt8.toInt32))] (.int (0 : Int32)) ∧ (h0.size ≤ t)
set_option maxRecDepth 65536 in
set_option maxHeartbeats 400000000 in
theorem own_str4_2 (l : Launch) (Z : State) (a0 : Array Value) (hw : ∀ d ∈ tables_1, d.before a0 Z = true) (ws : List Jvm.Cond) (a1 : Addr) (a2 : Addr) (k2 : ClassId) (c0 : Int32) (c1 : Int32) (cs : Int32) (h0 : Heap) (n0 : Nat) (Z0 : n0 ≤ h0.size) (P_E_a1 : Exa Z h0 a1 "java/lang/String") (P_F_a1_value : Fld Z h0 a1 "java/lang/String" "value" "[B" .null) (P_F_a1_coder : Fld Z h0 a1 "java/lang/String" "coder" "B" (.int (0 : Int32))) (P_V_a2 : Arv Z h0 a2 k2 .char (2 : Int32) [(.int c0), (.int c1)] (.int (0 : Int32))) (g_a1 : n0 ≤ a1) (ne_a1_a2 : a1 ≠ a2) (P_S_java_lang_String_COMPACT_STRINGS : Sta Z h0 "java/lang/String" "COMPACT_STRINGS" "Z" (.int cs)) (hcs : ¬ (cs = (0 : Int32))) (hh0 : c0.toInt ≤ 255) (hh1 : c1.toInt ≤ 255) :
    MetFree l (⟨"java/lang/String", "<init>", "([CIILjava/lang/Void;)V"⟩ : MethodName) (head1 (Jvm.Cond.code (⟨"java/lang/String", "<init>", "([CIILjava/lang/Void;)V"⟩ : MethodName) jdk_42_method_149_code 6 none :: ws) R_own_str4_2) (fun a U => a = #[(.ref a1), (.ref a2), (.int (0 : Int32)), (.int (2 : Int32)), .null] ∧ Z.Warmed39 U.vm ∧ U.heap = h0) (fun _ _ _ _ _ => True) (fun _ U o U' => ∃ v L, o = .returned v ∧ Q_own_str4_2 Z a1 a2 k2 c0 c1 cs h0 n0 v U'.heap L ∧ FrameEnd U o U' L R_own_str4_2.cells R_own_str4_2.slots) := by
  refine MetFree.of_bodySF (plainFor_of_name own_pn1) hisR ?_
  intro p e s m args below meth c s₁ Bd hml0 hP hK
  obtain ⟨rfl, hZ, hh⟩ := hP
  have hx := Bd.exec
  have hby := Bd.bytes
  have hml : c.maxLocals = 6 := hml0
  have hown : s.vm.findClass "java/lang/String" = some m.cls := findClass_of_methodNamed Bd.named
  have hnm := (name_of_methodNamed Bd.named Bd.method).1
  have X0 : Stand p l e R_own_str4_2 s m #[(.ref a1), (.ref a2), (.int (0 : Int32)), (.int (2 : Int32)), .null] below meth c s₁ [] 0 0 := Stand.of_body Bd
  have e0 : s₁.heap = h0 := by rw [← hh, Bd.state]; rfl
  have N0 := Fr.nil n0
  have K0 : Keep h0 h0 [a1] := Keep.refl h0 [a1]
  show own_Fin p e below s (Q_own_str4_2 Z a1 a2 k2 c0 c1 cs h0 n0) R_own_str4_2.cells R_own_str4_2.slots (s₁.setTop (entryFrame m #[(.ref a1), (.ref a2), (.int (0 : Int32)), (.int (2 : Int32)), .null] 6))
  refine own_go (fun _ k => castTop (ef_own_str4_2 m a1 a2) k) ?_
  show own_Fin _ _ _ _ _ _ _ (s₁.setTop (mkF m 0 #[.val (.ref a1), .val (.ref a2), .val (.int (0 : Int32)), .val (.int (2 : Int32)), .val .null, .unset] []))
  refine own_go (B := s₁.setTop (mkF m 1 #[.val (.ref a1), .val (.ref a2), .val (.int (0 : Int32)), .val (.int (2 : Int32)), .val .null, .unset] [(.ref a1)])) (fun _ k => XS.aloadN X0.here hx rfl (hb hby d3_0) rfl rfl k) ?_
  obtain ⟨T1, X1, e1, st1⟩ := initO X0 hx hZ hown (own_w hw 23 rfl) (own_w hw 24 rfl) (own_w hw 25 rfl) e0 (g := (mkF m 1 #[.val (.ref a1), .val (.ref a2), .val (.int (0 : Int32)), .val (.int (2 : Int32)), .val .null, .unset] [(.ref a1)])) rfl (by rw [hml]; rfl) rfl (hb hby d3_1) (by decide) (W := 0) (by show 2 * 0 + _ ≤ _; exact Nat.le_of_eq rfl) (by decide)
  refine own_go (B := T1.setTop (mkF m 4 #[.val (.ref a1), .val (.ref a2), .val (.int (0 : Int32)), .val (.int (2 : Int32)), .val .null, .unset] [])) st1 ?_
  refine own_go (B := T1.setTop (mkF m 5 #[.val (.ref a1), .val (.ref a2), .val (.int (0 : Int32)), .val (.int (2 : Int32)), .val .null, .unset] [(.int (2 : Int32))])) (fun _ k => XS.iloadN X1.here hx rfl (hb hby d3_4) rfl  k) ?_
  have hc2 : ¬ ((2 : Int32) = (0 : Int32)) := by decide
  refine own_go (B := T1.setTop (mkF m 27 #[.val (.ref a1), .val (.ref a2), .val (.int (0 : Int32)), .val (.int (2 : Int32)), .val .null, .unset] [])) (fun _ k => XS.ifYes X1.here hx rfl (pc0 := 5) (pc' := 27) rfl (hb hby d3_5) rfl ((if0 _ _).trans (feq hc2).2) (by decide) (by decide) k) ?_
  obtain ⟨T3, X3, e3, st3⟩ := getS2 X1 hx hZ hown (host := "") (Or.inl (own_w hw 26 rfl)) Via.refl e1 P_S_java_lang_String_COMPACT_STRINGS (g := (mkF m 27 #[.val (.ref a1), .val (.ref a2), .val (.int (0 : Int32)), .val (.int (2 : Int32)), .val .null, .unset] [])) rfl (hb hby d3_27)
  refine own_go (B := T3.setTop (mkF m 30 #[.val (.ref a1), .val (.ref a2), .val (.int (0 : Int32)), .val (.int (2 : Int32)), .val .null, .unset] [(.int cs)])) st3 ?_
  refine own_go (B := T3.setTop (mkF m 33 #[.val (.ref a1), .val (.ref a2), .val (.int (0 : Int32)), .val (.int (2 : Int32)), .val .null, .unset] [])) (fun _ k => XS.ifNo X3.here hx rfl (hb hby d3_30) rfl ((if0 _ _).trans (feq hcs).1) k) ?_
  refine own_go (B := T3.setTop (mkF m 34 #[.val (.ref a1), .val (.ref a2), .val (.int (0 : Int32)), .val (.int (2 : Int32)), .val .null, .unset] [(.ref a2)])) (fun _ k => XS.aloadN X3.here hx rfl (hb hby d3_33) rfl rfl k) ?_
  refine own_go (B := T3.setTop (mkF m 35 #[.val (.ref a1), .val (.ref a2), .val (.int (0 : Int32)), .val (.int (2 : Int32)), .val .null, .unset] [(.int (0 : Int32)), (.ref a2)])) (fun _ k => XS.iloadN X3.here hx rfl (hb hby d3_34) rfl  k) ?_
  refine own_go (B := T3.setTop (mkF m 36 #[.val (.ref a1), .val (.ref a2), .val (.int (0 : Int32)), .val (.int (2 : Int32)), .val .null, .unset] [(.int (2 : Int32)), (.int (0 : Int32)), (.ref a2)])) (fun _ k => XS.iloadN X3.here hx rfl (hb hby d3_35) rfl  k) ?_
  obtain ⟨_, _, ⟨T4, L4, k4, n4⟩, -, X4, ⟨Lc4, hQ4, l4, y4, z4⟩, st4⟩ := Jvm.LawKit.callS X3 hx (y := (⟨"java/lang/StringUTF16", "compress", "([CII)[B"⟩ : MethodName)) hown (mvT hZ (own_w hw 27 rfl)) (mvT hZ (own_w hw 28 rfl)) (mvT hZ (own_w hw 29 rfl)) (mvT hZ (own_w hw 30 rfl)) (by decide) (backOf (W := 0) (own_cmpB2 l Z a0 hw [] a2 k2 c0 c1 h0 n0 (Nat.le_trans Z0 K0.1) P_V_a2 hh0 hh1) hZ (own_w hw 30 rfl) (own_w hw 29 rfl) (by decide) (by decide)) (g := (mkF m 36 #[.val (.ref a1), .val (.ref a2), .val (.int (0 : Int32)), .val (.int (2 : Int32)), .val .null, .unset] [(.int (2 : Int32)), (.int (0 : Int32)), (.ref a2)])) rfl (by rw [hml]; rfl) (argsL := [(.ref a2), (.int (0 : Int32)), (.int (2 : Int32))]) (rest := []) (lenOf own_pd1 rfl) rfl (by show 2 * 0 + _ ≤ _; exact Nat.le_of_eq rfl) (hb hby d3_36) (fun _ _ => ⟨rfl, e3, (by decide : 0 + 1 ≤ _), (by decide : 0 + 2 ≤ _)⟩)
  dsimp only [Pt.U, Pt.locs, Pt.cells, Pt.slots] at X4 l4 y4 z4 st4 hQ4
  subst l4 y4 z4
  obtain ⟨b_4, kb_4, rfl, N4q, K4q, Q4_0, x4_0⟩ := hQ4
  have N4 := Fr.app N0 N4q
  have ne_a1_b_4_5 : a1 ≠ b_4 := Nat.ne_of_lt (Nat.lt_of_lt_of_le P_E_a1.lt x4_0)
  have ne_a2_b_4_6 : a2 ≠ b_4 := Nat.ne_of_lt (Nat.lt_of_lt_of_le P_V_a2.lt x4_0)
  have sz_b_4 : h0.size ≤ b_4 := Nat.le_trans K0.1 x4_0
  have g_b_4 : n0 ≤ b_4 := Nat.le_trans Z0 sz_b_4
  have E_8 := P_E_a1.keep K4q
  have F_9 := P_F_a1_value.keep K4q nin0
  have F_10 := P_F_a1_coder.keep K4q nin0
  have V_11 := P_V_a2.keep K4q nin0
  have S_12 := own_Sta_keep P_S_java_lang_String_COMPACT_STRINGS K4q all0
  have K13 : Keep h0 T4.heap [a1] := K0.trans K4q all0
  refine own_go (B := T4.setTop (mkF m 39 #[.val (.ref a1), .val (.ref a2), .val (.int (0 : Int32)), .val (.int (2 : Int32)), .val .null, .unset] [(.ref b_4)])) st4 ?_
  refine own_go (B := T4.setTop (mkF m 41 #[.val (.ref a1), .val (.ref a2), .val (.int (0 : Int32)), .val (.int (2 : Int32)), .val .null, .val (.ref b_4)] [])) (fun _ k => XS.astore X4.here hx rfl (hb hby d3_39) rfl rfl (l' := #[.val (.ref a1), .val (.ref a2), .val (.int (0 : Int32)), .val (.int (2 : Int32)), .val .null, .val (.ref b_4)]) rfl k) ?_
  refine own_go (B := T4.setTop (mkF m 42 #[.val (.ref a1), .val (.ref a2), .val (.int (0 : Int32)), .val (.int (2 : Int32)), .val .null, .val (.ref b_4)] [(.ref a1)])) (fun _ k => XS.aloadN X4.here hx rfl (hb hby d3_41) rfl rfl k) ?_
  refine own_go (B := T4.setTop (mkF m 44 #[.val (.ref a1), .val (.ref a2), .val (.int (0 : Int32)), .val (.int (2 : Int32)), .val .null, .val (.ref b_4)] [(.ref b_4), (.ref a1)])) (fun _ k => XS.aload X4.here hx rfl (hb hby d3_42) rfl rfl k) ?_
  refine own_go (B := T4.setTop (mkF m 45 #[.val (.ref a1), .val (.ref a2), .val (.int (0 : Int32)), .val (.int (2 : Int32)), .val .null, .val (.ref b_4)] [(.int (2 : Int32)), (.ref b_4), (.ref a1)])) (fun _ k => XS.iloadN X4.here hx rfl (hb hby d3_44) rfl  k) ?_
  obtain ⟨_, _, ⟨T14, L14, k14, n14⟩, -, X14, ⟨Lc14, hQ14, l14, y14, z14⟩, st14⟩ := Jvm.LawKit.callS X4 hx (y := (⟨"java/lang/StringUTF16", "coderFromArrayLen", "([BI)B"⟩ : MethodName)) hown (mvT hZ (own_w hw 34 rfl)) (mvT hZ (own_w hw 35 rfl)) (mvT hZ (own_w hw 29 rfl)) (mvT hZ (own_w hw 36 rfl)) (by decide) (backOf (W := 1) (own_cod2 l Z a0 hw [] b_4 kb_4 (c0.toInt8.toInt32) (c1.toInt8.toInt32) T4.heap n0 (Nat.le_trans Z0 K13.1) Q4_0) hZ (own_w hw 36 rfl) (own_w hw 29 rfl) (by decide) (by decide)) (g := (mkF m 45 #[.val (.ref a1), .val (.ref a2), .val (.int (0 : Int32)), .val (.int (2 : Int32)), .val .null, .val (.ref b_4)] [(.int (2 : Int32)), (.ref b_4), (.ref a1)])) rfl (by rw [hml]; rfl) (argsL := [(.ref b_4), (.int (2 : Int32))]) (rest := [(.ref a1)]) (lenOf own_pd2 rfl) rfl (by show 2 * 0 + _ ≤ _; exact Nat.le_of_eq rfl) (hb hby d3_45) (fun _ _ => ⟨rfl, rfl, (by decide : 1 + 0 ≤ _), (by decide : 2 + 0 ≤ _)⟩)
  dsimp only [Pt.U, Pt.locs, Pt.cells, Pt.slots] at X14 l14 y14 z14 st14 hQ14
  subst l14 y14 z14
  obtain ⟨rfl, N14q, e14⟩ := hQ14
  have N14 := Fr.app N4 N14q
  refine own_go (B := T14.setTop (mkF m 48 #[.val (.ref a1), .val (.ref a2), .val (.int (0 : Int32)), .val (.int (2 : Int32)), .val .null, .val (.ref b_4)] [(.int (0 : Int32)), (.ref a1)])) st14 ?_
  obtain ⟨T15, h15, X15, e15, W15, st15⟩ := putFN X14 hx hZ hown (own_w hw 37 rfl) Via.refl e14 F_10 E_8 (Or.inr ⟨(own_w hw 6 rfl), rfl, hnm⟩) (own_w hw 3 rfl) (ty := .byte) (v' := (.int (0 : Int32))) (by decide) rfl rfl (g := (mkF m 48 #[.val (.ref a1), .val (.ref a2), .val (.int (0 : Int32)), .val (.int (2 : Int32)), .val .null, .val (.ref b_4)] [(.int (0 : Int32)), (.ref a1)])) rfl rfl (hb hby d3_48)
  have F_w15 : Fld Z h15 a1 "java/lang/String" "coder" "B" (.int (0 : Int32)) := F_10.same W15
  have E_17 := E_8.wr W15
  have F_18 := F_9.other W15 (Or.inr (slot_ne (Or.inr (own_w hw 5 rfl)) (Or.inr (own_w hw 6 rfl)) (by decide) (t := (.array .byte)) (t' := .byte) (by decide) (by decide)))
  have V_20 := V_11.other W15 (Ne.symm ne_a1_a2)
  have S_21 := S_12.wr W15
  have V_22 := Q4_0.other W15 (Ne.symm ne_a1_b_4_5)
  have K23 : Keep h0 h15 [a1] := K13.wr W15 (Or.inl (List.mem_of_getElem? (i := 0) rfl))
  have N15 := Fr.snoc X15 N14 g_a1
  refine own_go (B := T15.setTop (mkF m 51 #[.val (.ref a1), .val (.ref a2), .val (.int (0 : Int32)), .val (.int (2 : Int32)), .val .null, .val (.ref b_4)] [])) st15 ?_
  refine own_go (B := T15.setTop (mkF m 52 #[.val (.ref a1), .val (.ref a2), .val (.int (0 : Int32)), .val (.int (2 : Int32)), .val .null, .val (.ref b_4)] [(.ref a1)])) (fun _ k => XS.aloadN X15.here hx rfl (hb hby d3_51) rfl rfl k) ?_
  refine own_go (B := T15.setTop (mkF m 54 #[.val (.ref a1), .val (.ref a2), .val (.int (0 : Int32)), .val (.int (2 : Int32)), .val .null, .val (.ref b_4)] [(.ref b_4), (.ref a1)])) (fun _ k => XS.aload X15.here hx rfl (hb hby d3_52) rfl rfl k) ?_
  obtain ⟨T24, h24, X24, e24, W24, st24⟩ := putF X15 hx hZ hown (host := "") (Or.inl (own_w hw 38 rfl)) Via.refl e15 F_18 E_17 (Or.inr ⟨(own_w hw 5 rfl), rfl, hnm⟩) (own_w hw 3 rfl) (ty := (.array .byte)) (by decide) rfl rfl (g := (mkF m 54 #[.val (.ref a1), .val (.ref a2), .val (.int (0 : Int32)), .val (.int (2 : Int32)), .val .null, .val (.ref b_4)] [(.ref b_4), (.ref a1)])) rfl rfl (hb hby d3_54)
  have F_w24 : Fld Z h24 a1 "java/lang/String" "value" "[B" (.ref b_4) := F_18.same W24
  have E_26 := E_17.wr W24
  have V_28 := V_20.other W24 (Ne.symm ne_a1_a2)
  have S_29 := S_21.wr W24
  have V_30 := V_22.other W24 (Ne.symm ne_a1_b_4_5)
  have F_31 := F_w15.other W24 (Or.inr (slot_ne (Or.inr (own_w hw 6 rfl)) (Or.inr (own_w hw 5 rfl)) (by decide) (t := .byte) (t' := (.array .byte)) (by decide) (by decide)))
  have K32 : Keep h0 h24 [a1] := K23.wr W24 (Or.inl (List.mem_of_getElem? (i := 0) rfl))
  have N24 := Fr.snoc X24 N15 g_a1
  refine own_go (B := T24.setTop (mkF m 57 #[.val (.ref a1), .val (.ref a2), .val (.int (0 : Int32)), .val (.int (2 : Int32)), .val .null, .val (.ref b_4)] [])) st24 ?_
  exact own_retV X24 hx Bd.notSynchronized Bd.returns (hb hby d3_57) e24 ⟨b_4, kb_4, rfl, N24, K32, E_26, F_w24, F_31, V_30, x4_0⟩ (by decide) (by decide)
abbrev R_own_str2 : Room := { frames := 3, cells := 1, slots := 2, locals := 52 }
theorem d2_0 : decode jdk_42_method_3_code 0 = .ok (.aload_n 0, 1) := by decide +kernel
theorem d2_1 : decode jdk_42_method_3_code 1 = .ok (.aload_n 1, 1) := by decide +kernel
theorem d2_2 : decode jdk_42_method_3_code 2 = .ok (.iconst 0, 1) := by decide +kernel
theorem d2_3 : decode jdk_42_method_3_code 3 = .ok (.aload_n 1, 1) := by decide +kernel
theorem d2_4 : decode jdk_42_method_3_code 4 = .ok (.arraylength, 1) := by decide +kernel
theorem d2_5 : decode jdk_42_method_3_code 5 = .ok (.aconst_null, 1) := by decide +kernel
theorem d2_6 : decode jdk_42_method_3_code 6 = .ok (.invokespecial 27, 3) := by decide +kernel
theorem d2_9 : decode jdk_42_method_3_code 9 = .ok (.return_, 1) := by decide +kernel
theorem ef_own_str2 (m : MethodId) (x0 : Addr) (x1 : Addr) : entryFrame m #[(.ref x0), (.ref x1)] 2 = mkF m 0 #[.val (.ref x0), .val (.ref x1)] [] := by first | (simp [entryFrame, mkF, argsToLocals, Value.category]; done) | rfl
def Q_own_str2 (Z : State) (a1 : Addr) (a2 : Addr) (k2 : ClassId) (c0 : Int32) (c1 : Int32) (cs : Int32) (h0 : Heap) (n0 : Nat) (v : Option Value) (h : Heap) (L : List Loc) : Prop := ∃ t : Addr, ∃ kt : ClassId, v = none ∧ Fr n0 L ∧ Keep h0 h [a1] ∧ Exa Z h a1 "java/lang/String" ∧ Fld Z h a1 "java/lang/String" "value" "[B" (.ref t) ∧ Fld Z h a1 "java/lang/String" "coder" "B" (.int (0 : Int32)) ∧ Arv Z h t kt .byte (2 : Int32) [(.int (c0.toInt8.toInt32)), (.int (c1.toInt8.toInt32))] (.int (0 : Int32)) ∧ (h0.size ≤ t)
set_option maxRecDepth 65536 in
set_option maxHeartbeats 400000000 in
theorem own_str2 (l : Launch) (Z : State) (a0 : Array Value) (hw : ∀ d ∈ tables_1, d.before a0 Z = true) (ws : List Jvm.Cond) (a1 : Addr) (a2 : Addr) (k2 : ClassId) (c0 : Int32) (c1 : Int32) (cs : Int32) (h0 : Heap) (n0 : Nat) (Z0 : n0 ≤ h0.size) (P_E_a1 : Exa Z h0 a1 "java/lang/String") (P_F_a1_value : Fld Z h0 a1 "java/lang/String" "value" "[B" .null) (P_F_a1_coder : Fld Z h0 a1 "java/lang/String" "coder" "B" (.int (0 : Int32))) (P_V_a2 : Arv Z h0 a2 k2 .char (2 : Int32) [(.int c0), (.int c1)] (.int (0 : Int32))) (g_a1 : n0 ≤ a1) (ne_a1_a2 : a1 ≠ a2) (P_S_java_lang_String_COMPACT_STRINGS : Sta Z h0 "java/lang/String" "COMPACT_STRINGS" "Z" (.int cs)) (hcs : ¬ (cs = (0 : Int32))) (hh0 : c0.toInt ≤ 255) (hh1 : c1.toInt ≤ 255) :
    MetFree l (⟨"java/lang/String", "<init>", "([C)V"⟩ : MethodName) (head1 (Jvm.Cond.code (⟨"java/lang/String", "<init>", "([C)V"⟩ : MethodName) jdk_42_method_3_code 2 none :: ws) R_own_str2) (fun a U => a = #[(.ref a1), (.ref a2)] ∧ Z.Warmed39 U.vm ∧ U.heap = h0) (fun _ _ _ _ _ => True) (fun _ U o U' => ∃ v L, o = .returned v ∧ Q_own_str2 Z a1 a2 k2 c0 c1 cs h0 n0 v U'.heap L ∧ FrameEnd U o U' L R_own_str2.cells R_own_str2.slots) := by
  refine MetFree.of_bodySF (plainFor_of_name own_pn1) hisR ?_
  intro p e s m args below meth c s₁ Bd hml0 hP hK
  obtain ⟨rfl, hZ, hh⟩ := hP
  have hx := Bd.exec
  have hby := Bd.bytes
  have hml : c.maxLocals = 2 := hml0
  have hown : s.vm.findClass "java/lang/String" = some m.cls := findClass_of_methodNamed Bd.named
  have hnm := (name_of_methodNamed Bd.named Bd.method).1
  have X0 : Stand p l e R_own_str2 s m #[(.ref a1), (.ref a2)] below meth c s₁ [] 0 0 := Stand.of_body Bd
  have e0 : s₁.heap = h0 := by rw [← hh, Bd.state]; rfl
  have N0 := Fr.nil n0
  have K0 : Keep h0 h0 [a1] := Keep.refl h0 [a1]
  show own_Fin p e below s (Q_own_str2 Z a1 a2 k2 c0 c1 cs h0 n0) R_own_str2.cells R_own_str2.slots (s₁.setTop (entryFrame m #[(.ref a1), (.ref a2)] 2))
  refine own_go (fun _ k => castTop (ef_own_str2 m a1 a2) k) ?_
  show own_Fin _ _ _ _ _ _ _ (s₁.setTop (mkF m 0 #[.val (.ref a1), .val (.ref a2)] []))
  refine own_go (B := s₁.setTop (mkF m 1 #[.val (.ref a1), .val (.ref a2)] [(.ref a1)])) (fun _ k => XS.aloadN X0.here hx rfl (hb hby d2_0) rfl rfl k) ?_
  refine own_go (B := s₁.setTop (mkF m 2 #[.val (.ref a1), .val (.ref a2)] [(.ref a2), (.ref a1)])) (fun _ k => XS.aloadN X0.here hx rfl (hb hby d2_1) rfl rfl k) ?_
  refine own_go (B := s₁.setTop (mkF m 3 #[.val (.ref a1), .val (.ref a2)] [(.int (0 : Int32)), (.ref a2), (.ref a1)])) (fun _ k => XS.iconst X0.here hx rfl (hb hby d2_2) k) ?_
  refine own_go (B := s₁.setTop (mkF m 4 #[.val (.ref a1), .val (.ref a2)] [(.ref a2), (.int (0 : Int32)), (.ref a2), (.ref a1)])) (fun _ k => XS.aloadN X0.here hx rfl (hb hby d2_3) rfl rfl k) ?_
  obtain ⟨cl1, Ar1, q1, S1, N1n, H1, G1⟩ := id P_V_a2
  refine own_go (fun _ k => X0.arraylength hx (own_hc e0 Ar1.1) (State.isArrayOf_alike hZ.alike Ar1.2.1) (g := (mkF m 4 #[.val (.ref a1), .val (.ref a2)] [(.ref a2), (.int (0 : Int32)), (.ref a2), (.ref a1)])) rfl rfl (hb hby d2_4) _ k) ?_
  rw [len_of S1 N1n]
  show own_Fin _ _ _ _ _ _ _ (s₁.setTop (mkF m 5 #[.val (.ref a1), .val (.ref a2)] [(.int (2 : Int32)), (.int (0 : Int32)), (.ref a2), (.ref a1)]))
  refine own_go (B := s₁.setTop (mkF m 6 #[.val (.ref a1), .val (.ref a2)] [.null, (.int (2 : Int32)), (.int (0 : Int32)), (.ref a2), (.ref a1)])) (fun _ k => XS.aconstNull X0.here hx rfl (hb hby d2_5) k) ?_
  obtain ⟨_, _, ⟨T2, L2, k2, n2⟩, -, X2, ⟨Lc2, hQ2, l2, y2, z2⟩, st2⟩ := X0.specialBack hx (y := (⟨"java/lang/String", "<init>", "([CIILjava/lang/Void;)V"⟩ : MethodName)) rfl hown (mvT hZ (own_w hw 19 rfl)) (mvT hZ (own_w hw 20 rfl)) (mvT hZ (own_w hw 22 rfl)) (by decide) (backOf (W := 0) (own_str4_2 l Z a0 hw [] a1 a2 k2 c0 c1 cs h0 n0 (Nat.le_trans Z0 K0.1) P_E_a1 P_F_a1_value P_F_a1_coder P_V_a2 g_a1 ne_a1_a2 P_S_java_lang_String_COMPACT_STRINGS hcs hh0 hh1) hZ (own_w hw 22 rfl) (own_w hw 2 rfl) (by decide) (by decide)) (g := (mkF m 6 #[.val (.ref a1), .val (.ref a2)] [.null, (.int (2 : Int32)), (.int (0 : Int32)), (.ref a2), (.ref a1)])) rfl (by rw [hml]; rfl) (Steps.refl _) (a := a1) (argsL := [(.ref a2), (.int (0 : Int32)), (.int (2 : Int32)), .null]) (rest := []) (lenOf own_pd3 rfl) rfl (by show 2 * 0 + _ ≤ _; exact Nat.le_of_eq rfl) (hb hby d2_6) (fun _ _ => ⟨rfl, e0, (by decide : 0 + 1 ≤ _), (by decide : 0 + 2 ≤ _)⟩)
  dsimp only [Pt.U, Pt.locs, Pt.cells, Pt.slots] at X2 l2 y2 z2 st2 hQ2
  subst l2 y2 z2
  obtain ⟨t_2, kt_2, rfl, N2q, K2q, Q2_0, Q2_1, Q2_2, Q2_3, x2_0⟩ := hQ2
  have N2 := Fr.app N0 N2q
  have ne_a1_t_2_3 : a1 ≠ t_2 := Nat.ne_of_lt (Nat.lt_of_lt_of_le P_E_a1.lt x2_0)
  have ne_a2_t_2_4 : a2 ≠ t_2 := Nat.ne_of_lt (Nat.lt_of_lt_of_le P_V_a2.lt x2_0)
  have sz_t_2 : h0.size ≤ t_2 := Nat.le_trans K0.1 x2_0
  have g_t_2 : n0 ≤ t_2 := Nat.le_trans Z0 sz_t_2
  have V_9 := P_V_a2.keep K2q (ninS (Ne.symm ne_a1_a2) nin0)
  have S_10 := own_Sta_keep P_S_java_lang_String_COMPACT_STRINGS K2q (allS (own_plain P_E_a1) all0)
  have K11 : Keep h0 T2.heap [a1] := K0.trans K2q (allS (Or.inl (List.mem_of_getElem? (i := 0) rfl)) all0)
  refine own_go (B := T2.setTop (mkF m 9 #[.val (.ref a1), .val (.ref a2)] [])) (fun _ k => st2.trans k) ?_
  exact own_retV X2 hx Bd.notSynchronized Bd.returns (hb hby d2_9) rfl ⟨t_2, kt_2, rfl, N2, K11, Q2_0, Q2_1, Q2_2, Q2_3, x2_0⟩ (by decide) (by decide)
abbrev R_own_canE : Room := { frames := 0, cells := 0, slots := 0, locals := 0 }
theorem d9_0 : decode jdk_43_method_3_code 0 = .ok (.iload_n 0, 1) := by decide +kernel
theorem d9_1 : decode jdk_43_method_3_code 1 = .ok (.sipush 255, 3) := by decide +kernel
theorem d9_4 : decode jdk_43_method_3_code 4 = .ok (.if_icmp .gt 7, 3) := by decide +kernel
theorem d9_7 : decode jdk_43_method_3_code 7 = .ok (.iconst 1, 1) := by decide +kernel
theorem d9_8 : decode jdk_43_method_3_code 8 = .ok (.goto 4, 3) := by decide +kernel
theorem d9_12 : decode jdk_43_method_3_code 12 = .ok (.ireturn, 1) := by decide +kernel
theorem own_pn2 : plainName "java/lang/StringLatin1" = true := by first | (simp [plainName, overriddenIn]; done) | decide +kernel
theorem ef_own_canE (m : MethodId) (x0 : Int32) : entryFrame m #[(.int x0)] 1 = mkF m 0 #[.val (.int x0)] [] := by first | (simp [entryFrame, mkF, argsToLocals, Value.category]; done) | rfl
set_option maxHeartbeats 2000000 in
theorem own_pl_canE_1 (p1 : Int32) (hhi : p1.toInt ≤ 255) : ¬ ((255 : Int32) < p1) := by
  have := rng32 p1
  try simp only [own_i32_255] at *
  have := own_i32_255
  try simp only [Int32.lt_iff_toInt_lt, Int32.le_iff_toInt_le, Int64.lt_iff_toInt_lt, Int64.le_iff_toInt_le, ← Int32.toInt_inj, ← Int64.toInt_inj] at *
  all_goals first | omega | (simp; done)
def Q_own_canE (Z : State) (p1 : Int32) (h0 : Heap) (n0 : Nat) (v : Option Value) (h : Heap) (L : List Loc) : Prop := v = some (.int (1 : Int32)) ∧ Fr n0 L ∧ h = h0
set_option maxRecDepth 65536 in
set_option maxHeartbeats 400000000 in
theorem own_canE (l : Launch) (Z : State) (a0 : Array Value) (hw : ∀ d ∈ tables_1, d.before a0 Z = true) (ws : List Jvm.Cond) (p1 : Int32) (h0 : Heap) (n0 : Nat) (Z0 : n0 ≤ h0.size) (hhi : p1.toInt ≤ 255) :
    MetFree l (⟨"java/lang/StringLatin1", "canEncode", "(C)Z"⟩ : MethodName) (head1 (Jvm.Cond.code (⟨"java/lang/StringLatin1", "canEncode", "(C)Z"⟩ : MethodName) jdk_43_method_3_code 1 (some .boolean) :: ws) R_own_canE) (fun a U => a = #[(.int p1)] ∧ Z.Warmed39 U.vm ∧ U.heap = h0) (fun _ _ _ _ _ => True) (fun _ U o U' => ∃ v L, o = .returned v ∧ Q_own_canE Z p1 h0 n0 v U'.heap L ∧ FrameEnd U o U' L R_own_canE.cells R_own_canE.slots) := by
  refine MetFree.of_bodySF (plainFor_of_name own_pn2) hisR ?_
  intro p e s m args below meth c s₁ Bd hml0 hP hK
  obtain ⟨rfl, hZ, hh⟩ := hP
  have hx := Bd.exec
  have hby := Bd.bytes
  have hml : c.maxLocals = 1 := hml0
  have hown : s.vm.findClass "java/lang/StringLatin1" = some m.cls := findClass_of_methodNamed Bd.named
  have hnm := (name_of_methodNamed Bd.named Bd.method).1
  have X0 : Stand p l e R_own_canE s m #[(.int p1)] below meth c s₁ [] 0 0 := Stand.of_body Bd
  have e0 : s₁.heap = h0 := by rw [← hh, Bd.state]; rfl
  have N0 := Fr.nil n0
  have K0 : Keep h0 h0 [] := Keep.refl h0 []
  show own_Fin p e below s (Q_own_canE Z p1 h0 n0) R_own_canE.cells R_own_canE.slots (s₁.setTop (entryFrame m #[(.int p1)] 1))
  refine own_go (fun _ k => castTop (ef_own_canE m p1) k) ?_
  show own_Fin _ _ _ _ _ _ _ (s₁.setTop (mkF m 0 #[.val (.int p1)] []))
  refine own_go (B := s₁.setTop (mkF m 1 #[.val (.int p1)] [(.int p1)])) (fun _ k => XS.iloadN X0.here hx rfl (hb hby d9_0) rfl  k) ?_
  refine own_go (B := s₁.setTop (mkF m 4 #[.val (.int p1)] [(.int (255 : Int32)), (.int p1)])) (fun _ k => XS.sipush X0.here hx rfl (hb hby d9_1) k) ?_
  have hc1 : ¬ ((255 : Int32) < p1) := (own_pl_canE_1 p1 hhi)
  refine own_go (B := s₁.setTop (mkF m 7 #[.val (.int p1)] [])) (fun _ k => XS.icmpNo X0.here hx rfl (hb hby d9_4) rfl (flt hc1).2.2.1 k) ?_
  refine own_go (B := s₁.setTop (mkF m 8 #[.val (.int p1)] [(.int (1 : Int32))])) (fun _ k => XS.iconst X0.here hx rfl (hb hby d9_7) k) ?_
  refine own_go (B := s₁.setTop (mkF m 12 #[.val (.int p1)] [(.int (1 : Int32))])) (fun _ k => XS.goto X0.here hx rfl (pc0 := 8) (pc' := 12) rfl (hb hby d9_8) (by decide) (by decide) k) ?_
  exact own_retN X0 hx Bd.notSynchronized (t := .boolean) (w := (1 : Int32)) Bd.returns (by simp) (hb hby d9_12) e0 rfl ⟨rfl, N0, rfl⟩ (by decide) (by decide)
abbrev R_own_toB : Room := { frames := 0, cells := 1, slots := 1, locals := 0 }
theorem d10_0 : decode jdk_43_method_46_code 0 = .ok (.iconst 1, 1) := by decide +kernel
theorem d10_1 : decode jdk_43_method_46_code 1 = .ok (.newarray .byte, 2) := by decide +kernel
theorem d10_3 : decode jdk_43_method_46_code 3 = .ok (.dup, 1) := by decide +kernel
theorem d10_4 : decode jdk_43_method_46_code 4 = .ok (.iconst 0, 1) := by decide +kernel
theorem d10_5 : decode jdk_43_method_46_code 5 = .ok (.iload_n 0, 1) := by decide +kernel
theorem d10_6 : decode jdk_43_method_46_code 6 = .ok (.i2b, 1) := by decide +kernel
theorem d10_7 : decode jdk_43_method_46_code 7 = .ok (.bastore, 1) := by decide +kernel
theorem d10_8 : decode jdk_43_method_46_code 8 = .ok (.areturn, 1) := by decide +kernel
theorem ef_own_toB (m : MethodId) (x0 : Int32) : entryFrame m #[(.int x0)] 1 = mkF m 0 #[.val (.int x0)] [] := by first | (simp [entryFrame, mkF, argsToLocals, Value.category]; done) | rfl
def Q_own_toB (Z : State) (p1 : Int32) (h0 : Heap) (n0 : Nat) (v : Option Value) (h : Heap) (L : List Loc) : Prop := ∃ b : Addr, ∃ kb : ClassId, v = some (.ref b) ∧ Fr n0 L ∧ Keep h0 h [] ∧ Arv Z h b kb .byte (1 : Int32) [(.int (p1.toInt8.toInt32))] (.int (0 : Int32)) ∧ (h0.size ≤ b)
set_option maxRecDepth 65536 in
set_option maxHeartbeats 400000000 in
theorem own_toB (l : Launch) (Z : State) (a0 : Array Value) (hw : ∀ d ∈ tables_1, d.before a0 Z = true) (ws : List Jvm.Cond) (p1 : Int32) (h0 : Heap) (n0 : Nat) (Z0 : n0 ≤ h0.size)  :
    MetFree l (⟨"java/lang/StringLatin1", "toBytes", "(C)[B"⟩ : MethodName) (head1 (Jvm.Cond.code (⟨"java/lang/StringLatin1", "toBytes", "(C)[B"⟩ : MethodName) jdk_43_method_46_code 1 (some (.array .byte)) :: ws) R_own_toB) (fun a U => a = #[(.int p1)] ∧ Z.Warmed39 U.vm ∧ U.heap = h0) (fun _ _ _ _ _ => True) (fun _ U o U' => ∃ v L, o = .returned v ∧ Q_own_toB Z p1 h0 n0 v U'.heap L ∧ FrameEnd U o U' L R_own_toB.cells R_own_toB.slots) := by
  refine MetFree.of_bodySF (plainFor_of_name own_pn2) hisR ?_
  intro p e s m args below meth c s₁ Bd hml0 hP hK
  obtain ⟨rfl, hZ, hh⟩ := hP
  have hx := Bd.exec
  have hby := Bd.bytes
  have hml : c.maxLocals = 1 := hml0
  have hown : s.vm.findClass "java/lang/StringLatin1" = some m.cls := findClass_of_methodNamed Bd.named
  have hnm := (name_of_methodNamed Bd.named Bd.method).1
  have X0 : Stand p l e R_own_toB s m #[(.int p1)] below meth c s₁ [] 0 0 := Stand.of_body Bd
  have e0 : s₁.heap = h0 := by rw [← hh, Bd.state]; rfl
  have N0 := Fr.nil n0
  have K0 : Keep h0 h0 [] := Keep.refl h0 []
  show own_Fin p e below s (Q_own_toB Z p1 h0 n0) R_own_toB.cells R_own_toB.slots (s₁.setTop (entryFrame m #[(.int p1)] 1))
  refine own_go (fun _ k => castTop (ef_own_toB m p1) k) ?_
  show own_Fin _ _ _ _ _ _ _ (s₁.setTop (mkF m 0 #[.val (.int p1)] []))
  refine own_go (B := s₁.setTop (mkF m 1 #[.val (.int p1)] [(.int (1 : Int32))])) (fun _ k => XS.iconst X0.here hx rfl (hb hby d10_0) k) ?_
  obtain ⟨T1, h1, kc1, X1, e1, E1, A1, st1⟩ := newP X0 hx hZ (own_w hw 4 rfl) e0 (g := (mkF m 1 #[.val (.int p1)] [(.int (1 : Int32))])) rfl (hb hby d10_1) rfl (by decide) (cap := 1) (by decide) (by decide) (by decide) (by decide)
  obtain ⟨b1, g1⟩ : ∃ z, z = h0.size := ⟨_, rfl⟩
  rw [← g1] at A1 st1
  have sz_b1 : h0.size ≤ b1 := Nat.le_trans K0.1 (Nat.le_of_eq g1.symm)
  have g_b1 : n0 ≤ b1 := Nat.le_trans Z0 sz_b1
  have V_b1 : Arv Z h1 b1 kc1 .byte (1 : Int32) [(.int (0 : Int32))] (.int (0 : Int32)) := (Arv.new A1 (by decide)).pad (pad_rep [] (.int (0 : Int32)) 1)
  have K3 : Keep h0 h1 [] := K0.ext E1
  refine own_go (B := T1.setTop (mkF m 3 #[.val (.int p1)] [(.ref b1)])) st1 ?_
  refine own_go (B := T1.setTop (mkF m 4 #[.val (.int p1)] [(.ref b1), (.ref b1)])) (fun _ k => XS.dup X1.here hx rfl (hb hby d10_3) rfl rfl k) ?_
  refine own_go (B := T1.setTop (mkF m 5 #[.val (.int p1)] [(.int (0 : Int32)), (.ref b1), (.ref b1)])) (fun _ k => XS.iconst X1.here hx rfl (hb hby d10_4) k) ?_
  refine own_go (B := T1.setTop (mkF m 6 #[.val (.int p1)] [(.int p1), (.int (0 : Int32)), (.ref b1), (.ref b1)])) (fun _ k => XS.iloadN X1.here hx rfl (hb hby d10_5) rfl  k) ?_
  refine own_go (B := T1.setTop (mkF m 7 #[.val (.int p1)] [(.int (p1.toInt8.toInt32)), (.int (0 : Int32)), (.ref b1), (.ref b1)])) (fun _ k => XS.i2b X1.here hx rfl (hb hby d10_6) rfl k) ?_
  obtain ⟨cl4, Ar4, q4, S4, N4n, H4, G4⟩ := id V_b1
  have hin5 : ¬ ((0 : Int32) < 0 ∨ cl4.slots.size ≤ ((0 : Int32)).toNatClampNeg) := inb_of S4 ⟨by decide, by decide⟩
  obtain ⟨T5, h5, X5, e5, W5, st5⟩ := stB X1 hx hZ e1 Ar4 (j := (0 : Int32)) hin5 (g := (mkF m 7 #[.val (.int p1)] [(.int (p1.toInt8.toInt32)), (.int (0 : Int32)), (.ref b1), (.ref b1)])) rfl rfl (hb hby d10_7)
  rw [own_narb] at W5
  have V_b1_5 : Arv Z h5 b1 kc1 .byte (1 : Int32) [(.int (p1.toInt8.toInt32))] (.int (0 : Int32)) := Arv.set Ar4 q4 S4 N4n H4 G4 (fits_nar_byte _) W5 0 rfl (Nat.le_of_ble_eq_true rfl)
  have K8 : Keep h0 h5 [] := K3.wr W5 (Or.inr sz_b1)
  have N5 := Fr.snoc X5 N0 g_b1
  refine own_go (B := T5.setTop (mkF m 8 #[.val (.int p1)] [(.ref b1)])) st5 ?_
  exact own_retA X5 hx Bd.notSynchronized Bd.returns rfl rfl (hb hby d10_8) e5 ⟨b1, kc1, rfl, N5, K8, V_b1_5, sz_b1⟩ (by decide) (by decide)
abbrev R_own_strBB : Room := { frames := 1, cells := 0, slots := 0, locals := 12 }
theorem d11_0 : decode jdk_42_method_151_code 0 = .ok (.aload_n 0, 1) := by decide +kernel
theorem d11_1 : decode jdk_42_method_151_code 1 = .ok (.invokespecial 1, 3) := by decide +kernel
theorem d11_4 : decode jdk_42_method_151_code 4 = .ok (.aload_n 0, 1) := by decide +kernel
theorem d11_5 : decode jdk_42_method_151_code 5 = .ok (.aload_n 1, 1) := by decide +kernel
theorem d11_6 : decode jdk_42_method_151_code 6 = .ok (.putfield 9, 3) := by decide +kernel
theorem d11_9 : decode jdk_42_method_151_code 9 = .ok (.aload_n 0, 1) := by decide +kernel
theorem d11_10 : decode jdk_42_method_151_code 10 = .ok (.iload_n 2, 1) := by decide +kernel
theorem d11_11 : decode jdk_42_method_151_code 11 = .ok (.putfield 15, 3) := by decide +kernel
theorem d11_14 : decode jdk_42_method_151_code 14 = .ok (.return_, 1) := by decide +kernel
theorem ef_own_strBB (m : MethodId) (x0 : Addr) (x1 : Addr) : entryFrame m #[(.ref x0), (.ref x1), (.int (0 : Int32))] 3 = mkF m 0 #[.val (.ref x0), .val (.ref x1), .val (.int (0 : Int32))] [] := by first | (simp [entryFrame, mkF, argsToLocals, Value.category]; done) | rfl
def Q_own_strBB (Z : State) (a1 : Addr) (a2 : Addr) (h0 : Heap) (n0 : Nat) (v : Option Value) (h : Heap) (L : List Loc) : Prop := v = none ∧ Fr n0 L ∧ Keep h0 h [a1] ∧ Exa Z h a1 "java/lang/String" ∧ Fld Z h a1 "java/lang/String" "value" "[B" (.ref a2) ∧ Fld Z h a1 "java/lang/String" "coder" "B" (.int (0 : Int32))
set_option maxRecDepth 65536 in
set_option maxHeartbeats 400000000 in
theorem own_strBB (l : Launch) (Z : State) (a0 : Array Value) (hw : ∀ d ∈ tables_1, d.before a0 Z = true) (ws : List Jvm.Cond) (a1 : Addr) (a2 : Addr) (h0 : Heap) (n0 : Nat) (Z0 : n0 ≤ h0.size) (P_E_a1 : Exa Z h0 a1 "java/lang/String") (P_F_a1_value : Fld Z h0 a1 "java/lang/String" "value" "[B" .null) (P_F_a1_coder : Fld Z h0 a1 "java/lang/String" "coder" "B" (.int (0 : Int32))) (g_a1 : n0 ≤ a1) :
    MetFree l (⟨"java/lang/String", "<init>", "([BB)V"⟩ : MethodName) (head1 (Jvm.Cond.code (⟨"java/lang/String", "<init>", "([BB)V"⟩ : MethodName) jdk_42_method_151_code 3 none :: ws) R_own_strBB) (fun a U => a = #[(.ref a1), (.ref a2), (.int (0 : Int32))] ∧ Z.Warmed39 U.vm ∧ U.heap = h0) (fun _ _ _ _ _ => True) (fun _ U o U' => ∃ v L, o = .returned v ∧ Q_own_strBB Z a1 a2 h0 n0 v U'.heap L ∧ FrameEnd U o U' L R_own_strBB.cells R_own_strBB.slots) := by
  refine MetFree.of_bodySF (plainFor_of_name own_pn1) hisR ?_
  intro p e s m args below meth c s₁ Bd hml0 hP hK
  obtain ⟨rfl, hZ, hh⟩ := hP
  have hx := Bd.exec
  have hby := Bd.bytes
  have hml : c.maxLocals = 3 := hml0
  have hown : s.vm.findClass "java/lang/String" = some m.cls := findClass_of_methodNamed Bd.named
  have hnm := (name_of_methodNamed Bd.named Bd.method).1
  have X0 : Stand p l e R_own_strBB s m #[(.ref a1), (.ref a2), (.int (0 : Int32))] below meth c s₁ [] 0 0 := Stand.of_body Bd
  have e0 : s₁.heap = h0 := by rw [← hh, Bd.state]; rfl
  have N0 := Fr.nil n0
  have K0 : Keep h0 h0 [a1] := Keep.refl h0 [a1]
  show own_Fin p e below s (Q_own_strBB Z a1 a2 h0 n0) R_own_strBB.cells R_own_strBB.slots (s₁.setTop (entryFrame m #[(.ref a1), (.ref a2), (.int (0 : Int32))] 3))
  refine own_go (fun _ k => castTop (ef_own_strBB m a1 a2) k) ?_
  show own_Fin _ _ _ _ _ _ _ (s₁.setTop (mkF m 0 #[.val (.ref a1), .val (.ref a2), .val (.int (0 : Int32))] []))
  refine own_go (B := s₁.setTop (mkF m 1 #[.val (.ref a1), .val (.ref a2), .val (.int (0 : Int32))] [(.ref a1)])) (fun _ k => XS.aloadN X0.here hx rfl (hb hby d11_0) rfl rfl k) ?_
  obtain ⟨T1, X1, e1, st1⟩ := initO X0 hx hZ hown (own_w hw 23 rfl) (own_w hw 24 rfl) (own_w hw 25 rfl) e0 (g := (mkF m 1 #[.val (.ref a1), .val (.ref a2), .val (.int (0 : Int32))] [(.ref a1)])) rfl (by rw [hml]; rfl) rfl (hb hby d11_1) (by decide) (W := 0) (by show 2 * 0 + _ ≤ _; exact Nat.le_of_eq rfl) (by decide)
  refine own_go (B := T1.setTop (mkF m 4 #[.val (.ref a1), .val (.ref a2), .val (.int (0 : Int32))] [])) st1 ?_
  refine own_go (B := T1.setTop (mkF m 5 #[.val (.ref a1), .val (.ref a2), .val (.int (0 : Int32))] [(.ref a1)])) (fun _ k => XS.aloadN X1.here hx rfl (hb hby d11_4) rfl rfl k) ?_
  refine own_go (B := T1.setTop (mkF m 6 #[.val (.ref a1), .val (.ref a2), .val (.int (0 : Int32))] [(.ref a2), (.ref a1)])) (fun _ k => XS.aloadN X1.here hx rfl (hb hby d11_5) rfl rfl k) ?_
  obtain ⟨T2, h2, X2, e2, W2, st2⟩ := putF X1 hx hZ hown (host := "") (Or.inl (own_w hw 38 rfl)) Via.refl e1 P_F_a1_value P_E_a1 (Or.inr ⟨(own_w hw 5 rfl), rfl, hnm⟩) (own_w hw 3 rfl) (ty := (.array .byte)) (by decide) rfl rfl (g := (mkF m 6 #[.val (.ref a1), .val (.ref a2), .val (.int (0 : Int32))] [(.ref a2), (.ref a1)])) rfl rfl (hb hby d11_6)
  have F_w2 : Fld Z h2 a1 "java/lang/String" "value" "[B" (.ref a2) := P_F_a1_value.same W2
  have E_4 := P_E_a1.wr W2
  have F_6 := P_F_a1_coder.other W2 (Or.inr (slot_ne (Or.inr (own_w hw 6 rfl)) (Or.inr (own_w hw 5 rfl)) (by decide) (t := .byte) (t' := (.array .byte)) (by decide) (by decide)))
  have K7 : Keep h0 h2 [a1] := K0.wr W2 (Or.inl (List.mem_of_getElem? (i := 0) rfl))
  have N2 := Fr.snoc X2 N0 g_a1
  refine own_go (B := T2.setTop (mkF m 9 #[.val (.ref a1), .val (.ref a2), .val (.int (0 : Int32))] [])) st2 ?_
  refine own_go (B := T2.setTop (mkF m 10 #[.val (.ref a1), .val (.ref a2), .val (.int (0 : Int32))] [(.ref a1)])) (fun _ k => XS.aloadN X2.here hx rfl (hb hby d11_9) rfl rfl k) ?_
  refine own_go (B := T2.setTop (mkF m 11 #[.val (.ref a1), .val (.ref a2), .val (.int (0 : Int32))] [(.int (0 : Int32)), (.ref a1)])) (fun _ k => XS.iloadN X2.here hx rfl (hb hby d11_10) rfl  k) ?_
  obtain ⟨T8, h8, X8, e8, W8, st8⟩ := putFN X2 hx hZ hown (own_w hw 37 rfl) Via.refl e2 F_6 E_4 (Or.inr ⟨(own_w hw 6 rfl), rfl, hnm⟩) (own_w hw 3 rfl) (ty := .byte) (v' := (.int (0 : Int32))) (by decide) rfl rfl (g := (mkF m 11 #[.val (.ref a1), .val (.ref a2), .val (.int (0 : Int32))] [(.int (0 : Int32)), (.ref a1)])) rfl rfl (hb hby d11_11)
  have F_w8 : Fld Z h8 a1 "java/lang/String" "coder" "B" (.int (0 : Int32)) := F_6.same W8
  have E_10 := E_4.wr W8
  have F_12 := F_w2.other W8 (Or.inr (slot_ne (Or.inr (own_w hw 5 rfl)) (Or.inr (own_w hw 6 rfl)) (by decide) (t := (.array .byte)) (t' := .byte) (by decide) (by decide)))
  have K13 : Keep h0 h8 [a1] := K7.wr W8 (Or.inl (List.mem_of_getElem? (i := 0) rfl))
  have N8 := Fr.snoc X8 N2 g_a1
  refine own_go (B := T8.setTop (mkF m 14 #[.val (.ref a1), .val (.ref a2), .val (.int (0 : Int32))] [])) st8 ?_
  exact own_retV X8 hx Bd.notSynchronized Bd.returns (hb hby d11_14) e8 ⟨rfl, N8, K13, E_10, F_12, F_w8⟩ (by decide) (by decide)
abbrev R_own_valC : Room := { frames := 2, cells := 2, slots := 5, locals := 27 }
theorem d8_0 : decode jdk_42_method_139_code 0 = .ok (.getstatic 38, 3) := by decide +kernel
theorem d8_3 : decode jdk_42_method_139_code 3 = .ok (.ifCond .eq 23, 3) := by decide +kernel
theorem d8_6 : decode jdk_42_method_139_code 6 = .ok (.iload_n 0, 1) := by decide +kernel
theorem d8_7 : decode jdk_42_method_139_code 7 = .ok (.invokestatic 1015, 3) := by decide +kernel
theorem d8_10 : decode jdk_42_method_139_code 10 = .ok (.ifCond .eq 16, 3) := by decide +kernel
theorem d8_13 : decode jdk_42_method_139_code 13 = .ok (.new 10, 3) := by decide +kernel
theorem d8_16 : decode jdk_42_method_139_code 16 = .ok (.dup, 1) := by decide +kernel
theorem d8_17 : decode jdk_42_method_139_code 17 = .ok (.iload_n 0, 1) := by decide +kernel
theorem d8_18 : decode jdk_42_method_139_code 18 = .ok (.invokestatic 1018, 3) := by decide +kernel
theorem d8_21 : decode jdk_42_method_139_code 21 = .ok (.iconst 0, 1) := by decide +kernel
theorem d8_22 : decode jdk_42_method_139_code 22 = .ok (.invokespecial 209, 3) := by decide +kernel
theorem d8_25 : decode jdk_42_method_139_code 25 = .ok (.areturn, 1) := by decide +kernel
theorem ef_own_valC (m : MethodId) (x0 : Int32) : entryFrame m #[(.int x0)] 1 = mkF m 0 #[.val (.int x0)] [] := by first | (simp [entryFrame, mkF, argsToLocals, Value.category]; done) | rfl
def Q_own_valC (Z : State) (p1 : Int32) (cs : Int32) (h0 : Heap) (n0 : Nat) (v : Option Value) (h : Heap) (L : List Loc) : Prop := ∃ b : Addr, ∃ t : Addr, ∃ kt : ClassId, v = some (.ref b) ∧ Fr n0 L ∧ Keep h0 h [] ∧ Exa Z h b "java/lang/String" ∧ Fld Z h b "java/lang/String" "value" "[B" (.ref t) ∧ Fld Z h b "java/lang/String" "coder" "B" (.int (0 : Int32)) ∧ Arv Z h t kt .byte (1 : Int32) [(.int (p1.toInt8.toInt32))] (.int (0 : Int32)) ∧ (h0.size ≤ b) ∧ (h0.size ≤ t)
set_option maxRecDepth 65536 in
set_option maxHeartbeats 400000000 in
theorem own_valC (l : Launch) (Z : State) (a0 : Array Value) (hw : ∀ d ∈ tables_1, d.before a0 Z = true) (ws : List Jvm.Cond) (p1 : Int32) (cs : Int32) (h0 : Heap) (n0 : Nat) (Z0 : n0 ≤ h0.size) (P_S_java_lang_String_COMPACT_STRINGS : Sta Z h0 "java/lang/String" "COMPACT_STRINGS" "Z" (.int cs)) (hcs : ¬ (cs = (0 : Int32))) (hhi : p1.toInt ≤ 255) :
    MetFree l (⟨"java/lang/String", "valueOf", "(C)Ljava/lang/String;"⟩ : MethodName) (head1 (Jvm.Cond.code (⟨"java/lang/String", "valueOf", "(C)Ljava/lang/String;"⟩ : MethodName) jdk_42_method_139_code 1 (some (.object "java/lang/String")) :: ws) R_own_valC) (fun a U => a = #[(.int p1)] ∧ Z.Warmed39 U.vm ∧ U.heap = h0) (fun _ _ _ _ _ => True) (fun _ U o U' => ∃ v L, o = .returned v ∧ Q_own_valC Z p1 cs h0 n0 v U'.heap L ∧ FrameEnd U o U' L R_own_valC.cells R_own_valC.slots) := by
  refine MetFree.of_bodySF (plainFor_of_name own_pn1) hisR ?_
  intro p e s m args below meth c s₁ Bd hml0 hP hK
  obtain ⟨rfl, hZ, hh⟩ := hP
  have hx := Bd.exec
  have hby := Bd.bytes
  have hml : c.maxLocals = 1 := hml0
  have hown : s.vm.findClass "java/lang/String" = some m.cls := findClass_of_methodNamed Bd.named
  have hnm := (name_of_methodNamed Bd.named Bd.method).1
  have X0 : Stand p l e R_own_valC s m #[(.int p1)] below meth c s₁ [] 0 0 := Stand.of_body Bd
  have e0 : s₁.heap = h0 := by rw [← hh, Bd.state]; rfl
  have N0 := Fr.nil n0
  have K0 : Keep h0 h0 [] := Keep.refl h0 []
  show own_Fin p e below s (Q_own_valC Z p1 cs h0 n0) R_own_valC.cells R_own_valC.slots (s₁.setTop (entryFrame m #[(.int p1)] 1))
  refine own_go (fun _ k => castTop (ef_own_valC m p1) k) ?_
  show own_Fin _ _ _ _ _ _ _ (s₁.setTop (mkF m 0 #[.val (.int p1)] []))
  obtain ⟨T1, X1, e1, st1⟩ := getS2 X0 hx hZ hown (host := "") (Or.inl (own_w hw 26 rfl)) Via.refl e0 P_S_java_lang_String_COMPACT_STRINGS (g := (mkF m 0 #[.val (.int p1)] [])) rfl (hb hby d8_0)
  refine own_go (B := T1.setTop (mkF m 3 #[.val (.int p1)] [(.int cs)])) st1 ?_
  refine own_go (B := T1.setTop (mkF m 6 #[.val (.int p1)] [])) (fun _ k => XS.ifNo X1.here hx rfl (hb hby d8_3) rfl ((if0 _ _).trans (feq hcs).1) k) ?_
  refine own_go (B := T1.setTop (mkF m 7 #[.val (.int p1)] [(.int p1)])) (fun _ k => XS.iloadN X1.here hx rfl (hb hby d8_6) rfl  k) ?_
  obtain ⟨_, _, ⟨T2, L2, k2, n2⟩, -, X2, ⟨Lc2, hQ2, l2, y2, z2⟩, st2⟩ := Jvm.LawKit.callS X1 hx (y := (⟨"java/lang/StringLatin1", "canEncode", "(C)Z"⟩ : MethodName)) hown (mvT hZ (own_w hw 42 rfl)) (mvT hZ (own_w hw 43 rfl)) (mvT hZ (own_w hw 44 rfl)) (mvT hZ (own_w hw 45 rfl)) (by decide) (backOf (W := 0) (own_canE l Z a0 hw [] p1 h0 n0 (Nat.le_trans Z0 K0.1) hhi) hZ (own_w hw 45 rfl) (own_w hw 44 rfl) (by decide) (by decide)) (g := (mkF m 7 #[.val (.int p1)] [(.int p1)])) rfl (by rw [hml]; rfl) (argsL := [(.int p1)]) (rest := []) (lenOf own_pd4 rfl) rfl (by show 2 * 0 + _ ≤ _; exact Nat.le_of_eq rfl) (hb hby d8_7) (fun _ _ => ⟨rfl, e1, (by decide : 0 + 0 ≤ _), (by decide : 0 + 0 ≤ _)⟩)
  dsimp only [Pt.U, Pt.locs, Pt.cells, Pt.slots] at X2 l2 y2 z2 st2 hQ2
  subst l2 y2 z2
  obtain ⟨rfl, N2q, e2⟩ := hQ2
  have N2 := Fr.app N0 N2q
  refine own_go (B := T2.setTop (mkF m 10 #[.val (.int p1)] [(.int (1 : Int32))])) st2 ?_
  have hc3 : ¬ ((1 : Int32) = (0 : Int32)) := by decide
  refine own_go (B := T2.setTop (mkF m 13 #[.val (.int p1)] [])) (fun _ k => XS.ifNo X2.here hx rfl (hb hby d8_10) rfl ((if0 _ _).trans (feq hc3).1) k) ?_
  obtain ⟨T4, h4, X4, e4, E4, A4, D4, -, st4⟩ := newO X2 hx hZ hown (own_w hw 46 rfl) (own_w hw 3 rfl) (own_w hw 2 rfl) e2 (g := (mkF m 13 #[.val (.int p1)] [])) rfl (hb hby d8_13) (by decide) (by decide)
  obtain ⟨b4, g4⟩ : ∃ z, z = h0.size := ⟨_, rfl⟩
  rw [← g4] at A4 D4 st4
  have sz_b4 : h0.size ≤ b4 := Nat.le_trans K0.1 (Nat.le_of_eq g4.symm)
  have g_b4 : n0 ≤ b4 := Nat.le_trans Z0 sz_b4
  have S_6 := P_S_java_lang_String_COMPACT_STRINGS.ext E4
  have F_value_b4 : Fld Z h4 b4 "java/lang/String" "value" "[B" .null := D4 (Or.inr (own_w hw 5 rfl)) (ty := (.array .byte)) (by decide)
  have F_coder_b4 : Fld Z h4 b4 "java/lang/String" "coder" "B" (.int (0 : Int32)) := D4 (Or.inr (own_w hw 6 rfl)) (ty := .byte) (by decide)
  have K7 : Keep h0 h4 [] := K0.ext E4
  refine own_go (B := T4.setTop (mkF m 16 #[.val (.int p1)] [(.ref b4)])) st4 ?_
  refine own_go (B := T4.setTop (mkF m 17 #[.val (.int p1)] [(.ref b4), (.ref b4)])) (fun _ k => XS.dup X4.here hx rfl (hb hby d8_16) rfl rfl k) ?_
  refine own_go (B := T4.setTop (mkF m 18 #[.val (.int p1)] [(.int p1), (.ref b4), (.ref b4)])) (fun _ k => XS.iloadN X4.here hx rfl (hb hby d8_17) rfl  k) ?_
  obtain ⟨_, _, ⟨T8, L8, k8, n8⟩, -, X8, ⟨Lc8, hQ8, l8, y8, z8⟩, st8⟩ := Jvm.LawKit.callS X4 hx (y := (⟨"java/lang/StringLatin1", "toBytes", "(C)[B"⟩ : MethodName)) hown (mvT hZ (own_w hw 47 rfl)) (mvT hZ (own_w hw 48 rfl)) (mvT hZ (own_w hw 44 rfl)) (mvT hZ (own_w hw 49 rfl)) (by decide) (backOf (W := 2) (own_toB l Z a0 hw [] p1 h4 n0 (Nat.le_trans Z0 K7.1) ) hZ (own_w hw 49 rfl) (own_w hw 44 rfl) (by decide) (by decide)) (g := (mkF m 18 #[.val (.int p1)] [(.int p1), (.ref b4), (.ref b4)])) rfl (by rw [hml]; rfl) (argsL := [(.int p1)]) (rest := [(.ref b4), (.ref b4)]) (lenOf own_pd5 rfl) rfl (by show 2 * 0 + _ ≤ _; exact Nat.le_of_eq rfl) (hb hby d8_18) (fun _ _ => ⟨rfl, e4, (by decide : 1 + 1 ≤ _), (by decide : 4 + 1 ≤ _)⟩)
  dsimp only [Pt.U, Pt.locs, Pt.cells, Pt.slots] at X8 l8 y8 z8 st8 hQ8
  subst l8 y8 z8
  obtain ⟨b_8, kb_8, rfl, N8q, K8q, Q8_0, x8_0⟩ := hQ8
  have N8 := Fr.app N2 N8q
  have ne_b4_b_8_9 : b4 ≠ b_8 := Nat.ne_of_lt (Nat.lt_of_lt_of_le A4.lt x8_0)
  have sz_b_8 : h0.size ≤ b_8 := Nat.le_trans K7.1 x8_0
  have g_b_8 : n0 ≤ b_8 := Nat.le_trans Z0 sz_b_8
  have S_11 := own_Sta_keep S_6 K8q all0
  have E_12 := A4.keep K8q
  have F_13 := F_value_b4.keep K8q nin0
  have F_14 := F_coder_b4.keep K8q nin0
  have K15 : Keep h0 T8.heap [] := K7.trans K8q all0
  refine own_go (B := T8.setTop (mkF m 21 #[.val (.int p1)] [(.ref b_8), (.ref b4), (.ref b4)])) st8 ?_
  refine own_go (B := T8.setTop (mkF m 22 #[.val (.int p1)] [(.int (0 : Int32)), (.ref b_8), (.ref b4), (.ref b4)])) (fun _ k => XS.iconst X8.here hx rfl (hb hby d8_21) k) ?_
  obtain ⟨_, _, ⟨T16, L16, k16, n16⟩, -, X16, ⟨Lc16, hQ16, l16, y16, z16⟩, st16⟩ := X8.specialBack hx (y := (⟨"java/lang/String", "<init>", "([BB)V"⟩ : MethodName)) rfl hown (mvT hZ (own_w hw 50 rfl)) (mvT hZ (own_w hw 51 rfl)) (mvT hZ (own_w hw 52 rfl)) (by decide) (backOf (W := 1) (own_strBB l Z a0 hw [] b4 b_8 T8.heap n0 (Nat.le_trans Z0 K15.1) E_12 F_13 F_14 g_b4) hZ (own_w hw 52 rfl) (own_w hw 2 rfl) (by decide) (by decide)) (g := (mkF m 22 #[.val (.int p1)] [(.int (0 : Int32)), (.ref b_8), (.ref b4), (.ref b4)])) rfl (by rw [hml]; rfl) (Steps.refl _) (a := b4) (argsL := [(.ref b_8), (.int (0 : Int32))]) (rest := [(.ref b4)]) (lenOf own_pd6 rfl) rfl (by show 2 * 0 + _ ≤ _; exact Nat.le_of_eq rfl) (hb hby d8_22) (fun _ _ => ⟨rfl, rfl, (by decide : 2 + 0 ≤ _), (by decide : 5 + 0 ≤ _)⟩)
  dsimp only [Pt.U, Pt.locs, Pt.cells, Pt.slots] at X16 l16 y16 z16 st16 hQ16
  subst l16 y16 z16
  obtain ⟨rfl, N16q, K16q, Q16_0, Q16_1, Q16_2⟩ := hQ16
  have N16 := Fr.app N8 N16q
  have S_18 := own_Sta_keep S_11 K16q (allS (own_plain E_12) all0)
  have V_22 := Q8_0.keep K16q (ninS (Ne.symm ne_b4_b_8_9) nin0)
  have K23 : Keep h0 T16.heap [] := K15.trans K16q (allS (Or.inr sz_b4) all0)
  refine own_go (B := T16.setTop (mkF m 25 #[.val (.int p1)] [(.ref b4)])) (fun _ k => st16.trans k) ?_
  exact own_retA X16 hx Bd.notSynchronized Bd.returns rfl rfl (hb hby d8_25) rfl ⟨b4, b_8, kb_8, rfl, N16, K23, Q16_0, Q16_1, Q16_2, V_22, sz_b4, sz_b_8⟩ (by decide) (by decide)
abbrev R_own_rm1 : Room := { frames := 0, cells := 0, slots := 0, locals := 0 }
theorem d1_0 : decode prog_47_method_2_code 0 = .ok (.lload_n 1, 1) := by decide +kernel
theorem d1_1 : decode prog_47_method_2_code 1 = .ok (.lconst 0, 1) := by decide +kernel
theorem d1_2 : decode prog_47_method_2_code 2 = .ok (.lcmp, 1) := by decide +kernel
theorem d1_3 : decode prog_47_method_2_code 3 = .ok (.ifCond .lt 11, 3) := by decide +kernel
theorem d1_6 : decode prog_47_method_2_code 6 = .ok (.lload_n 1, 1) := by decide +kernel
theorem d1_7 : decode prog_47_method_2_code 7 = .ok (.ldc2_w 107, 3) := by decide +kernel
theorem d1_10 : decode prog_47_method_2_code 10 = .ok (.lcmp, 1) := by decide +kernel
theorem d1_11 : decode prog_47_method_2_code 11 = .ok (.ifCond .le 17, 3) := by decide +kernel
theorem d1_28 : decode prog_47_method_2_code 28 = .ok (.lload_n 1, 1) := by decide +kernel
theorem d1_29 : decode prog_47_method_2_code 29 = .ok (.lreturn, 1) := by decide +kernel
theorem own_pn3 : plainName "com/example/rate_to_limit/ratetolimit/balance/RatingGroupBinding" = true := by first | (simp [plainName, overriddenIn]; done) | decide +kernel
theorem ef_own_rm1 (m : MethodId) (x0 : Addr) (x1 : Int64) : entryFrame m #[(.ref x0), (.long x1)] 3 = mkF m 0 #[.val (.ref x0), .val (.long x1), .second] [] := by first | (simp [entryFrame, mkF, argsToLocals, Value.category]; done) | rfl
set_option maxHeartbeats 2000000 in
theorem own_pl_rm1_1 (q2 : Int64) (hq : 0 ≤ q2.toInt) (hr : q2.toInt ≤ 4294967295) : ¬ (q2 < (0 : Int64)) := by
  have := rng64 q2
  try simp only [own_i64_0] at *
  have := own_i64_0
  try simp only [Int32.lt_iff_toInt_lt, Int32.le_iff_toInt_le, Int64.lt_iff_toInt_lt, Int64.le_iff_toInt_le, ← Int32.toInt_inj, ← Int64.toInt_inj] at *
  all_goals first | omega | (simp; done)
set_option maxHeartbeats 2000000 in
theorem own_pl_rm1_2 (q2 : Int64) (hq : 0 ≤ q2.toInt) (hr : q2.toInt ≤ 4294967295) (hc1 : ¬ (q2 < (0 : Int64))) : ¬ ((4294967295 : Int64) < q2) := by
  have := rng64 q2
  try simp only [own_i64_0, own_i64_4294967295] at *
  have := own_i64_0
  have := own_i64_4294967295
  try simp only [Int32.lt_iff_toInt_lt, Int32.le_iff_toInt_le, Int64.lt_iff_toInt_lt, Int64.le_iff_toInt_le, ← Int32.toInt_inj, ← Int64.toInt_inj] at *
  all_goals first | omega | (simp; done)
def Q_own_rm1 (Z : State) (a1 : Addr) (q2 : Int64) (h0 : Heap) (n0 : Nat) (v : Option Value) (h : Heap) (L : List Loc) : Prop := v = some (.long q2) ∧ Fr n0 L ∧ h = h0
set_option maxRecDepth 65536 in
set_option maxHeartbeats 400000000 in
theorem own_rm1 (l : Launch) (Z : State) (a0 : Array Value) (hw : ∀ d ∈ tables_1, d.before a0 Z = true) (ws : List Jvm.Cond) (a1 : Addr) (q2 : Int64) (h0 : Heap) (n0 : Nat) (Z0 : n0 ≤ h0.size) (hq : 0 ≤ q2.toInt) (hr : q2.toInt ≤ 4294967295) :
    MetFree l (⟨"com/example/rate_to_limit/ratetolimit/balance/RatingGroupBinding", "checkedRatingGroup", "(Ljava/lang/String;J)J"⟩ : MethodName) (head1 (Jvm.Cond.code (⟨"com/example/rate_to_limit/ratetolimit/balance/RatingGroupBinding", "checkedRatingGroup", "(Ljava/lang/String;J)J"⟩ : MethodName) prog_47_method_2_code 3 (some .long) :: ws) R_own_rm1) (fun a U => a = #[(.ref a1), (.long q2)] ∧ Z.Warmed39 U.vm ∧ U.heap = h0) (fun _ _ _ _ _ => True) (fun _ U o U' => ∃ v L, o = .returned v ∧ Q_own_rm1 Z a1 q2 h0 n0 v U'.heap L ∧ FrameEnd U o U' L R_own_rm1.cells R_own_rm1.slots) := by
  refine MetFree.of_bodySF (plainFor_of_name own_pn3) hisR ?_
  intro p e s m args below meth c s₁ Bd hml0 hP hK
  obtain ⟨rfl, hZ, hh⟩ := hP
  have hx := Bd.exec
  have hby := Bd.bytes
  have hml : c.maxLocals = 3 := hml0
  have hown : s.vm.findClass "com/example/rate_to_limit/ratetolimit/balance/RatingGroupBinding" = some m.cls := findClass_of_methodNamed Bd.named
  have hnm := (name_of_methodNamed Bd.named Bd.method).1
  have X0 : Stand p l e R_own_rm1 s m #[(.ref a1), (.long q2)] below meth c s₁ [] 0 0 := Stand.of_body Bd
  have e0 : s₁.heap = h0 := by rw [← hh, Bd.state]; rfl
  have N0 := Fr.nil n0
  have K0 : Keep h0 h0 [] := Keep.refl h0 []
  show own_Fin p e below s (Q_own_rm1 Z a1 q2 h0 n0) R_own_rm1.cells R_own_rm1.slots (s₁.setTop (entryFrame m #[(.ref a1), (.long q2)] 3))
  refine own_go (fun _ k => castTop (ef_own_rm1 m a1 q2) k) ?_
  show own_Fin _ _ _ _ _ _ _ (s₁.setTop (mkF m 0 #[.val (.ref a1), .val (.long q2), .second] []))
  refine own_go (B := s₁.setTop (mkF m 1 #[.val (.ref a1), .val (.long q2), .second] [(.long q2)])) (fun _ k => XS.lloadN X0.here hx rfl (hb hby d1_0) rfl  k) ?_
  refine own_go (B := s₁.setTop (mkF m 2 #[.val (.ref a1), .val (.long q2), .second] [(.long (0 : Int64)), (.long q2)])) (fun _ k => XS.lconst X0.here hx rfl (hb hby d1_1) k) ?_
  refine own_go (B := s₁.setTop (mkF m 3 #[.val (.ref a1), .val (.long q2), .second] [(.int (lcmpW q2 (0 : Int64)))])) (fun _ k => XS.lcmp X0.here hx rfl (hb hby d1_2) rfl k) ?_
  have hc1 : ¬ (q2 < (0 : Int64)) := (own_pl_rm1_1 q2 hq hr)
  refine own_go (B := s₁.setTop (mkF m 6 #[.val (.ref a1), .val (.long q2), .second] [])) (fun _ k => XS.ifNo X0.here hx rfl (hb hby d1_3) rfl ((if0 _ _).trans (flt (mt (lw_lt q2 (0 : Int64)).mp hc1)).1) k) ?_
  refine own_go (B := s₁.setTop (mkF m 7 #[.val (.ref a1), .val (.long q2), .second] [(.long q2)])) (fun _ k => XS.lloadN X0.here hx rfl (hb hby d1_6) rfl  k) ?_
  refine own_go (B := s₁.setTop (mkF m 10 #[.val (.ref a1), .val (.long q2), .second] [(.long (4294967295 : Int64)), (.long q2)])) (fun _ k => X0.ldc2Long hx hown (mvT hZ (own_w hw 13 rfl)) (g := (mkF m 7 #[.val (.ref a1), .val (.long q2), .second] [(.long q2)])) rfl (hb hby d1_7) _ k) ?_
  refine own_go (B := s₁.setTop (mkF m 11 #[.val (.ref a1), .val (.long q2), .second] [(.int (lcmpW q2 (4294967295 : Int64)))])) (fun _ k => XS.lcmp X0.here hx rfl (hb hby d1_10) rfl k) ?_
  have hc2 : ¬ ((4294967295 : Int64) < q2) := (own_pl_rm1_2 q2 hq hr hc1)
  refine own_go (B := s₁.setTop (mkF m 28 #[.val (.ref a1), .val (.long q2), .second] [])) (fun _ k => XS.ifYes X0.here hx rfl (pc0 := 11) (pc' := 28) rfl (hb hby d1_11) rfl ((if0 _ _).trans (flt (mt (lw_gt q2 (4294967295 : Int64)).mp hc2)).2.2.2) (by decide) (by decide) k) ?_
  refine own_go (B := s₁.setTop (mkF m 29 #[.val (.ref a1), .val (.long q2), .second] [(.long q2)])) (fun _ k => XS.lloadN X0.here hx rfl (hb hby d1_28) rfl  k) ?_
  exact own_retJ X0 hx Bd.notSynchronized Bd.returns (hb hby d1_29) e0 ⟨rfl, N0, rfl⟩ (by decide) (by decide)
theorem own_pn4 : plainName "com/example/rate_to_limit/ratetolimit/balance/RatingGroupBindingCheckedRatingGroupPinLaw" = true := by first | (simp [plainName, overriddenIn]; done) | decide +kernel
theorem ef_own_rm0 (m : MethodId) (x0 : Int64) (x1 : Int32) (x2 : Int32) (x3 : Int32) : entryFrame m #[(.long x0), (.int x1), (.int x2), (.int x3)] maxLocals = mkF m 0 #[.val (.long x0), .second, .val (.int x1), .val (.int x2), .val (.int x3), .unset, .unset, .unset, .unset, .unset, .unset, .unset] [] := by first | (simp [entryFrame, mkF, argsToLocals, Value.category, maxLocals]; done) | rfl
set_option maxHeartbeats 2000000 in
theorem own_pl_rm0_1 (p2 : Int32) (cs : Int32) (hcs : ¬ (cs = (0 : Int32))) (hc2 : (p2 &&& (3 : Int32)) = (0 : Int32)) : 0 ≤ (0 : Int64).toInt := by
  have := rng32 cs
  have := rng32 p2
  have := rng32 (p2 &&& (3 : Int32))
  have := Jvm.Kit.i32_mask p2 (3 : Int32) (k := 2) (by decide) (by decide)
  try simp only [own_i32_0, own_i32_3, own_i64_0] at *
  have := own_i32_0
  have := own_i32_3
  have := own_i64_0
  try simp only [Int32.lt_iff_toInt_lt, Int32.le_iff_toInt_le, Int64.lt_iff_toInt_lt, Int64.le_iff_toInt_le, ← Int32.toInt_inj, ← Int64.toInt_inj] at *
  all_goals first | omega | (simp; done)
set_option maxHeartbeats 2000000 in
theorem own_pl_rm0_2 (p2 : Int32) (cs : Int32) (hcs : ¬ (cs = (0 : Int32))) (hc2 : (p2 &&& (3 : Int32)) = (0 : Int32)) : (0 : Int64).toInt ≤ 4294967295 := by
  have := rng32 cs
  have := rng32 p2
  have := rng32 (p2 &&& (3 : Int32))
  have := Jvm.Kit.i32_mask p2 (3 : Int32) (k := 2) (by decide) (by decide)
  try simp only [own_i32_0, own_i32_3, own_i64_0] at *
  have := own_i32_0
  have := own_i32_3
  have := own_i64_0
  try simp only [Int32.lt_iff_toInt_lt, Int32.le_iff_toInt_le, Int64.lt_iff_toInt_lt, Int64.le_iff_toInt_le, ← Int32.toInt_inj, ← Int64.toInt_inj] at *
  all_goals first | omega | (simp; done)
set_option maxHeartbeats 2000000 in
theorem own_pl_rm0_3 (p2 : Int32) (cs : Int32) (hcs : ¬ (cs = (0 : Int32))) (hc2 : ¬ ((p2 &&& (3 : Int32)) = (0 : Int32))) (hc3 : (p2 &&& (3 : Int32)) = (1 : Int32)) : 0 ≤ (4294967295 : Int64).toInt := by
  have := rng32 cs
  have := rng32 p2
  have := rng32 (p2 &&& (3 : Int32))
  have := Jvm.Kit.i32_mask p2 (3 : Int32) (k := 2) (by decide) (by decide)
  try simp only [own_i32_0, own_i32_1, own_i32_3, own_i64_4294967295] at *
  have := own_i32_0
  have := own_i32_1
  have := own_i32_3
  have := own_i64_4294967295
  try simp only [Int32.lt_iff_toInt_lt, Int32.le_iff_toInt_le, Int64.lt_iff_toInt_lt, Int64.le_iff_toInt_le, ← Int32.toInt_inj, ← Int64.toInt_inj] at *
  all_goals first | omega | (simp; done)
set_option maxHeartbeats 2000000 in
theorem own_pl_rm0_4 (p2 : Int32) (cs : Int32) (hcs : ¬ (cs = (0 : Int32))) (hc2 : ¬ ((p2 &&& (3 : Int32)) = (0 : Int32))) (hc3 : (p2 &&& (3 : Int32)) = (1 : Int32)) : (4294967295 : Int64).toInt ≤ 4294967295 := by
  have := rng32 cs
  have := rng32 p2
  have := rng32 (p2 &&& (3 : Int32))
  have := Jvm.Kit.i32_mask p2 (3 : Int32) (k := 2) (by decide) (by decide)
  try simp only [own_i32_0, own_i32_1, own_i32_3, own_i64_4294967295] at *
  have := own_i32_0
  have := own_i32_1
  have := own_i32_3
  have := own_i64_4294967295
  try simp only [Int32.lt_iff_toInt_lt, Int32.le_iff_toInt_le, Int64.lt_iff_toInt_lt, Int64.le_iff_toInt_le, ← Int32.toInt_inj, ← Int64.toInt_inj] at *
  all_goals first | omega | (simp; done)
set_option maxHeartbeats 2000000 in
theorem own_pl_rm0_5 (q1 : Int64) (p2 : Int32) (cs : Int32) (hcs : ¬ (cs = (0 : Int32))) (hc2 : ¬ ((p2 &&& (3 : Int32)) = (0 : Int32))) (hc3 : ¬ ((p2 &&& (3 : Int32)) = (1 : Int32))) : 0 ≤ (q1 &&& (4294967295 : Int64)).toInt := by
  have := rng32 cs
  have := rng32 p2
  have := rng32 (p2 &&& (3 : Int32))
  have := Jvm.Kit.i32_mask p2 (3 : Int32) (k := 2) (by decide) (by decide)
  have := rng64 q1
  have := rng64 (q1 &&& (4294967295 : Int64))
  have := Jvm.Kit.i64_mask q1 (4294967295 : Int64) (k := 32) (by decide) (by decide)
  try simp only [own_i32_0, own_i32_1, own_i32_3, own_i64_4294967295] at *
  have := own_i32_0
  have := own_i32_1
  have := own_i32_3
  have := own_i64_4294967295
  try simp only [Int32.lt_iff_toInt_lt, Int32.le_iff_toInt_le, Int64.lt_iff_toInt_lt, Int64.le_iff_toInt_le, ← Int32.toInt_inj, ← Int64.toInt_inj] at *
  all_goals first | omega | (simp; done)
set_option maxHeartbeats 2000000 in
theorem own_pl_rm0_6 (q1 : Int64) (p2 : Int32) (cs : Int32) (hcs : ¬ (cs = (0 : Int32))) (hc2 : ¬ ((p2 &&& (3 : Int32)) = (0 : Int32))) (hc3 : ¬ ((p2 &&& (3 : Int32)) = (1 : Int32))) : (q1 &&& (4294967295 : Int64)).toInt ≤ 4294967295 := by
  have := rng32 cs
  have := rng32 p2
  have := rng32 (p2 &&& (3 : Int32))
  have := Jvm.Kit.i32_mask p2 (3 : Int32) (k := 2) (by decide) (by decide)
  have := rng64 q1
  have := rng64 (q1 &&& (4294967295 : Int64))
  have := Jvm.Kit.i64_mask q1 (4294967295 : Int64) (k := 32) (by decide) (by decide)
  try simp only [own_i32_0, own_i32_1, own_i32_3, own_i64_4294967295] at *
  have := own_i32_0
  have := own_i32_1
  have := own_i32_3
  have := own_i64_4294967295
  try simp only [Int32.lt_iff_toInt_lt, Int32.le_iff_toInt_le, Int64.lt_iff_toInt_lt, Int64.le_iff_toInt_le, ← Int32.toInt_inj, ← Int64.toInt_inj] at *
  all_goals first | omega | (simp; done)
set_option maxHeartbeats 2000000 in
theorem own_pl_rm0_7 (p2 : Int32) (cs : Int32) (rr : Int64) (hcs : ¬ (cs = (0 : Int32))) (hr0 : 0 ≤ rr.toInt) (hr1 : rr.toInt ≤ 4294967295) (hc5 : (((p2.toUInt32 >>> ((2 : Int32) &&& 31).toUInt32).toInt32) % (3 : Int32)) = (0 : Int32)) : ¬ (rr < (0 : Int64)) := by
  have := rng32 cs
  have := rng64 rr
  have := rng32 p2
  have := rng32 ((p2.toUInt32 >>> ((2 : Int32) &&& 31).toUInt32).toInt32)
  have := own_iushr p2 (n := ((2 : Int32) &&& 31).toUInt32) (k := 2) (by decide) (by decide) (by decide)
  have := rng32 (((p2.toUInt32 >>> ((2 : Int32) &&& 31).toUInt32).toInt32) % (3 : Int32))
  have := Jvm.Kit.i32_rem_nonneg (x := ((p2.toUInt32 >>> ((2 : Int32) &&& 31).toUInt32).toInt32)) (y := (3 : Int32)) (by omega)
  try simp only [own_i32_0, own_i32_2, own_i32_3, own_i64_0] at *
  have := own_i32_0
  have := own_i32_2
  have := own_i32_3
  have := own_i64_0
  try simp only [Int32.lt_iff_toInt_lt, Int32.le_iff_toInt_le, Int64.lt_iff_toInt_lt, Int64.le_iff_toInt_le, ← Int32.toInt_inj, ← Int64.toInt_inj] at *
  all_goals first | omega | (simp; done)
set_option maxHeartbeats 2000000 in
theorem own_pl_rm0_8 (p2 : Int32) (cs : Int32) (rr : Int64) (hcs : ¬ (cs = (0 : Int32))) (hr0 : 0 ≤ rr.toInt) (hr1 : rr.toInt ≤ 4294967295) (hc5 : (((p2.toUInt32 >>> ((2 : Int32) &&& 31).toUInt32).toInt32) % (3 : Int32)) = (0 : Int32)) (hc11 : ¬ (rr < (0 : Int64))) : ¬ ((4294967295 : Int64) < rr) := by
  have := rng32 cs
  have := rng64 rr
  have := rng32 p2
  have := rng32 ((p2.toUInt32 >>> ((2 : Int32) &&& 31).toUInt32).toInt32)
  have := own_iushr p2 (n := ((2 : Int32) &&& 31).toUInt32) (k := 2) (by decide) (by decide) (by decide)
  have := rng32 (((p2.toUInt32 >>> ((2 : Int32) &&& 31).toUInt32).toInt32) % (3 : Int32))
  have := Jvm.Kit.i32_rem_nonneg (x := ((p2.toUInt32 >>> ((2 : Int32) &&& 31).toUInt32).toInt32)) (y := (3 : Int32)) (by omega)
  try simp only [own_i32_0, own_i32_2, own_i32_3, own_i64_0, own_i64_4294967295] at *
  have := own_i32_0
  have := own_i32_2
  have := own_i32_3
  have := own_i64_0
  have := own_i64_4294967295
  try simp only [Int32.lt_iff_toInt_lt, Int32.le_iff_toInt_le, Int64.lt_iff_toInt_lt, Int64.le_iff_toInt_le, ← Int32.toInt_inj, ← Int64.toInt_inj] at *
  all_goals first | omega | (simp; done)
set_option maxHeartbeats 2000000 in
theorem own_pl_rm0_9 (p2 : Int32) (p3 : Int32) (cs : Int32) (rr : Int64) (hcs : ¬ (cs = (0 : Int32))) (hr0 : 0 ≤ rr.toInt) (hr1 : rr.toInt ≤ 4294967295) (hc5 : ¬ ((((p2.toUInt32 >>> ((2 : Int32) &&& 31).toUInt32).toInt32) % (3 : Int32)) = (0 : Int32))) (hc13 : (((p2.toUInt32 >>> ((2 : Int32) &&& 31).toUInt32).toInt32) % (3 : Int32)) = (1 : Int32)) : ((p3 &&& (255 : Int32)).toUInt32.toUInt16.toUInt32.toInt32).toInt ≤ 255 := by
  have := rng32 cs
  have := rng64 rr
  have := rng32 p2
  have := rng32 ((p2.toUInt32 >>> ((2 : Int32) &&& 31).toUInt32).toInt32)
  have := own_iushr p2 (n := ((2 : Int32) &&& 31).toUInt32) (k := 2) (by decide) (by decide) (by decide)
  have := rng32 (((p2.toUInt32 >>> ((2 : Int32) &&& 31).toUInt32).toInt32) % (3 : Int32))
  have := Jvm.Kit.i32_rem_nonneg (x := ((p2.toUInt32 >>> ((2 : Int32) &&& 31).toUInt32).toInt32)) (y := (3 : Int32)) (by omega)
  have := rng32 p3
  have := rng32 (p3 &&& (255 : Int32))
  have := Jvm.Kit.i32_mask p3 (255 : Int32) (k := 8) (by decide) (by decide)
  have := rng32 ((p3 &&& (255 : Int32)).toUInt32.toUInt16.toUInt32.toInt32)
  have := own_i2c (p3 &&& (255 : Int32))
  try simp only [own_i32_0, own_i32_1, own_i32_2, own_i32_3, own_i32_255] at *
  have := own_i32_0
  have := own_i32_1
  have := own_i32_2
  have := own_i32_3
  have := own_i32_255
  try simp only [Int32.lt_iff_toInt_lt, Int32.le_iff_toInt_le, Int64.lt_iff_toInt_lt, Int64.le_iff_toInt_le, ← Int32.toInt_inj, ← Int64.toInt_inj] at *
  all_goals first | omega | (simp; done)
set_option maxHeartbeats 2000000 in
theorem own_pl_rm0_10 (p2 : Int32) (cs : Int32) (rr : Int64) (hcs : ¬ (cs = (0 : Int32))) (hr0 : 0 ≤ rr.toInt) (hr1 : rr.toInt ≤ 4294967295) (hc5 : ¬ ((((p2.toUInt32 >>> ((2 : Int32) &&& 31).toUInt32).toInt32) % (3 : Int32)) = (0 : Int32))) (hc13 : (((p2.toUInt32 >>> ((2 : Int32) &&& 31).toUInt32).toInt32) % (3 : Int32)) = (1 : Int32)) : ¬ (rr < (0 : Int64)) := by
  have := rng32 cs
  have := rng64 rr
  have := rng32 p2
  have := rng32 ((p2.toUInt32 >>> ((2 : Int32) &&& 31).toUInt32).toInt32)
  have := own_iushr p2 (n := ((2 : Int32) &&& 31).toUInt32) (k := 2) (by decide) (by decide) (by decide)
  have := rng32 (((p2.toUInt32 >>> ((2 : Int32) &&& 31).toUInt32).toInt32) % (3 : Int32))
  have := Jvm.Kit.i32_rem_nonneg (x := ((p2.toUInt32 >>> ((2 : Int32) &&& 31).toUInt32).toInt32)) (y := (3 : Int32)) (by omega)
  try simp only [own_i32_0, own_i32_1, own_i32_2, own_i32_3, own_i64_0] at *
  have := own_i32_0
  have := own_i32_1
  have := own_i32_2
  have := own_i32_3
  have := own_i64_0
  try simp only [Int32.lt_iff_toInt_lt, Int32.le_iff_toInt_le, Int64.lt_iff_toInt_lt, Int64.le_iff_toInt_le, ← Int32.toInt_inj, ← Int64.toInt_inj] at *
  all_goals first | omega | (simp; done)
set_option maxHeartbeats 2000000 in
theorem own_pl_rm0_11 (p2 : Int32) (cs : Int32) (rr : Int64) (hcs : ¬ (cs = (0 : Int32))) (hr0 : 0 ≤ rr.toInt) (hr1 : rr.toInt ≤ 4294967295) (hc5 : ¬ ((((p2.toUInt32 >>> ((2 : Int32) &&& 31).toUInt32).toInt32) % (3 : Int32)) = (0 : Int32))) (hc13 : (((p2.toUInt32 >>> ((2 : Int32) &&& 31).toUInt32).toInt32) % (3 : Int32)) = (1 : Int32)) (hc19 : ¬ (rr < (0 : Int64))) : ¬ ((4294967295 : Int64) < rr) := by
  have := rng32 cs
  have := rng64 rr
  have := rng32 p2
  have := rng32 ((p2.toUInt32 >>> ((2 : Int32) &&& 31).toUInt32).toInt32)
  have := own_iushr p2 (n := ((2 : Int32) &&& 31).toUInt32) (k := 2) (by decide) (by decide) (by decide)
  have := rng32 (((p2.toUInt32 >>> ((2 : Int32) &&& 31).toUInt32).toInt32) % (3 : Int32))
  have := Jvm.Kit.i32_rem_nonneg (x := ((p2.toUInt32 >>> ((2 : Int32) &&& 31).toUInt32).toInt32)) (y := (3 : Int32)) (by omega)
  try simp only [own_i32_0, own_i32_1, own_i32_2, own_i32_3, own_i64_0, own_i64_4294967295] at *
  have := own_i32_0
  have := own_i32_1
  have := own_i32_2
  have := own_i32_3
  have := own_i64_0
  have := own_i64_4294967295
  try simp only [Int32.lt_iff_toInt_lt, Int32.le_iff_toInt_le, Int64.lt_iff_toInt_lt, Int64.le_iff_toInt_le, ← Int32.toInt_inj, ← Int64.toInt_inj] at *
  all_goals first | omega | (simp; done)
set_option maxHeartbeats 2000000 in
theorem own_pl_rm0_12 (p2 : Int32) (p3 : Int32) (cs : Int32) (rr : Int64) (hcs : ¬ (cs = (0 : Int32))) (hr0 : 0 ≤ rr.toInt) (hr1 : rr.toInt ≤ 4294967295) (hc5 : ¬ ((((p2.toUInt32 >>> ((2 : Int32) &&& 31).toUInt32).toInt32) % (3 : Int32)) = (0 : Int32))) (hc13 : ¬ ((((p2.toUInt32 >>> ((2 : Int32) &&& 31).toUInt32).toInt32) % (3 : Int32)) = (1 : Int32))) : ((p3 &&& (255 : Int32)).toUInt32.toUInt16.toUInt32.toInt32).toInt ≤ 255 := by
  have := rng32 cs
  have := rng64 rr
  have := rng32 p2
  have := rng32 ((p2.toUInt32 >>> ((2 : Int32) &&& 31).toUInt32).toInt32)
  have := own_iushr p2 (n := ((2 : Int32) &&& 31).toUInt32) (k := 2) (by decide) (by decide) (by decide)
  have := rng32 (((p2.toUInt32 >>> ((2 : Int32) &&& 31).toUInt32).toInt32) % (3 : Int32))
  have := Jvm.Kit.i32_rem_nonneg (x := ((p2.toUInt32 >>> ((2 : Int32) &&& 31).toUInt32).toInt32)) (y := (3 : Int32)) (by omega)
  have := rng32 p3
  have := rng32 (p3 &&& (255 : Int32))
  have := Jvm.Kit.i32_mask p3 (255 : Int32) (k := 8) (by decide) (by decide)
  have := rng32 ((p3 &&& (255 : Int32)).toUInt32.toUInt16.toUInt32.toInt32)
  have := own_i2c (p3 &&& (255 : Int32))
  try simp only [own_i32_0, own_i32_1, own_i32_2, own_i32_3, own_i32_255] at *
  have := own_i32_0
  have := own_i32_1
  have := own_i32_2
  have := own_i32_3
  have := own_i32_255
  try simp only [Int32.lt_iff_toInt_lt, Int32.le_iff_toInt_le, Int64.lt_iff_toInt_lt, Int64.le_iff_toInt_le, ← Int32.toInt_inj, ← Int64.toInt_inj] at *
  all_goals first | omega | (simp; done)
set_option maxHeartbeats 2000000 in
theorem own_pl_rm0_13 (p2 : Int32) (p4 : Int32) (cs : Int32) (rr : Int64) (hcs : ¬ (cs = (0 : Int32))) (hr0 : 0 ≤ rr.toInt) (hr1 : rr.toInt ≤ 4294967295) (hc5 : ¬ ((((p2.toUInt32 >>> ((2 : Int32) &&& 31).toUInt32).toInt32) % (3 : Int32)) = (0 : Int32))) (hc13 : ¬ ((((p2.toUInt32 >>> ((2 : Int32) &&& 31).toUInt32).toInt32) % (3 : Int32)) = (1 : Int32))) : ((p4 &&& (255 : Int32)).toUInt32.toUInt16.toUInt32.toInt32).toInt ≤ 255 := by
  have := rng32 cs
  have := rng64 rr
  have := rng32 p2
  have := rng32 ((p2.toUInt32 >>> ((2 : Int32) &&& 31).toUInt32).toInt32)
  have := own_iushr p2 (n := ((2 : Int32) &&& 31).toUInt32) (k := 2) (by decide) (by decide) (by decide)
  have := rng32 (((p2.toUInt32 >>> ((2 : Int32) &&& 31).toUInt32).toInt32) % (3 : Int32))
  have := Jvm.Kit.i32_rem_nonneg (x := ((p2.toUInt32 >>> ((2 : Int32) &&& 31).toUInt32).toInt32)) (y := (3 : Int32)) (by omega)
  have := rng32 p4
  have := rng32 (p4 &&& (255 : Int32))
  have := Jvm.Kit.i32_mask p4 (255 : Int32) (k := 8) (by decide) (by decide)
  have := rng32 ((p4 &&& (255 : Int32)).toUInt32.toUInt16.toUInt32.toInt32)
  have := own_i2c (p4 &&& (255 : Int32))
  try simp only [own_i32_0, own_i32_1, own_i32_2, own_i32_3, own_i32_255] at *
  have := own_i32_0
  have := own_i32_1
  have := own_i32_2
  have := own_i32_3
  have := own_i32_255
  try simp only [Int32.lt_iff_toInt_lt, Int32.le_iff_toInt_le, Int64.lt_iff_toInt_lt, Int64.le_iff_toInt_le, ← Int32.toInt_inj, ← Int64.toInt_inj] at *
  all_goals first | omega | (simp; done)
set_option maxHeartbeats 2000000 in
theorem own_pl_rm0_14 (p2 : Int32) (cs : Int32) (rr : Int64) (hcs : ¬ (cs = (0 : Int32))) (hr0 : 0 ≤ rr.toInt) (hr1 : rr.toInt ≤ 4294967295) (hc5 : ¬ ((((p2.toUInt32 >>> ((2 : Int32) &&& 31).toUInt32).toInt32) % (3 : Int32)) = (0 : Int32))) (hc13 : ¬ ((((p2.toUInt32 >>> ((2 : Int32) &&& 31).toUInt32).toInt32) % (3 : Int32)) = (1 : Int32))) : ¬ (rr < (0 : Int64)) := by
  have := rng32 cs
  have := rng64 rr
  have := rng32 p2
  have := rng32 ((p2.toUInt32 >>> ((2 : Int32) &&& 31).toUInt32).toInt32)
  have := own_iushr p2 (n := ((2 : Int32) &&& 31).toUInt32) (k := 2) (by decide) (by decide) (by decide)
  have := rng32 (((p2.toUInt32 >>> ((2 : Int32) &&& 31).toUInt32).toInt32) % (3 : Int32))
  have := Jvm.Kit.i32_rem_nonneg (x := ((p2.toUInt32 >>> ((2 : Int32) &&& 31).toUInt32).toInt32)) (y := (3 : Int32)) (by omega)
  try simp only [own_i32_0, own_i32_1, own_i32_2, own_i32_3, own_i64_0] at *
  have := own_i32_0
  have := own_i32_1
  have := own_i32_2
  have := own_i32_3
  have := own_i64_0
  try simp only [Int32.lt_iff_toInt_lt, Int32.le_iff_toInt_le, Int64.lt_iff_toInt_lt, Int64.le_iff_toInt_le, ← Int32.toInt_inj, ← Int64.toInt_inj] at *
  all_goals first | omega | (simp; done)
set_option maxHeartbeats 2000000 in
theorem own_pl_rm0_15 (p2 : Int32) (cs : Int32) (rr : Int64) (hcs : ¬ (cs = (0 : Int32))) (hr0 : 0 ≤ rr.toInt) (hr1 : rr.toInt ≤ 4294967295) (hc5 : ¬ ((((p2.toUInt32 >>> ((2 : Int32) &&& 31).toUInt32).toInt32) % (3 : Int32)) = (0 : Int32))) (hc13 : ¬ ((((p2.toUInt32 >>> ((2 : Int32) &&& 31).toUInt32).toInt32) % (3 : Int32)) = (1 : Int32))) (hc62 : ¬ (rr < (0 : Int64))) : ¬ ((4294967295 : Int64) < rr) := by
  have := rng32 cs
  have := rng64 rr
  have := rng32 p2
  have := rng32 ((p2.toUInt32 >>> ((2 : Int32) &&& 31).toUInt32).toInt32)
  have := own_iushr p2 (n := ((2 : Int32) &&& 31).toUInt32) (k := 2) (by decide) (by decide) (by decide)
  have := rng32 (((p2.toUInt32 >>> ((2 : Int32) &&& 31).toUInt32).toInt32) % (3 : Int32))
  have := Jvm.Kit.i32_rem_nonneg (x := ((p2.toUInt32 >>> ((2 : Int32) &&& 31).toUInt32).toInt32)) (y := (3 : Int32)) (by omega)
  try simp only [own_i32_0, own_i32_1, own_i32_2, own_i32_3, own_i64_0, own_i64_4294967295] at *
  have := own_i32_0
  have := own_i32_1
  have := own_i32_2
  have := own_i32_3
  have := own_i64_0
  have := own_i64_4294967295
  try simp only [Int32.lt_iff_toInt_lt, Int32.le_iff_toInt_le, Int64.lt_iff_toInt_lt, Int64.le_iff_toInt_le, ← Int32.toInt_inj, ← Int64.toInt_inj] at *
  all_goals first | omega | (simp; done)
def Q_own_rm0 (Z : State) (q1 : Int64) (p2 : Int32) (p3 : Int32) (p4 : Int32) (cs : Int32) (h0 : Heap) (n0 : Nat) (v : Option Value) (h : Heap) (L : List Loc) : Prop := v = some (.int (1 : Int32)) ∧ Fr n0 L ∧ Keep h0 h []
set_option maxRecDepth 65536 in
set_option maxHeartbeats 400000000 in
theorem own_rm0 (l : Launch) (Z : State) (a0 : Array Value) (hw : ∀ d ∈ tables_1, d.before a0 Z = true) (ws : List Jvm.Cond) (q1 : Int64) (p2 : Int32) (p3 : Int32) (p4 : Int32) (cs : Int32) (h0 : Heap) (n0 : Nat) (Z0 : n0 ≤ h0.size) (P_S_java_lang_String_COMPACT_STRINGS : Sta Z h0 "java/lang/String" "COMPACT_STRINGS" "Z" (.int cs)) (hcs : ¬ (cs = (0 : Int32))) :
    MetFree l x (head1 (Jvm.Cond.code x code maxLocals ret :: ws) room_1) (fun a U => a = #[(.long q1), (.int p2), (.int p3), (.int p4)] ∧ Z.Warmed39 U.vm ∧ U.heap = h0) (fun _ _ _ _ _ => True) (fun _ U o U' => ∃ v L, o = .returned v ∧ Q_own_rm0 Z q1 p2 p3 p4 cs h0 n0 v U'.heap L ∧ ReturnedEndW U o U' L 3 8) := by
  refine MetFree.of_bodySF (plainFor_of_name own_pn4) hisR ?_
  intro p e s m args below meth c s₁ Bd hml0 hP hK
  obtain ⟨rfl, hZ, hh⟩ := hP
  have hx := Bd.exec
  have hby := Bd.bytes
  have hml : c.maxLocals = 12 := hml0
  have hown : s.vm.findClass "com/example/rate_to_limit/ratetolimit/balance/RatingGroupBindingCheckedRatingGroupPinLaw" = some m.cls := findClass_of_methodNamed Bd.named
  have hnm := (name_of_methodNamed Bd.named Bd.method).1
  have X0 : Stand p l e room_1 (s.setVm s.vm) m #[(.long q1), (.int p2), (.int p3), (.int p4)] below meth c s₁ [] 0 0 := Stand.of_body Bd
  have e0 : s₁.heap = h0 := by rw [← hh, Bd.state]; rfl
  have N0 := Fr.nil n0
  have K0 : Keep h0 h0 [] := Keep.refl h0 []
  have hS : s.Since s.vm h0.size := (State.WarmedH.refl s).since _
  have hk : h0.size ≤ h0.size := Nat.le_refl _
  have hZ : Z.Warmed39 (s.setVm s.vm).vm := hZ
  have hown : (s.setVm s.vm).vm.findClass "com/example/rate_to_limit/ratetolimit/balance/RatingGroupBindingCheckedRatingGroupPinLaw" = some m.cls := hown
  have wS : ∀ d ∈ Bundle.stringAtoms, d.before a0 Z = true := fun d hd => hw d (own_strs d hd)
  show own_FinW p e below s (Q_own_rm0 Z q1 p2 p3 p4 cs h0 n0) 3 8 (s₁.setTop (entryFrame m #[(.long q1), (.int p2), (.int p3), (.int p4)] maxLocals))
  refine own_goW (fun _ k => castTop (ef_own_rm0 m q1 p2 p3 p4) k) ?_
  show own_FinW _ _ _ _ _ _ _ (s₁.setTop (mkF m 0 #[.val (.long q1), .second, .val (.int p2), .val (.int p3), .val (.int p4), .unset, .unset, .unset, .unset, .unset, .unset, .unset] []))
  refine own_goW (B := s₁.setTop (mkF m 1 #[.val (.long q1), .second, .val (.int p2), .val (.int p3), .val (.int p4), .unset, .unset, .unset, .unset, .unset, .unset, .unset] [(.int p2)])) (fun _ k => XS.iloadN X0.here hx rfl (hb hby at_0) rfl  k) ?_
  refine own_goW (B := s₁.setTop (mkF m 2 #[.val (.long q1), .second, .val (.int p2), .val (.int p3), .val (.int p4), .unset, .unset, .unset, .unset, .unset, .unset, .unset] [(.int (3 : Int32)), (.int p2)])) (fun _ k => XS.iconst X0.here hx rfl (hb hby at_1) k) ?_
  refine own_goW (B := s₁.setTop (mkF m 3 #[.val (.long q1), .second, .val (.int p2), .val (.int p3), .val (.int p4), .unset, .unset, .unset, .unset, .unset, .unset, .unset] [(.int (p2 &&& (3 : Int32)))])) (fun _ k => XS.iand X0.here hx rfl (hb hby at_2) rfl k) ?_
  refine own_goW (B := s₁.setTop (mkF m 5 #[.val (.long q1), .second, .val (.int p2), .val (.int p3), .val (.int p4), .unset, .unset, .val (.int (p2 &&& (3 : Int32))), .unset, .unset, .unset, .unset] [])) (fun _ k => XS.istore X0.here hx rfl (hb hby at_3) rfl (l' := #[.val (.long q1), .second, .val (.int p2), .val (.int p3), .val (.int p4), .unset, .unset, .val (.int (p2 &&& (3 : Int32))), .unset, .unset, .unset, .unset]) rfl k) ?_
  have J1 : ∀ (rr : Int64) (hr0 : 0 ≤ rr.toInt) (hr1 : rr.toInt ≤ 4294967295), own_FinW p e below s (Q_own_rm0 Z q1 p2 p3 p4 cs h0 n0) 3 8 (s₁.setTop (mkF m 37 #[.val (.long q1), .second, .val (.int p2), .val (.int p3), .val (.int p4), .val (.long rr), .second, .val (.int (p2 &&& (3 : Int32))), .unset, .unset, .unset, .unset] [])) := by
    intro rr hr0 hr1
    refine own_goW (B := s₁.setTop (mkF m 38 #[.val (.long q1), .second, .val (.int p2), .val (.int p3), .val (.int p4), .val (.long rr), .second, .val (.int (p2 &&& (3 : Int32))), .unset, .unset, .unset, .unset] [(.int p2)])) (fun _ k => XS.iloadN X0.here hx rfl (hb hby at_37) rfl  k) ?_
    refine own_goW (B := s₁.setTop (mkF m 39 #[.val (.long q1), .second, .val (.int p2), .val (.int p3), .val (.int p4), .val (.long rr), .second, .val (.int (p2 &&& (3 : Int32))), .unset, .unset, .unset, .unset] [(.int (2 : Int32)), (.int p2)])) (fun _ k => XS.iconst X0.here hx rfl (hb hby at_38) k) ?_
    refine own_goW (B := s₁.setTop (mkF m 40 #[.val (.long q1), .second, .val (.int p2), .val (.int p3), .val (.int p4), .val (.long rr), .second, .val (.int (p2 &&& (3 : Int32))), .unset, .unset, .unset, .unset] [(.int ((p2.toUInt32 >>> ((2 : Int32) &&& 31).toUInt32).toInt32))])) (fun _ k => XS.iushr X0.here hx rfl (hb hby at_39) rfl k) ?_
    refine own_goW (B := s₁.setTop (mkF m 41 #[.val (.long q1), .second, .val (.int p2), .val (.int p3), .val (.int p4), .val (.long rr), .second, .val (.int (p2 &&& (3 : Int32))), .unset, .unset, .unset, .unset] [(.int (3 : Int32)), (.int ((p2.toUInt32 >>> ((2 : Int32) &&& 31).toUInt32).toInt32))])) (fun _ k => XS.iconst X0.here hx rfl (hb hby at_40) k) ?_
    have hnz4 : (3 : Int32) ≠ (0 : Int32) := by decide
    refine own_goW (B := s₁.setTop (mkF m 42 #[.val (.long q1), .second, .val (.int p2), .val (.int p3), .val (.int p4), .val (.long rr), .second, .val (.int (p2 &&& (3 : Int32))), .unset, .unset, .unset, .unset] [(.int (((p2.toUInt32 >>> ((2 : Int32) &&& 31).toUInt32).toInt32) % (3 : Int32)))])) (fun _ k => iremM X0 hx rfl (hb hby at_41) rfl hnz4 k) ?_
    refine own_goW (B := s₁.setTop (mkF m 44 #[.val (.long q1), .second, .val (.int p2), .val (.int p3), .val (.int p4), .val (.long rr), .second, .val (.int (p2 &&& (3 : Int32))), .val (.int (((p2.toUInt32 >>> ((2 : Int32) &&& 31).toUInt32).toInt32) % (3 : Int32))), .unset, .unset, .unset] [])) (fun _ k => XS.istore X0.here hx rfl (hb hby at_42) rfl (l' := #[.val (.long q1), .second, .val (.int p2), .val (.int p3), .val (.int p4), .val (.long rr), .second, .val (.int (p2 &&& (3 : Int32))), .val (.int (((p2.toUInt32 >>> ((2 : Int32) &&& 31).toUInt32).toInt32) % (3 : Int32))), .unset, .unset, .unset]) rfl k) ?_
    refine own_goW (B := s₁.setTop (mkF m 46 #[.val (.long q1), .second, .val (.int p2), .val (.int p3), .val (.int p4), .val (.long rr), .second, .val (.int (p2 &&& (3 : Int32))), .val (.int (((p2.toUInt32 >>> ((2 : Int32) &&& 31).toUInt32).toInt32) % (3 : Int32))), .unset, .unset, .unset] [(.int (((p2.toUInt32 >>> ((2 : Int32) &&& 31).toUInt32).toInt32) % (3 : Int32)))])) (fun _ k => XS.iload X0.here hx rfl (hb hby at_44) rfl  k) ?_
    by_cases hc5 : (((p2.toUInt32 >>> ((2 : Int32) &&& 31).toUInt32).toInt32) % (3 : Int32)) = (0 : Int32)
    · skip
      refine own_goW (B := s₁.setTop (mkF m 49 #[.val (.long q1), .second, .val (.int p2), .val (.int p3), .val (.int p4), .val (.long rr), .second, .val (.int (p2 &&& (3 : Int32))), .val (.int (((p2.toUInt32 >>> ((2 : Int32) &&& 31).toUInt32).toInt32) % (3 : Int32))), .unset, .unset, .unset] [])) (fun _ k => XS.ifNo X0.here hx rfl (hb hby at_46) rfl ((if0 _ _).trans (teq hc5).2) k) ?_
      obtain ⟨as6, T6, h6, kk6, X6, e6, E6, hS, hk, hZ, hown, st6⟩ := ldcS X0 hx hZ hown (own_w hw 1 rfl) wS e0 hS hk (g := (mkF m 49 #[.val (.long q1), .second, .val (.int p2), .val (.int p3), .val (.int p4), .val (.long rr), .second, .val (.int (p2 &&& (3 : Int32))), .val (.int (((p2.toUInt32 >>> ((2 : Int32) &&& 31).toUInt32).toInt32) % (3 : Int32))), .unset, .unset, .unset] [])) rfl (hb hby at_49) (n := 0) (by decide +kernel) (by decide) (by decide) (by decide)
      have S_8 := P_S_java_lang_String_COMPACT_STRINGS.ext E6
      have K9 : Keep h0 h6 [] := K0.ext E6
      refine own_goW (B := T6.setTop (mkF m 51 #[.val (.long q1), .second, .val (.int p2), .val (.int p3), .val (.int p4), .val (.long rr), .second, .val (.int (p2 &&& (3 : Int32))), .val (.int (((p2.toUInt32 >>> ((2 : Int32) &&& 31).toUInt32).toInt32) % (3 : Int32))), .unset, .unset, .unset] [(.ref as6)])) st6 ?_
      refine own_goW (B := T6.setTop (mkF m 53 #[.val (.long q1), .second, .val (.int p2), .val (.int p3), .val (.int p4), .val (.long rr), .second, .val (.int (p2 &&& (3 : Int32))), .val (.int (((p2.toUInt32 >>> ((2 : Int32) &&& 31).toUInt32).toInt32) % (3 : Int32))), .val (.ref as6), .unset, .unset] [])) (fun _ k => XS.astore X6.here hx rfl (hb hby at_51) rfl rfl (l' := #[.val (.long q1), .second, .val (.int p2), .val (.int p3), .val (.int p4), .val (.long rr), .second, .val (.int (p2 &&& (3 : Int32))), .val (.int (((p2.toUInt32 >>> ((2 : Int32) &&& 31).toUInt32).toInt32) % (3 : Int32))), .val (.ref as6), .unset, .unset]) rfl k) ?_
      refine own_goW (B := T6.setTop (mkF m 107 #[.val (.long q1), .second, .val (.int p2), .val (.int p3), .val (.int p4), .val (.long rr), .second, .val (.int (p2 &&& (3 : Int32))), .val (.int (((p2.toUInt32 >>> ((2 : Int32) &&& 31).toUInt32).toInt32) % (3 : Int32))), .val (.ref as6), .unset, .unset] [])) (fun _ k => XS.goto X6.here hx rfl (pc0 := 53) (pc' := 107) rfl (hb hby at_53) (by decide) (by decide) k) ?_
      refine own_goW (B := T6.setTop (mkF m 109 #[.val (.long q1), .second, .val (.int p2), .val (.int p3), .val (.int p4), .val (.long rr), .second, .val (.int (p2 &&& (3 : Int32))), .val (.int (((p2.toUInt32 >>> ((2 : Int32) &&& 31).toUInt32).toInt32) % (3 : Int32))), .val (.ref as6), .unset, .unset] [(.ref as6)])) (fun _ k => XS.aload X6.here hx rfl (hb hby at_107) rfl rfl k) ?_
      refine own_goW (B := T6.setTop (mkF m 111 #[.val (.long q1), .second, .val (.int p2), .val (.int p3), .val (.int p4), .val (.long rr), .second, .val (.int (p2 &&& (3 : Int32))), .val (.int (((p2.toUInt32 >>> ((2 : Int32) &&& 31).toUInt32).toInt32) % (3 : Int32))), .val (.ref as6), .unset, .unset] [(.long rr), (.ref as6)])) (fun _ k => XS.lload X6.here hx rfl (hb hby at_109) rfl  k) ?_
      obtain ⟨_, _, ⟨T10, L10, k10, n10⟩, -, X10, ⟨Lc10, hQ10, l10, y10, z10⟩, st10⟩ := Jvm.LawKit.callS X6 hx (y := (⟨"com/example/rate_to_limit/ratetolimit/balance/RatingGroupBinding", "checkedRatingGroup", "(Ljava/lang/String;J)J"⟩ : MethodName)) hown (mvT hZ (own_w hw 9 rfl)) (mvT hZ (own_w hw 10 rfl)) (mvT hZ (own_w hw 11 rfl)) (mvT hZ (own_w hw 12 rfl)) (by decide) (backOf (W := 0) (own_rm1 l Z a0 hw [] as6 rr h6 n0 (Nat.le_trans Z0 K9.1) hr0 hr1) hZ (own_w hw 12 rfl) (own_w hw 11 rfl) (by decide) (by decide)) (g := (mkF m 111 #[.val (.long q1), .second, .val (.int p2), .val (.int p3), .val (.int p4), .val (.long rr), .second, .val (.int (p2 &&& (3 : Int32))), .val (.int (((p2.toUInt32 >>> ((2 : Int32) &&& 31).toUInt32).toInt32) % (3 : Int32))), .val (.ref as6), .unset, .unset] [(.long rr), (.ref as6)])) rfl (by rw [hml]; rfl) (argsL := [(.ref as6), (.long rr)]) (rest := []) (lenOf own_pd7 rfl) rfl (by show 2 * 0 + _ ≤ _; exact Nat.le_of_eq rfl) (hb hby at_111) (fun _ _ => ⟨rfl, e6, (by decide : 2 + 0 ≤ _), (by decide : 4 + 0 ≤ _)⟩)
      dsimp only [Pt.U, Pt.locs, Pt.cells, Pt.slots] at X10 l10 y10 z10 st10 hQ10
      subst l10 y10 z10
      obtain ⟨rfl, N10q, e10⟩ := hQ10
      have N10 := Fr.app N0 N10q
      refine own_goW (B := T10.setTop (mkF m 114 #[.val (.long q1), .second, .val (.int p2), .val (.int p3), .val (.int p4), .val (.long rr), .second, .val (.int (p2 &&& (3 : Int32))), .val (.int (((p2.toUInt32 >>> ((2 : Int32) &&& 31).toUInt32).toInt32) % (3 : Int32))), .val (.ref as6), .unset, .unset] [(.long rr)])) st10 ?_
      refine own_goW (B := T10.setTop (mkF m 116 #[.val (.long q1), .second, .val (.int p2), .val (.int p3), .val (.int p4), .val (.long rr), .second, .val (.int (p2 &&& (3 : Int32))), .val (.int (((p2.toUInt32 >>> ((2 : Int32) &&& 31).toUInt32).toInt32) % (3 : Int32))), .val (.ref as6), .val (.long rr), .second] [])) (fun _ k => XS.lstore X10.here hx rfl (hb hby at_114) rfl (l' := #[.val (.long q1), .second, .val (.int p2), .val (.int p3), .val (.int p4), .val (.long rr), .second, .val (.int (p2 &&& (3 : Int32))), .val (.int (((p2.toUInt32 >>> ((2 : Int32) &&& 31).toUInt32).toInt32) % (3 : Int32))), .val (.ref as6), .val (.long rr), .second]) rfl k) ?_
      refine own_goW (B := T10.setTop (mkF m 118 #[.val (.long q1), .second, .val (.int p2), .val (.int p3), .val (.int p4), .val (.long rr), .second, .val (.int (p2 &&& (3 : Int32))), .val (.int (((p2.toUInt32 >>> ((2 : Int32) &&& 31).toUInt32).toInt32) % (3 : Int32))), .val (.ref as6), .val (.long rr), .second] [(.long rr)])) (fun _ k => XS.lload X10.here hx rfl (hb hby at_116) rfl  k) ?_
      refine own_goW (B := T10.setTop (mkF m 120 #[.val (.long q1), .second, .val (.int p2), .val (.int p3), .val (.int p4), .val (.long rr), .second, .val (.int (p2 &&& (3 : Int32))), .val (.int (((p2.toUInt32 >>> ((2 : Int32) &&& 31).toUInt32).toInt32) % (3 : Int32))), .val (.ref as6), .val (.long rr), .second] [(.long rr), (.long rr)])) (fun _ k => XS.lload X10.here hx rfl (hb hby at_118) rfl  k) ?_
      refine own_goW (B := T10.setTop (mkF m 121 #[.val (.long q1), .second, .val (.int p2), .val (.int p3), .val (.int p4), .val (.long rr), .second, .val (.int (p2 &&& (3 : Int32))), .val (.int (((p2.toUInt32 >>> ((2 : Int32) &&& 31).toUInt32).toInt32) % (3 : Int32))), .val (.ref as6), .val (.long rr), .second] [(.int (lcmpW rr rr))])) (fun _ k => XS.lcmp X10.here hx rfl (hb hby at_120) rfl k) ?_
      refine own_goW (B := T10.setTop (mkF m 124 #[.val (.long q1), .second, .val (.int p2), .val (.int p3), .val (.int p4), .val (.long rr), .second, .val (.int (p2 &&& (3 : Int32))), .val (.int (((p2.toUInt32 >>> ((2 : Int32) &&& 31).toUInt32).toInt32) % (3 : Int32))), .val (.ref as6), .val (.long rr), .second] [])) (fun _ k => XS.ifNo X10.here hx rfl (hb hby at_121) rfl ((if0 _ _).trans (teq ((lw_eq rr rr).mpr (rfl : rr = rr))).2) k) ?_
      refine own_goW (B := T10.setTop (mkF m 126 #[.val (.long q1), .second, .val (.int p2), .val (.int p3), .val (.int p4), .val (.long rr), .second, .val (.int (p2 &&& (3 : Int32))), .val (.int (((p2.toUInt32 >>> ((2 : Int32) &&& 31).toUInt32).toInt32) % (3 : Int32))), .val (.ref as6), .val (.long rr), .second] [(.long rr)])) (fun _ k => XS.lload X10.here hx rfl (hb hby at_124) rfl  k) ?_
      refine own_goW (B := T10.setTop (mkF m 127 #[.val (.long q1), .second, .val (.int p2), .val (.int p3), .val (.int p4), .val (.long rr), .second, .val (.int (p2 &&& (3 : Int32))), .val (.int (((p2.toUInt32 >>> ((2 : Int32) &&& 31).toUInt32).toInt32) % (3 : Int32))), .val (.ref as6), .val (.long rr), .second] [(.long (0 : Int64)), (.long rr)])) (fun _ k => XS.lconst X10.here hx rfl (hb hby at_126) k) ?_
      refine own_goW (B := T10.setTop (mkF m 128 #[.val (.long q1), .second, .val (.int p2), .val (.int p3), .val (.int p4), .val (.long rr), .second, .val (.int (p2 &&& (3 : Int32))), .val (.int (((p2.toUInt32 >>> ((2 : Int32) &&& 31).toUInt32).toInt32) % (3 : Int32))), .val (.ref as6), .val (.long rr), .second] [(.int (lcmpW rr (0 : Int64)))])) (fun _ k => XS.lcmp X10.here hx rfl (hb hby at_127) rfl k) ?_
      have hc11 : ¬ (rr < (0 : Int64)) := (own_pl_rm0_7 p2 cs rr hcs hr0 hr1 hc5)
      refine own_goW (B := T10.setTop (mkF m 131 #[.val (.long q1), .second, .val (.int p2), .val (.int p3), .val (.int p4), .val (.long rr), .second, .val (.int (p2 &&& (3 : Int32))), .val (.int (((p2.toUInt32 >>> ((2 : Int32) &&& 31).toUInt32).toInt32) % (3 : Int32))), .val (.ref as6), .val (.long rr), .second] [])) (fun _ k => XS.ifNo X10.here hx rfl (hb hby at_128) rfl ((if0 _ _).trans (flt (mt (lw_lt rr (0 : Int64)).mp hc11)).1) k) ?_
      refine own_goW (B := T10.setTop (mkF m 133 #[.val (.long q1), .second, .val (.int p2), .val (.int p3), .val (.int p4), .val (.long rr), .second, .val (.int (p2 &&& (3 : Int32))), .val (.int (((p2.toUInt32 >>> ((2 : Int32) &&& 31).toUInt32).toInt32) % (3 : Int32))), .val (.ref as6), .val (.long rr), .second] [(.long rr)])) (fun _ k => XS.lload X10.here hx rfl (hb hby at_131) rfl  k) ?_
      refine own_goW (B := T10.setTop (mkF m 136 #[.val (.long q1), .second, .val (.int p2), .val (.int p3), .val (.int p4), .val (.long rr), .second, .val (.int (p2 &&& (3 : Int32))), .val (.int (((p2.toUInt32 >>> ((2 : Int32) &&& 31).toUInt32).toInt32) % (3 : Int32))), .val (.ref as6), .val (.long rr), .second] [(.long (4294967295 : Int64)), (.long rr)])) (fun _ k => X10.ldc2Long hx hown (mvT hZ (own_w hw 0 rfl)) (g := (mkF m 133 #[.val (.long q1), .second, .val (.int p2), .val (.int p3), .val (.int p4), .val (.long rr), .second, .val (.int (p2 &&& (3 : Int32))), .val (.int (((p2.toUInt32 >>> ((2 : Int32) &&& 31).toUInt32).toInt32) % (3 : Int32))), .val (.ref as6), .val (.long rr), .second] [(.long rr)])) rfl (hb hby at_133) _ k) ?_
      refine own_goW (B := T10.setTop (mkF m 137 #[.val (.long q1), .second, .val (.int p2), .val (.int p3), .val (.int p4), .val (.long rr), .second, .val (.int (p2 &&& (3 : Int32))), .val (.int (((p2.toUInt32 >>> ((2 : Int32) &&& 31).toUInt32).toInt32) % (3 : Int32))), .val (.ref as6), .val (.long rr), .second] [(.int (lcmpW rr (4294967295 : Int64)))])) (fun _ k => XS.lcmp X10.here hx rfl (hb hby at_136) rfl k) ?_
      have hc12 : ¬ ((4294967295 : Int64) < rr) := (own_pl_rm0_8 p2 cs rr hcs hr0 hr1 hc5 hc11)
      refine own_goW (B := T10.setTop (mkF m 140 #[.val (.long q1), .second, .val (.int p2), .val (.int p3), .val (.int p4), .val (.long rr), .second, .val (.int (p2 &&& (3 : Int32))), .val (.int (((p2.toUInt32 >>> ((2 : Int32) &&& 31).toUInt32).toInt32) % (3 : Int32))), .val (.ref as6), .val (.long rr), .second] [])) (fun _ k => XS.ifNo X10.here hx rfl (hb hby at_137) rfl ((if0 _ _).trans (flt (mt (lw_gt rr (4294967295 : Int64)).mp hc12)).2.2.1) k) ?_
      refine own_goW (B := T10.setTop (mkF m 141 #[.val (.long q1), .second, .val (.int p2), .val (.int p3), .val (.int p4), .val (.long rr), .second, .val (.int (p2 &&& (3 : Int32))), .val (.int (((p2.toUInt32 >>> ((2 : Int32) &&& 31).toUInt32).toInt32) % (3 : Int32))), .val (.ref as6), .val (.long rr), .second] [(.int (1 : Int32))])) (fun _ k => XS.iconst X10.here hx rfl (hb hby at_140) k) ?_
      refine own_goW (B := T10.setTop (mkF m 145 #[.val (.long q1), .second, .val (.int p2), .val (.int p3), .val (.int p4), .val (.long rr), .second, .val (.int (p2 &&& (3 : Int32))), .val (.int (((p2.toUInt32 >>> ((2 : Int32) &&& 31).toUInt32).toInt32) % (3 : Int32))), .val (.ref as6), .val (.long rr), .second] [(.int (1 : Int32))])) (fun _ k => XS.goto X10.here hx rfl (pc0 := 141) (pc' := 145) rfl (hb hby at_141) (by decide) (by decide) k) ?_
      exact own_retNW X10 hx hS Bd.notSynchronized (t := .boolean) (w := (1 : Int32)) Bd.returns (by simp) (hb hby at_145) e10 hk rfl ⟨rfl, N10, K9⟩ (by decide) (by decide)
    · skip
      refine own_goW (B := s₁.setTop (mkF m 56 #[.val (.long q1), .second, .val (.int p2), .val (.int p3), .val (.int p4), .val (.long rr), .second, .val (.int (p2 &&& (3 : Int32))), .val (.int (((p2.toUInt32 >>> ((2 : Int32) &&& 31).toUInt32).toInt32) % (3 : Int32))), .unset, .unset, .unset] [])) (fun _ k => XS.ifYes X0.here hx rfl (pc0 := 46) (pc' := 56) rfl (hb hby at_46) rfl ((if0 _ _).trans (feq hc5).2) (by decide) (by decide) k) ?_
      refine own_goW (B := s₁.setTop (mkF m 58 #[.val (.long q1), .second, .val (.int p2), .val (.int p3), .val (.int p4), .val (.long rr), .second, .val (.int (p2 &&& (3 : Int32))), .val (.int (((p2.toUInt32 >>> ((2 : Int32) &&& 31).toUInt32).toInt32) % (3 : Int32))), .unset, .unset, .unset] [(.int (((p2.toUInt32 >>> ((2 : Int32) &&& 31).toUInt32).toInt32) % (3 : Int32)))])) (fun _ k => XS.iload X0.here hx rfl (hb hby at_56) rfl  k) ?_
      refine own_goW (B := s₁.setTop (mkF m 59 #[.val (.long q1), .second, .val (.int p2), .val (.int p3), .val (.int p4), .val (.long rr), .second, .val (.int (p2 &&& (3 : Int32))), .val (.int (((p2.toUInt32 >>> ((2 : Int32) &&& 31).toUInt32).toInt32) % (3 : Int32))), .unset, .unset, .unset] [(.int (1 : Int32)), (.int (((p2.toUInt32 >>> ((2 : Int32) &&& 31).toUInt32).toInt32) % (3 : Int32)))])) (fun _ k => XS.iconst X0.here hx rfl (hb hby at_58) k) ?_
      by_cases hc13 : (((p2.toUInt32 >>> ((2 : Int32) &&& 31).toUInt32).toInt32) % (3 : Int32)) = (1 : Int32)
      · skip
        refine own_goW (B := s₁.setTop (mkF m 62 #[.val (.long q1), .second, .val (.int p2), .val (.int p3), .val (.int p4), .val (.long rr), .second, .val (.int (p2 &&& (3 : Int32))), .val (.int (((p2.toUInt32 >>> ((2 : Int32) &&& 31).toUInt32).toInt32) % (3 : Int32))), .unset, .unset, .unset] [])) (fun _ k => XS.icmpNo X0.here hx rfl (hb hby at_59) rfl (teq hc13).2 k) ?_
        refine own_goW (B := s₁.setTop (mkF m 63 #[.val (.long q1), .second, .val (.int p2), .val (.int p3), .val (.int p4), .val (.long rr), .second, .val (.int (p2 &&& (3 : Int32))), .val (.int (((p2.toUInt32 >>> ((2 : Int32) &&& 31).toUInt32).toInt32) % (3 : Int32))), .unset, .unset, .unset] [(.int p3)])) (fun _ k => XS.iloadN X0.here hx rfl (hb hby at_62) rfl  k) ?_
        refine own_goW (B := s₁.setTop (mkF m 66 #[.val (.long q1), .second, .val (.int p2), .val (.int p3), .val (.int p4), .val (.long rr), .second, .val (.int (p2 &&& (3 : Int32))), .val (.int (((p2.toUInt32 >>> ((2 : Int32) &&& 31).toUInt32).toInt32) % (3 : Int32))), .unset, .unset, .unset] [(.int (255 : Int32)), (.int p3)])) (fun _ k => XS.sipush X0.here hx rfl (hb hby at_63) k) ?_
        refine own_goW (B := s₁.setTop (mkF m 67 #[.val (.long q1), .second, .val (.int p2), .val (.int p3), .val (.int p4), .val (.long rr), .second, .val (.int (p2 &&& (3 : Int32))), .val (.int (((p2.toUInt32 >>> ((2 : Int32) &&& 31).toUInt32).toInt32) % (3 : Int32))), .unset, .unset, .unset] [(.int (p3 &&& (255 : Int32)))])) (fun _ k => XS.iand X0.here hx rfl (hb hby at_66) rfl k) ?_
        refine own_goW (B := s₁.setTop (mkF m 68 #[.val (.long q1), .second, .val (.int p2), .val (.int p3), .val (.int p4), .val (.long rr), .second, .val (.int (p2 &&& (3 : Int32))), .val (.int (((p2.toUInt32 >>> ((2 : Int32) &&& 31).toUInt32).toInt32) % (3 : Int32))), .unset, .unset, .unset] [(.int ((p3 &&& (255 : Int32)).toUInt32.toUInt16.toUInt32.toInt32))])) (fun _ k => XS.i2c X0.here hx rfl (hb hby at_67) rfl k) ?_
        obtain ⟨_, _, ⟨T14, L14, k14, n14⟩, -, X14, ⟨Lc14, hQ14, l14, y14, z14⟩, st14⟩ := Jvm.LawKit.callS X0 hx (y := (⟨"java/lang/String", "valueOf", "(C)Ljava/lang/String;"⟩ : MethodName)) hown (mvT hZ (own_w hw 39 rfl)) (mvT hZ (own_w hw 40 rfl)) (mvT hZ (own_w hw 2 rfl)) (mvT hZ (own_w hw 41 rfl)) (by decide) (backOf (W := 0) (own_valC l Z a0 hw [] ((p3 &&& (255 : Int32)).toUInt32.toUInt16.toUInt32.toInt32) cs h0 n0 (Nat.le_trans Z0 K0.1) P_S_java_lang_String_COMPACT_STRINGS hcs (own_pl_rm0_9 p2 p3 cs rr hcs hr0 hr1 hc5 hc13)) hZ (own_w hw 41 rfl) (own_w hw 2 rfl) (by decide) (by decide)) (g := (mkF m 68 #[.val (.long q1), .second, .val (.int p2), .val (.int p3), .val (.int p4), .val (.long rr), .second, .val (.int (p2 &&& (3 : Int32))), .val (.int (((p2.toUInt32 >>> ((2 : Int32) &&& 31).toUInt32).toInt32) % (3 : Int32))), .unset, .unset, .unset] [(.int ((p3 &&& (255 : Int32)).toUInt32.toUInt16.toUInt32.toInt32))])) rfl (by rw [hml]; rfl) (argsL := [(.int ((p3 &&& (255 : Int32)).toUInt32.toUInt16.toUInt32.toInt32))]) (rest := []) (lenOf own_pd8 rfl) rfl (by show 2 * 0 + _ ≤ _; exact Nat.le_of_eq rfl) (hb hby at_68) (fun _ _ => ⟨rfl, e0, (by decide : 0 + 2 ≤ _), (by decide : 0 + 5 ≤ _)⟩)
        dsimp only [Pt.U, Pt.locs, Pt.cells, Pt.slots] at X14 l14 y14 z14 st14 hQ14
        subst l14 y14 z14
        obtain ⟨b_14, t_14, kt_14, rfl, N14q, K14q, Q14_0, Q14_1, Q14_2, Q14_3, x14_0, x14_1⟩ := hQ14
        have N14 := Fr.app N0 N14q
        have hk := Nat.le_trans hk K14q.1
        have sz_b_14 : h0.size ≤ b_14 := Nat.le_trans K0.1 x14_0
        have g_b_14 : n0 ≤ b_14 := Nat.le_trans Z0 sz_b_14
        have sz_t_14 : h0.size ≤ t_14 := Nat.le_trans K0.1 x14_1
        have g_t_14 : n0 ≤ t_14 := Nat.le_trans Z0 sz_t_14
        have S_16 := own_Sta_keep P_S_java_lang_String_COMPACT_STRINGS K14q all0
        have K17 : Keep h0 T14.heap [] := K0.trans K14q all0
        refine own_goW (B := T14.setTop (mkF m 71 #[.val (.long q1), .second, .val (.int p2), .val (.int p3), .val (.int p4), .val (.long rr), .second, .val (.int (p2 &&& (3 : Int32))), .val (.int (((p2.toUInt32 >>> ((2 : Int32) &&& 31).toUInt32).toInt32) % (3 : Int32))), .unset, .unset, .unset] [(.ref b_14)])) st14 ?_
        refine own_goW (B := T14.setTop (mkF m 73 #[.val (.long q1), .second, .val (.int p2), .val (.int p3), .val (.int p4), .val (.long rr), .second, .val (.int (p2 &&& (3 : Int32))), .val (.int (((p2.toUInt32 >>> ((2 : Int32) &&& 31).toUInt32).toInt32) % (3 : Int32))), .val (.ref b_14), .unset, .unset] [])) (fun _ k => XS.astore X14.here hx rfl (hb hby at_71) rfl rfl (l' := #[.val (.long q1), .second, .val (.int p2), .val (.int p3), .val (.int p4), .val (.long rr), .second, .val (.int (p2 &&& (3 : Int32))), .val (.int (((p2.toUInt32 >>> ((2 : Int32) &&& 31).toUInt32).toInt32) % (3 : Int32))), .val (.ref b_14), .unset, .unset]) rfl k) ?_
        refine own_goW (B := T14.setTop (mkF m 107 #[.val (.long q1), .second, .val (.int p2), .val (.int p3), .val (.int p4), .val (.long rr), .second, .val (.int (p2 &&& (3 : Int32))), .val (.int (((p2.toUInt32 >>> ((2 : Int32) &&& 31).toUInt32).toInt32) % (3 : Int32))), .val (.ref b_14), .unset, .unset] [])) (fun _ k => XS.goto X14.here hx rfl (pc0 := 73) (pc' := 107) rfl (hb hby at_73) (by decide) (by decide) k) ?_
        refine own_goW (B := T14.setTop (mkF m 109 #[.val (.long q1), .second, .val (.int p2), .val (.int p3), .val (.int p4), .val (.long rr), .second, .val (.int (p2 &&& (3 : Int32))), .val (.int (((p2.toUInt32 >>> ((2 : Int32) &&& 31).toUInt32).toInt32) % (3 : Int32))), .val (.ref b_14), .unset, .unset] [(.ref b_14)])) (fun _ k => XS.aload X14.here hx rfl (hb hby at_107) rfl rfl k) ?_
        refine own_goW (B := T14.setTop (mkF m 111 #[.val (.long q1), .second, .val (.int p2), .val (.int p3), .val (.int p4), .val (.long rr), .second, .val (.int (p2 &&& (3 : Int32))), .val (.int (((p2.toUInt32 >>> ((2 : Int32) &&& 31).toUInt32).toInt32) % (3 : Int32))), .val (.ref b_14), .unset, .unset] [(.long rr), (.ref b_14)])) (fun _ k => XS.lload X14.here hx rfl (hb hby at_109) rfl  k) ?_
        obtain ⟨_, _, ⟨T18, L18, k18, n18⟩, -, X18, ⟨Lc18, hQ18, l18, y18, z18⟩, st18⟩ := Jvm.LawKit.callS X14 hx (y := (⟨"com/example/rate_to_limit/ratetolimit/balance/RatingGroupBinding", "checkedRatingGroup", "(Ljava/lang/String;J)J"⟩ : MethodName)) hown (mvT hZ (own_w hw 9 rfl)) (mvT hZ (own_w hw 10 rfl)) (mvT hZ (own_w hw 11 rfl)) (mvT hZ (own_w hw 12 rfl)) (by decide) (backOf (W := 0) (own_rm1 l Z a0 hw [] b_14 rr T14.heap n0 (Nat.le_trans Z0 K17.1) hr0 hr1) hZ (own_w hw 12 rfl) (own_w hw 11 rfl) (by decide) (by decide)) (g := (mkF m 111 #[.val (.long q1), .second, .val (.int p2), .val (.int p3), .val (.int p4), .val (.long rr), .second, .val (.int (p2 &&& (3 : Int32))), .val (.int (((p2.toUInt32 >>> ((2 : Int32) &&& 31).toUInt32).toInt32) % (3 : Int32))), .val (.ref b_14), .unset, .unset] [(.long rr), (.ref b_14)])) rfl (by rw [hml]; rfl) (argsL := [(.ref b_14), (.long rr)]) (rest := []) (lenOf own_pd7 rfl) rfl (by show 2 * 0 + _ ≤ _; exact Nat.le_of_eq rfl) (hb hby at_111) (fun _ _ => ⟨rfl, rfl, (by decide : 2 + 0 ≤ _), (by decide : 5 + 0 ≤ _)⟩)
        dsimp only [Pt.U, Pt.locs, Pt.cells, Pt.slots] at X18 l18 y18 z18 st18 hQ18
        subst l18 y18 z18
        obtain ⟨rfl, N18q, e18⟩ := hQ18
        have N18 := Fr.app N14 N18q
        refine own_goW (B := T18.setTop (mkF m 114 #[.val (.long q1), .second, .val (.int p2), .val (.int p3), .val (.int p4), .val (.long rr), .second, .val (.int (p2 &&& (3 : Int32))), .val (.int (((p2.toUInt32 >>> ((2 : Int32) &&& 31).toUInt32).toInt32) % (3 : Int32))), .val (.ref b_14), .unset, .unset] [(.long rr)])) st18 ?_
        refine own_goW (B := T18.setTop (mkF m 116 #[.val (.long q1), .second, .val (.int p2), .val (.int p3), .val (.int p4), .val (.long rr), .second, .val (.int (p2 &&& (3 : Int32))), .val (.int (((p2.toUInt32 >>> ((2 : Int32) &&& 31).toUInt32).toInt32) % (3 : Int32))), .val (.ref b_14), .val (.long rr), .second] [])) (fun _ k => XS.lstore X18.here hx rfl (hb hby at_114) rfl (l' := #[.val (.long q1), .second, .val (.int p2), .val (.int p3), .val (.int p4), .val (.long rr), .second, .val (.int (p2 &&& (3 : Int32))), .val (.int (((p2.toUInt32 >>> ((2 : Int32) &&& 31).toUInt32).toInt32) % (3 : Int32))), .val (.ref b_14), .val (.long rr), .second]) rfl k) ?_
        refine own_goW (B := T18.setTop (mkF m 118 #[.val (.long q1), .second, .val (.int p2), .val (.int p3), .val (.int p4), .val (.long rr), .second, .val (.int (p2 &&& (3 : Int32))), .val (.int (((p2.toUInt32 >>> ((2 : Int32) &&& 31).toUInt32).toInt32) % (3 : Int32))), .val (.ref b_14), .val (.long rr), .second] [(.long rr)])) (fun _ k => XS.lload X18.here hx rfl (hb hby at_116) rfl  k) ?_
        refine own_goW (B := T18.setTop (mkF m 120 #[.val (.long q1), .second, .val (.int p2), .val (.int p3), .val (.int p4), .val (.long rr), .second, .val (.int (p2 &&& (3 : Int32))), .val (.int (((p2.toUInt32 >>> ((2 : Int32) &&& 31).toUInt32).toInt32) % (3 : Int32))), .val (.ref b_14), .val (.long rr), .second] [(.long rr), (.long rr)])) (fun _ k => XS.lload X18.here hx rfl (hb hby at_118) rfl  k) ?_
        refine own_goW (B := T18.setTop (mkF m 121 #[.val (.long q1), .second, .val (.int p2), .val (.int p3), .val (.int p4), .val (.long rr), .second, .val (.int (p2 &&& (3 : Int32))), .val (.int (((p2.toUInt32 >>> ((2 : Int32) &&& 31).toUInt32).toInt32) % (3 : Int32))), .val (.ref b_14), .val (.long rr), .second] [(.int (lcmpW rr rr))])) (fun _ k => XS.lcmp X18.here hx rfl (hb hby at_120) rfl k) ?_
        refine own_goW (B := T18.setTop (mkF m 124 #[.val (.long q1), .second, .val (.int p2), .val (.int p3), .val (.int p4), .val (.long rr), .second, .val (.int (p2 &&& (3 : Int32))), .val (.int (((p2.toUInt32 >>> ((2 : Int32) &&& 31).toUInt32).toInt32) % (3 : Int32))), .val (.ref b_14), .val (.long rr), .second] [])) (fun _ k => XS.ifNo X18.here hx rfl (hb hby at_121) rfl ((if0 _ _).trans (teq ((lw_eq rr rr).mpr (rfl : rr = rr))).2) k) ?_
        refine own_goW (B := T18.setTop (mkF m 126 #[.val (.long q1), .second, .val (.int p2), .val (.int p3), .val (.int p4), .val (.long rr), .second, .val (.int (p2 &&& (3 : Int32))), .val (.int (((p2.toUInt32 >>> ((2 : Int32) &&& 31).toUInt32).toInt32) % (3 : Int32))), .val (.ref b_14), .val (.long rr), .second] [(.long rr)])) (fun _ k => XS.lload X18.here hx rfl (hb hby at_124) rfl  k) ?_
        refine own_goW (B := T18.setTop (mkF m 127 #[.val (.long q1), .second, .val (.int p2), .val (.int p3), .val (.int p4), .val (.long rr), .second, .val (.int (p2 &&& (3 : Int32))), .val (.int (((p2.toUInt32 >>> ((2 : Int32) &&& 31).toUInt32).toInt32) % (3 : Int32))), .val (.ref b_14), .val (.long rr), .second] [(.long (0 : Int64)), (.long rr)])) (fun _ k => XS.lconst X18.here hx rfl (hb hby at_126) k) ?_
        refine own_goW (B := T18.setTop (mkF m 128 #[.val (.long q1), .second, .val (.int p2), .val (.int p3), .val (.int p4), .val (.long rr), .second, .val (.int (p2 &&& (3 : Int32))), .val (.int (((p2.toUInt32 >>> ((2 : Int32) &&& 31).toUInt32).toInt32) % (3 : Int32))), .val (.ref b_14), .val (.long rr), .second] [(.int (lcmpW rr (0 : Int64)))])) (fun _ k => XS.lcmp X18.here hx rfl (hb hby at_127) rfl k) ?_
        have hc19 : ¬ (rr < (0 : Int64)) := (own_pl_rm0_10 p2 cs rr hcs hr0 hr1 hc5 hc13)
        refine own_goW (B := T18.setTop (mkF m 131 #[.val (.long q1), .second, .val (.int p2), .val (.int p3), .val (.int p4), .val (.long rr), .second, .val (.int (p2 &&& (3 : Int32))), .val (.int (((p2.toUInt32 >>> ((2 : Int32) &&& 31).toUInt32).toInt32) % (3 : Int32))), .val (.ref b_14), .val (.long rr), .second] [])) (fun _ k => XS.ifNo X18.here hx rfl (hb hby at_128) rfl ((if0 _ _).trans (flt (mt (lw_lt rr (0 : Int64)).mp hc19)).1) k) ?_
        refine own_goW (B := T18.setTop (mkF m 133 #[.val (.long q1), .second, .val (.int p2), .val (.int p3), .val (.int p4), .val (.long rr), .second, .val (.int (p2 &&& (3 : Int32))), .val (.int (((p2.toUInt32 >>> ((2 : Int32) &&& 31).toUInt32).toInt32) % (3 : Int32))), .val (.ref b_14), .val (.long rr), .second] [(.long rr)])) (fun _ k => XS.lload X18.here hx rfl (hb hby at_131) rfl  k) ?_
        refine own_goW (B := T18.setTop (mkF m 136 #[.val (.long q1), .second, .val (.int p2), .val (.int p3), .val (.int p4), .val (.long rr), .second, .val (.int (p2 &&& (3 : Int32))), .val (.int (((p2.toUInt32 >>> ((2 : Int32) &&& 31).toUInt32).toInt32) % (3 : Int32))), .val (.ref b_14), .val (.long rr), .second] [(.long (4294967295 : Int64)), (.long rr)])) (fun _ k => X18.ldc2Long hx hown (mvT hZ (own_w hw 0 rfl)) (g := (mkF m 133 #[.val (.long q1), .second, .val (.int p2), .val (.int p3), .val (.int p4), .val (.long rr), .second, .val (.int (p2 &&& (3 : Int32))), .val (.int (((p2.toUInt32 >>> ((2 : Int32) &&& 31).toUInt32).toInt32) % (3 : Int32))), .val (.ref b_14), .val (.long rr), .second] [(.long rr)])) rfl (hb hby at_133) _ k) ?_
        refine own_goW (B := T18.setTop (mkF m 137 #[.val (.long q1), .second, .val (.int p2), .val (.int p3), .val (.int p4), .val (.long rr), .second, .val (.int (p2 &&& (3 : Int32))), .val (.int (((p2.toUInt32 >>> ((2 : Int32) &&& 31).toUInt32).toInt32) % (3 : Int32))), .val (.ref b_14), .val (.long rr), .second] [(.int (lcmpW rr (4294967295 : Int64)))])) (fun _ k => XS.lcmp X18.here hx rfl (hb hby at_136) rfl k) ?_
        have hc20 : ¬ ((4294967295 : Int64) < rr) := (own_pl_rm0_11 p2 cs rr hcs hr0 hr1 hc5 hc13 hc19)
        refine own_goW (B := T18.setTop (mkF m 140 #[.val (.long q1), .second, .val (.int p2), .val (.int p3), .val (.int p4), .val (.long rr), .second, .val (.int (p2 &&& (3 : Int32))), .val (.int (((p2.toUInt32 >>> ((2 : Int32) &&& 31).toUInt32).toInt32) % (3 : Int32))), .val (.ref b_14), .val (.long rr), .second] [])) (fun _ k => XS.ifNo X18.here hx rfl (hb hby at_137) rfl ((if0 _ _).trans (flt (mt (lw_gt rr (4294967295 : Int64)).mp hc20)).2.2.1) k) ?_
        refine own_goW (B := T18.setTop (mkF m 141 #[.val (.long q1), .second, .val (.int p2), .val (.int p3), .val (.int p4), .val (.long rr), .second, .val (.int (p2 &&& (3 : Int32))), .val (.int (((p2.toUInt32 >>> ((2 : Int32) &&& 31).toUInt32).toInt32) % (3 : Int32))), .val (.ref b_14), .val (.long rr), .second] [(.int (1 : Int32))])) (fun _ k => XS.iconst X18.here hx rfl (hb hby at_140) k) ?_
        refine own_goW (B := T18.setTop (mkF m 145 #[.val (.long q1), .second, .val (.int p2), .val (.int p3), .val (.int p4), .val (.long rr), .second, .val (.int (p2 &&& (3 : Int32))), .val (.int (((p2.toUInt32 >>> ((2 : Int32) &&& 31).toUInt32).toInt32) % (3 : Int32))), .val (.ref b_14), .val (.long rr), .second] [(.int (1 : Int32))])) (fun _ k => XS.goto X18.here hx rfl (pc0 := 141) (pc' := 145) rfl (hb hby at_141) (by decide) (by decide) k) ?_
        exact own_retNW X18 hx hS Bd.notSynchronized (t := .boolean) (w := (1 : Int32)) Bd.returns (by simp) (hb hby at_145) e18 hk rfl ⟨rfl, N18, K17⟩ (by decide) (by decide)
      · skip
        refine own_goW (B := s₁.setTop (mkF m 76 #[.val (.long q1), .second, .val (.int p2), .val (.int p3), .val (.int p4), .val (.long rr), .second, .val (.int (p2 &&& (3 : Int32))), .val (.int (((p2.toUInt32 >>> ((2 : Int32) &&& 31).toUInt32).toInt32) % (3 : Int32))), .unset, .unset, .unset] [])) (fun _ k => XS.icmpYes X0.here hx rfl (pc0 := 59) (pc' := 76) rfl (hb hby at_59) rfl (feq hc13).2 (by decide) (by decide) k) ?_
        obtain ⟨T21, h21, X21, e21, E21, A21, D21, -, st21⟩ := newO X0 hx hZ hown (own_w hw 14 rfl) (own_w hw 3 rfl) (own_w hw 2 rfl) e0 (g := (mkF m 76 #[.val (.long q1), .second, .val (.int p2), .val (.int p3), .val (.int p4), .val (.long rr), .second, .val (.int (p2 &&& (3 : Int32))), .val (.int (((p2.toUInt32 >>> ((2 : Int32) &&& 31).toUInt32).toInt32) % (3 : Int32))), .unset, .unset, .unset] [])) rfl (hb hby at_76) (by decide) (by decide)
        obtain ⟨b21, g21⟩ : ∃ z, z = h0.size := ⟨_, rfl⟩
        rw [← g21] at A21 D21 st21
        have sz_b21 : h0.size ≤ b21 := Nat.le_trans K0.1 (Nat.le_of_eq g21.symm)
        have g_b21 : n0 ≤ b21 := Nat.le_trans Z0 sz_b21
        have S_23 := P_S_java_lang_String_COMPACT_STRINGS.ext E21
        have F_value_b21 : Fld Z h21 b21 "java/lang/String" "value" "[B" .null := D21 (Or.inr (own_w hw 5 rfl)) (ty := (.array .byte)) (by decide)
        have F_coder_b21 : Fld Z h21 b21 "java/lang/String" "coder" "B" (.int (0 : Int32)) := D21 (Or.inr (own_w hw 6 rfl)) (ty := .byte) (by decide)
        have hk := Nat.le_trans hk E21.1
        have K24 : Keep h0 h21 [] := K0.ext E21
        refine own_goW (B := T21.setTop (mkF m 79 #[.val (.long q1), .second, .val (.int p2), .val (.int p3), .val (.int p4), .val (.long rr), .second, .val (.int (p2 &&& (3 : Int32))), .val (.int (((p2.toUInt32 >>> ((2 : Int32) &&& 31).toUInt32).toInt32) % (3 : Int32))), .unset, .unset, .unset] [(.ref b21)])) st21 ?_
        refine own_goW (B := T21.setTop (mkF m 80 #[.val (.long q1), .second, .val (.int p2), .val (.int p3), .val (.int p4), .val (.long rr), .second, .val (.int (p2 &&& (3 : Int32))), .val (.int (((p2.toUInt32 >>> ((2 : Int32) &&& 31).toUInt32).toInt32) % (3 : Int32))), .unset, .unset, .unset] [(.ref b21), (.ref b21)])) (fun _ k => XS.dup X21.here hx rfl (hb hby at_79) rfl rfl k) ?_
        refine own_goW (B := T21.setTop (mkF m 81 #[.val (.long q1), .second, .val (.int p2), .val (.int p3), .val (.int p4), .val (.long rr), .second, .val (.int (p2 &&& (3 : Int32))), .val (.int (((p2.toUInt32 >>> ((2 : Int32) &&& 31).toUInt32).toInt32) % (3 : Int32))), .unset, .unset, .unset] [(.int (2 : Int32)), (.ref b21), (.ref b21)])) (fun _ k => XS.iconst X21.here hx rfl (hb hby at_80) k) ?_
        obtain ⟨T25, h25, kc25, X25, e25, E25, A25, st25⟩ := newP X21 hx hZ (own_w hw 15 rfl) e21 (g := (mkF m 81 #[.val (.long q1), .second, .val (.int p2), .val (.int p3), .val (.int p4), .val (.long rr), .second, .val (.int (p2 &&& (3 : Int32))), .val (.int (((p2.toUInt32 >>> ((2 : Int32) &&& 31).toUInt32).toInt32) % (3 : Int32))), .unset, .unset, .unset] [(.int (2 : Int32)), (.ref b21), (.ref b21)])) rfl (hb hby at_81) rfl (by decide) (cap := 2) (by decide) (by decide) (by decide) (by decide)
        obtain ⟨b25, g25⟩ : ∃ z, z = h21.size := ⟨_, rfl⟩
        rw [← g25] at A25 st25
        have ne_b21_b25_26 : b21 ≠ b25 := Nat.ne_of_lt (Nat.lt_of_lt_of_le A21.lt (Nat.le_of_eq g25.symm))
        have sz_b25 : h0.size ≤ b25 := Nat.le_trans K24.1 (Nat.le_of_eq g25.symm)
        have g_b25 : n0 ≤ b25 := Nat.le_trans Z0 sz_b25
        have S_28 := S_23.ext E25
        have E_29 := A21.ext E25
        have F_30 := F_value_b21.ext E25
        have F_31 := F_coder_b21.ext E25
        have V_b25 : Arv Z h25 b25 kc25 .char (2 : Int32) [(.int (0 : Int32)), (.int (0 : Int32))] (.int (0 : Int32)) := (Arv.new A25 (by decide)).pad (pad_rep [] (.int (0 : Int32)) 2)
        have hk := Nat.le_trans hk E25.1
        have K32 : Keep h0 h25 [] := K24.ext E25
        refine own_goW (B := T25.setTop (mkF m 83 #[.val (.long q1), .second, .val (.int p2), .val (.int p3), .val (.int p4), .val (.long rr), .second, .val (.int (p2 &&& (3 : Int32))), .val (.int (((p2.toUInt32 >>> ((2 : Int32) &&& 31).toUInt32).toInt32) % (3 : Int32))), .unset, .unset, .unset] [(.ref b25), (.ref b21), (.ref b21)])) st25 ?_
        refine own_goW (B := T25.setTop (mkF m 84 #[.val (.long q1), .second, .val (.int p2), .val (.int p3), .val (.int p4), .val (.long rr), .second, .val (.int (p2 &&& (3 : Int32))), .val (.int (((p2.toUInt32 >>> ((2 : Int32) &&& 31).toUInt32).toInt32) % (3 : Int32))), .unset, .unset, .unset] [(.ref b25), (.ref b25), (.ref b21), (.ref b21)])) (fun _ k => XS.dup X25.here hx rfl (hb hby at_83) rfl rfl k) ?_
        refine own_goW (B := T25.setTop (mkF m 85 #[.val (.long q1), .second, .val (.int p2), .val (.int p3), .val (.int p4), .val (.long rr), .second, .val (.int (p2 &&& (3 : Int32))), .val (.int (((p2.toUInt32 >>> ((2 : Int32) &&& 31).toUInt32).toInt32) % (3 : Int32))), .unset, .unset, .unset] [(.int (0 : Int32)), (.ref b25), (.ref b25), (.ref b21), (.ref b21)])) (fun _ k => XS.iconst X25.here hx rfl (hb hby at_84) k) ?_
        refine own_goW (B := T25.setTop (mkF m 86 #[.val (.long q1), .second, .val (.int p2), .val (.int p3), .val (.int p4), .val (.long rr), .second, .val (.int (p2 &&& (3 : Int32))), .val (.int (((p2.toUInt32 >>> ((2 : Int32) &&& 31).toUInt32).toInt32) % (3 : Int32))), .unset, .unset, .unset] [(.int p3), (.int (0 : Int32)), (.ref b25), (.ref b25), (.ref b21), (.ref b21)])) (fun _ k => XS.iloadN X25.here hx rfl (hb hby at_85) rfl  k) ?_
        refine own_goW (B := T25.setTop (mkF m 89 #[.val (.long q1), .second, .val (.int p2), .val (.int p3), .val (.int p4), .val (.long rr), .second, .val (.int (p2 &&& (3 : Int32))), .val (.int (((p2.toUInt32 >>> ((2 : Int32) &&& 31).toUInt32).toInt32) % (3 : Int32))), .unset, .unset, .unset] [(.int (255 : Int32)), (.int p3), (.int (0 : Int32)), (.ref b25), (.ref b25), (.ref b21), (.ref b21)])) (fun _ k => XS.sipush X25.here hx rfl (hb hby at_86) k) ?_
        refine own_goW (B := T25.setTop (mkF m 90 #[.val (.long q1), .second, .val (.int p2), .val (.int p3), .val (.int p4), .val (.long rr), .second, .val (.int (p2 &&& (3 : Int32))), .val (.int (((p2.toUInt32 >>> ((2 : Int32) &&& 31).toUInt32).toInt32) % (3 : Int32))), .unset, .unset, .unset] [(.int (p3 &&& (255 : Int32))), (.int (0 : Int32)), (.ref b25), (.ref b25), (.ref b21), (.ref b21)])) (fun _ k => XS.iand X25.here hx rfl (hb hby at_89) rfl k) ?_
        refine own_goW (B := T25.setTop (mkF m 91 #[.val (.long q1), .second, .val (.int p2), .val (.int p3), .val (.int p4), .val (.long rr), .second, .val (.int (p2 &&& (3 : Int32))), .val (.int (((p2.toUInt32 >>> ((2 : Int32) &&& 31).toUInt32).toInt32) % (3 : Int32))), .unset, .unset, .unset] [(.int ((p3 &&& (255 : Int32)).toUInt32.toUInt16.toUInt32.toInt32)), (.int (0 : Int32)), (.ref b25), (.ref b25), (.ref b21), (.ref b21)])) (fun _ k => XS.i2c X25.here hx rfl (hb hby at_90) rfl k) ?_
        obtain ⟨cl33, Ar33, q33, S33, N33n, H33, G33⟩ := id V_b25
        have hin34 : ¬ ((0 : Int32) < 0 ∨ cl33.slots.size ≤ ((0 : Int32)).toNatClampNeg) := inb_of S33 ⟨by decide, by decide⟩
        obtain ⟨T34, h34, X34, e34, W34, st34⟩ := stC X25 hx hZ e25 Ar33 (j := (0 : Int32)) hin34 (g := (mkF m 91 #[.val (.long q1), .second, .val (.int p2), .val (.int p3), .val (.int p4), .val (.long rr), .second, .val (.int (p2 &&& (3 : Int32))), .val (.int (((p2.toUInt32 >>> ((2 : Int32) &&& 31).toUInt32).toInt32) % (3 : Int32))), .unset, .unset, .unset] [(.int ((p3 &&& (255 : Int32)).toUInt32.toUInt16.toUInt32.toInt32)), (.int (0 : Int32)), (.ref b25), (.ref b25), (.ref b21), (.ref b21)])) rfl rfl (hb hby at_91)
        rw [own_narc] at W34
        have V_b25_34 : Arv Z h34 b25 kc25 .char (2 : Int32) [(.int ((p3 &&& (255 : Int32)).toUInt32.toUInt16.toUInt32.toInt32)), (.int (0 : Int32))] (.int (0 : Int32)) := Arv.set Ar33 q33 S33 N33n H33 G33 (fits_nar_char _) W34 0 rfl (Nat.le_of_ble_eq_true rfl)
        have S_36 := S_28.wr W34
        have E_37 := E_29.wr W34
        have F_38 := F_30.other W34 (Or.inl ne_b21_b25_26)
        have F_39 := F_31.other W34 (Or.inl ne_b21_b25_26)
        have hk := Nat.le_trans hk (Keep.of_wr W34).1
        have K41 : Keep h0 h34 [] := K32.wr W34 (Or.inr sz_b25)
        have N34 := Fr.snoc X34 N0 g_b25
        refine own_goW (B := T34.setTop (mkF m 92 #[.val (.long q1), .second, .val (.int p2), .val (.int p3), .val (.int p4), .val (.long rr), .second, .val (.int (p2 &&& (3 : Int32))), .val (.int (((p2.toUInt32 >>> ((2 : Int32) &&& 31).toUInt32).toInt32) % (3 : Int32))), .unset, .unset, .unset] [(.ref b25), (.ref b21), (.ref b21)])) st34 ?_
        refine own_goW (B := T34.setTop (mkF m 93 #[.val (.long q1), .second, .val (.int p2), .val (.int p3), .val (.int p4), .val (.long rr), .second, .val (.int (p2 &&& (3 : Int32))), .val (.int (((p2.toUInt32 >>> ((2 : Int32) &&& 31).toUInt32).toInt32) % (3 : Int32))), .unset, .unset, .unset] [(.ref b25), (.ref b25), (.ref b21), (.ref b21)])) (fun _ k => XS.dup X34.here hx rfl (hb hby at_92) rfl rfl k) ?_
        refine own_goW (B := T34.setTop (mkF m 94 #[.val (.long q1), .second, .val (.int p2), .val (.int p3), .val (.int p4), .val (.long rr), .second, .val (.int (p2 &&& (3 : Int32))), .val (.int (((p2.toUInt32 >>> ((2 : Int32) &&& 31).toUInt32).toInt32) % (3 : Int32))), .unset, .unset, .unset] [(.int (1 : Int32)), (.ref b25), (.ref b25), (.ref b21), (.ref b21)])) (fun _ k => XS.iconst X34.here hx rfl (hb hby at_93) k) ?_
        refine own_goW (B := T34.setTop (mkF m 96 #[.val (.long q1), .second, .val (.int p2), .val (.int p3), .val (.int p4), .val (.long rr), .second, .val (.int (p2 &&& (3 : Int32))), .val (.int (((p2.toUInt32 >>> ((2 : Int32) &&& 31).toUInt32).toInt32) % (3 : Int32))), .unset, .unset, .unset] [(.int p4), (.int (1 : Int32)), (.ref b25), (.ref b25), (.ref b21), (.ref b21)])) (fun _ k => XS.iload X34.here hx rfl (hb hby at_94) rfl  k) ?_
        refine own_goW (B := T34.setTop (mkF m 99 #[.val (.long q1), .second, .val (.int p2), .val (.int p3), .val (.int p4), .val (.long rr), .second, .val (.int (p2 &&& (3 : Int32))), .val (.int (((p2.toUInt32 >>> ((2 : Int32) &&& 31).toUInt32).toInt32) % (3 : Int32))), .unset, .unset, .unset] [(.int (255 : Int32)), (.int p4), (.int (1 : Int32)), (.ref b25), (.ref b25), (.ref b21), (.ref b21)])) (fun _ k => XS.sipush X34.here hx rfl (hb hby at_96) k) ?_
        refine own_goW (B := T34.setTop (mkF m 100 #[.val (.long q1), .second, .val (.int p2), .val (.int p3), .val (.int p4), .val (.long rr), .second, .val (.int (p2 &&& (3 : Int32))), .val (.int (((p2.toUInt32 >>> ((2 : Int32) &&& 31).toUInt32).toInt32) % (3 : Int32))), .unset, .unset, .unset] [(.int (p4 &&& (255 : Int32))), (.int (1 : Int32)), (.ref b25), (.ref b25), (.ref b21), (.ref b21)])) (fun _ k => XS.iand X34.here hx rfl (hb hby at_99) rfl k) ?_
        refine own_goW (B := T34.setTop (mkF m 101 #[.val (.long q1), .second, .val (.int p2), .val (.int p3), .val (.int p4), .val (.long rr), .second, .val (.int (p2 &&& (3 : Int32))), .val (.int (((p2.toUInt32 >>> ((2 : Int32) &&& 31).toUInt32).toInt32) % (3 : Int32))), .unset, .unset, .unset] [(.int ((p4 &&& (255 : Int32)).toUInt32.toUInt16.toUInt32.toInt32)), (.int (1 : Int32)), (.ref b25), (.ref b25), (.ref b21), (.ref b21)])) (fun _ k => XS.i2c X34.here hx rfl (hb hby at_100) rfl k) ?_
        obtain ⟨cl42, Ar42, q42, S42, N42n, H42, G42⟩ := id V_b25_34
        have hin43 : ¬ ((1 : Int32) < 0 ∨ cl42.slots.size ≤ ((1 : Int32)).toNatClampNeg) := inb_of S42 ⟨by decide, by decide⟩
        obtain ⟨T43, h43, X43, e43, W43, st43⟩ := stC X34 hx hZ e34 Ar42 (j := (1 : Int32)) hin43 (g := (mkF m 101 #[.val (.long q1), .second, .val (.int p2), .val (.int p3), .val (.int p4), .val (.long rr), .second, .val (.int (p2 &&& (3 : Int32))), .val (.int (((p2.toUInt32 >>> ((2 : Int32) &&& 31).toUInt32).toInt32) % (3 : Int32))), .unset, .unset, .unset] [(.int ((p4 &&& (255 : Int32)).toUInt32.toUInt16.toUInt32.toInt32)), (.int (1 : Int32)), (.ref b25), (.ref b25), (.ref b21), (.ref b21)])) rfl rfl (hb hby at_101)
        rw [own_narc] at W43
        have V_b25_43 : Arv Z h43 b25 kc25 .char (2 : Int32) [(.int ((p3 &&& (255 : Int32)).toUInt32.toUInt16.toUInt32.toInt32)), (.int ((p4 &&& (255 : Int32)).toUInt32.toUInt16.toUInt32.toInt32))] (.int (0 : Int32)) := Arv.set Ar42 q42 S42 N42n H42 G42 (fits_nar_char _) W43 1 rfl (Nat.le_of_ble_eq_true rfl)
        have S_45 := S_36.wr W43
        have E_46 := E_37.wr W43
        have F_47 := F_38.other W43 (Or.inl ne_b21_b25_26)
        have F_48 := F_39.other W43 (Or.inl ne_b21_b25_26)
        have hk := Nat.le_trans hk (Keep.of_wr W43).1
        have K50 : Keep h0 h43 [] := K41.wr W43 (Or.inr sz_b25)
        have N43 := Fr.snoc X43 N34 g_b25
        refine own_goW (B := T43.setTop (mkF m 102 #[.val (.long q1), .second, .val (.int p2), .val (.int p3), .val (.int p4), .val (.long rr), .second, .val (.int (p2 &&& (3 : Int32))), .val (.int (((p2.toUInt32 >>> ((2 : Int32) &&& 31).toUInt32).toInt32) % (3 : Int32))), .unset, .unset, .unset] [(.ref b25), (.ref b21), (.ref b21)])) st43 ?_
        obtain ⟨_, _, ⟨T51, L51, k51, n51⟩, -, X51, ⟨Lc51, hQ51, l51, y51, z51⟩, st51⟩ := X43.specialBack hx (y := (⟨"java/lang/String", "<init>", "([C)V"⟩ : MethodName)) rfl hown (mvT hZ (own_w hw 16 rfl)) (mvT hZ (own_w hw 17 rfl)) (mvT hZ (own_w hw 18 rfl)) (by decide) (backOf (W := 1) (own_str2 l Z a0 hw [] b21 b25 kc25 ((p3 &&& (255 : Int32)).toUInt32.toUInt16.toUInt32.toInt32) ((p4 &&& (255 : Int32)).toUInt32.toUInt16.toUInt32.toInt32) cs h43 n0 (Nat.le_trans Z0 K50.1) E_46 F_47 F_48 V_b25_43 g_b21 ne_b21_b25_26 S_45 hcs (own_pl_rm0_12 p2 p3 cs rr hcs hr0 hr1 hc5 hc13) (own_pl_rm0_13 p2 p4 cs rr hcs hr0 hr1 hc5 hc13)) hZ (own_w hw 18 rfl) (own_w hw 2 rfl) (by decide) (by decide)) (g := (mkF m 102 #[.val (.long q1), .second, .val (.int p2), .val (.int p3), .val (.int p4), .val (.long rr), .second, .val (.int (p2 &&& (3 : Int32))), .val (.int (((p2.toUInt32 >>> ((2 : Int32) &&& 31).toUInt32).toInt32) % (3 : Int32))), .unset, .unset, .unset] [(.ref b25), (.ref b21), (.ref b21)])) rfl (by rw [hml]; rfl) (Steps.refl _) (a := b21) (argsL := [(.ref b25)]) (rest := [(.ref b21)]) (lenOf own_pd9 rfl) rfl (by show 2 * 0 + _ ≤ _; exact Nat.le_of_eq rfl) (hb hby at_102) (fun _ _ => ⟨rfl, e43, (by decide : 2 + 1 ≤ _), (by decide : 6 + 2 ≤ _)⟩)
        dsimp only [Pt.U, Pt.locs, Pt.cells, Pt.slots] at X51 l51 y51 z51 st51 hQ51
        subst l51 y51 z51
        obtain ⟨t_51, kt_51, rfl, N51q, K51q, Q51_0, Q51_1, Q51_2, Q51_3, x51_0⟩ := hQ51
        have N51 := Fr.app N43 N51q
        have hk := Nat.le_trans hk K51q.1
        have ne_b21_t_51_52 : b21 ≠ t_51 := Nat.ne_of_lt (Nat.lt_of_lt_of_le E_46.lt x51_0)
        have ne_b25_t_51_53 : b25 ≠ t_51 := Nat.ne_of_lt (Nat.lt_of_lt_of_le V_b25_43.lt x51_0)
        have sz_t_51 : h0.size ≤ t_51 := Nat.le_trans K50.1 x51_0
        have g_t_51 : n0 ≤ t_51 := Nat.le_trans Z0 sz_t_51
        have S_55 := own_Sta_keep S_45 K51q (allS (own_plain E_46) all0)
        have V_59 := V_b25_43.keep K51q (ninS (Ne.symm ne_b21_b25_26) nin0)
        have K60 : Keep h0 T51.heap [] := K50.trans K51q (allS (Or.inr sz_b21) all0)
        refine own_goW (B := T51.setTop (mkF m 105 #[.val (.long q1), .second, .val (.int p2), .val (.int p3), .val (.int p4), .val (.long rr), .second, .val (.int (p2 &&& (3 : Int32))), .val (.int (((p2.toUInt32 >>> ((2 : Int32) &&& 31).toUInt32).toInt32) % (3 : Int32))), .unset, .unset, .unset] [(.ref b21)])) (fun _ k => st51.trans k) ?_
        refine own_goW (B := T51.setTop (mkF m 107 #[.val (.long q1), .second, .val (.int p2), .val (.int p3), .val (.int p4), .val (.long rr), .second, .val (.int (p2 &&& (3 : Int32))), .val (.int (((p2.toUInt32 >>> ((2 : Int32) &&& 31).toUInt32).toInt32) % (3 : Int32))), .val (.ref b21), .unset, .unset] [])) (fun _ k => XS.astore X51.here hx rfl (hb hby at_105) rfl rfl (l' := #[.val (.long q1), .second, .val (.int p2), .val (.int p3), .val (.int p4), .val (.long rr), .second, .val (.int (p2 &&& (3 : Int32))), .val (.int (((p2.toUInt32 >>> ((2 : Int32) &&& 31).toUInt32).toInt32) % (3 : Int32))), .val (.ref b21), .unset, .unset]) rfl k) ?_
        refine own_goW (B := T51.setTop (mkF m 109 #[.val (.long q1), .second, .val (.int p2), .val (.int p3), .val (.int p4), .val (.long rr), .second, .val (.int (p2 &&& (3 : Int32))), .val (.int (((p2.toUInt32 >>> ((2 : Int32) &&& 31).toUInt32).toInt32) % (3 : Int32))), .val (.ref b21), .unset, .unset] [(.ref b21)])) (fun _ k => XS.aload X51.here hx rfl (hb hby at_107) rfl rfl k) ?_
        refine own_goW (B := T51.setTop (mkF m 111 #[.val (.long q1), .second, .val (.int p2), .val (.int p3), .val (.int p4), .val (.long rr), .second, .val (.int (p2 &&& (3 : Int32))), .val (.int (((p2.toUInt32 >>> ((2 : Int32) &&& 31).toUInt32).toInt32) % (3 : Int32))), .val (.ref b21), .unset, .unset] [(.long rr), (.ref b21)])) (fun _ k => XS.lload X51.here hx rfl (hb hby at_109) rfl  k) ?_
        obtain ⟨_, _, ⟨T61, L61, k61, n61⟩, -, X61, ⟨Lc61, hQ61, l61, y61, z61⟩, st61⟩ := Jvm.LawKit.callS X51 hx (y := (⟨"com/example/rate_to_limit/ratetolimit/balance/RatingGroupBinding", "checkedRatingGroup", "(Ljava/lang/String;J)J"⟩ : MethodName)) hown (mvT hZ (own_w hw 9 rfl)) (mvT hZ (own_w hw 10 rfl)) (mvT hZ (own_w hw 11 rfl)) (mvT hZ (own_w hw 12 rfl)) (by decide) (backOf (W := 0) (own_rm1 l Z a0 hw [] b21 rr T51.heap n0 (Nat.le_trans Z0 K60.1) hr0 hr1) hZ (own_w hw 12 rfl) (own_w hw 11 rfl) (by decide) (by decide)) (g := (mkF m 111 #[.val (.long q1), .second, .val (.int p2), .val (.int p3), .val (.int p4), .val (.long rr), .second, .val (.int (p2 &&& (3 : Int32))), .val (.int (((p2.toUInt32 >>> ((2 : Int32) &&& 31).toUInt32).toInt32) % (3 : Int32))), .val (.ref b21), .unset, .unset] [(.long rr), (.ref b21)])) rfl (by rw [hml]; rfl) (argsL := [(.ref b21), (.long rr)]) (rest := []) (lenOf own_pd7 rfl) rfl (by show 2 * 0 + _ ≤ _; exact Nat.le_of_eq rfl) (hb hby at_111) (fun _ _ => ⟨rfl, rfl, (by decide : 3 + 0 ≤ _), (by decide : 8 + 0 ≤ _)⟩)
        dsimp only [Pt.U, Pt.locs, Pt.cells, Pt.slots] at X61 l61 y61 z61 st61 hQ61
        subst l61 y61 z61
        obtain ⟨rfl, N61q, e61⟩ := hQ61
        have N61 := Fr.app N51 N61q
        refine own_goW (B := T61.setTop (mkF m 114 #[.val (.long q1), .second, .val (.int p2), .val (.int p3), .val (.int p4), .val (.long rr), .second, .val (.int (p2 &&& (3 : Int32))), .val (.int (((p2.toUInt32 >>> ((2 : Int32) &&& 31).toUInt32).toInt32) % (3 : Int32))), .val (.ref b21), .unset, .unset] [(.long rr)])) st61 ?_
        refine own_goW (B := T61.setTop (mkF m 116 #[.val (.long q1), .second, .val (.int p2), .val (.int p3), .val (.int p4), .val (.long rr), .second, .val (.int (p2 &&& (3 : Int32))), .val (.int (((p2.toUInt32 >>> ((2 : Int32) &&& 31).toUInt32).toInt32) % (3 : Int32))), .val (.ref b21), .val (.long rr), .second] [])) (fun _ k => XS.lstore X61.here hx rfl (hb hby at_114) rfl (l' := #[.val (.long q1), .second, .val (.int p2), .val (.int p3), .val (.int p4), .val (.long rr), .second, .val (.int (p2 &&& (3 : Int32))), .val (.int (((p2.toUInt32 >>> ((2 : Int32) &&& 31).toUInt32).toInt32) % (3 : Int32))), .val (.ref b21), .val (.long rr), .second]) rfl k) ?_
        refine own_goW (B := T61.setTop (mkF m 118 #[.val (.long q1), .second, .val (.int p2), .val (.int p3), .val (.int p4), .val (.long rr), .second, .val (.int (p2 &&& (3 : Int32))), .val (.int (((p2.toUInt32 >>> ((2 : Int32) &&& 31).toUInt32).toInt32) % (3 : Int32))), .val (.ref b21), .val (.long rr), .second] [(.long rr)])) (fun _ k => XS.lload X61.here hx rfl (hb hby at_116) rfl  k) ?_
        refine own_goW (B := T61.setTop (mkF m 120 #[.val (.long q1), .second, .val (.int p2), .val (.int p3), .val (.int p4), .val (.long rr), .second, .val (.int (p2 &&& (3 : Int32))), .val (.int (((p2.toUInt32 >>> ((2 : Int32) &&& 31).toUInt32).toInt32) % (3 : Int32))), .val (.ref b21), .val (.long rr), .second] [(.long rr), (.long rr)])) (fun _ k => XS.lload X61.here hx rfl (hb hby at_118) rfl  k) ?_
        refine own_goW (B := T61.setTop (mkF m 121 #[.val (.long q1), .second, .val (.int p2), .val (.int p3), .val (.int p4), .val (.long rr), .second, .val (.int (p2 &&& (3 : Int32))), .val (.int (((p2.toUInt32 >>> ((2 : Int32) &&& 31).toUInt32).toInt32) % (3 : Int32))), .val (.ref b21), .val (.long rr), .second] [(.int (lcmpW rr rr))])) (fun _ k => XS.lcmp X61.here hx rfl (hb hby at_120) rfl k) ?_
        refine own_goW (B := T61.setTop (mkF m 124 #[.val (.long q1), .second, .val (.int p2), .val (.int p3), .val (.int p4), .val (.long rr), .second, .val (.int (p2 &&& (3 : Int32))), .val (.int (((p2.toUInt32 >>> ((2 : Int32) &&& 31).toUInt32).toInt32) % (3 : Int32))), .val (.ref b21), .val (.long rr), .second] [])) (fun _ k => XS.ifNo X61.here hx rfl (hb hby at_121) rfl ((if0 _ _).trans (teq ((lw_eq rr rr).mpr (rfl : rr = rr))).2) k) ?_
        refine own_goW (B := T61.setTop (mkF m 126 #[.val (.long q1), .second, .val (.int p2), .val (.int p3), .val (.int p4), .val (.long rr), .second, .val (.int (p2 &&& (3 : Int32))), .val (.int (((p2.toUInt32 >>> ((2 : Int32) &&& 31).toUInt32).toInt32) % (3 : Int32))), .val (.ref b21), .val (.long rr), .second] [(.long rr)])) (fun _ k => XS.lload X61.here hx rfl (hb hby at_124) rfl  k) ?_
        refine own_goW (B := T61.setTop (mkF m 127 #[.val (.long q1), .second, .val (.int p2), .val (.int p3), .val (.int p4), .val (.long rr), .second, .val (.int (p2 &&& (3 : Int32))), .val (.int (((p2.toUInt32 >>> ((2 : Int32) &&& 31).toUInt32).toInt32) % (3 : Int32))), .val (.ref b21), .val (.long rr), .second] [(.long (0 : Int64)), (.long rr)])) (fun _ k => XS.lconst X61.here hx rfl (hb hby at_126) k) ?_
        refine own_goW (B := T61.setTop (mkF m 128 #[.val (.long q1), .second, .val (.int p2), .val (.int p3), .val (.int p4), .val (.long rr), .second, .val (.int (p2 &&& (3 : Int32))), .val (.int (((p2.toUInt32 >>> ((2 : Int32) &&& 31).toUInt32).toInt32) % (3 : Int32))), .val (.ref b21), .val (.long rr), .second] [(.int (lcmpW rr (0 : Int64)))])) (fun _ k => XS.lcmp X61.here hx rfl (hb hby at_127) rfl k) ?_
        have hc62 : ¬ (rr < (0 : Int64)) := (own_pl_rm0_14 p2 cs rr hcs hr0 hr1 hc5 hc13)
        refine own_goW (B := T61.setTop (mkF m 131 #[.val (.long q1), .second, .val (.int p2), .val (.int p3), .val (.int p4), .val (.long rr), .second, .val (.int (p2 &&& (3 : Int32))), .val (.int (((p2.toUInt32 >>> ((2 : Int32) &&& 31).toUInt32).toInt32) % (3 : Int32))), .val (.ref b21), .val (.long rr), .second] [])) (fun _ k => XS.ifNo X61.here hx rfl (hb hby at_128) rfl ((if0 _ _).trans (flt (mt (lw_lt rr (0 : Int64)).mp hc62)).1) k) ?_
        refine own_goW (B := T61.setTop (mkF m 133 #[.val (.long q1), .second, .val (.int p2), .val (.int p3), .val (.int p4), .val (.long rr), .second, .val (.int (p2 &&& (3 : Int32))), .val (.int (((p2.toUInt32 >>> ((2 : Int32) &&& 31).toUInt32).toInt32) % (3 : Int32))), .val (.ref b21), .val (.long rr), .second] [(.long rr)])) (fun _ k => XS.lload X61.here hx rfl (hb hby at_131) rfl  k) ?_
        refine own_goW (B := T61.setTop (mkF m 136 #[.val (.long q1), .second, .val (.int p2), .val (.int p3), .val (.int p4), .val (.long rr), .second, .val (.int (p2 &&& (3 : Int32))), .val (.int (((p2.toUInt32 >>> ((2 : Int32) &&& 31).toUInt32).toInt32) % (3 : Int32))), .val (.ref b21), .val (.long rr), .second] [(.long (4294967295 : Int64)), (.long rr)])) (fun _ k => X61.ldc2Long hx hown (mvT hZ (own_w hw 0 rfl)) (g := (mkF m 133 #[.val (.long q1), .second, .val (.int p2), .val (.int p3), .val (.int p4), .val (.long rr), .second, .val (.int (p2 &&& (3 : Int32))), .val (.int (((p2.toUInt32 >>> ((2 : Int32) &&& 31).toUInt32).toInt32) % (3 : Int32))), .val (.ref b21), .val (.long rr), .second] [(.long rr)])) rfl (hb hby at_133) _ k) ?_
        refine own_goW (B := T61.setTop (mkF m 137 #[.val (.long q1), .second, .val (.int p2), .val (.int p3), .val (.int p4), .val (.long rr), .second, .val (.int (p2 &&& (3 : Int32))), .val (.int (((p2.toUInt32 >>> ((2 : Int32) &&& 31).toUInt32).toInt32) % (3 : Int32))), .val (.ref b21), .val (.long rr), .second] [(.int (lcmpW rr (4294967295 : Int64)))])) (fun _ k => XS.lcmp X61.here hx rfl (hb hby at_136) rfl k) ?_
        have hc63 : ¬ ((4294967295 : Int64) < rr) := (own_pl_rm0_15 p2 cs rr hcs hr0 hr1 hc5 hc13 hc62)
        refine own_goW (B := T61.setTop (mkF m 140 #[.val (.long q1), .second, .val (.int p2), .val (.int p3), .val (.int p4), .val (.long rr), .second, .val (.int (p2 &&& (3 : Int32))), .val (.int (((p2.toUInt32 >>> ((2 : Int32) &&& 31).toUInt32).toInt32) % (3 : Int32))), .val (.ref b21), .val (.long rr), .second] [])) (fun _ k => XS.ifNo X61.here hx rfl (hb hby at_137) rfl ((if0 _ _).trans (flt (mt (lw_gt rr (4294967295 : Int64)).mp hc63)).2.2.1) k) ?_
        refine own_goW (B := T61.setTop (mkF m 141 #[.val (.long q1), .second, .val (.int p2), .val (.int p3), .val (.int p4), .val (.long rr), .second, .val (.int (p2 &&& (3 : Int32))), .val (.int (((p2.toUInt32 >>> ((2 : Int32) &&& 31).toUInt32).toInt32) % (3 : Int32))), .val (.ref b21), .val (.long rr), .second] [(.int (1 : Int32))])) (fun _ k => XS.iconst X61.here hx rfl (hb hby at_140) k) ?_
        refine own_goW (B := T61.setTop (mkF m 145 #[.val (.long q1), .second, .val (.int p2), .val (.int p3), .val (.int p4), .val (.long rr), .second, .val (.int (p2 &&& (3 : Int32))), .val (.int (((p2.toUInt32 >>> ((2 : Int32) &&& 31).toUInt32).toInt32) % (3 : Int32))), .val (.ref b21), .val (.long rr), .second] [(.int (1 : Int32))])) (fun _ k => XS.goto X61.here hx rfl (pc0 := 141) (pc' := 145) rfl (hb hby at_141) (by decide) (by decide) k) ?_
        exact own_retNW X61 hx hS Bd.notSynchronized (t := .boolean) (w := (1 : Int32)) Bd.returns (by simp) (hb hby at_145) e61 hk rfl ⟨rfl, N61, K60⟩ (by decide) (by decide)
  refine own_goW (B := s₁.setTop (mkF m 7 #[.val (.long q1), .second, .val (.int p2), .val (.int p3), .val (.int p4), .unset, .unset, .val (.int (p2 &&& (3 : Int32))), .unset, .unset, .unset, .unset] [(.int (p2 &&& (3 : Int32)))])) (fun _ k => XS.iload X0.here hx rfl (hb hby at_5) rfl  k) ?_
  by_cases hc2 : (p2 &&& (3 : Int32)) = (0 : Int32)
  · skip
    refine own_goW (B := s₁.setTop (mkF m 10 #[.val (.long q1), .second, .val (.int p2), .val (.int p3), .val (.int p4), .unset, .unset, .val (.int (p2 &&& (3 : Int32))), .unset, .unset, .unset, .unset] [])) (fun _ k => XS.ifNo X0.here hx rfl (hb hby at_7) rfl ((if0 _ _).trans (teq hc2).2) k) ?_
    refine own_goW (B := s₁.setTop (mkF m 11 #[.val (.long q1), .second, .val (.int p2), .val (.int p3), .val (.int p4), .unset, .unset, .val (.int (p2 &&& (3 : Int32))), .unset, .unset, .unset, .unset] [(.long (0 : Int64))])) (fun _ k => XS.lconst X0.here hx rfl (hb hby at_10) k) ?_
    refine own_goW (B := s₁.setTop (mkF m 13 #[.val (.long q1), .second, .val (.int p2), .val (.int p3), .val (.int p4), .val (.long (0 : Int64)), .second, .val (.int (p2 &&& (3 : Int32))), .unset, .unset, .unset, .unset] [])) (fun _ k => XS.lstore X0.here hx rfl (hb hby at_11) rfl (l' := #[.val (.long q1), .second, .val (.int p2), .val (.int p3), .val (.int p4), .val (.long (0 : Int64)), .second, .val (.int (p2 &&& (3 : Int32))), .unset, .unset, .unset, .unset]) rfl k) ?_
    refine own_goW (B := s₁.setTop (mkF m 37 #[.val (.long q1), .second, .val (.int p2), .val (.int p3), .val (.int p4), .val (.long (0 : Int64)), .second, .val (.int (p2 &&& (3 : Int32))), .unset, .unset, .unset, .unset] [])) (fun _ k => XS.goto X0.here hx rfl (pc0 := 13) (pc' := 37) rfl (hb hby at_13) (by decide) (by decide) k) ?_
    exact J1 (0 : Int64) (own_pl_rm0_1 p2 cs hcs hc2) (own_pl_rm0_2 p2 cs hcs hc2)
  · skip
    refine own_goW (B := s₁.setTop (mkF m 16 #[.val (.long q1), .second, .val (.int p2), .val (.int p3), .val (.int p4), .unset, .unset, .val (.int (p2 &&& (3 : Int32))), .unset, .unset, .unset, .unset] [])) (fun _ k => XS.ifYes X0.here hx rfl (pc0 := 7) (pc' := 16) rfl (hb hby at_7) rfl ((if0 _ _).trans (feq hc2).2) (by decide) (by decide) k) ?_
    refine own_goW (B := s₁.setTop (mkF m 18 #[.val (.long q1), .second, .val (.int p2), .val (.int p3), .val (.int p4), .unset, .unset, .val (.int (p2 &&& (3 : Int32))), .unset, .unset, .unset, .unset] [(.int (p2 &&& (3 : Int32)))])) (fun _ k => XS.iload X0.here hx rfl (hb hby at_16) rfl  k) ?_
    refine own_goW (B := s₁.setTop (mkF m 19 #[.val (.long q1), .second, .val (.int p2), .val (.int p3), .val (.int p4), .unset, .unset, .val (.int (p2 &&& (3 : Int32))), .unset, .unset, .unset, .unset] [(.int (1 : Int32)), (.int (p2 &&& (3 : Int32)))])) (fun _ k => XS.iconst X0.here hx rfl (hb hby at_18) k) ?_
    by_cases hc3 : (p2 &&& (3 : Int32)) = (1 : Int32)
    · skip
      refine own_goW (B := s₁.setTop (mkF m 22 #[.val (.long q1), .second, .val (.int p2), .val (.int p3), .val (.int p4), .unset, .unset, .val (.int (p2 &&& (3 : Int32))), .unset, .unset, .unset, .unset] [])) (fun _ k => XS.icmpNo X0.here hx rfl (hb hby at_19) rfl (teq hc3).2 k) ?_
      refine own_goW (B := s₁.setTop (mkF m 25 #[.val (.long q1), .second, .val (.int p2), .val (.int p3), .val (.int p4), .unset, .unset, .val (.int (p2 &&& (3 : Int32))), .unset, .unset, .unset, .unset] [(.long (4294967295 : Int64))])) (fun _ k => X0.ldc2Long hx hown (mvT hZ (own_w hw 0 rfl)) (g := (mkF m 22 #[.val (.long q1), .second, .val (.int p2), .val (.int p3), .val (.int p4), .unset, .unset, .val (.int (p2 &&& (3 : Int32))), .unset, .unset, .unset, .unset] [])) rfl (hb hby at_22) _ k) ?_
      refine own_goW (B := s₁.setTop (mkF m 27 #[.val (.long q1), .second, .val (.int p2), .val (.int p3), .val (.int p4), .val (.long (4294967295 : Int64)), .second, .val (.int (p2 &&& (3 : Int32))), .unset, .unset, .unset, .unset] [])) (fun _ k => XS.lstore X0.here hx rfl (hb hby at_25) rfl (l' := #[.val (.long q1), .second, .val (.int p2), .val (.int p3), .val (.int p4), .val (.long (4294967295 : Int64)), .second, .val (.int (p2 &&& (3 : Int32))), .unset, .unset, .unset, .unset]) rfl k) ?_
      refine own_goW (B := s₁.setTop (mkF m 37 #[.val (.long q1), .second, .val (.int p2), .val (.int p3), .val (.int p4), .val (.long (4294967295 : Int64)), .second, .val (.int (p2 &&& (3 : Int32))), .unset, .unset, .unset, .unset] [])) (fun _ k => XS.goto X0.here hx rfl (pc0 := 27) (pc' := 37) rfl (hb hby at_27) (by decide) (by decide) k) ?_
      exact J1 (4294967295 : Int64) (own_pl_rm0_3 p2 cs hcs hc2 hc3) (own_pl_rm0_4 p2 cs hcs hc2 hc3)
    · skip
      refine own_goW (B := s₁.setTop (mkF m 30 #[.val (.long q1), .second, .val (.int p2), .val (.int p3), .val (.int p4), .unset, .unset, .val (.int (p2 &&& (3 : Int32))), .unset, .unset, .unset, .unset] [])) (fun _ k => XS.icmpYes X0.here hx rfl (pc0 := 19) (pc' := 30) rfl (hb hby at_19) rfl (feq hc3).2 (by decide) (by decide) k) ?_
      refine own_goW (B := s₁.setTop (mkF m 31 #[.val (.long q1), .second, .val (.int p2), .val (.int p3), .val (.int p4), .unset, .unset, .val (.int (p2 &&& (3 : Int32))), .unset, .unset, .unset, .unset] [(.long q1)])) (fun _ k => XS.lloadN X0.here hx rfl (hb hby at_30) rfl  k) ?_
      refine own_goW (B := s₁.setTop (mkF m 34 #[.val (.long q1), .second, .val (.int p2), .val (.int p3), .val (.int p4), .unset, .unset, .val (.int (p2 &&& (3 : Int32))), .unset, .unset, .unset, .unset] [(.long (4294967295 : Int64)), (.long q1)])) (fun _ k => X0.ldc2Long hx hown (mvT hZ (own_w hw 0 rfl)) (g := (mkF m 31 #[.val (.long q1), .second, .val (.int p2), .val (.int p3), .val (.int p4), .unset, .unset, .val (.int (p2 &&& (3 : Int32))), .unset, .unset, .unset, .unset] [(.long q1)])) rfl (hb hby at_31) _ k) ?_
      refine own_goW (B := s₁.setTop (mkF m 35 #[.val (.long q1), .second, .val (.int p2), .val (.int p3), .val (.int p4), .unset, .unset, .val (.int (p2 &&& (3 : Int32))), .unset, .unset, .unset, .unset] [(.long (q1 &&& (4294967295 : Int64)))])) (fun _ k => XS.land X0.here hx rfl (hb hby at_34) rfl k) ?_
      refine own_goW (B := s₁.setTop (mkF m 37 #[.val (.long q1), .second, .val (.int p2), .val (.int p3), .val (.int p4), .val (.long (q1 &&& (4294967295 : Int64))), .second, .val (.int (p2 &&& (3 : Int32))), .unset, .unset, .unset, .unset] [])) (fun _ k => XS.lstore X0.here hx rfl (hb hby at_35) rfl (l' := #[.val (.long q1), .second, .val (.int p2), .val (.int p3), .val (.int p4), .val (.long (q1 &&& (4294967295 : Int64))), .second, .val (.int (p2 &&& (3 : Int32))), .unset, .unset, .unset, .unset]) rfl k) ?_
      exact J1 (q1 &&& (4294967295 : Int64)) (own_pl_rm0_5 q1 p2 cs hcs hc2 hc3) (own_pl_rm0_6 q1 p2 cs hcs hc2 hc3)
set_option maxRecDepth 65536 in
set_option maxHeartbeats 40000000 in
theorem comes_1 {Post : Tables → Env → Array Value → State → Outcome → State → Prop} (hpost : ∀ tb e args s v u, (limb_1_1.after args s (.returned v) u = true ∧ limb_1_2.after args s (.returned v) u = true ∧ True) → ReturnedEndW s (.returned v) u (Jvm.fieldLocs frame_1_writes args s ++ Jvm.arrayLocs frame_1_arrays args s ++ Jvm.staticLocs frame_1_statics s) 16 1152 → Post tb e args s (.returned v) u) :
    ArmFor flags0 classFile x code maxLocals ret World_1 tables_1 room_1 Calls_1 rest_1 Pre_1 Post := by
  intro l hfl _ _ p e ha hc hk s m args below hf hA hF happ hP
  obtain ⟨hcalls, hrest, hpre⟩ := hP
  obtain ⟨-, -, -, hnamed, -, -, -, hat⟩ := (Spec.applies_iff hf).mp happ
  obtain ⟨hg, hn⟩ := and_e (Cond.before_iff.mp (show (Jvm.Cond.and given_1 narrow_1).before args s = true from hpre))
  obtain ⟨gg1, gg2⟩ := and_e hg
  obtain ⟨gg3, gg4⟩ := and_e gg2
  obtain ⟨gg5, gg6⟩ := and_e gg4
  obtain ⟨gg7, gg8⟩ := and_e gg6
  obtain ⟨w0, w1, w2, w3, rfl⟩ : ∃ w0 w1 w2 w3 : Value, args = #[w0, w1, w2, w3] := by
    have hs : args.size = 4 := by simpa [Cond.value, given_1] using gg1
    obtain ⟨L⟩ := args
    match L, hs with
    | [w0, w1, w2, w3], _ => exact ⟨w0, w1, w2, w3, rfl⟩
  have hw := fun d (hd : d ∈ tables_1) => atoms_spec (ws := Jvm.Cond.code x code maxLocals ret :: tables_1) hat d (List.mem_cons_of_mem _ hd)
  have hfit : Fit s := fun {y c} hc i hi => by
    obtain ⟨ha, rfl⟩ := Array.getElem?_eq_some_iff.mp hc
    have q := List.all_eq_true.mp ((Array.all_eq_true_iff_forall_mem.mp hF) _ (Array.getElem_mem ha)) i (List.mem_range.mpr hi)
    simpa [Array.getElem?_eq_getElem hi] using q
  obtain ⟨hsets, hown0⟩ := atoms_of _ (rest_1_c_eq ▸ (show rest_1_c.before _ s = true from hrest))
  have hr0 := Cond.before_iff.mp hown0
  obtain ⟨i0, ei0⟩ := isL_v gg3
  obtain rfl : w0 = (.long i0) := Option.some.inj ei0
  obtain ⟨i1, ei1⟩ := is_v gg5
  obtain rfl : w1 = (.int i1) := Option.some.inj ei1
  obtain ⟨i2, ei2⟩ := is_v gg7
  obtain rfl : w2 = (.int i2) := Option.some.inj ei2
  obtain ⟨i3, ei3⟩ := is_v gg8
  obtain rfl : w3 = (.int i3) := Option.some.inj ei3
  obtain ⟨cs, Scs, hcs⟩ := own_cs (hsets _ (List.mem_of_getElem? (i := 0) rfl)) (hsets _ (List.mem_of_getElem? (i := 1) rfl)) (hsets _ (List.mem_of_getElem? (i := 2) rfl))
  obtain ⟨n, o, h1, h2, h3, _, L, rfl, ⟨rfl, N, _⟩, hq⟩ := own_rm0 l s _ hw tables_1 i0 i1 i2 i3 cs s.heap s.heap.size (Nat.le_refl _) Scs hcs p e ha hc hk s m _ below hf ((Spec.applies_iff_loose hf).mp happ).1 ⟨rfl, State.Warmed39.refl s, rfl⟩ trivial
  refine ⟨n, _, h1, h2, h3, hpost _ _ _ _ _ _ ⟨Cond.after_iff.mpr rfl, Cond.after_iff.mpr (eq_i res_at (Term.int_eval (1)) rfl), trivial⟩ ⟨hq.1, hq.2.1, hq.2.2.1, (hq.2.2.2.sift fun y hy => Or.inr (N y hy)).mono (by decide) (by decide)⟩⟩
theorem main_1_1 : Claimed_1_1 := comes_1 fun _ _ _ _ _ _ h hF => ⟨h.1, hF⟩
theorem main_1_2 : Claimed_1_2 := comes_1 fun _ _ _ _ _ _ h hF => ⟨h.2.1, hF⟩
end Jvm.Pilot.@@N@@
namespace Jvm.Pilot.@@N@@
open Jvm Jvm.ClassFile Sem Op Lib Jvm.Free Jvm.Stand Jvm.Pilot.@@N@@.Jvm.D
/-! MADE BY PROGRAM (witnessworld.py) out of the Statement's table words and the real class files: 20 classes; the members and pool entries that the words name. The judged class is class 1, her method 1. -/
namespace start1
open Jvm.ClassFile
def u (s : String) : CpInfo := .utf8 (stringToUtf16 s)
/-- a pool by its gaps: so many unusable entries, then the entry; so many at the end -/
def gap : Nat → List CpInfo → List CpInfo
  | 0, r => r
  | n + 1, r => .unusable :: gap n r
def poolList (es : List (Nat × CpInfo)) (last : Nat) : List CpInfo := es.foldr (fun e r => gap e.1 (e.2 :: r)) (gap last [])
def pool (es : List (Nat × CpInfo)) (last : Nat) : Array CpInfo := ⟨poolList es last⟩
def fileOf (pool : Array CpInfo) (this : Nat) (attrs : Array Attribute := #[]) (ms : Array MethodInfo := #[]) (fl : Nat := 33) (sup : Nat := 0) (ifs : Array Nat := #[]) (fds : Array FieldInfo := #[]) : ClassFile where
  minorVersion := 0
  majorVersion := 65
  constantPool := pool
  accessFlags := fl
  thisClass := this
  superClass := sup
  interfaces := ifs
  fields := fds
  methods := ms
  attributes := attrs
def plain (name : String) (sup : Option ClassId) : Class where
  name := name
  kind := .ordinary
  loader := none
  accessFlags := 33
  super := sup
  interfaces := #[]
  cf := none
  fields := #[]
  methods := #[]
  instanceTypes := #[]
  staticTypes := #[]
  resolved := #[]
  callSites := []
  init := .initialized
  statics := none
  mirror := none

def pool0 : Array CpInfo := pool [(5, u "<init>"), (0, u "()V"), (1, .class_ 10), (1, u "java/lang/Object")] 113

def k0c0 : Code := { maxStack := 0, maxLocals := 1, code := object_method_1_code, exceptionTable := #[], attributes := #[] }
def k0m0 : Method := { name := "<init>", desc := "()V", sig := { parameters := [], returnType := none }, accessFlags := 1, code := some k0c0 }
/-- java/lang/Object -/
def k0 : Class := { plain "java/lang/Object" none with
  accessFlags := 33
  interfaces := #[]
  cf := some (fileOf pool0 8 #[] #[{ accessFlags := 1, nameIndex := 5, descriptorIndex := 6, attributes := #[] }] 33 0 #[] #[])
  fields := #[]
  methods := #[k0m0]
  instanceTypes := #[]
  staticTypes := #[]
  resolved := Array.replicate 124 none
  statics := none }

def pool1 : Array CpInfo := pool [(2, .class_ 4), (1, u "java/lang/Object"), (0, u "<init>"), (0, u "()V"), (0, .long 4294967295), (1, .string 10), (0, u ""), (0, .methodref 12 13), (0, .class_ 14), (0, .nameAndType 15 16), (0, u "java/lang/String"), (0, u "valueOf"), (0, u "(C)Ljava/lang/String;"), (0, .methodref 12 18), (0, .nameAndType 5 19), (0, u "([C)V"), (0, .methodref 21 22), (0, .class_ 23), (0, .nameAndType 24 25), (0, u "com/example/rate_to_limit/ratetolimit/balance/RatingGroupBinding"), (0, u "checkedRatingGroup"), (0, u "(Ljava/lang/String;J)J"), (0, .class_ 27), (0, u "com/example/rate_to_limit/ratetolimit/balance/RatingGroupBindingCheckedRatingGroupPinLaw"), (2, u "law"), (0, u "(JIII)Z")] 3

def k1m0 : Method := { name := "<init>", desc := "()V", sig := { parameters := [], returnType := none }, accessFlags := 1, code := none }
def k1c1 : Code := { maxStack := 7, maxLocals := 12, code := code, exceptionTable := #[], attributes := #[] }
def k1m1 : Method := { name := "law", desc := "(JIII)Z", sig := { parameters := [.long, .int, .int, .int], returnType := some .boolean }, accessFlags := 9, code := some k1c1 }
/-- com/example/rate_to_limit/ratetolimit/balance/RatingGroupBindingCheckedRatingGroupPinLaw -/
def k1 : Class := { plain "com/example/rate_to_limit/ratetolimit/balance/RatingGroupBindingCheckedRatingGroupPinLaw" (some 0) with
  accessFlags := 49
  interfaces := #[]
  cf := some (fileOf pool1 26 #[] #[{ accessFlags := 1, nameIndex := 5, descriptorIndex := 6, attributes := #[] }, { accessFlags := 9, nameIndex := 30, descriptorIndex := 31, attributes := #[] }] 49 2 #[] #[])
  fields := #[]
  methods := #[k1m0, k1m1]
  instanceTypes := #[]
  staticTypes := #[]
  resolved := Array.replicate 35 none
  statics := none }

def pool2 : Array CpInfo := pool [(1, .class_ 2), (0, u "java/io/Serializable"), (0, .class_ 4), (0, u "java/lang/Object")] 2

/-- java/io/Serializable -/
def k2 : Class := { plain "java/io/Serializable" (some 0) with
  accessFlags := 1537
  interfaces := #[]
  cf := some (fileOf pool2 1 #[] #[] 1537 3 #[] #[])
  fields := #[]
  methods := #[]
  instanceTypes := #[]
  staticTypes := #[]
  resolved := Array.replicate 7 none
  statics := none }

def pool3 : Array CpInfo := pool [(1, .class_ 2), (0, u "java/lang/Comparable"), (0, .class_ 4), (0, u "java/lang/Object")] 7

/-- java/lang/Comparable -/
def k3 : Class := { plain "java/lang/Comparable" (some 0) with
  accessFlags := 1537
  interfaces := #[]
  cf := some (fileOf pool3 1 #[] #[] 1537 3 #[] #[])
  fields := #[]
  methods := #[]
  instanceTypes := #[]
  staticTypes := #[]
  resolved := Array.replicate 12 none
  statics := none }

def pool4 : Array CpInfo := pool [(2, .class_ 4), (1, u "java/lang/CharSequence"), (42, .class_ 48), (0, u "java/lang/CharSequence$1CodePointIterator"), (10, .class_ 60), (0, u "java/lang/CharSequence$1CharIterator"), (5, .class_ 67), (0, u "java/lang/Object")] 63

/-- java/lang/CharSequence -/
def k4 : Class := { plain "java/lang/CharSequence" (some 0) with
  accessFlags := 1537
  interfaces := #[]
  cf := some (fileOf pool4 2 #[.nestMembers #[47, 59]] #[] 1537 66 #[] #[])
  fields := #[]
  methods := #[]
  instanceTypes := #[]
  staticTypes := #[]
  resolved := Array.replicate 131 none
  statics := none }

def pool5 : Array CpInfo := pool [(1, .class_ 2), (0, u "java/lang/constant/Constable"), (0, .class_ 4), (0, u "java/lang/Object")] 6

/-- java/lang/constant/Constable -/
def k5 : Class := { plain "java/lang/constant/Constable" (some 0) with
  accessFlags := 1537
  interfaces := #[]
  cf := some (fileOf pool5 1 #[] #[] 1537 3 #[] #[])
  fields := #[]
  methods := #[]
  instanceTypes := #[]
  staticTypes := #[]
  resolved := Array.replicate 11 none
  statics := none }

def pool6 : Array CpInfo := pool [(1, .class_ 2), (0, u "java/lang/constant/ConstantDesc"), (0, .class_ 4), (0, u "java/lang/Object")] 32

/-- java/lang/constant/ConstantDesc -/
def k6 : Class := { plain "java/lang/constant/ConstantDesc" (some 0) with
  accessFlags := 1537
  interfaces := #[]
  cf := some (fileOf pool6 1 #[] #[] 1537 3 #[] #[])
  fields := #[]
  methods := #[]
  instanceTypes := #[]
  staticTypes := #[]
  resolved := Array.replicate 37 none
  statics := none }

def pool7 : Array CpInfo := pool [(1, .methodref 2 3), (0, .class_ 4), (0, .nameAndType 5 6), (0, u "java/lang/Object"), (0, u "<init>"), (0, u "()V"), (2, .fieldref 10 11), (0, .class_ 12), (0, .nameAndType 13 14), (0, u "java/lang/String"), (0, u "value"), (0, u "[B"), (0, .fieldref 10 16), (0, .nameAndType 17 18), (0, u "coder"), (0, u "B"), (2, u "hash"), (0, u "I"), (2, u "hashIsZero"), (0, u "Z"), (0, .methodref 10 28), (0, .nameAndType 5 29), (0, u "([CIILjava/lang/Void;)V"), (8, .fieldref 10 39), (0, .nameAndType 40 26), (0, u "COMPACT_STRINGS"), (1, .class_ 44), (1, u "java/lang/StringUTF16"), (0, u "compress"), (1, .methodref 42 48), (0, .nameAndType 49 50), (0, u "coderFromArrayLen"), (0, u "([BI)B"), (2, u "toBytes"), (53, .class_ 109), (1, u "java/lang/StringLatin1"), (67, .methodref 42 178), (0, .nameAndType 45 179), (0, u "([CII)[B"), (29, .methodref 10 210), (0, .nameAndType 5 211), (0, u "([BB)V"), (157, u "(C)Z"), (205, .class_ 576), (0, u "java/lang/CharSequence"), (22, u "CASE_INSENSITIVE_ORDER"), (0, u "Ljava/util/Comparator;"), (181, u "valueOf"), (0, u "(C)Ljava/lang/String;"), (226, u "([C)V"), (4, .methodref 107 1016), (0, .nameAndType 1017 369), (0, u "canEncode"), (0, .methodref 107 1019), (0, .nameAndType 53 1020), (0, u "(C)[B"), (80, u "serialPersistentFields"), (0, u "[Ljava/io/ObjectStreamField;"), (0, .class_ 1104), (0, u "java/lang/String$CaseInsensitiveComparator"), (1, .class_ 1107), (0, u "java/io/Serializable"), (0, .class_ 1109), (0, u "java/lang/Comparable"), (0, .class_ 1111), (0, u "java/lang/constant/Constable"), (0, .class_ 1113), (0, u "java/lang/constant/ConstantDesc"), (2, u "serialVersionUID"), (0, u "J"), (3, u "REPL"), (0, u "C"), (2, u "LATIN1"), (1, u "UTF16")] 323

def k7m0 : Method := { name := "<init>", desc := "()V", sig := { parameters := [], returnType := none }, accessFlags := 1, code := none }
def k7c1 : Code := { maxStack := 5, maxLocals := 2, code := jdk_42_method_3_code, exceptionTable := #[], attributes := #[] }
def k7m1 : Method := { name := "<init>", desc := "([C)V", sig := { parameters := [(.array .char)], returnType := none }, accessFlags := 1, code := some k7c1 }
def k7c2 : Code := { maxStack := 4, maxLocals := 1, code := jdk_42_method_139_code, exceptionTable := #[], attributes := #[] }
def k7m2 : Method := { name := "valueOf", desc := "(C)Ljava/lang/String;", sig := { parameters := [.char], returnType := some (.object "java/lang/String") }, accessFlags := 9, code := some k7c2 }
def k7c3 : Code := { maxStack := 4, maxLocals := 6, code := jdk_42_method_149_code, exceptionTable := #[], attributes := #[] }
def k7m3 : Method := { name := "<init>", desc := "([CIILjava/lang/Void;)V", sig := { parameters := [(.array .char), .int, .int, (.object "java/lang/Void")], returnType := none }, accessFlags := 2, code := some k7c3 }
def k7c4 : Code := { maxStack := 2, maxLocals := 3, code := jdk_42_method_151_code, exceptionTable := #[], attributes := #[] }
def k7m4 : Method := { name := "<init>", desc := "([BB)V", sig := { parameters := [(.array .byte), .byte], returnType := none }, accessFlags := 0, code := some k7c4 }
/-- java/lang/String -/
def k7 : Class := { plain "java/lang/String" (some 0) with
  accessFlags := 49
  interfaces := #[2, 3, 4, 5, 6]
  cf := some (fileOf pool7 10 #[.nestMembers #[1103]] #[{ accessFlags := 1, nameIndex := 5, descriptorIndex := 6, attributes := #[] }, { accessFlags := 1, nameIndex := 5, descriptorIndex := 1010, attributes := #[] }, { accessFlags := 9, nameIndex := 782, descriptorIndex := 783, attributes := #[] }, { accessFlags := 2, nameIndex := 5, descriptorIndex := 29, attributes := #[] }, { accessFlags := 0, nameIndex := 5, descriptorIndex := 211, attributes := #[] }] 49 2 #[1106, 1108, 575, 1110, 1112] #[{ accessFlags := 18, nameIndex := 13, descriptorIndex := 14, attributes := #[] }, { accessFlags := 18, nameIndex := 17, descriptorIndex := 18, attributes := #[] }, { accessFlags := 2, nameIndex := 21, descriptorIndex := 22, attributes := #[] }, { accessFlags := 2, nameIndex := 25, descriptorIndex := 26, attributes := #[] }, { accessFlags := 26, nameIndex := 1116, descriptorIndex := 1117, attributes := #[] }, { accessFlags := 24, nameIndex := 40, descriptorIndex := 26, attributes := #[] }, { accessFlags := 26, nameIndex := 1101, descriptorIndex := 1102, attributes := #[] }, { accessFlags := 26, nameIndex := 1121, descriptorIndex := 1122, attributes := #[] }, { accessFlags := 25, nameIndex := 599, descriptorIndex := 600, attributes := #[] }, { accessFlags := 24, nameIndex := 1125, descriptorIndex := 18, attributes := #[] }, { accessFlags := 24, nameIndex := 1127, descriptorIndex := 18, attributes := #[] }])
  fields := #[{ name := "value", type := (.array .byte), accessFlags := 18, slot := 0, constantValue := 0 }, { name := "coder", type := .byte, accessFlags := 18, slot := 1, constantValue := 0 }, { name := "hash", type := .int, accessFlags := 2, slot := 2, constantValue := 0 }, { name := "hashIsZero", type := .boolean, accessFlags := 2, slot := 3, constantValue := 0 }, { name := "serialVersionUID", type := .long, accessFlags := 26, slot := 0, constantValue := 0 }, { name := "COMPACT_STRINGS", type := .boolean, accessFlags := 24, slot := 1, constantValue := 0 }, { name := "serialPersistentFields", type := (.array (.object "java/io/ObjectStreamField")), accessFlags := 26, slot := 2, constantValue := 0 }, { name := "REPL", type := .char, accessFlags := 26, slot := 3, constantValue := 0 }, { name := "CASE_INSENSITIVE_ORDER", type := (.object "java/util/Comparator"), accessFlags := 25, slot := 4, constantValue := 0 }, { name := "LATIN1", type := .byte, accessFlags := 24, slot := 5, constantValue := 0 }, { name := "UTF16", type := .byte, accessFlags := 24, slot := 6, constantValue := 0 }]
  methods := #[k7m0, k7m1, k7m2, k7m3, k7m4]
  instanceTypes := #[(.array .byte), .byte, .int, .boolean]
  staticTypes := #[.long, .boolean, (.array (.object "java/io/ObjectStreamField")), .char, (.object "java/util/Comparator"), .byte, .byte]
  resolved := Array.replicate 1451 none
  statics := some 0 }

def pool8 : Array CpInfo := pool [(2, .class_ 4), (1, u "java/lang/Object"), (3, u "supi"), (7, .class_ 18), (1, u "com/example/rate_to_limit/ratetolimit/balance/RatingGroupBinding"), (0, u "Ljava/lang/String;"), (1, u "ratingGroup"), (2, u "checkedRatingGroup"), (0, u "(Ljava/lang/String;J)J"), (2, u "J"), (16, u "balanceIds"), (0, u "Ljava/util/List;"), (1, u "unit"), (10, u "Lcom/example/rate_to_limit/ratetolimit/balance/ServiceUnit;"), (35, u "quota"), (0, u "Ljava/math/BigDecimal;"), (8, u "validity"), (0, u "Ljava/time/Duration;"), (0, .long 4294967295), (9, u "MAX_RATING_GROUP")] 36

def k8c0 : Code := { maxStack := 4, maxLocals := 3, code := prog_47_method_2_code, exceptionTable := #[], attributes := #[] }
def k8m0 : Method := { name := "checkedRatingGroup", desc := "(Ljava/lang/String;J)J", sig := { parameters := [(.object "java/lang/String"), .long], returnType := some .long }, accessFlags := 9, code := some k8c0 }
/-- com/example/rate_to_limit/ratetolimit/balance/RatingGroupBinding -/
def k8 : Class := { plain "com/example/rate_to_limit/ratetolimit/balance/RatingGroupBinding" (some 0) with
  accessFlags := 33
  interfaces := #[]
  cf := some (fileOf pool8 16 #[] #[{ accessFlags := 9, nameIndex := 24, descriptorIndex := 25, attributes := #[] }] 33 2 #[] #[{ accessFlags := 25, nameIndex := 117, descriptorIndex := 28, attributes := #[] }, { accessFlags := 18, nameIndex := 8, descriptorIndex := 19, attributes := #[] }, { accessFlags := 18, nameIndex := 21, descriptorIndex := 28, attributes := #[] }, { accessFlags := 18, nameIndex := 45, descriptorIndex := 46, attributes := #[] }, { accessFlags := 18, nameIndex := 48, descriptorIndex := 59, attributes := #[] }, { accessFlags := 18, nameIndex := 95, descriptorIndex := 96, attributes := #[] }, { accessFlags := 18, nameIndex := 105, descriptorIndex := 106, attributes := #[] }])
  fields := #[{ name := "MAX_RATING_GROUP", type := .long, accessFlags := 25, slot := 0, constantValue := 0 }, { name := "supi", type := (.object "java/lang/String"), accessFlags := 18, slot := 0, constantValue := 0 }, { name := "ratingGroup", type := .long, accessFlags := 18, slot := 1, constantValue := 0 }, { name := "balanceIds", type := (.object "java/util/List"), accessFlags := 18, slot := 2, constantValue := 0 }, { name := "unit", type := (.object "com/example/rate_to_limit/ratetolimit/balance/ServiceUnit"), accessFlags := 18, slot := 3, constantValue := 0 }, { name := "quota", type := (.object "java/math/BigDecimal"), accessFlags := 18, slot := 4, constantValue := 0 }, { name := "validity", type := (.object "java/time/Duration"), accessFlags := 18, slot := 5, constantValue := 0 }]
  methods := #[k8m0]
  instanceTypes := #[(.object "java/lang/String"), .long, (.object "java/util/List"), (.object "com/example/rate_to_limit/ratetolimit/balance/ServiceUnit"), (.object "java/math/BigDecimal"), (.object "java/time/Duration")]
  staticTypes := #[.long]
  resolved := Array.replicate 154 none
  statics := none }

def pool9 : Array CpInfo := pool [(6, .class_ 8), (1, u "java/lang/Object"), (0, u "<init>"), (0, u "()V"), (1, .class_ 14), (1, u "java/lang/StringUTF16"), (31, u "$assertionsDisabled"), (0, u "Z"), (13, u "HI_BYTE_SHIFT"), (0, u "I"), (2, u "LO_BYTE_SHIFT"), (49, .methodref 12 116), (0, .nameAndType 117 118), (0, u "compress"), (0, u "([CI[BII)I"), (3, u "([CII)[B"), (138, u "coderFromArrayLen"), (0, u "([BI)B"), (106, .class_ 371), (1, u "java/lang/StringUTF16$LinesSpliterator"), (58, u "MAX_LENGTH"), (196, .class_ 628), (0, u "java/lang/StringUTF16$CodePointsSpliterator"), (0, .class_ 630), (0, u "java/lang/StringUTF16$CharsSpliterator")] 4

def k9m0 : Method := { name := "<init>", desc := "()V", sig := { parameters := [], returnType := none }, accessFlags := 0, code := none }
def k9c1 : Code := { maxStack := 2, maxLocals := 2, code := jdk_52_method_15_code, exceptionTable := #[], attributes := #[] }
def k9m1 : Method := { name := "coderFromArrayLen", desc := "([BI)B", sig := { parameters := [(.array .byte), .int], returnType := some .byte }, accessFlags := 8, code := some k9c1 }
def k9c2 : Code := { maxStack := 5, maxLocals := 6, code := jdk_52_method_16_code, exceptionTable := #[], attributes := #[] }
def k9m2 : Method := { name := "compress", desc := "([CII)[B", sig := { parameters := [(.array .char), .int, .int], returnType := some (.array .byte) }, accessFlags := 9, code := some k9c2 }
def k9c3 : Code := { maxStack := 3, maxLocals := 7, code := jdk_52_method_21_code, exceptionTable := #[], attributes := #[] }
def k9m3 : Method := { name := "compress", desc := "([CI[BII)I", sig := { parameters := [(.array .char), .int, (.array .byte), .int, .int], returnType := some .int }, accessFlags := 9, code := some k9c3 }
/-- java/lang/StringUTF16 -/
def k9 : Class := { plain "java/lang/StringUTF16" (some 0) with
  accessFlags := 48
  interfaces := #[]
  cf := some (fileOf pool9 12 #[.nestMembers #[627, 629, 369]] #[{ accessFlags := 0, nameIndex := 9, descriptorIndex := 10, attributes := #[] }, { accessFlags := 8, nameIndex := 261, descriptorIndex := 262, attributes := #[] }, { accessFlags := 9, nameIndex := 117, descriptorIndex := 122, attributes := #[] }, { accessFlags := 9, nameIndex := 117, descriptorIndex := 118, attributes := #[] }] 48 6 #[] #[{ accessFlags := 26, nameIndex := 61, descriptorIndex := 62, attributes := #[] }, { accessFlags := 26, nameIndex := 65, descriptorIndex := 62, attributes := #[] }, { accessFlags := 24, nameIndex := 430, descriptorIndex := 62, attributes := #[] }, { accessFlags := 4120, nameIndex := 46, descriptorIndex := 47, attributes := #[] }])
  fields := #[{ name := "HI_BYTE_SHIFT", type := .int, accessFlags := 26, slot := 0, constantValue := 0 }, { name := "LO_BYTE_SHIFT", type := .int, accessFlags := 26, slot := 1, constantValue := 0 }, { name := "MAX_LENGTH", type := .int, accessFlags := 24, slot := 2, constantValue := 0 }, { name := "$assertionsDisabled", type := .boolean, accessFlags := 4120, slot := 3, constantValue := 0 }]
  methods := #[k9m0, k9m1, k9m2, k9m3]
  instanceTypes := #[]
  staticTypes := #[.int, .int, .int, .boolean]
  resolved := Array.replicate 635 none
  statics := none }

def pool10 : Array CpInfo := pool [(4, .class_ 6), (1, u "java/lang/Object"), (0, u "<init>"), (0, u "()V"), (5, .class_ 16), (1, u "java/lang/StringLatin1"), (73, u "canEncode"), (14, u "(C)Z"), (15, u "$assertionsDisabled"), (0, u "Z"), (98, .class_ 223), (1, u "java/lang/StringLatin1$LinesSpliterator"), (156, u "toBytes"), (1, u "(C)[B"), (7, .class_ 391), (0, u "java/lang/StringLatin1$CharsSpliterator")] 3

def k10m0 : Method := { name := "<init>", desc := "()V", sig := { parameters := [], returnType := none }, accessFlags := 0, code := none }
def k10c1 : Code := { maxStack := 2, maxLocals := 1, code := jdk_43_method_3_code, exceptionTable := #[], attributes := #[] }
def k10m1 : Method := { name := "canEncode", desc := "(C)Z", sig := { parameters := [.char], returnType := some .boolean }, accessFlags := 9, code := some k10c1 }
def k10c2 : Code := { maxStack := 4, maxLocals := 1, code := jdk_43_method_46_code, exceptionTable := #[], attributes := #[] }
def k10m2 : Method := { name := "toBytes", desc := "(C)[B", sig := { parameters := [.char], returnType := some (.array .byte) }, accessFlags := 9, code := some k10c2 }
/-- java/lang/StringLatin1 -/
def k10 : Class := { plain "java/lang/StringLatin1" (some 0) with
  accessFlags := 48
  interfaces := #[]
  cf := some (fileOf pool10 14 #[.nestMembers #[390, 221]] #[{ accessFlags := 0, nameIndex := 7, descriptorIndex := 8, attributes := #[] }, { accessFlags := 9, nameIndex := 90, descriptorIndex := 105, attributes := #[] }, { accessFlags := 9, nameIndex := 380, descriptorIndex := 382, attributes := #[] }] 48 4 #[] #[{ accessFlags := 4120, nameIndex := 121, descriptorIndex := 122, attributes := #[] }])
  fields := #[{ name := "$assertionsDisabled", type := .boolean, accessFlags := 4120, slot := 0, constantValue := 0 }]
  methods := #[k10m0, k10m1, k10m2]
  instanceTypes := #[]
  staticTypes := #[.boolean]
  resolved := Array.replicate 395 none
  statics := none }

def pool11 : Array CpInfo := pool [(2, .class_ 4), (1, u "java/lang/Object"), (0, u "<init>"), (0, u "()V"), (17, .class_ 26), (1, u "jdk/internal/util/Preconditions"), (28, .class_ 56), (0, u "jdk/internal/util/Preconditions$4"), (57, .class_ 115), (0, u "jdk/internal/util/Preconditions$1"), (7, u "SIOOBE_FORMATTER"), (0, u "Ljava/util/function/BiFunction;"), (0, .class_ 126), (0, u "jdk/internal/util/Preconditions$2"), (3, u "AIOOBE_FORMATTER"), (0, .class_ 132), (0, u "jdk/internal/util/Preconditions$3"), (3, u "IOOBE_FORMATTER")] 57

def k11m0 : Method := { name := "<init>", desc := "()V", sig := { parameters := [], returnType := none }, accessFlags := 1, code := none }
/-- jdk/internal/util/Preconditions -/
def k11 : Class := { plain "jdk/internal/util/Preconditions" (some 0) with
  accessFlags := 33
  interfaces := #[]
  cf := some (fileOf pool11 24 #[.nestMembers #[55, 131, 125, 114]] #[{ accessFlags := 1, nameIndex := 5, descriptorIndex := 6, attributes := #[] }] 33 2 #[] #[{ accessFlags := 25, nameIndex := 123, descriptorIndex := 124, attributes := #[] }, { accessFlags := 25, nameIndex := 130, descriptorIndex := 124, attributes := #[] }, { accessFlags := 25, nameIndex := 136, descriptorIndex := 124, attributes := #[] }])
  fields := #[{ name := "SIOOBE_FORMATTER", type := (.object "java/util/function/BiFunction"), accessFlags := 25, slot := 0, constantValue := 0 }, { name := "AIOOBE_FORMATTER", type := (.object "java/util/function/BiFunction"), accessFlags := 25, slot := 1, constantValue := 0 }, { name := "IOOBE_FORMATTER", type := (.object "java/util/function/BiFunction"), accessFlags := 25, slot := 2, constantValue := 0 }]
  methods := #[k11m0]
  instanceTypes := #[]
  staticTypes := #[(.object "java/util/function/BiFunction"), (.object "java/util/function/BiFunction"), (.object "java/util/function/BiFunction")]
  resolved := Array.replicate 194 none
  statics := some 1 }

def pool12 : Array CpInfo := pool [(9, u "<init>"), (6, .class_ 18), (1, u "java/lang/Object"), (0, u "()V"), (1, .class_ 23), (1, u "jdk/internal/util/ArraysSupport"), (0, u "LOG2_ARRAY_LONG_INDEX_SCALE"), (0, u "I"), (2, u "U"), (0, u "Ljdk/internal/misc/Unsafe;"), (8, u "BIG_ENDIAN"), (0, u "Z"), (8, u "LOG2_BYTE_BIT_SIZE"), (4, u "LOG2_ARRAY_INT_INDEX_SCALE"), (54, u "JLA"), (0, u "Ljdk/internal/access/JavaLangAccess;"), (11, u "LOG2_ARRAY_BOOLEAN_INDEX_SCALE"), (9, u "LOG2_ARRAY_BYTE_INDEX_SCALE"), (5, u "LOG2_ARRAY_CHAR_INDEX_SCALE"), (5, u "LOG2_ARRAY_SHORT_INDEX_SCALE"), (18, u "LOG2_ARRAY_FLOAT_INDEX_SCALE"), (24, u "LOG2_ARRAY_DOUBLE_INDEX_SCALE"), (89, u "T_BOOLEAN"), (2, u "T_CHAR"), (1, u "T_FLOAT"), (1, u "T_DOUBLE"), (1, u "T_BYTE"), (1, u "T_SHORT"), (1, u "T_INT"), (1, u "T_LONG"), (1, u "SOFT_MAX_ARRAY_LENGTH")] 83

def k12m0 : Method := { name := "<init>", desc := "()V", sig := { parameters := [], returnType := none }, accessFlags := 2, code := none }
/-- jdk/internal/util/ArraysSupport -/
def k12 : Class := { plain "jdk/internal/util/ArraysSupport" (some 0) with
  accessFlags := 33
  interfaces := #[]
  cf := some (fileOf pool12 21 #[] #[{ accessFlags := 2, nameIndex := 9, descriptorIndex := 19, attributes := #[] }] 33 16 #[] #[{ accessFlags := 24, nameIndex := 28, descriptorIndex := 29, attributes := #[] }, { accessFlags := 26, nameIndex := 38, descriptorIndex := 39, attributes := #[] }, { accessFlags := 25, nameIndex := 121, descriptorIndex := 25, attributes := #[] }, { accessFlags := 25, nameIndex := 131, descriptorIndex := 25, attributes := #[] }, { accessFlags := 25, nameIndex := 137, descriptorIndex := 25, attributes := #[] }, { accessFlags := 25, nameIndex := 143, descriptorIndex := 25, attributes := #[] }, { accessFlags := 25, nameIndex := 53, descriptorIndex := 25, attributes := #[] }, { accessFlags := 25, nameIndex := 24, descriptorIndex := 25, attributes := #[] }, { accessFlags := 25, nameIndex := 162, descriptorIndex := 25, attributes := #[] }, { accessFlags := 25, nameIndex := 187, descriptorIndex := 25, attributes := #[] }, { accessFlags := 26, nameIndex := 48, descriptorIndex := 25, attributes := #[] }, { accessFlags := 25, nameIndex := 277, descriptorIndex := 25, attributes := #[] }, { accessFlags := 25, nameIndex := 280, descriptorIndex := 25, attributes := #[] }, { accessFlags := 25, nameIndex := 282, descriptorIndex := 25, attributes := #[] }, { accessFlags := 25, nameIndex := 284, descriptorIndex := 25, attributes := #[] }, { accessFlags := 25, nameIndex := 286, descriptorIndex := 25, attributes := #[] }, { accessFlags := 25, nameIndex := 288, descriptorIndex := 25, attributes := #[] }, { accessFlags := 25, nameIndex := 290, descriptorIndex := 25, attributes := #[] }, { accessFlags := 25, nameIndex := 292, descriptorIndex := 25, attributes := #[] }, { accessFlags := 26, nameIndex := 108, descriptorIndex := 109, attributes := #[] }, { accessFlags := 25, nameIndex := 294, descriptorIndex := 25, attributes := #[] }])
  fields := #[{ name := "U", type := (.object "jdk/internal/misc/Unsafe"), accessFlags := 24, slot := 0, constantValue := 0 }, { name := "BIG_ENDIAN", type := .boolean, accessFlags := 26, slot := 1, constantValue := 0 }, { name := "LOG2_ARRAY_BOOLEAN_INDEX_SCALE", type := .int, accessFlags := 25, slot := 2, constantValue := 0 }, { name := "LOG2_ARRAY_BYTE_INDEX_SCALE", type := .int, accessFlags := 25, slot := 3, constantValue := 0 }, { name := "LOG2_ARRAY_CHAR_INDEX_SCALE", type := .int, accessFlags := 25, slot := 4, constantValue := 0 }, { name := "LOG2_ARRAY_SHORT_INDEX_SCALE", type := .int, accessFlags := 25, slot := 5, constantValue := 0 }, { name := "LOG2_ARRAY_INT_INDEX_SCALE", type := .int, accessFlags := 25, slot := 6, constantValue := 0 }, { name := "LOG2_ARRAY_LONG_INDEX_SCALE", type := .int, accessFlags := 25, slot := 7, constantValue := 0 }, { name := "LOG2_ARRAY_FLOAT_INDEX_SCALE", type := .int, accessFlags := 25, slot := 8, constantValue := 0 }, { name := "LOG2_ARRAY_DOUBLE_INDEX_SCALE", type := .int, accessFlags := 25, slot := 9, constantValue := 0 }, { name := "LOG2_BYTE_BIT_SIZE", type := .int, accessFlags := 26, slot := 10, constantValue := 0 }, { name := "T_BOOLEAN", type := .int, accessFlags := 25, slot := 11, constantValue := 0 }, { name := "T_CHAR", type := .int, accessFlags := 25, slot := 12, constantValue := 0 }, { name := "T_FLOAT", type := .int, accessFlags := 25, slot := 13, constantValue := 0 }, { name := "T_DOUBLE", type := .int, accessFlags := 25, slot := 14, constantValue := 0 }, { name := "T_BYTE", type := .int, accessFlags := 25, slot := 15, constantValue := 0 }, { name := "T_SHORT", type := .int, accessFlags := 25, slot := 16, constantValue := 0 }, { name := "T_INT", type := .int, accessFlags := 25, slot := 17, constantValue := 0 }, { name := "T_LONG", type := .int, accessFlags := 25, slot := 18, constantValue := 0 }, { name := "JLA", type := (.object "jdk/internal/access/JavaLangAccess"), accessFlags := 26, slot := 19, constantValue := 0 }, { name := "SOFT_MAX_ARRAY_LENGTH", type := .int, accessFlags := 25, slot := 20, constantValue := 0 }]
  methods := #[k12m0]
  instanceTypes := #[]
  staticTypes := #[(.object "jdk/internal/misc/Unsafe"), .boolean, .int, .int, .int, .int, .int, .int, .int, .int, .int, .int, .int, .int, .int, .int, .int, .int, .int, (.object "jdk/internal/access/JavaLangAccess"), .int]
  resolved := Array.replicate 378 none
  statics := none }

def pool13 : Array CpInfo := pool [(1, u "java/lang/Cloneable"), (0, .class_ 1), (0, u "java/lang/Object"), (0, .class_ 3)] 3

/-- java/lang/Cloneable -/
def k13 : Class := { plain "java/lang/Cloneable" (some 0) with
  accessFlags := 1537
  interfaces := #[]
  cf := some (fileOf pool13 2 #[] #[] 1537 4 #[] #[])
  fields := #[]
  methods := #[]
  instanceTypes := #[]
  staticTypes := #[]
  resolved := Array.replicate 8 none
  statics := none }

/-- the primitive byte -/
def k14 : Class := { plain "byte" none with kind := .primitive 'B', accessFlags := 0x411 }
/-- [B -/
def k15 : Class := { plain "[B" (some 0) with kind := .array 14 .byte, interfaces := #[13, 2], accessFlags := 1041 }

/-- the primitive char -/
def k16 : Class := { plain "char" none with kind := .primitive 'C', accessFlags := 0x411 }
/-- [C -/
def k17 : Class := { plain "[C" (some 0) with kind := .array 16 .char, interfaces := #[13, 2], accessFlags := 1041 }

/-- the primitive int -/
def k18 : Class := { plain "int" none with kind := .primitive 'I', accessFlags := 0x411 }
/-- [I -/
def k19 : Class := { plain "[I" (some 0) with kind := .array 18 .int, interfaces := #[13, 2], accessFlags := 1041 }

def heap : Heap := #[{ cls := 7, slots := #[.long 0, .int 1, .null, .int 0, .null, .int 0, .int 0], vm := .statics 7 },
  { cls := 11, slots := #[.null, .null, .null], vm := .statics 11 }]
def classes : Array Class := #[k0, k1, k2, k3, k4, k5, k6, k7, k8, k9, k10, k11, k12, k13, k14, k15, k16, k17, k18, k19]
def interned : List (Array UInt16 × Addr) := []
def slotsUsed : Nat := 10
def theMethod : MethodId := ⟨1, 1⟩
def args0 : Array Value := #[.long 5, .int 5, .int 5, .int 5]
def aboutOver (below : List Frame) : State where
  vm := { classes := classes, interned := interned.toArray }
  heap := heap
  slotsUsed := slotsUsed
  threads := #[{ frames := .invoking theMethod args0 :: below }]
def below0 : List Frame := [.native { method := ⟨0, 0⟩, args := #[] }]
def about1 : State := aboutOver below0
def p0 : Program := .bare "" "" ""
def e0 : Env := launch0.env 0 0 0
theorem w_frames : about1.frames = Frame.invoking theMethod args0 :: below0 := rfl
set_option maxRecDepth 65536 in
theorem w_args : argsFit about1.vm theMethod args0 = true := by decide +kernel
set_option maxRecDepth 65536 in
theorem w_heap : heapFits about1 = true := by decide +kernel
set_option maxRecDepth 65536 in
theorem w_runnable : about1.curStatus? = some .runnable := by decide +kernel
set_option maxRecDepth 65536 in
theorem w_alone : about1.alone = true := by decide +kernel
set_option maxRecDepth 65536 in
theorem w_named : about1.methodNamed? x = some theMethod := by decide +kernel
set_option maxRecDepth 65536 in
theorem w_hears : about1.hears theMethod below0 = true := by decide +kernel
set_option maxRecDepth 65536 in
theorem w_ripe : about1.ripe theMethod args0 below0 = true := by decide +kernel
theorem w_running : about1.status = .running := rfl
set_option maxRecDepth 65536 in
theorem w_room : about1.hasRoom e0.platform room_1 = true :=
  launch0.hasRoom_least _ room_1 (by decide +kernel) (by decide +kernel) (by decide +kernel) (by decide +kernel) (by decide +kernel) (by decide +kernel)
theorem allAtoms_all (ts : List Jvm.Cond) (a : Array Jvm.Value) (st : Jvm.State) : (allAtoms ts).before a st = ts.all (fun c => c.before a st) := by
  induction ts with
  | nil => rfl
  | cons c t ih =>
    show (Jvm.Cond.and c (allAtoms t)).before a st = _
    rw [Jvm.Cond.before_and, ih, List.all_cons]
def words1 : List Jvm.Cond := Jvm.Cond.code x code maxLocals ret :: tables_1
/-- a 'code' word, met by the world's own term for the bytes: nothing is compared byte by byte -/
theorem code_word {y : MethodName} {bytes : ByteArray} {mx : Nat} {rt : Option FieldType} {a : Array Value} {s : State} {m : MethodId} {meth : Method} {c : Code} (h1 : s.methodNamed? y = some m) (h2 : s.vm.method? m = some meth) (h3 : meth.code = some c) (h4 : c.code = bytes)
    (h5 : (c.maxLocals == mx && c.exceptionTable.isEmpty && decide (c.maxStack ≤ mostOperands) && decide (meth.sig.returnType = rt) && !meth.locks && decide (parseMethodDescriptor y.desc = some meth.sig)) = true) : (Jvm.Cond.code y bytes mx rt).before a s = true := by
  simp only [Bool.and_eq_true, beq_iff_eq, Bool.not_eq_true', decide_eq_true_eq] at h5
  obtain ⟨⟨⟨⟨⟨g1, g2⟩, g3⟩, g4⟩, g5⟩, g6⟩ := h5
  simp [Cond.before, Cond.holds, Cond.value, h1, h2, h3, h4, g1, g2, g3, g4, g5, g6]
def isCode : Jvm.Cond → Bool
  | .code _ _ _ _ => true
  | _ => false
theorem all_split {L : List Jvm.Cond} {P : Jvm.Cond → Bool} (h1 : L.all (fun c => isCode c || P c) = true) (h2 : ∀ c ∈ L.filter isCode, P c = true) : L.all P = true := by
  refine List.all_eq_true.mpr fun c hc => ?_
  have h := List.all_eq_true.mp h1 c hc
  rcases Bool.eq_false_or_eq_true (isCode c) with hi | hi
  · exact h2 c (List.mem_filter.mpr ⟨hc, hi⟩)
  · simpa [hi] using h
set_option maxRecDepth 65536 in
theorem w_c0 : (Jvm.Cond.code x code maxLocals ret).before args0 about1 = true := code_word (m := ⟨1, 1⟩) (meth := k1m1) (c := k1c1) (by decide +kernel) rfl rfl rfl (by decide +kernel)
set_option maxRecDepth 65536 in
theorem w_c1 : (Jvm.Cond.code ({ cls := "com/example/rate_to_limit/ratetolimit/balance/RatingGroupBinding", name := "checkedRatingGroup", desc := "(Ljava/lang/String;J)J" } : Jvm.MethodName) prog_47_method_2_code (3 : Nat) (Option.some Jvm.ClassFile.FieldType.long)).before args0 about1 = true := code_word (m := ⟨8, 0⟩) (meth := k8m0) (c := k8c0) (by decide +kernel) rfl rfl rfl (by decide +kernel)
set_option maxRecDepth 65536 in
theorem w_c2 : (Jvm.Cond.code ({ cls := "java/lang/String", name := "<init>", desc := "([C)V" } : Jvm.MethodName) jdk_42_method_3_code (2 : Nat) (Option.none : Option Jvm.ClassFile.FieldType)).before args0 about1 = true := code_word (m := ⟨7, 1⟩) (meth := k7m1) (c := k7c1) (by decide +kernel) rfl rfl rfl (by decide +kernel)
set_option maxRecDepth 65536 in
theorem w_c3 : (Jvm.Cond.code ({ cls := "java/lang/String", name := "<init>", desc := "([CIILjava/lang/Void;)V" } : Jvm.MethodName) jdk_42_method_149_code (6 : Nat) (Option.none : Option Jvm.ClassFile.FieldType)).before args0 about1 = true := code_word (m := ⟨7, 3⟩) (meth := k7m3) (c := k7c3) (by decide +kernel) rfl rfl rfl (by decide +kernel)
set_option maxRecDepth 65536 in
theorem w_c4 : (Jvm.Cond.code ({ cls := "java/lang/Object", name := "<init>", desc := "()V" } : Jvm.MethodName) object_method_1_code (1 : Nat) (Option.none : Option Jvm.ClassFile.FieldType)).before args0 about1 = true := code_word (m := ⟨0, 0⟩) (meth := k0m0) (c := k0c0) (by decide +kernel) rfl rfl rfl (by decide +kernel)
set_option maxRecDepth 65536 in
theorem w_c5 : (Jvm.Cond.code ({ cls := "java/lang/StringUTF16", name := "compress", desc := "([CII)[B" } : Jvm.MethodName) jdk_52_method_16_code (6 : Nat) (Option.some (Jvm.ClassFile.FieldType.array Jvm.ClassFile.FieldType.byte))).before args0 about1 = true := code_word (m := ⟨9, 2⟩) (meth := k9m2) (c := k9c2) (by decide +kernel) rfl rfl rfl (by decide +kernel)
set_option maxRecDepth 65536 in
theorem w_c6 : (Jvm.Cond.code ({ cls := "java/lang/StringUTF16", name := "compress", desc := "([CI[BII)I" } : Jvm.MethodName) jdk_52_method_21_code (7 : Nat) (Option.some Jvm.ClassFile.FieldType.int)).before args0 about1 = true := code_word (m := ⟨9, 3⟩) (meth := k9m3) (c := k9c3) (by decide +kernel) rfl rfl rfl (by decide +kernel)
set_option maxRecDepth 65536 in
theorem w_c7 : (Jvm.Cond.code ({ cls := "java/lang/StringUTF16", name := "coderFromArrayLen", desc := "([BI)B" } : Jvm.MethodName) jdk_52_method_15_code (2 : Nat) (Option.some Jvm.ClassFile.FieldType.byte)).before args0 about1 = true := code_word (m := ⟨9, 1⟩) (meth := k9m1) (c := k9c1) (by decide +kernel) rfl rfl rfl (by decide +kernel)
set_option maxRecDepth 65536 in
theorem w_c8 : (Jvm.Cond.code ({ cls := "java/lang/String", name := "valueOf", desc := "(C)Ljava/lang/String;" } : Jvm.MethodName) jdk_42_method_139_code (1 : Nat) (Option.some (Jvm.ClassFile.FieldType.object "java/lang/String"))).before args0 about1 = true := code_word (m := ⟨7, 2⟩) (meth := k7m2) (c := k7c2) (by decide +kernel) rfl rfl rfl (by decide +kernel)
set_option maxRecDepth 65536 in
theorem w_c9 : (Jvm.Cond.code ({ cls := "java/lang/StringLatin1", name := "canEncode", desc := "(C)Z" } : Jvm.MethodName) jdk_43_method_3_code (1 : Nat) (Option.some Jvm.ClassFile.FieldType.boolean)).before args0 about1 = true := code_word (m := ⟨10, 1⟩) (meth := k10m1) (c := k10c1) (by decide +kernel) rfl rfl rfl (by decide +kernel)
set_option maxRecDepth 65536 in
theorem w_c10 : (Jvm.Cond.code ({ cls := "java/lang/StringLatin1", name := "toBytes", desc := "(C)[B" } : Jvm.MethodName) jdk_43_method_46_code (1 : Nat) (Option.some (Jvm.ClassFile.FieldType.array Jvm.ClassFile.FieldType.byte))).before args0 about1 = true := code_word (m := ⟨10, 2⟩) (meth := k10m2) (c := k10c2) (by decide +kernel) rfl rfl rfl (by decide +kernel)
set_option maxRecDepth 65536 in
theorem w_c11 : (Jvm.Cond.code ({ cls := "java/lang/String", name := "<init>", desc := "([BB)V" } : Jvm.MethodName) jdk_42_method_151_code (3 : Nat) (Option.none : Option Jvm.ClassFile.FieldType)).before args0 about1 = true := code_word (m := ⟨7, 4⟩) (meth := k7m4) (c := k7c4) (by decide +kernel) rfl rfl rfl (by decide +kernel)
def codes1 : List Jvm.Cond := [Jvm.Cond.code x code maxLocals ret, Jvm.Cond.code ({ cls := "com/example/rate_to_limit/ratetolimit/balance/RatingGroupBinding", name := "checkedRatingGroup", desc := "(Ljava/lang/String;J)J" } : Jvm.MethodName) prog_47_method_2_code (3 : Nat) (Option.some Jvm.ClassFile.FieldType.long), Jvm.Cond.code ({ cls := "java/lang/String", name := "<init>", desc := "([C)V" } : Jvm.MethodName) jdk_42_method_3_code (2 : Nat) (Option.none : Option Jvm.ClassFile.FieldType), Jvm.Cond.code ({ cls := "java/lang/String", name := "<init>", desc := "([CIILjava/lang/Void;)V" } : Jvm.MethodName) jdk_42_method_149_code (6 : Nat) (Option.none : Option Jvm.ClassFile.FieldType), Jvm.Cond.code ({ cls := "java/lang/Object", name := "<init>", desc := "()V" } : Jvm.MethodName) object_method_1_code (1 : Nat) (Option.none : Option Jvm.ClassFile.FieldType), Jvm.Cond.code ({ cls := "java/lang/StringUTF16", name := "compress", desc := "([CII)[B" } : Jvm.MethodName) jdk_52_method_16_code (6 : Nat) (Option.some (Jvm.ClassFile.FieldType.array Jvm.ClassFile.FieldType.byte)), Jvm.Cond.code ({ cls := "java/lang/StringUTF16", name := "compress", desc := "([CI[BII)I" } : Jvm.MethodName) jdk_52_method_21_code (7 : Nat) (Option.some Jvm.ClassFile.FieldType.int), Jvm.Cond.code ({ cls := "java/lang/StringUTF16", name := "coderFromArrayLen", desc := "([BI)B" } : Jvm.MethodName) jdk_52_method_15_code (2 : Nat) (Option.some Jvm.ClassFile.FieldType.byte), Jvm.Cond.code ({ cls := "java/lang/String", name := "valueOf", desc := "(C)Ljava/lang/String;" } : Jvm.MethodName) jdk_42_method_139_code (1 : Nat) (Option.some (Jvm.ClassFile.FieldType.object "java/lang/String")), Jvm.Cond.code ({ cls := "java/lang/StringLatin1", name := "canEncode", desc := "(C)Z" } : Jvm.MethodName) jdk_43_method_3_code (1 : Nat) (Option.some Jvm.ClassFile.FieldType.boolean), Jvm.Cond.code ({ cls := "java/lang/StringLatin1", name := "toBytes", desc := "(C)[B" } : Jvm.MethodName) jdk_43_method_46_code (1 : Nat) (Option.some (Jvm.ClassFile.FieldType.array Jvm.ClassFile.FieldType.byte)), Jvm.Cond.code ({ cls := "java/lang/String", name := "<init>", desc := "([BB)V" } : Jvm.MethodName) jdk_42_method_151_code (3 : Nat) (Option.none : Option Jvm.ClassFile.FieldType)]
set_option maxRecDepth 65536 in
theorem codes_eq : words1.filter isCode = codes1 := rfl
theorem w_codes : ∀ c ∈ words1.filter isCode, c.before args0 about1 = true := by
  rw [codes_eq]
  intro c hc
  simp only [codes1, List.mem_cons, List.not_mem_nil, or_false] at hc
  rcases hc with rfl | rfl | rfl | rfl | rfl | rfl | rfl | rfl | rfl | rfl | rfl | rfl
  · exact w_c0
  · exact w_c1
  · exact w_c2
  · exact w_c3
  · exact w_c4
  · exact w_c5
  · exact w_c6
  · exact w_c7
  · exact w_c8
  · exact w_c9
  · exact w_c10
  · exact w_c11
set_option maxRecDepth 65536 in
theorem w_t1 : (words1.take 24).all (fun c => isCode c || c.before args0 about1) = true := by decide +kernel
set_option maxRecDepth 65536 in
theorem w_t2 : ((words1.drop 24).take 24).all (fun c => isCode c || c.before args0 about1) = true := by decide +kernel
set_option maxRecDepth 65536 in
theorem w_t3 : ((words1.drop 24).drop 24).all (fun c => isCode c || c.before args0 about1) = true := by decide +kernel
theorem w_tables : (allAtoms (Jvm.Cond.code x code maxLocals ret :: tables_1)).before args0 about1 = true := by
  rw [allAtoms_all]
  show words1.all (fun c => c.before args0 about1) = true
  refine all_split ?_ w_codes
  rw [← List.take_append_drop 24 words1, List.all_append, w_t1, ← List.take_append_drop 24 (words1.drop 24), List.all_append, w_t2, w_t3]
  rfl
set_option maxRecDepth 65536 in
theorem w_rest : rest_1_c.before args0 about1 = true := by decide +kernel
set_option maxRecDepth 65536 in
theorem w_case : (Jvm.Cond.and given_1 narrow_1).before args0 about1 = true := by decide +kernel
theorem w_applies : (headSpec (Jvm.Cond.code x code maxLocals ret :: tables_1) room_1).applies x e0.platform about1 = true :=
  (Spec.applies_iff w_frames).mpr ⟨w_running, w_runnable, w_alone, w_named, w_hears, w_ripe, w_room, w_tables⟩
theorem atStart : AtStart classFile x code maxLocals ret World_1 tables_1 room_1 Calls_1 rest_1 Pre_1 launch0 p0 e0 about1 theMethod args0 below0 :=
  ⟨lists_1, trivial, launch0.admits_env _ _ _, launch0.least_env, fairChoices_fair.cas, fairChoices_fair.clock, w_frames, w_args, w_heap, w_applies, trivial, w_rest, w_case⟩
end start1
theorem witness_1 : WitnessClaimed_1 := ⟨start1.p0, start1.e0, start1.about1, start1.theMethod, start1.args0, start1.below0, start1.atStart⟩
end Jvm.Pilot.@@N@@
