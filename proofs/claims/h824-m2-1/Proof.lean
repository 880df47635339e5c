import JvmDerived
import JvmDerived.Pilot.@@N@@Statement
import JvmDerived.Pilot.@@N@@Code
set_option linter.unusedVariables false
set_option linter.unusedSimpArgs false

namespace Jvm.Pilot.@@N@@
open Jvm Jvm.ClassFile Sem Op Lib Jvm.Free Jvm.Stand Jvm.LawKit Jvm.RoadKit Bundle Jvm.Pilot.@@N@@.Jvm.D
section OwnKit
def Run (tb : Tables) (e : Env) (below : List Frame) (W : Outcome → State → Prop) (T : State) (g : JFrame) : Prop := ∃ s₂ o, Steps tb e below (T.setTop g) s₂ ∧ s₂.status = .running ∧ Ended s₂ below o ∧ W o s₂
abbrev Wd (s : State) (Q : Option Value → Heap → List Loc → Prop) (k n : Nat) : Outcome → State → Prop := fun o U => ∃ v L, o = .returned v ∧ Q v U.heap L ∧ FrameEnd s o U L k n
theorem run_fwd {tb : Tables} {e : Env} {below : List Frame} {W : Outcome → State → Prop} {T T' : State} {g g' : JFrame} (st : ∀ t, Steps tb e below (T'.setTop g') t → Steps tb e below (T.setTop g) t) (h : Run tb e below W T' g') : Run tb e below W T g := by
  obtain ⟨t, o, h1, h2⟩ := h
  exact ⟨t, o, st t h1, h2⟩
variable {p : Program} {l : Launch} {e : Env} {R : Room} {s : State} {m : MethodId} {args : Array Value} {below : List Frame} {meth : Method} {c : Code} {T : State} {locs : List Loc} {cells slots : Nat}
theorem run_ret (X : Stand p l e R s m args below meth c T locs cells slots) (hx : p.tables.exec = Jvm.exec) {pc : Nat} {Ls : Array Slot} {w : Value} {t : FieldType} {i : Instr} {rest : List Value} {Q : Option Value → Heap → List Loc → Prop} {k n : Nat} (hret : meth.sig.returnType = some t) (hlk : meth.locks = false) (hn : narrow t w = w)
    (hi : (i = .ireturn ∧ (t = .int ∨ t = .boolean ∨ t = .byte ∨ t = .char ∨ t = .short) ∧ ∃ z, w = .int z) ∨ (i = .lreturn ∧ t = .long ∧ ∃ z, w = .long z) ∨ (i = .dreturn ∧ t = .double ∧ ∃ z, w = .double z) ∨ (i = .freturn ∧ t = .float ∧ ∃ z, w = .float z) ∨ (i = .areturn ∧ t.isReference = true ∧ w.isRef = true))
    (hd : decode c.code pc = .ok (i, 1)) (hQ : Q (some w) T.heap locs) (hk : cells ≤ k) (hs : slots ≤ n) : Run p.tables e below (Wd s Q k n) T (mkF m pc Ls (w :: rest)) := by
  obtain ⟨fs, hr, hrun, hended, hW, hsame⟩ := X.leave (v := some w) (fun h => by rw [hret] at h; cases h) hlk
  exact ⟨_, _, retOut X hx hret hn hi hd hr, hrun, hended, _, _, rfl, hQ, ⟨_, rfl⟩, hW, hsame.mono hk hs⟩
theorem run_retN (X : Stand p l e R s m args below meth c T locs cells slots) (hx : p.tables.exec = Jvm.exec) {pc : Nat} {Ls : Array Slot} {z : Int32} {t : FieldType} {rest : List Value} {Q : Option Value → Heap → List Loc → Prop} {k n : Nat} (hret : meth.sig.returnType = some t) (hlk : meth.locks = false) (ht : t = .boolean ∨ t = .byte ∨ t = .char ∨ t = .short)
    (hd : decode c.code pc = .ok (.ireturn, 1)) (hQ : Q (some (.int (nar t z))) T.heap locs) (hk : cells ≤ k) (hs : slots ≤ n) : Run p.tables e below (Wd s Q k n) T (mkF m pc Ls (.int z :: rest)) := by
  obtain ⟨fs, hr, hrun, hended, hW, hsame⟩ := X.leave (v := some (.int (nar t z))) (fun h => by rw [hret] at h; cases h) hlk
  exact ⟨_, _, retN X hx hret ht hd hr, hrun, hended, _, _, rfl, hQ, ⟨_, rfl⟩, hW, hsame.mono hk hs⟩
theorem run_ret0 (X : Stand p l e R s m args below meth c T locs cells slots) (hx : p.tables.exec = Jvm.exec) {pc : Nat} {Ls : Array Slot} {Q : Option Value → Heap → List Loc → Prop} {k n : Nat} (hret : meth.sig.returnType = none) (hlk : meth.locks = false)
    (hd : decode c.code pc = .ok (.return_, 1)) (hQ : Q none T.heap locs) (hk : cells ≤ k) (hs : slots ≤ n) : Run p.tables e below (Wd s Q k n) T (mkF m pc Ls []) := by
  obtain ⟨fs, hr, hrun, hended, hW, hsame⟩ := X.leave (v := none) (fun _ => rfl) hlk
  exact ⟨_, _, X.returnOut hx hret hd hr, hrun, hended, _, _, rfl, hQ, ⟨_, rfl⟩, hW, hsame.mono hk hs⟩
abbrev WdW (s : State) (Q : Option Value → Heap → List Loc → Prop) (k n : Nat) : Outcome → State → Prop := fun o U => ∃ v L, o = .returned v ∧ Q v U.heap L ∧ ReturnedEndW s o U L k n
theorem run_retW {vm1 : Vm} {n1 : Nat} (X : Stand p l e R (s.setVm vm1) m args below meth c T locs cells slots) (hx : p.tables.exec = Jvm.exec) (hS : s.Since vm1 n1) (hn1 : n1 ≤ T.heap.size) {pc : Nat} {Ls : Array Slot} {w : Value} {t : FieldType} {i : Instr} {rest : List Value} {Q : Option Value → Heap → List Loc → Prop} {k n : Nat} (hret : meth.sig.returnType = some t) (hlk : meth.locks = false) (hn : narrow t w = w)
    (hi : (i = .ireturn ∧ (t = .int ∨ t = .boolean ∨ t = .byte ∨ t = .char ∨ t = .short) ∧ ∃ z, w = .int z) ∨ (i = .lreturn ∧ t = .long ∧ ∃ z, w = .long z) ∨ (i = .dreturn ∧ t = .double ∧ ∃ z, w = .double z) ∨ (i = .freturn ∧ t = .float ∧ ∃ z, w = .float z) ∨ (i = .areturn ∧ t.isReference = true ∧ w.isRef = true))
    (hd : decode c.code pc = .ok (i, 1)) (hQ : Q (some w) T.heap locs) (hk : cells ≤ k) (hs : slots ≤ n) : Run p.tables e below (WdW s Q k n) T (mkF m pc Ls (w :: rest)) := by
  obtain ⟨fs, hr, hrun, hended, hE⟩ := X.leaveW hS hn1 (v := some w) (fun h => by rw [hret] at h; cases h) hlk
  exact ⟨_, _, retOut X hx hret hn hi hd hr, hrun, hended, _, _, rfl, hQ, hE.1, hE.2.1, hE.2.2.1, hE.2.2.2.mono hk hs⟩
theorem own_gotS {kc ks : Nat} {Q : Option Value → Heap → List Loc → Prop} {f : Option Value → JFrame} {T0 : State} {g : JFrame} (X0 : Stand p l e R s m args below meth c T locs cells slots) (H : ∃ (v : Option Value) (vm₁ : Vm) (B : Pt), s.WarmedH vm₁ ∧ Stand p l e R s m args below meth c B.U B.locs B.cells B.slots ∧ (∃ L, Q v B.U.heap L ∧ B.locs = locs ++ L ∧ B.cells = cells + kc ∧ B.slots = slots + ks) ∧ ∀ target, Steps p.tables e below (B.U.setTop (f v)) target → Steps p.tables e below (T0.setTop g) target) :
    ∃ (T' : State) (v : Option Value) (L : List Loc), Stand p l e R s m args below meth c T' (locs ++ L) (cells + kc) (slots + ks) ∧ Q v T'.heap L ∧ ∀ target, Steps p.tables e below (T'.setTop (f v)) target → Steps p.tables e below (T0.setTop g) target := by
  obtain ⟨v, -, B, -, X, ⟨L, hQ, h1, h2, h3⟩, st⟩ := H
  exact ⟨B.U, v, L, h1 ▸ h2 ▸ h3 ▸ X, hQ, st⟩
theorem own_gotV {kc ks : Nat} {Q : Option Value → Heap → List Loc → Prop} {f : Option Value → JFrame} {S0 : State} (X0 : Stand p l e R s m args below meth c T locs cells slots) (H : ∃ (v : Option Value) (vm₁ : Vm) (B : Pt), s.WarmedH vm₁ ∧ Stand p l e R s m args below meth c B.U B.locs B.cells B.slots ∧ (∃ L, Q v B.U.heap L ∧ B.locs = locs ++ L ∧ B.cells = cells + kc ∧ B.slots = slots + ks) ∧ Steps p.tables e below S0 (B.U.setTop (f v))) :
    ∃ (T' : State) (v : Option Value) (L : List Loc), Stand p l e R s m args below meth c T' (locs ++ L) (cells + kc) (slots + ks) ∧ Q v T'.heap L ∧ Steps p.tables e below S0 (T'.setTop (f v)) := by
  obtain ⟨v, -, B, -, X, ⟨L, hQ, h1, h2, h3⟩, st⟩ := H
  exact ⟨B.U, v, L, h1 ▸ h2 ▸ h3 ▸ X, hQ, st⟩
theorem own_gotW {kc ks : Nat} {Q : Option Value → Heap → List Loc → Prop} {f : Option Value → JFrame} {S0 T0 : State} (X0 : Stand p l e R s m args below meth c T locs cells slots) (H : ∃ (v : Option Value) (vm₁ : Vm) (B : Pt), s.WarmedH vm₁ ∧ Stand p l e R (s.setVm B.U.vm) m args below meth c B.U B.locs B.cells B.slots ∧ s.Since B.U.vm B.U.heap.size ∧ T0.heap.size ≤ B.U.heap.size ∧ (∃ L, Q v B.U.heap L ∧ B.locs = locs ++ L ∧ B.cells = cells + kc ∧ B.slots = slots + ks) ∧ Steps p.tables e below S0 (B.U.setTop (f v))) :
    ∃ (T' : State) (v : Option Value) (L : List Loc), Stand p l e R (s.setVm T'.vm) m args below meth c T' (locs ++ L) (cells + kc) (slots + ks) ∧ s.Since T'.vm T'.heap.size ∧ T0.heap.size ≤ T'.heap.size ∧ Q v T'.heap L ∧ Steps p.tables e below S0 (T'.setTop (f v)) := by
  obtain ⟨v, -, B, -, X, hS, hg, ⟨L, hQ, h1, h2, h3⟩, st⟩ := H
  exact ⟨B.U, v, L, h1 ▸ h2 ▸ h3 ▸ X, hS, hg, hQ, st⟩
theorem own_le {Z : State} {n0 : Nat} {h : Heap} (O : Old Z n0 h) : n0 ≤ h.size := O.1 ▸ O.2.1
end OwnKit
def own_sz (v : Int64) : Int32 := if v < (128 : Int64) then (1 : Int32) else if v < (16384 : Int64) then (2 : Int32) else if v < (2097152 : Int64) then (3 : Int32) else if v < (268435456 : Int64) then (4 : Int32) else if v < (34359738368 : Int64) then (5 : Int32) else if v < (4398046511104 : Int64) then (6 : Int32) else if v < (562949953421312 : Int64) then (7 : Int32) else if v < (72057594037927936 : Int64) then (8 : Int32) else (9 : Int32)
def own_S (v : Int64) : Nat := (own_sz v).toInt.toNat
def own_A (a : Int32) : Nat := a.toInt.toNat
def own_byte (z : Int) : Int32 := (Int32.ofInt z).toInt8.toInt32
def own_X (v : Int64) (a f : Int32) (m j : Nat) : Int32 := if own_A a ≤ j ∧ j < own_A a + m then own_byte ((v.toInt / ((128 ^ (j - own_A a) : Nat) : Int)) % 128 + 128) else f
def own_Y (v : Int64) (a f : Int32) (j : Nat) : Int32 := if own_A a ≤ j ∧ j < own_A a + own_S v then own_byte ((v.toInt / ((128 ^ (j - own_A a) : Nat) : Int)) % 128 + (if j - own_A a + 1 < own_S v then 128 else 0)) else f
def own_tab (F : Nat → Int32) (n : Nat) : List Value := (List.range n).map fun j => .int (F j)
theorem own_tab_len (F : Nat → Int32) (n : Nat) : (own_tab F n).length = n := by simp [own_tab]
theorem own_tab_get (F : Nat → Int32) (n j : Nat) (h : j < n) (d : Value) : (own_tab F n).getD j d = .int (F j) := by simp [own_tab, List.getD_eq_getElem?_getD, h]
theorem own_tab_set (F G : Nat → Int32) (n i : Nat) (v : Int32) (h : ∀ j, j < n → G j = if j = i then v else F j) : (own_tab F n).set i (.int v) = own_tab G n := by
  apply List.ext_getElem
  · simp [own_tab]
  · intro j h1 h2
    have hj : j < n := by simpa [own_tab] using h2
    rw [List.getElem_set]
    simp only [own_tab, List.getElem_map, List.getElem_range, h j hj]
    by_cases q : i = j
    · simp [q]
    · simp [q, Ne.symm q]
theorem own_lt0 {n : Int64} : n < (0 : Int64) ↔ n.toInt < 0 := by rw [Int64.lt_iff_toInt_lt]; rfl
theorem own_nn {n : Int64} (h : ¬ n < 0) : 0 ≤ n.toInt := by rw [own_lt0] at h; omega
theorem own_sz_spec (v : Int64) (h : ¬ v < 0) : ∃ j : Nat, j ≤ 8 ∧ (own_sz v).toInt = j + 1 ∧ (j = 0 ∨ ((128 ^ j : Nat) : Int) ≤ v.toInt) ∧ v.toInt < ((128 ^ (j + 1) : Nat) : Int) := by
  by_cases h1 : v < (128 : Int64)
  · refine ⟨0, by omega, by rw [own_sz, if_pos h1]; decide, Or.inl rfl, ?_⟩
    rw [Int64.lt_iff_toInt_lt, show (128 : Int64).toInt = 128 from by decide] at h1
    simpa using h1
  by_cases h2 : v < (16384 : Int64)
  · refine ⟨1, by omega, by rw [own_sz, if_neg h1, if_pos h2]; decide, Or.inr (by rw [Int64.lt_iff_toInt_lt, show (128 : Int64).toInt = 128 from by decide] at h1; simpa using h1), ?_⟩
    rw [Int64.lt_iff_toInt_lt, show (16384 : Int64).toInt = 16384 from by decide] at h2
    simpa using h2
  by_cases h3 : v < (2097152 : Int64)
  · refine ⟨2, by omega, by rw [own_sz, if_neg h1, if_neg h2, if_pos h3]; decide, Or.inr (by rw [Int64.lt_iff_toInt_lt, show (16384 : Int64).toInt = 16384 from by decide] at h2; simpa using h2), ?_⟩
    rw [Int64.lt_iff_toInt_lt, show (2097152 : Int64).toInt = 2097152 from by decide] at h3
    simpa using h3
  by_cases h4 : v < (268435456 : Int64)
  · refine ⟨3, by omega, by rw [own_sz, if_neg h1, if_neg h2, if_neg h3, if_pos h4]; decide, Or.inr (by rw [Int64.lt_iff_toInt_lt, show (2097152 : Int64).toInt = 2097152 from by decide] at h3; simpa using h3), ?_⟩
    rw [Int64.lt_iff_toInt_lt, show (268435456 : Int64).toInt = 268435456 from by decide] at h4
    simpa using h4
  by_cases h5 : v < (34359738368 : Int64)
  · refine ⟨4, by omega, by rw [own_sz, if_neg h1, if_neg h2, if_neg h3, if_neg h4, if_pos h5]; decide, Or.inr (by rw [Int64.lt_iff_toInt_lt, show (268435456 : Int64).toInt = 268435456 from by decide] at h4; simpa using h4), ?_⟩
    rw [Int64.lt_iff_toInt_lt, show (34359738368 : Int64).toInt = 34359738368 from by decide] at h5
    simpa using h5
  by_cases h6 : v < (4398046511104 : Int64)
  · refine ⟨5, by omega, by rw [own_sz, if_neg h1, if_neg h2, if_neg h3, if_neg h4, if_neg h5, if_pos h6]; decide, Or.inr (by rw [Int64.lt_iff_toInt_lt, show (34359738368 : Int64).toInt = 34359738368 from by decide] at h5; simpa using h5), ?_⟩
    rw [Int64.lt_iff_toInt_lt, show (4398046511104 : Int64).toInt = 4398046511104 from by decide] at h6
    simpa using h6
  by_cases h7 : v < (562949953421312 : Int64)
  · refine ⟨6, by omega, by rw [own_sz, if_neg h1, if_neg h2, if_neg h3, if_neg h4, if_neg h5, if_neg h6, if_pos h7]; decide, Or.inr (by rw [Int64.lt_iff_toInt_lt, show (4398046511104 : Int64).toInt = 4398046511104 from by decide] at h6; simpa using h6), ?_⟩
    rw [Int64.lt_iff_toInt_lt, show (562949953421312 : Int64).toInt = 562949953421312 from by decide] at h7
    simpa using h7
  by_cases h8 : v < (72057594037927936 : Int64)
  · refine ⟨7, by omega, by rw [own_sz, if_neg h1, if_neg h2, if_neg h3, if_neg h4, if_neg h5, if_neg h6, if_neg h7, if_pos h8]; decide, Or.inr (by rw [Int64.lt_iff_toInt_lt, show (562949953421312 : Int64).toInt = 562949953421312 from by decide] at h7; simpa using h7), ?_⟩
    rw [Int64.lt_iff_toInt_lt, show (72057594037927936 : Int64).toInt = 72057594037927936 from by decide] at h8
    simpa using h8
  refine ⟨8, by omega, by rw [own_sz, if_neg h1, if_neg h2, if_neg h3, if_neg h4, if_neg h5, if_neg h6, if_neg h7, if_neg h8]; decide, Or.inr (by rw [Int64.lt_iff_toInt_lt, show (72057594037927936 : Int64).toInt = 72057594037927936 from by decide] at h8; simpa using h8), ?_⟩
  have q := v.toInt_lt
  simpa using q
theorem own_uniq {N : Int} {i j : Nat} (h1 : i = 0 ∨ ((128 ^ i : Nat) : Int) ≤ N) (h2 : N < ((128 ^ (i + 1) : Nat) : Int)) (g1 : j = 0 ∨ ((128 ^ j : Nat) : Int) ≤ N) (g2 : N < ((128 ^ (j + 1) : Nat) : Int)) : i = j := by
  rcases Nat.lt_trichotomy i j with q | q | q
  · rcases g1 with g1 | g1
    · omega
    · have w : 128 ^ (i + 1) ≤ 128 ^ j := Nat.pow_le_pow_right (by decide) q
      have w' : ((128 ^ (i + 1) : Nat) : Int) ≤ ((128 ^ j : Nat) : Int) := Int.ofNat_le.mpr w
      omega
  · exact q
  · rcases h1 with h1 | h1
    · omega
    · have w : 128 ^ (j + 1) ≤ 128 ^ i := Nat.pow_le_pow_right (by decide) q
      have w' : ((128 ^ (j + 1) : Nat) : Int) ≤ ((128 ^ i : Nat) : Int) := Int.ofNat_le.mpr w
      omega
theorem own_cnt (v : Int64) (h : ¬ v < 0) (j : Nat) (h1 : j = 0 ∨ ((128 ^ j : Nat) : Int) ≤ v.toInt) (h2 : v.toInt < ((128 ^ (j + 1) : Nat) : Int)) : own_S v = j + 1 := by
  obtain ⟨i, -, q1, q2, q3⟩ := own_sz_spec v h
  have e := own_uniq h1 h2 q2 q3
  unfold own_S
  rw [q1]; omega
theorem own_Sle (v : Int64) (h : ¬ v < 0) : 1 ≤ own_S v ∧ own_S v ≤ 9 ∧ (own_sz v).toInt = own_S v := by
  obtain ⟨j, h1, h2, -⟩ := own_sz_spec v h
  unfold own_S
  rw [h2]; omega
theorem own_div {N : Int} {k : Nat} (r : Int) (h : r = N / ((128 ^ k : Nat) : Int)) : r / 128 = N / ((128 ^ (k + 1) : Nat) : Int) := by
  rw [h, Int.ediv_ediv_of_nonneg (Int.natCast_nonneg _), Nat.pow_succ]; simp
theorem own_big {N : Int} {k : Nat} (hN : 0 ≤ N) (h : ¬ N / ((128 ^ k : Nat) : Int) < 128) : ((128 ^ (k + 1) : Nat) : Int) ≤ N := by
  have hp : (0 : Int) < ((128 ^ k : Nat) : Int) := Int.natCast_pos.mpr (Nat.pow_pos (by decide))
  have w : 128 ≤ N / ((128 ^ k : Nat) : Int) := by omega
  rw [Int.le_ediv_iff_mul_le hp] at w
  rw [Nat.pow_succ]; omega
theorem own_small {N : Int} {k : Nat} (hN : 0 ≤ N) (h : N / ((128 ^ k : Nat) : Int) < 128) : N < ((128 ^ (k + 1) : Nat) : Int) := by
  have hp : (0 : Int) < ((128 ^ k : Nat) : Int) := Int.natCast_pos.mpr (Nat.pow_pos (by decide))
  rw [Int.ediv_lt_iff_lt_mul hp] at h
  rw [Nat.pow_succ]; omega
theorem own_last (v : Int64) (hN : 0 ≤ v.toInt) : v.toInt / ((128 ^ 8 : Nat) : Int) < 128 := by
  have q := v.toInt_lt
  have hp : (0 : Int) < ((128 ^ 8 : Nat) : Int) := by decide
  rw [Int.ediv_lt_iff_lt_mul hp]
  simpa using q
theorem own_mask (v : Int64) (h : 0 ≤ v.toInt) : (v &&& (-128 : Int64)) = (0 : Int64) ↔ v.toInt < 128 := by
  have e : (v &&& (-128 : Int64)).toBitVec = (v.toBitVec >>> 7) <<< 7 := by
    show v.toBitVec &&& (-128 : Int64).toBitVec = _
    rw [BitVec.shiftLeft_ushiftRight]; congr 1
  have hv := v.toBitVec.isLt
  have hn : v.toInt = v.toBitVec.toNat := by
    have q : v.toInt = v.toBitVec.toInt := rfl
    rw [q] at h ⊢
    have e1 := BitVec.toInt_eq_toNat_cond v.toBitVec
    by_cases u : 2 * v.toBitVec.toNat < 2 ^ 64
    · rw [e1, if_pos u]
    · rw [e1, if_neg u] at h; omega
  have k : (v &&& (-128 : Int64)) = (0 : Int64) ↔ ((v.toBitVec >>> 7) <<< 7).toNat = 0 := by
    rw [← e]
    constructor
    · intro q; rw [q]; rfl
    · intro q
      apply Int64.toBitVec_inj.mp
      apply BitVec.eq_of_toNat_eq
      rw [q]; rfl
  rw [k, hn, BitVec.toNat_shiftLeft, BitVec.toNat_ushiftRight, Nat.shiftRight_eq_div_pow, Nat.shiftLeft_eq]
  omega
theorem own_i2b (y : Int32) (z : Int) (h : (y.toInt - z) % 256 = 0) : y.toInt8.toInt32 = own_byte z := by
  apply Int32.toInt_inj.mp
  have h1 := c_i2b y
  have h2 := c_i2b (Int32.ofInt z)
  have h3 : ((Int32.ofInt z).toInt - z) % 4294967296 = 0 := by rw [Int32.toInt_ofInt]; exact bm32 z
  unfold own_byte
  omega
theorem own_nar (z : Int) : nar .byte (own_byte z) = own_byte z := by
  show (own_byte z).toInt8.toInt32 = own_byte z
  have h := c_i2b (Int32.ofInt z)
  have h3 : ((Int32.ofInt z).toInt - z) % 4294967296 = 0 := by rw [Int32.toInt_ofInt]; exact bm32 z
  apply own_i2b
  unfold own_byte
  omega
theorem own_more (q : Int64) : (((q &&& (127 : Int64)) ||| (128 : Int64)).toInt32).toInt8.toInt32 = own_byte (q.toInt % 128 + 128) := by
  have h1 := c_maskL q 127 7 (by decide) (by decide)
  have h2 := c_orL' (q &&& (127 : Int64)) 128 7 (by decide) 128 (by decide) (by decide) (by rw [h1]; omega) (by rw [h1]; omega)
  have h3 := c_l2i ((q &&& (127 : Int64)) ||| (128 : Int64))
  have e : (128 : Int64).toInt = 128 := by decide
  apply own_i2b
  omega
theorem own_end (q : Int64) (h : 0 ≤ q.toInt) (h' : q.toInt < 128) : (q.toInt32).toInt8.toInt32 = own_byte (q.toInt % 128 + 0) := by
  have h3 := c_l2i q
  apply own_i2b
  omega
theorem own_shr (q : Int64) (h : 0 ≤ q.toInt) (k : Int32) (K : Nat) (hk : k.toInt = K) (hK : K < 64) : (((q.toUInt64 >>> (k &&& 0x3f).toInt64.toUInt64).toInt64)).toInt = q.toInt / ((2 ^ K : Nat) : Int) := by
  have e : k.toBitVec.toNat % 64 = K := by
    have e1 : k = Int32.ofNat K := by apply Int32.toInt_inj.mp; rw [hk, Int32.toInt_ofNat_small (by omega)]
    subst e1
    have e2 : ∀ K : Fin 64, (Int32.ofNat K.val).toBitVec.toNat % 64 = K.val := by decide +kernel
    exact e2 ⟨K, hK⟩
  by_cases z : 0 < K
  · rw [c_lushr q k K e z]
    have := q.toInt_lt
    rw [Int.emod_eq_of_lt h (by omega)]
  · obtain rfl : K = 0 := by omega
    have e1 : k = 0 := by apply Int32.toInt_inj.mp; rw [hk]; rfl
    subst e1
    have e2 : ((0 : Int32) &&& 0x3f).toInt64.toUInt64 = 0 := by decide
    have e3 : q.toUInt64 >>> (0 : UInt64) = q.toUInt64 := by
      apply UInt64.toBitVec_inj.mp
      show q.toUInt64.toBitVec >>> ((0 : UInt64).toBitVec % 64) = _
      simp
    rw [e2, e3]
    simp
theorem own_ix (v : Int64) (a i : Int32) (m : Nat) (hm : m ≤ 8) (h1 : 0 ≤ a.toInt) (h2 : a.toInt < 4) (hi : i.toInt = (own_A a : Int) + m) : (¬ i < (0 : Int32) ∧ i < (13 : Int32)) ∧ i.toNatClampNeg = own_A a + m ∧ own_A a + m < 13 ∧ (i + (1 : Int32)).toInt = (own_A a : Int) + ((m + 1 : Nat) : Int) := by
  have e : a.toInt = own_A a := by unfold own_A; omega
  refine ⟨⟨?_, ?_⟩, ?_, ?_, ?_⟩
  · rw [Int32.lt_iff_toInt_lt, hi]; show ¬ (own_A a : Int) + m < 0; omega
  · rw [Int32.lt_iff_toInt_lt, hi, show (13 : Int32).toInt = 13 from by decide]; omega
  · unfold Int32.toNatClampNeg; rw [hi]; omega
  · omega
  · rw [Jvm.Free.XT.add32 (by unfold Jvm.Free.XT.fits32; rw [hi, show (1 : Int32).toInt = 1 from rfl]; omega), hi, show (1 : Int32).toInt = 1 from rfl]; omega
theorem own_pad (v : Int64) (a f : Int32) (vs : List Value) (hz : ∀ i, i < 13 → vs.getD i (.int (0 : Int32)) = .int f) (hl : vs.length = 13) : own_tab (own_X v a f 0) 13 = vs := by
  apply List.ext_getElem
  · rw [own_tab_len, hl]
  · intro j h1 h2
    have q := hz j (by omega)
    rw [List.getD_eq_getElem?_getD, List.getElem?_eq_getElem h2] at q
    have w := own_tab_get (own_X v a f 0) 13 j (by omega) (.int (0 : Int32))
    rw [List.getD_eq_getElem?_getD, List.getElem?_eq_getElem h1] at w
    simp only [Option.getD_some] at q w
    rw [q, w, own_X, if_neg (by omega)]
theorem own_turn (v q : Int64) (a f : Int32) (m : Nat) (hr : q.toInt = v.toInt / ((128 ^ m : Nat) : Int)) : (own_tab (own_X v a f m) 13).set (own_A a + m) (.int (nar .byte ((((q &&& (127 : Int64)) ||| (128 : Int64)).toInt32).toInt8.toInt32))) = own_tab (own_X v a f (m + 1)) 13 := by
  rw [own_more, own_nar, hr]
  apply own_tab_set
  intro j hj
  unfold own_X
  by_cases w : j = own_A a + m
  · subst w
    rw [if_pos (by omega), if_pos rfl, show own_A a + m - own_A a = m by omega]
  · rw [if_neg w]
    by_cases u : own_A a ≤ j ∧ j < own_A a + m
    · rw [if_pos u, if_pos (by omega)]
    · rw [if_neg u, if_neg (by omega)]
theorem own_fin (v q : Int64) (a f : Int32) (m : Nat) (hS : own_S v = m + 1) (hr : q.toInt = v.toInt / ((128 ^ m : Nat) : Int)) (h0 : 0 ≤ q.toInt) (h1 : q.toInt < 128) : (own_tab (own_X v a f m) 13).set (own_A a + m) (.int (nar .byte ((q.toInt32).toInt8.toInt32))) = own_tab (own_Y v a f) 13 := by
  rw [own_end q h0 h1, own_nar, hr]
  apply own_tab_set
  intro j hj
  unfold own_X own_Y
  by_cases w : j = own_A a + m
  · subst w
    rw [if_pos (by omega), if_pos rfl, show own_A a + m - own_A a = m by omega, if_neg (by omega)]
  · rw [if_neg w]
    by_cases u : own_A a ≤ j ∧ j < own_A a + m
    · rw [if_pos u, if_pos (by omega), if_pos (by omega)]
    · rw [if_neg u, if_neg (by omega)]
theorem own_ret (v : Int64) (a i : Int32) (m : Nat) (hv : ¬ v < 0) (hS : own_S v = m + 1) (h1 : 0 ≤ a.toInt) (h2 : a.toInt < 4) (hi : (i + (1 : Int32)).toInt = (own_A a : Int) + ((m + 1 : Nat) : Int)) : i + (1 : Int32) = a + own_sz v := by
  obtain ⟨d1, d2, d3⟩ := own_Sle v hv
  have e : a.toInt = own_A a := by unfold own_A; omega
  apply Int32.toInt_inj.mp
  rw [hi, Jvm.Free.XT.add32 (by unfold Jvm.Free.XT.fits32; omega), d3, hS, e]
theorem own_lim (v : Int64) (hv : ¬ v < 0) (a j : Int32) (J : Nat) (hj : j.toInt = J) (hJ : J < 13) (h1 : 0 ≤ a.toInt) (h2 : a.toInt < 4) : (j < a ↔ J < own_A a) ∧ (j < a + own_sz v ↔ J < own_A a + own_S v) ∧ (own_A a ≤ J → (j - a).toInt = ((J - own_A a : Nat) : Int)) ∧ (own_A a ≤ J → ((j - a) < (own_sz v - (1 : Int32)) ↔ J - own_A a + 1 < own_S v)) := by
  obtain ⟨d1, d2, d3⟩ := own_Sle v hv
  have e : a.toInt = own_A a := by unfold own_A; omega
  have w1 : (a + own_sz v).toInt = (own_A a : Int) + own_S v := by rw [Jvm.Free.XT.add32 (by unfold Jvm.Free.XT.fits32; omega), e, d3]
  have w2 : (own_sz v - (1 : Int32)).toInt = (own_S v : Int) - 1 := by
    rw [Jvm.Free.XT.sub32 (by unfold Jvm.Free.XT.fits32; rw [d3, show (1 : Int32).toInt = 1 from rfl]; omega), d3]; rfl
  have w3 : (j - a).toInt = (J : Int) - own_A a := by rw [Jvm.Free.XT.sub32 (by unfold Jvm.Free.XT.fits32; omega), hj, e]
  refine ⟨?_, ?_, fun q => ?_, fun q => ?_⟩
  · rw [Int32.lt_iff_toInt_lt, hj, e]; omega
  · rw [Int32.lt_iff_toInt_lt, hj, w1]; omega
  · rw [w3]; omega
  · rw [Int32.lt_iff_toInt_lt, w3, w2]; omega
theorem own_out (v : Int64) (hv : ¬ v < 0) (a f j : Int32) (J : Nat) (hj : j.toInt = J) (hJ : J < 13) (h1 : 0 ≤ a.toInt) (h2 : a.toInt < 4) (g : j < a ∨ ¬ j < a + own_sz v) : own_Y v a f J = f := by
  obtain ⟨w1, w2, -⟩ := own_lim v hv a j J hj hJ h1 h2
  rw [w1, w2] at g
  rw [own_Y, if_neg (by omega)]
theorem own_exp (v : Int64) (hv : ¬ v < 0) (k : Int32) (K : Nat) (hk : k.toInt = K) (hK : K < 9) : (((((v.toUInt64 >>> (((7 : Int32) * k) &&& 0x3f).toInt64.toUInt64).toInt64) &&& (127 : Int64)).toInt32)).toInt = (v.toInt / ((128 ^ K : Nat) : Int)) % 128 := by
  have e7 : (7 : Int32).toInt = 7 := by decide
  have w1 : ((7 : Int32) * k).toInt = ((7 * K : Nat) : Int) := by
    rw [Jvm.Free.XT.mul32 (by unfold Jvm.Free.XT.fits32; rw [e7, hk]; omega), e7, hk]; omega
  have w2 := own_shr v (own_nn hv) _ _ w1 (by omega)
  have w3 : ((2 ^ (7 * K) : Nat) : Int) = ((128 ^ K : Nat) : Int) := by rw [Nat.pow_mul]
  rw [w3] at w2
  have w4 := c_maskL ((v.toUInt64 >>> (((7 : Int32) * k) &&& 0x3f).toInt64.toUInt64).toInt64) 127 7 (by decide) (by decide)
  rw [w2] at w4
  have w5 := c_l2i (((v.toUInt64 >>> (((7 : Int32) * k) &&& 0x3f).toInt64.toUInt64).toInt64) &&& (127 : Int64))
  have w6 := Int32.toInt_lt ((((v.toUInt64 >>> (((7 : Int32) * k) &&& 0x3f).toInt64.toUInt64).toInt64) &&& (127 : Int64)).toInt32)
  have w7 := Int32.le_toInt ((((v.toUInt64 >>> (((7 : Int32) * k) &&& 0x3f).toInt64.toUInt64).toInt64) &&& (127 : Int64)).toInt32)
  rw [w4] at w5
  generalize v.toInt / ((128 ^ K : Nat) : Int) = z at *
  omega
theorem own_in1 (v : Int64) (hv : ¬ v < 0) (a f j : Int32) (J : Nat) (hj : j.toInt = J) (hJ : J < 13) (h1 : 0 ≤ a.toInt) (h2 : a.toInt < 4) (g1 : ¬ j < a) (g2 : j < a + own_sz v) (g3 : (j - a) < (own_sz v - (1 : Int32))) : own_Y v a f J = (((((v.toUInt64 >>> (((7 : Int32) * (j - a)) &&& 0x3f).toInt64.toUInt64).toInt64) &&& (127 : Int64)).toInt32) ||| (128 : Int32)).toInt8.toInt32 := by
  obtain ⟨w1, w2, w3, w4⟩ := own_lim v hv a j J hj hJ h1 h2
  have d := own_Sle v hv
  rw [w1] at g1; rw [w2] at g2; rw [w4 (by omega)] at g3
  have w5 := own_exp v hv (j - a) _ (w3 (by omega)) (by omega)
  rw [own_Y, if_pos (by omega), if_pos g3]
  have e : (128 : Int32).toInt = 128 := by decide
  have w6 := c_or' (((((v.toUInt64 >>> (((7 : Int32) * (j - a)) &&& 0x3f).toInt64.toUInt64).toInt64) &&& (127 : Int64)).toInt32)) 128 7 (by decide) 128 (by decide) (by decide) (by rw [w5]; omega) (by rw [w5]; omega)
  rw [w5, e] at w6
  exact (own_i2b _ _ (by omega)).symm
theorem own_in2 (v : Int64) (hv : ¬ v < 0) (a f j : Int32) (J : Nat) (hj : j.toInt = J) (hJ : J < 13) (h1 : 0 ≤ a.toInt) (h2 : a.toInt < 4) (g1 : ¬ j < a) (g2 : j < a + own_sz v) (g3 : ¬ (j - a) < (own_sz v - (1 : Int32))) : own_Y v a f J = ((((v.toUInt64 >>> (((7 : Int32) * (j - a)) &&& 0x3f).toInt64.toUInt64).toInt64) &&& (127 : Int64)).toInt32).toInt8.toInt32 := by
  obtain ⟨w1, w2, w3, w4⟩ := own_lim v hv a j J hj hJ h1 h2
  have d := own_Sle v hv
  rw [w1] at g1; rw [w2] at g2; rw [w4 (by omega)] at g3
  have w5 := own_exp v hv (j - a) _ (w3 (by omega)) (by omega)
  rw [own_Y, if_pos (by omega), if_neg g3]
  exact (own_i2b _ _ (by rw [w5]; omega)).symm
theorem own_val (q : Int64) (p : Int32) : ¬ (((q &&& (9223372036854775807 : Int64)).toUInt64 >>> ((p &&& (63 : Int32)) &&& 0x3f).toInt64.toUInt64).toInt64) < (0 : Int64) := by
  have h := c_maskL q 9223372036854775807 63 (by decide) (by decide)
  have h0 : 0 ≤ (q &&& (9223372036854775807 : Int64)).toInt := by rw [h]; omega
  have hp := c_mask p 63 6 (by decide) (by decide)
  have w := own_shr _ h0 (p &&& (63 : Int32)) (p &&& (63 : Int32)).toInt.toNat (by rw [hp]; omega) (by rw [hp]; omega)
  rw [own_lt0, w]
  have := Int.ediv_nonneg h0 (Int.natCast_nonneg (2 ^ (p &&& (63 : Int32)).toInt.toNat))
  omega
theorem own_at (p : Int32) : 0 ≤ (p &&& (3 : Int32)).toInt ∧ (p &&& (3 : Int32)).toInt < 4 := by
  have h := c_mask p 3 2 (by decide) (by decide)
  rw [h]; omega
theorem own_fill (p : Int32) : nar .byte (p.toInt8.toInt32) = p.toInt8.toInt32 := by
  show (p.toInt8.toInt32).toInt8.toInt32 = p.toInt8.toInt32
  apply Int32.toInt_inj.mp
  have h1 := c_i2b p
  have h2 := c_i2b (p.toInt8.toInt32)
  omega
theorem d1_0 : decode method_2_code 0 = .ok (.lload_n 0, 1) := by decide +kernel
theorem d1_1 : decode method_2_code 1 = .ok (.ldc2_w 7, 3) := by decide +kernel
theorem d1_4 : decode method_2_code 4 = .ok (.lcmp, 1) := by decide +kernel
theorem d1_5 : decode method_2_code 5 = .ok (.ifCond .ge 5, 3) := by decide +kernel
theorem d1_8 : decode method_2_code 8 = .ok (.iconst 1, 1) := by decide +kernel
theorem d1_9 : decode method_2_code 9 = .ok (.ireturn, 1) := by decide +kernel
theorem d1_10 : decode method_2_code 10 = .ok (.lload_n 0, 1) := by decide +kernel
theorem d1_11 : decode method_2_code 11 = .ok (.ldc2_w 9, 3) := by decide +kernel
theorem d1_14 : decode method_2_code 14 = .ok (.lcmp, 1) := by decide +kernel
theorem d1_15 : decode method_2_code 15 = .ok (.ifCond .ge 5, 3) := by decide +kernel
theorem d1_18 : decode method_2_code 18 = .ok (.iconst 2, 1) := by decide +kernel
theorem d1_19 : decode method_2_code 19 = .ok (.ireturn, 1) := by decide +kernel
theorem d1_20 : decode method_2_code 20 = .ok (.lload_n 0, 1) := by decide +kernel
theorem d1_21 : decode method_2_code 21 = .ok (.ldc2_w 11, 3) := by decide +kernel
theorem d1_24 : decode method_2_code 24 = .ok (.lcmp, 1) := by decide +kernel
theorem d1_25 : decode method_2_code 25 = .ok (.ifCond .ge 5, 3) := by decide +kernel
theorem d1_28 : decode method_2_code 28 = .ok (.iconst 3, 1) := by decide +kernel
theorem d1_29 : decode method_2_code 29 = .ok (.ireturn, 1) := by decide +kernel
theorem d1_30 : decode method_2_code 30 = .ok (.lload_n 0, 1) := by decide +kernel
theorem d1_31 : decode method_2_code 31 = .ok (.ldc2_w 13, 3) := by decide +kernel
theorem d1_34 : decode method_2_code 34 = .ok (.lcmp, 1) := by decide +kernel
theorem d1_35 : decode method_2_code 35 = .ok (.ifCond .ge 5, 3) := by decide +kernel
theorem d1_38 : decode method_2_code 38 = .ok (.iconst 4, 1) := by decide +kernel
theorem d1_39 : decode method_2_code 39 = .ok (.ireturn, 1) := by decide +kernel
theorem d1_40 : decode method_2_code 40 = .ok (.lload_n 0, 1) := by decide +kernel
theorem d1_41 : decode method_2_code 41 = .ok (.ldc2_w 15, 3) := by decide +kernel
theorem d1_44 : decode method_2_code 44 = .ok (.lcmp, 1) := by decide +kernel
theorem d1_45 : decode method_2_code 45 = .ok (.ifCond .ge 5, 3) := by decide +kernel
theorem d1_48 : decode method_2_code 48 = .ok (.iconst 5, 1) := by decide +kernel
theorem d1_49 : decode method_2_code 49 = .ok (.ireturn, 1) := by decide +kernel
theorem d1_50 : decode method_2_code 50 = .ok (.lload_n 0, 1) := by decide +kernel
theorem d1_51 : decode method_2_code 51 = .ok (.ldc2_w 17, 3) := by decide +kernel
theorem d1_54 : decode method_2_code 54 = .ok (.lcmp, 1) := by decide +kernel
theorem d1_55 : decode method_2_code 55 = .ok (.ifCond .ge 6, 3) := by decide +kernel
theorem d1_58 : decode method_2_code 58 = .ok (.bipush 6, 2) := by decide +kernel
theorem d1_60 : decode method_2_code 60 = .ok (.ireturn, 1) := by decide +kernel
theorem d1_61 : decode method_2_code 61 = .ok (.lload_n 0, 1) := by decide +kernel
theorem d1_62 : decode method_2_code 62 = .ok (.ldc2_w 19, 3) := by decide +kernel
theorem d1_65 : decode method_2_code 65 = .ok (.lcmp, 1) := by decide +kernel
theorem d1_66 : decode method_2_code 66 = .ok (.ifCond .ge 6, 3) := by decide +kernel
theorem d1_69 : decode method_2_code 69 = .ok (.bipush 7, 2) := by decide +kernel
theorem d1_71 : decode method_2_code 71 = .ok (.ireturn, 1) := by decide +kernel
theorem d1_72 : decode method_2_code 72 = .ok (.lload_n 0, 1) := by decide +kernel
theorem d1_73 : decode method_2_code 73 = .ok (.ldc2_w 21, 3) := by decide +kernel
theorem d1_76 : decode method_2_code 76 = .ok (.lcmp, 1) := by decide +kernel
theorem d1_77 : decode method_2_code 77 = .ok (.ifCond .ge 6, 3) := by decide +kernel
theorem d1_80 : decode method_2_code 80 = .ok (.bipush 8, 2) := by decide +kernel
theorem d1_82 : decode method_2_code 82 = .ok (.ireturn, 1) := by decide +kernel
theorem d1_83 : decode method_2_code 83 = .ok (.bipush 9, 2) := by decide +kernel
theorem d1_85 : decode method_2_code 85 = .ok (.ireturn, 1) := by decide +kernel
theorem pn_querent_index_IndexFileWriteVLongPinLaw : plainName "querent/index/IndexFileWriteVLongPinLaw" = true := by first | (simp [plainName, overriddenIn]; done) | decide +kernel
theorem ef_rm1 (m : MethodId) (x0 : Int64) : entryFrame m #[(.long x0)] 2 = mkF m 0 #[.val (.long x0), .second] [] := by first | (simp [entryFrame, mkF, argsToLocals, Value.category]; done) | rfl
def Qrm1 (Z : State) (q0 : Int64) (h0 : Heap) (n0 : Nat) (v : Option Value) (h : Heap) (L : List Loc) : Prop := v = some (.int (own_sz q0)) ∧ Fr n0 L ∧ h = h0
set_option maxRecDepth 65536 in
set_option maxHeartbeats 40000000 in
theorem rm1 (l : Launch) (Z : State) (aV : Array Value) (hw : ∀ d ∈ tables_1, d.before aV Z = true) (ws : List Jvm.Cond) (q0 : Int64) (h0 : Heap) (n0 : Nat) (O0 : Old Z n0 h0) :
    MetFree l (⟨"querent/index/IndexFileWriteVLongPinLaw", "size", "(J)I"⟩ : MethodName) (head1 (Jvm.Cond.code (⟨"querent/index/IndexFileWriteVLongPinLaw", "size", "(J)I"⟩ : MethodName) method_2_code 2 (some .int) :: ws) ({ frames := 0, cells := 0, slots := 0, locals := 0 } : Room)) (fun a U => a = #[(.long q0)] ∧ Z.Warmed39 U.vm ∧ U.heap = h0) (fun _ _ _ _ _ => True) (fun _ U o U' => ∃ v L, o = .returned v ∧ Qrm1 Z q0 h0 n0 v U'.heap L ∧ FrameEnd U o U' L ({ frames := 0, cells := 0, slots := 0, locals := 0 } : Room).cells ({ frames := 0, cells := 0, slots := 0, locals := 0 } : Room).slots) := by
  refine MetFree.of_bodySF (plainFor_of_name pn_querent_index_IndexFileWriteVLongPinLaw) hisR ?_
  intro p e s m args below meth c s₁ Bd hml0 hP hK
  obtain ⟨rfl, hZ, hh⟩ := hP
  have hx := Bd.exec
  have hby := Bd.bytes
  have hml : c.maxLocals = 2 := hml0
  have hown : s.vm.findClass "querent/index/IndexFileWriteVLongPinLaw" = some m.cls := findClass_of_methodNamed Bd.named
  have hnm := (name_of_methodNamed Bd.named Bd.method).1
  have X0 : Stand p l e ({ frames := 0, cells := 0, slots := 0, locals := 0 } : Room) s m #[(.long q0)] below meth c s₁ [] 0 0 := Stand.of_body Bd
  have e0 : s₁.heap = h0 := by rw [← hh, Bd.state]; rfl
  have N0 := Fr.nil n0
  show Run p.tables e below (Wd s (Qrm1 Z q0 h0 n0) ({ frames := 0, cells := 0, slots := 0, locals := 0 } : Room).cells ({ frames := 0, cells := 0, slots := 0, locals := 0 } : Room).slots) s₁ (entryFrame m #[(.long q0)] 2)
  rw [ef_rm1 m q0]
  refine run_fwd (T' := s₁) (g' := (mkF m 1 #[.val (.long q0), .second] [(.long q0)])) (fun _ k => XS.lloadN X0.here hx rfl (hb hby d1_0) rfl k) ?_
  refine run_fwd (T' := s₁) (g' := (mkF m 4 #[.val (.long q0), .second] [(.long (128 : Int64)), (.long q0)])) (fun _ k => X0.ldc2Long hx hown (mvT hZ (hw _ (List.mem_of_getElem? (i := 6) rfl))) (g := (mkF m 1 #[.val (.long q0), .second] [(.long q0)])) rfl (hb hby d1_1) _ k) ?_
  refine run_fwd (T' := s₁) (g' := (mkF m 5 #[.val (.long q0), .second] [(.int (lcmpW q0 (128 : Int64)))])) (fun _ k => XS.lcmp X0.here hx rfl (hb hby d1_4) rfl k) ?_
  by_cases hc5_1 : q0 < (128 : Int64)
  ·
    refine run_fwd (T' := s₁) (g' := (mkF m 8 #[.val (.long q0), .second] [])) (fun _ k => XS.ifNo X0.here hx rfl (hb hby d1_5) rfl ((if0 _ _).trans (tlt ((lw_lt q0 (128 : Int64)).mpr hc5_1)).2.1) k) ?_
    refine run_fwd (T' := s₁) (g' := (mkF m 9 #[.val (.long q0), .second] [(.int (1 : Int32))])) (fun _ k => XS.iconst X0.here hx rfl (hb hby d1_8) k) ?_
    exact run_ret X0 hx Bd.returns Bd.notSynchronized rfl (Or.inl ⟨rfl, by simp, _, rfl⟩) (hb hby d1_9) (by rw [e0]; exact ⟨by rw [own_sz, if_pos hc5_1], N0, rfl⟩) (by decide) (by decide)
  ·
    refine run_fwd (T' := s₁) (g' := (mkF m 10 #[.val (.long q0), .second] [])) (fun _ k => XS.ifYes X0.here hx rfl (pc0 := 5) (pc' := 10) rfl (hb hby d1_5) rfl ((if0 _ _).trans (flt (fun z => hc5_1 ((lw_lt q0 (128 : Int64)).mp z))).2.1) (by decide) (by decide) k) ?_
    refine run_fwd (T' := s₁) (g' := (mkF m 11 #[.val (.long q0), .second] [(.long q0)])) (fun _ k => XS.lloadN X0.here hx rfl (hb hby d1_10) rfl k) ?_
    refine run_fwd (T' := s₁) (g' := (mkF m 14 #[.val (.long q0), .second] [(.long (16384 : Int64)), (.long q0)])) (fun _ k => X0.ldc2Long hx hown (mvT hZ (hw _ (List.mem_of_getElem? (i := 16) rfl))) (g := (mkF m 11 #[.val (.long q0), .second] [(.long q0)])) rfl (hb hby d1_11) _ k) ?_
    refine run_fwd (T' := s₁) (g' := (mkF m 15 #[.val (.long q0), .second] [(.int (lcmpW q0 (16384 : Int64)))])) (fun _ k => XS.lcmp X0.here hx rfl (hb hby d1_14) rfl k) ?_
    by_cases hc15_2 : q0 < (16384 : Int64)
    ·
      refine run_fwd (T' := s₁) (g' := (mkF m 18 #[.val (.long q0), .second] [])) (fun _ k => XS.ifNo X0.here hx rfl (hb hby d1_15) rfl ((if0 _ _).trans (tlt ((lw_lt q0 (16384 : Int64)).mpr hc15_2)).2.1) k) ?_
      refine run_fwd (T' := s₁) (g' := (mkF m 19 #[.val (.long q0), .second] [(.int (2 : Int32))])) (fun _ k => XS.iconst X0.here hx rfl (hb hby d1_18) k) ?_
      exact run_ret X0 hx Bd.returns Bd.notSynchronized rfl (Or.inl ⟨rfl, by simp, _, rfl⟩) (hb hby d1_19) (by rw [e0]; exact ⟨by rw [own_sz, if_neg hc5_1, if_pos hc15_2], N0, rfl⟩) (by decide) (by decide)
    ·
      refine run_fwd (T' := s₁) (g' := (mkF m 20 #[.val (.long q0), .second] [])) (fun _ k => XS.ifYes X0.here hx rfl (pc0 := 15) (pc' := 20) rfl (hb hby d1_15) rfl ((if0 _ _).trans (flt (fun z => hc15_2 ((lw_lt q0 (16384 : Int64)).mp z))).2.1) (by decide) (by decide) k) ?_
      refine run_fwd (T' := s₁) (g' := (mkF m 21 #[.val (.long q0), .second] [(.long q0)])) (fun _ k => XS.lloadN X0.here hx rfl (hb hby d1_20) rfl k) ?_
      refine run_fwd (T' := s₁) (g' := (mkF m 24 #[.val (.long q0), .second] [(.long (2097152 : Int64)), (.long q0)])) (fun _ k => X0.ldc2Long hx hown (mvT hZ (hw _ (List.mem_of_getElem? (i := 17) rfl))) (g := (mkF m 21 #[.val (.long q0), .second] [(.long q0)])) rfl (hb hby d1_21) _ k) ?_
      refine run_fwd (T' := s₁) (g' := (mkF m 25 #[.val (.long q0), .second] [(.int (lcmpW q0 (2097152 : Int64)))])) (fun _ k => XS.lcmp X0.here hx rfl (hb hby d1_24) rfl k) ?_
      by_cases hc25_3 : q0 < (2097152 : Int64)
      ·
        refine run_fwd (T' := s₁) (g' := (mkF m 28 #[.val (.long q0), .second] [])) (fun _ k => XS.ifNo X0.here hx rfl (hb hby d1_25) rfl ((if0 _ _).trans (tlt ((lw_lt q0 (2097152 : Int64)).mpr hc25_3)).2.1) k) ?_
        refine run_fwd (T' := s₁) (g' := (mkF m 29 #[.val (.long q0), .second] [(.int (3 : Int32))])) (fun _ k => XS.iconst X0.here hx rfl (hb hby d1_28) k) ?_
        exact run_ret X0 hx Bd.returns Bd.notSynchronized rfl (Or.inl ⟨rfl, by simp, _, rfl⟩) (hb hby d1_29) (by rw [e0]; exact ⟨by rw [own_sz, if_neg hc5_1, if_neg hc15_2, if_pos hc25_3], N0, rfl⟩) (by decide) (by decide)
      ·
        refine run_fwd (T' := s₁) (g' := (mkF m 30 #[.val (.long q0), .second] [])) (fun _ k => XS.ifYes X0.here hx rfl (pc0 := 25) (pc' := 30) rfl (hb hby d1_25) rfl ((if0 _ _).trans (flt (fun z => hc25_3 ((lw_lt q0 (2097152 : Int64)).mp z))).2.1) (by decide) (by decide) k) ?_
        refine run_fwd (T' := s₁) (g' := (mkF m 31 #[.val (.long q0), .second] [(.long q0)])) (fun _ k => XS.lloadN X0.here hx rfl (hb hby d1_30) rfl k) ?_
        refine run_fwd (T' := s₁) (g' := (mkF m 34 #[.val (.long q0), .second] [(.long (268435456 : Int64)), (.long q0)])) (fun _ k => X0.ldc2Long hx hown (mvT hZ (hw _ (List.mem_of_getElem? (i := 18) rfl))) (g := (mkF m 31 #[.val (.long q0), .second] [(.long q0)])) rfl (hb hby d1_31) _ k) ?_
        refine run_fwd (T' := s₁) (g' := (mkF m 35 #[.val (.long q0), .second] [(.int (lcmpW q0 (268435456 : Int64)))])) (fun _ k => XS.lcmp X0.here hx rfl (hb hby d1_34) rfl k) ?_
        by_cases hc35_4 : q0 < (268435456 : Int64)
        ·
          refine run_fwd (T' := s₁) (g' := (mkF m 38 #[.val (.long q0), .second] [])) (fun _ k => XS.ifNo X0.here hx rfl (hb hby d1_35) rfl ((if0 _ _).trans (tlt ((lw_lt q0 (268435456 : Int64)).mpr hc35_4)).2.1) k) ?_
          refine run_fwd (T' := s₁) (g' := (mkF m 39 #[.val (.long q0), .second] [(.int (4 : Int32))])) (fun _ k => XS.iconst X0.here hx rfl (hb hby d1_38) k) ?_
          exact run_ret X0 hx Bd.returns Bd.notSynchronized rfl (Or.inl ⟨rfl, by simp, _, rfl⟩) (hb hby d1_39) (by rw [e0]; exact ⟨by rw [own_sz, if_neg hc5_1, if_neg hc15_2, if_neg hc25_3, if_pos hc35_4], N0, rfl⟩) (by decide) (by decide)
        ·
          refine run_fwd (T' := s₁) (g' := (mkF m 40 #[.val (.long q0), .second] [])) (fun _ k => XS.ifYes X0.here hx rfl (pc0 := 35) (pc' := 40) rfl (hb hby d1_35) rfl ((if0 _ _).trans (flt (fun z => hc35_4 ((lw_lt q0 (268435456 : Int64)).mp z))).2.1) (by decide) (by decide) k) ?_
          refine run_fwd (T' := s₁) (g' := (mkF m 41 #[.val (.long q0), .second] [(.long q0)])) (fun _ k => XS.lloadN X0.here hx rfl (hb hby d1_40) rfl k) ?_
          refine run_fwd (T' := s₁) (g' := (mkF m 44 #[.val (.long q0), .second] [(.long (34359738368 : Int64)), (.long q0)])) (fun _ k => X0.ldc2Long hx hown (mvT hZ (hw _ (List.mem_of_getElem? (i := 19) rfl))) (g := (mkF m 41 #[.val (.long q0), .second] [(.long q0)])) rfl (hb hby d1_41) _ k) ?_
          refine run_fwd (T' := s₁) (g' := (mkF m 45 #[.val (.long q0), .second] [(.int (lcmpW q0 (34359738368 : Int64)))])) (fun _ k => XS.lcmp X0.here hx rfl (hb hby d1_44) rfl k) ?_
          by_cases hc45_5 : q0 < (34359738368 : Int64)
          ·
            refine run_fwd (T' := s₁) (g' := (mkF m 48 #[.val (.long q0), .second] [])) (fun _ k => XS.ifNo X0.here hx rfl (hb hby d1_45) rfl ((if0 _ _).trans (tlt ((lw_lt q0 (34359738368 : Int64)).mpr hc45_5)).2.1) k) ?_
            refine run_fwd (T' := s₁) (g' := (mkF m 49 #[.val (.long q0), .second] [(.int (5 : Int32))])) (fun _ k => XS.iconst X0.here hx rfl (hb hby d1_48) k) ?_
            exact run_ret X0 hx Bd.returns Bd.notSynchronized rfl (Or.inl ⟨rfl, by simp, _, rfl⟩) (hb hby d1_49) (by rw [e0]; exact ⟨by rw [own_sz, if_neg hc5_1, if_neg hc15_2, if_neg hc25_3, if_neg hc35_4, if_pos hc45_5], N0, rfl⟩) (by decide) (by decide)
          ·
            refine run_fwd (T' := s₁) (g' := (mkF m 50 #[.val (.long q0), .second] [])) (fun _ k => XS.ifYes X0.here hx rfl (pc0 := 45) (pc' := 50) rfl (hb hby d1_45) rfl ((if0 _ _).trans (flt (fun z => hc45_5 ((lw_lt q0 (34359738368 : Int64)).mp z))).2.1) (by decide) (by decide) k) ?_
            refine run_fwd (T' := s₁) (g' := (mkF m 51 #[.val (.long q0), .second] [(.long q0)])) (fun _ k => XS.lloadN X0.here hx rfl (hb hby d1_50) rfl k) ?_
            refine run_fwd (T' := s₁) (g' := (mkF m 54 #[.val (.long q0), .second] [(.long (4398046511104 : Int64)), (.long q0)])) (fun _ k => X0.ldc2Long hx hown (mvT hZ (hw _ (List.mem_of_getElem? (i := 22) rfl))) (g := (mkF m 51 #[.val (.long q0), .second] [(.long q0)])) rfl (hb hby d1_51) _ k) ?_
            refine run_fwd (T' := s₁) (g' := (mkF m 55 #[.val (.long q0), .second] [(.int (lcmpW q0 (4398046511104 : Int64)))])) (fun _ k => XS.lcmp X0.here hx rfl (hb hby d1_54) rfl k) ?_
            by_cases hc55_6 : q0 < (4398046511104 : Int64)
            ·
              refine run_fwd (T' := s₁) (g' := (mkF m 58 #[.val (.long q0), .second] [])) (fun _ k => XS.ifNo X0.here hx rfl (hb hby d1_55) rfl ((if0 _ _).trans (tlt ((lw_lt q0 (4398046511104 : Int64)).mpr hc55_6)).2.1) k) ?_
              refine run_fwd (T' := s₁) (g' := (mkF m 60 #[.val (.long q0), .second] [(.int (6 : Int32))])) (fun _ k => XS.bipush X0.here hx rfl (hb hby d1_58) k) ?_
              exact run_ret X0 hx Bd.returns Bd.notSynchronized rfl (Or.inl ⟨rfl, by simp, _, rfl⟩) (hb hby d1_60) (by rw [e0]; exact ⟨by rw [own_sz, if_neg hc5_1, if_neg hc15_2, if_neg hc25_3, if_neg hc35_4, if_neg hc45_5, if_pos hc55_6], N0, rfl⟩) (by decide) (by decide)
            ·
              refine run_fwd (T' := s₁) (g' := (mkF m 61 #[.val (.long q0), .second] [])) (fun _ k => XS.ifYes X0.here hx rfl (pc0 := 55) (pc' := 61) rfl (hb hby d1_55) rfl ((if0 _ _).trans (flt (fun z => hc55_6 ((lw_lt q0 (4398046511104 : Int64)).mp z))).2.1) (by decide) (by decide) k) ?_
              refine run_fwd (T' := s₁) (g' := (mkF m 62 #[.val (.long q0), .second] [(.long q0)])) (fun _ k => XS.lloadN X0.here hx rfl (hb hby d1_61) rfl k) ?_
              refine run_fwd (T' := s₁) (g' := (mkF m 65 #[.val (.long q0), .second] [(.long (562949953421312 : Int64)), (.long q0)])) (fun _ k => X0.ldc2Long hx hown (mvT hZ (hw _ (List.mem_of_getElem? (i := 23) rfl))) (g := (mkF m 62 #[.val (.long q0), .second] [(.long q0)])) rfl (hb hby d1_62) _ k) ?_
              refine run_fwd (T' := s₁) (g' := (mkF m 66 #[.val (.long q0), .second] [(.int (lcmpW q0 (562949953421312 : Int64)))])) (fun _ k => XS.lcmp X0.here hx rfl (hb hby d1_65) rfl k) ?_
              by_cases hc66_7 : q0 < (562949953421312 : Int64)
              ·
                refine run_fwd (T' := s₁) (g' := (mkF m 69 #[.val (.long q0), .second] [])) (fun _ k => XS.ifNo X0.here hx rfl (hb hby d1_66) rfl ((if0 _ _).trans (tlt ((lw_lt q0 (562949953421312 : Int64)).mpr hc66_7)).2.1) k) ?_
                refine run_fwd (T' := s₁) (g' := (mkF m 71 #[.val (.long q0), .second] [(.int (7 : Int32))])) (fun _ k => XS.bipush X0.here hx rfl (hb hby d1_69) k) ?_
                exact run_ret X0 hx Bd.returns Bd.notSynchronized rfl (Or.inl ⟨rfl, by simp, _, rfl⟩) (hb hby d1_71) (by rw [e0]; exact ⟨by rw [own_sz, if_neg hc5_1, if_neg hc15_2, if_neg hc25_3, if_neg hc35_4, if_neg hc45_5, if_neg hc55_6, if_pos hc66_7], N0, rfl⟩) (by decide) (by decide)
              ·
                refine run_fwd (T' := s₁) (g' := (mkF m 72 #[.val (.long q0), .second] [])) (fun _ k => XS.ifYes X0.here hx rfl (pc0 := 66) (pc' := 72) rfl (hb hby d1_66) rfl ((if0 _ _).trans (flt (fun z => hc66_7 ((lw_lt q0 (562949953421312 : Int64)).mp z))).2.1) (by decide) (by decide) k) ?_
                refine run_fwd (T' := s₁) (g' := (mkF m 73 #[.val (.long q0), .second] [(.long q0)])) (fun _ k => XS.lloadN X0.here hx rfl (hb hby d1_72) rfl k) ?_
                refine run_fwd (T' := s₁) (g' := (mkF m 76 #[.val (.long q0), .second] [(.long (72057594037927936 : Int64)), (.long q0)])) (fun _ k => X0.ldc2Long hx hown (mvT hZ (hw _ (List.mem_of_getElem? (i := 24) rfl))) (g := (mkF m 73 #[.val (.long q0), .second] [(.long q0)])) rfl (hb hby d1_73) _ k) ?_
                refine run_fwd (T' := s₁) (g' := (mkF m 77 #[.val (.long q0), .second] [(.int (lcmpW q0 (72057594037927936 : Int64)))])) (fun _ k => XS.lcmp X0.here hx rfl (hb hby d1_76) rfl k) ?_
                by_cases hc77_8 : q0 < (72057594037927936 : Int64)
                ·
                  refine run_fwd (T' := s₁) (g' := (mkF m 80 #[.val (.long q0), .second] [])) (fun _ k => XS.ifNo X0.here hx rfl (hb hby d1_77) rfl ((if0 _ _).trans (tlt ((lw_lt q0 (72057594037927936 : Int64)).mpr hc77_8)).2.1) k) ?_
                  refine run_fwd (T' := s₁) (g' := (mkF m 82 #[.val (.long q0), .second] [(.int (8 : Int32))])) (fun _ k => XS.bipush X0.here hx rfl (hb hby d1_80) k) ?_
                  exact run_ret X0 hx Bd.returns Bd.notSynchronized rfl (Or.inl ⟨rfl, by simp, _, rfl⟩) (hb hby d1_82) (by rw [e0]; exact ⟨by rw [own_sz, if_neg hc5_1, if_neg hc15_2, if_neg hc25_3, if_neg hc35_4, if_neg hc45_5, if_neg hc55_6, if_neg hc66_7, if_pos hc77_8], N0, rfl⟩) (by decide) (by decide)
                ·
                  refine run_fwd (T' := s₁) (g' := (mkF m 83 #[.val (.long q0), .second] [])) (fun _ k => XS.ifYes X0.here hx rfl (pc0 := 77) (pc' := 83) rfl (hb hby d1_77) rfl ((if0 _ _).trans (flt (fun z => hc77_8 ((lw_lt q0 (72057594037927936 : Int64)).mp z))).2.1) (by decide) (by decide) k) ?_
                  refine run_fwd (T' := s₁) (g' := (mkF m 85 #[.val (.long q0), .second] [(.int (9 : Int32))])) (fun _ k => XS.bipush X0.here hx rfl (hb hby d1_83) k) ?_
                  exact run_ret X0 hx Bd.returns Bd.notSynchronized rfl (Or.inl ⟨rfl, by simp, _, rfl⟩) (hb hby d1_85) (by rw [e0]; exact ⟨by rw [own_sz, if_neg hc5_1, if_neg hc15_2, if_neg hc25_3, if_neg hc35_4, if_neg hc45_5, if_neg hc55_6, if_neg hc66_7, if_neg hc77_8], N0, rfl⟩) (by decide) (by decide)
theorem d3_0 : decode method_3_code 0 = .ok (.iload_n 1, 1) := by decide +kernel
theorem d3_1 : decode method_3_code 1 = .ok (.iload_n 2, 1) := by decide +kernel
theorem d3_2 : decode method_3_code 2 = .ok (.if_icmp .lt 10, 3) := by decide +kernel
theorem d3_12 : decode method_3_code 12 = .ok (.aload_n 0, 1) := by decide +kernel
theorem d3_13 : decode method_3_code 13 = .ok (.iload_n 1, 1) := by decide +kernel
theorem d3_14 : decode method_3_code 14 = .ok (.baload, 1) := by decide +kernel
theorem d3_15 : decode method_3_code 15 = .ok (.iload 6, 2) := by decide +kernel
theorem d3_17 : decode method_3_code 17 = .ok (.if_icmp .ne 7, 3) := by decide +kernel
theorem d3_20 : decode method_3_code 20 = .ok (.iconst 1, 1) := by decide +kernel
theorem d3_21 : decode method_3_code 21 = .ok (.goto 4, 3) := by decide +kernel
theorem d3_25 : decode method_3_code 25 = .ok (.ireturn, 1) := by decide +kernel
theorem d3_5 : decode method_3_code 5 = .ok (.iload_n 1, 1) := by decide +kernel
theorem d3_6 : decode method_3_code 6 = .ok (.iload_n 2, 1) := by decide +kernel
theorem d3_7 : decode method_3_code 7 = .ok (.iload_n 3, 1) := by decide +kernel
theorem d3_8 : decode method_3_code 8 = .ok (.iadd, 1) := by decide +kernel
theorem d3_9 : decode method_3_code 9 = .ok (.if_icmp .lt 17, 3) := by decide +kernel
theorem d3_26 : decode method_3_code 26 = .ok (.iload_n 1, 1) := by decide +kernel
theorem d3_27 : decode method_3_code 27 = .ok (.iload_n 2, 1) := by decide +kernel
theorem d3_28 : decode method_3_code 28 = .ok (.isub, 1) := by decide +kernel
theorem d3_29 : decode method_3_code 29 = .ok (.istore 7, 2) := by decide +kernel
theorem d3_31 : decode method_3_code 31 = .ok (.lload 4, 2) := by decide +kernel
theorem d3_33 : decode method_3_code 33 = .ok (.bipush 7, 2) := by decide +kernel
theorem d3_35 : decode method_3_code 35 = .ok (.iload 7, 2) := by decide +kernel
theorem d3_37 : decode method_3_code 37 = .ok (.imul, 1) := by decide +kernel
theorem d3_38 : decode method_3_code 38 = .ok (.lushr, 1) := by decide +kernel
theorem d3_39 : decode method_3_code 39 = .ok (.ldc2_w 23, 3) := by decide +kernel
theorem d3_42 : decode method_3_code 42 = .ok (.land, 1) := by decide +kernel
theorem d3_43 : decode method_3_code 43 = .ok (.l2i, 1) := by decide +kernel
theorem d3_44 : decode method_3_code 44 = .ok (.istore 8, 2) := by decide +kernel
theorem d3_46 : decode method_3_code 46 = .ok (.iload 7, 2) := by decide +kernel
theorem d3_48 : decode method_3_code 48 = .ok (.iload_n 3, 1) := by decide +kernel
theorem d3_49 : decode method_3_code 49 = .ok (.iconst 1, 1) := by decide +kernel
theorem d3_50 : decode method_3_code 50 = .ok (.isub, 1) := by decide +kernel
theorem d3_51 : decode method_3_code 51 = .ok (.if_icmp .ge 11, 3) := by decide +kernel
theorem d3_54 : decode method_3_code 54 = .ok (.iload 8, 2) := by decide +kernel
theorem d3_56 : decode method_3_code 56 = .ok (.sipush 128, 3) := by decide +kernel
theorem d3_59 : decode method_3_code 59 = .ok (.ior, 1) := by decide +kernel
theorem d3_60 : decode method_3_code 60 = .ok (.istore 8, 2) := by decide +kernel
theorem d3_62 : decode method_3_code 62 = .ok (.aload_n 0, 1) := by decide +kernel
theorem d3_63 : decode method_3_code 63 = .ok (.iload_n 1, 1) := by decide +kernel
theorem d3_64 : decode method_3_code 64 = .ok (.baload, 1) := by decide +kernel
theorem d3_65 : decode method_3_code 65 = .ok (.iload 8, 2) := by decide +kernel
theorem d3_67 : decode method_3_code 67 = .ok (.i2b, 1) := by decide +kernel
theorem d3_68 : decode method_3_code 68 = .ok (.if_icmp .ne 7, 3) := by decide +kernel
theorem d3_71 : decode method_3_code 71 = .ok (.iconst 1, 1) := by decide +kernel
theorem d3_72 : decode method_3_code 72 = .ok (.goto 4, 3) := by decide +kernel
theorem d3_76 : decode method_3_code 76 = .ok (.ireturn, 1) := by decide +kernel
theorem ef_rm3 (m : MethodId) (x0 : Addr) (x1 : Int32) (x2 : Int32) (x3 : Int32) (x4 : Int64) (x5 : Int32) : entryFrame m #[(.ref x0), (.int x1), (.int x2), (.int x3), (.long x4), (.int x5)] 9 = mkF m 0 #[.val (.ref x0), .val (.int x1), .val (.int x2), .val (.int x3), .val (.long x4), .second, .val (.int x5), .unset, .unset] [] := by first | (simp [entryFrame, mkF, argsToLocals, Value.category]; done) | rfl
def Qrm3 (Z : State) (a0 : Addr) (p1 : Int32) (p2 : Int32) (p3 : Int32) (q4 : Int64) (p5 : Int32) (k : ClassId) (vs : List Value) (x : Int32) (h0 : Heap) (n0 : Nat) (v : Option Value) (h : Heap) (L : List Loc) : Prop := v = some (.int (1 : Int32)) ∧ Fr n0 L ∧ h = h0
set_option maxRecDepth 65536 in
set_option maxHeartbeats 40000000 in
theorem rm3 (l : Launch) (Z : State) (aV : Array Value) (hw : ∀ d ∈ tables_1, d.before aV Z = true) (ws : List Jvm.Cond) (a0 : Addr) (p1 : Int32) (p2 : Int32) (p3 : Int32) (q4 : Int64) (p5 : Int32) (k : ClassId) (vs : List Value) (x : Int32) (h0 : Heap) (n0 : Nat) (O0 : Old Z n0 h0) (Vi0 : Arv Z h0 a0 k .byte (13 : Int32) vs (.int (0 : Int32))) (hi1 : ¬ p1 < (0 : Int32) ∧ p1 < (13 : Int32)) (hx1 : vs.getD p1.toNatClampNeg (.int (0 : Int32)) = .int x) (hout : (p1 < p2 ∨ ¬ p1 < (p2 + p3)) → x = p5) (hin1 : ¬ p1 < p2 → p1 < (p2 + p3) → (p1 - p2) < (p3 - (1 : Int32)) → x = ((((((q4.toUInt64 >>> (((7 : Int32) * (p1 - p2)) &&& 0x3f).toInt64.toUInt64).toInt64) &&& (127 : Int64)).toInt32) ||| (128 : Int32)).toInt8.toInt32)) (hin2 : ¬ p1 < p2 → p1 < (p2 + p3) → ¬ (p1 - p2) < (p3 - (1 : Int32)) → x = (((((q4.toUInt64 >>> (((7 : Int32) * (p1 - p2)) &&& 0x3f).toInt64.toUInt64).toInt64) &&& (127 : Int64)).toInt32).toInt8.toInt32)) :
    MetFree l (⟨"querent/index/IndexFileWriteVLongPinLaw", "ok", "([BIIIJB)Z"⟩ : MethodName) (head1 (Jvm.Cond.code (⟨"querent/index/IndexFileWriteVLongPinLaw", "ok", "([BIIIJB)Z"⟩ : MethodName) method_3_code 9 (some .boolean) :: ws) ({ frames := 0, cells := 0, slots := 0, locals := 0 } : Room)) (fun a U => a = #[(.ref a0), (.int p1), (.int p2), (.int p3), (.long q4), (.int p5)] ∧ Z.Warmed39 U.vm ∧ U.heap = h0) (fun _ _ _ _ _ => True) (fun _ U o U' => ∃ v L, o = .returned v ∧ Qrm3 Z a0 p1 p2 p3 q4 p5 k vs x h0 n0 v U'.heap L ∧ FrameEnd U o U' L ({ frames := 0, cells := 0, slots := 0, locals := 0 } : Room).cells ({ frames := 0, cells := 0, slots := 0, locals := 0 } : Room).slots) := by
  refine MetFree.of_bodySF (plainFor_of_name pn_querent_index_IndexFileWriteVLongPinLaw) hisR ?_
  intro p e s m args below meth c s₁ Bd hml0 hP hK
  obtain ⟨rfl, hZ, hh⟩ := hP
  have hx := Bd.exec
  have hby := Bd.bytes
  have hml : c.maxLocals = 9 := hml0
  have hown : s.vm.findClass "querent/index/IndexFileWriteVLongPinLaw" = some m.cls := findClass_of_methodNamed Bd.named
  have hnm := (name_of_methodNamed Bd.named Bd.method).1
  have X0 : Stand p l e ({ frames := 0, cells := 0, slots := 0, locals := 0 } : Room) s m #[(.ref a0), (.int p1), (.int p2), (.int p3), (.long q4), (.int p5)] below meth c s₁ [] 0 0 := Stand.of_body Bd
  have e0 : s₁.heap = h0 := by rw [← hh, Bd.state]; rfl
  have N0 := Fr.nil n0
  show Run p.tables e below (Wd s (Qrm3 Z a0 p1 p2 p3 q4 p5 k vs x h0 n0) ({ frames := 0, cells := 0, slots := 0, locals := 0 } : Room).cells ({ frames := 0, cells := 0, slots := 0, locals := 0 } : Room).slots) s₁ (entryFrame m #[(.ref a0), (.int p1), (.int p2), (.int p3), (.long q4), (.int p5)] 9)
  rw [ef_rm3 m a0 p1 p2 p3 q4 p5]
  refine run_fwd (T' := s₁) (g' := (mkF m 1 #[.val (.ref a0), .val (.int p1), .val (.int p2), .val (.int p3), .val (.long q4), .second, .val (.int p5), .unset, .unset] [(.int p1)])) (fun _ k => XS.iloadN X0.here hx rfl (hb hby d3_0) rfl k) ?_
  refine run_fwd (T' := s₁) (g' := (mkF m 2 #[.val (.ref a0), .val (.int p1), .val (.int p2), .val (.int p3), .val (.long q4), .second, .val (.int p5), .unset, .unset] [(.int p2), (.int p1)])) (fun _ k => XS.iloadN X0.here hx rfl (hb hby d3_1) rfl k) ?_
  by_cases hc2_1 : p1 < p2
  ·
    refine run_fwd (T' := s₁) (g' := (mkF m 12 #[.val (.ref a0), .val (.int p1), .val (.int p2), .val (.int p3), .val (.long q4), .second, .val (.int p5), .unset, .unset] [])) (fun _ k => XS.icmpYes X0.here hx rfl (pc0 := 2) (pc' := 12) rfl (hb hby d3_2) rfl (tlt hc2_1).1 (by decide) (by decide) k) ?_
    refine run_fwd (T' := s₁) (g' := (mkF m 13 #[.val (.ref a0), .val (.int p1), .val (.int p2), .val (.int p3), .val (.long q4), .second, .val (.int p5), .unset, .unset] [(.ref a0)])) (fun _ k => XS.aloadN X0.here hx rfl (hb hby d3_12) rfl rfl k) ?_
    refine run_fwd (T' := s₁) (g' := (mkF m 14 #[.val (.ref a0), .val (.int p1), .val (.int p2), .val (.int p3), .val (.long q4), .second, .val (.int p5), .unset, .unset] [(.int p1), (.ref a0)])) (fun _ k => XS.iloadN X0.here hx rfl (hb hby d3_13) rfl k) ?_
    obtain ⟨cl2, Ar2, -, S2, M2, Hh2, -⟩ := id (Vi0)
    have hin2 : ¬ (p1 < 0 ∨ cl2.slots.size ≤ (p1).toNatClampNeg) := inb_of S2 hi1
    have hat2 : cl2.slots[(p1).toNatClampNeg]? = some (.int x) := Hh2.at hin2 hx1
    refine run_fwd (T' := s₁) (g' := (mkF m 15 #[.val (.ref a0), .val (.int p1), .val (.int p2), .val (.int p3), .val (.long q4), .second, .val (.int p5), .unset, .unset] [(.int x)])) (fun _ k => X0.baloadBytes hx (j := p1) (v := (.int x)) (by rw [e0]; exact Ar2.1) (State.isArrayOf_alike hZ.alike Ar2.2.1) Ar2.2.2 hin2 hat2 (g := (mkF m 14 #[.val (.ref a0), .val (.int p1), .val (.int p2), .val (.int p3), .val (.long q4), .second, .val (.int p5), .unset, .unset] [(.int p1), (.ref a0)])) rfl rfl (hb hby d3_14) _ k) ?_
    refine run_fwd (T' := s₁) (g' := (mkF m 17 #[.val (.ref a0), .val (.int p1), .val (.int p2), .val (.int p3), .val (.long q4), .second, .val (.int p5), .unset, .unset] [(.int p5), (.int x)])) (fun _ k => XS.iload X0.here hx rfl (hb hby d3_15) rfl k) ?_
    have hc17_3 : x = p5 := hout (Or.inl hc2_1)
    refine run_fwd (T' := s₁) (g' := (mkF m 20 #[.val (.ref a0), .val (.int p1), .val (.int p2), .val (.int p3), .val (.long q4), .second, .val (.int p5), .unset, .unset] [])) (fun _ k => XS.icmpNo X0.here hx rfl (hb hby d3_17) rfl (teq hc17_3).2 k) ?_
    refine run_fwd (T' := s₁) (g' := (mkF m 21 #[.val (.ref a0), .val (.int p1), .val (.int p2), .val (.int p3), .val (.long q4), .second, .val (.int p5), .unset, .unset] [(.int (1 : Int32))])) (fun _ k => XS.iconst X0.here hx rfl (hb hby d3_20) k) ?_
    refine run_fwd (T' := s₁) (g' := (mkF m 25 #[.val (.ref a0), .val (.int p1), .val (.int p2), .val (.int p3), .val (.long q4), .second, .val (.int p5), .unset, .unset] [(.int (1 : Int32))])) (fun _ k => XS.goto X0.here hx rfl (pc0 := 21) (pc' := 25) rfl (hb hby d3_21) (by decide) (by decide) k) ?_
    exact run_ret X0 hx Bd.returns Bd.notSynchronized rfl (Or.inl ⟨rfl, by simp, _, rfl⟩) (hb hby d3_25) (by rw [e0]; exact ⟨rfl, N0, rfl⟩) (by decide) (by decide)
  ·
    refine run_fwd (T' := s₁) (g' := (mkF m 5 #[.val (.ref a0), .val (.int p1), .val (.int p2), .val (.int p3), .val (.long q4), .second, .val (.int p5), .unset, .unset] [])) (fun _ k => XS.icmpNo X0.here hx rfl (hb hby d3_2) rfl (flt hc2_1).1 k) ?_
    refine run_fwd (T' := s₁) (g' := (mkF m 6 #[.val (.ref a0), .val (.int p1), .val (.int p2), .val (.int p3), .val (.long q4), .second, .val (.int p5), .unset, .unset] [(.int p1)])) (fun _ k => XS.iloadN X0.here hx rfl (hb hby d3_5) rfl k) ?_
    refine run_fwd (T' := s₁) (g' := (mkF m 7 #[.val (.ref a0), .val (.int p1), .val (.int p2), .val (.int p3), .val (.long q4), .second, .val (.int p5), .unset, .unset] [(.int p2), (.int p1)])) (fun _ k => XS.iloadN X0.here hx rfl (hb hby d3_6) rfl k) ?_
    refine run_fwd (T' := s₁) (g' := (mkF m 8 #[.val (.ref a0), .val (.int p1), .val (.int p2), .val (.int p3), .val (.long q4), .second, .val (.int p5), .unset, .unset] [(.int p3), (.int p2), (.int p1)])) (fun _ k => XS.iloadN X0.here hx rfl (hb hby d3_7) rfl k) ?_
    refine run_fwd (T' := s₁) (g' := (mkF m 9 #[.val (.ref a0), .val (.int p1), .val (.int p2), .val (.int p3), .val (.long q4), .second, .val (.int p5), .unset, .unset] [(.int (p2 + p3)), (.int p1)])) (fun _ k => XS.iadd X0.here hx rfl (hb hby d3_8) rfl k) ?_
    by_cases hc9_4 : p1 < (p2 + p3)
    ·
      refine run_fwd (T' := s₁) (g' := (mkF m 26 #[.val (.ref a0), .val (.int p1), .val (.int p2), .val (.int p3), .val (.long q4), .second, .val (.int p5), .unset, .unset] [])) (fun _ k => XS.icmpYes X0.here hx rfl (pc0 := 9) (pc' := 26) rfl (hb hby d3_9) rfl (tlt hc9_4).1 (by decide) (by decide) k) ?_
      refine run_fwd (T' := s₁) (g' := (mkF m 27 #[.val (.ref a0), .val (.int p1), .val (.int p2), .val (.int p3), .val (.long q4), .second, .val (.int p5), .unset, .unset] [(.int p1)])) (fun _ k => XS.iloadN X0.here hx rfl (hb hby d3_26) rfl k) ?_
      refine run_fwd (T' := s₁) (g' := (mkF m 28 #[.val (.ref a0), .val (.int p1), .val (.int p2), .val (.int p3), .val (.long q4), .second, .val (.int p5), .unset, .unset] [(.int p2), (.int p1)])) (fun _ k => XS.iloadN X0.here hx rfl (hb hby d3_27) rfl k) ?_
      refine run_fwd (T' := s₁) (g' := (mkF m 29 #[.val (.ref a0), .val (.int p1), .val (.int p2), .val (.int p3), .val (.long q4), .second, .val (.int p5), .unset, .unset] [(.int (p1 - p2))])) (fun _ k => XS.isub X0.here hx rfl (hb hby d3_28) rfl k) ?_
      refine run_fwd (T' := s₁) (g' := (mkF m 31 #[.val (.ref a0), .val (.int p1), .val (.int p2), .val (.int p3), .val (.long q4), .second, .val (.int p5), .val (.int (p1 - p2)), .unset] [])) (fun _ k => XS.istore X0.here hx rfl (hb hby d3_29) rfl (l' := #[.val (.ref a0), .val (.int p1), .val (.int p2), .val (.int p3), .val (.long q4), .second, .val (.int p5), .val (.int (p1 - p2)), .unset]) rfl k) ?_
      refine run_fwd (T' := s₁) (g' := (mkF m 33 #[.val (.ref a0), .val (.int p1), .val (.int p2), .val (.int p3), .val (.long q4), .second, .val (.int p5), .val (.int (p1 - p2)), .unset] [(.long q4)])) (fun _ k => XS.lload X0.here hx rfl (hb hby d3_31) rfl k) ?_
      refine run_fwd (T' := s₁) (g' := (mkF m 35 #[.val (.ref a0), .val (.int p1), .val (.int p2), .val (.int p3), .val (.long q4), .second, .val (.int p5), .val (.int (p1 - p2)), .unset] [(.int (7 : Int32)), (.long q4)])) (fun _ k => XS.bipush X0.here hx rfl (hb hby d3_33) k) ?_
      refine run_fwd (T' := s₁) (g' := (mkF m 37 #[.val (.ref a0), .val (.int p1), .val (.int p2), .val (.int p3), .val (.long q4), .second, .val (.int p5), .val (.int (p1 - p2)), .unset] [(.int (p1 - p2)), (.int (7 : Int32)), (.long q4)])) (fun _ k => XS.iload X0.here hx rfl (hb hby d3_35) rfl k) ?_
      refine run_fwd (T' := s₁) (g' := (mkF m 38 #[.val (.ref a0), .val (.int p1), .val (.int p2), .val (.int p3), .val (.long q4), .second, .val (.int p5), .val (.int (p1 - p2)), .unset] [(.int ((7 : Int32) * (p1 - p2))), (.long q4)])) (fun _ k => XS.imul X0.here hx rfl (hb hby d3_37) rfl k) ?_
      refine run_fwd (T' := s₁) (g' := (mkF m 39 #[.val (.ref a0), .val (.int p1), .val (.int p2), .val (.int p3), .val (.long q4), .second, .val (.int p5), .val (.int (p1 - p2)), .unset] [(.long ((q4.toUInt64 >>> (((7 : Int32) * (p1 - p2)) &&& 0x3f).toInt64.toUInt64).toInt64))])) (fun _ k => XS.lushr X0.here hx rfl (hb hby d3_38) rfl k) ?_
      refine run_fwd (T' := s₁) (g' := (mkF m 42 #[.val (.ref a0), .val (.int p1), .val (.int p2), .val (.int p3), .val (.long q4), .second, .val (.int p5), .val (.int (p1 - p2)), .unset] [(.long (127 : Int64)), (.long ((q4.toUInt64 >>> (((7 : Int32) * (p1 - p2)) &&& 0x3f).toInt64.toUInt64).toInt64))])) (fun _ k => X0.ldc2Long hx hown (mvT hZ (hw _ (List.mem_of_getElem? (i := 15) rfl))) (g := (mkF m 39 #[.val (.ref a0), .val (.int p1), .val (.int p2), .val (.int p3), .val (.long q4), .second, .val (.int p5), .val (.int (p1 - p2)), .unset] [(.long ((q4.toUInt64 >>> (((7 : Int32) * (p1 - p2)) &&& 0x3f).toInt64.toUInt64).toInt64))])) rfl (hb hby d3_39) _ k) ?_
      refine run_fwd (T' := s₁) (g' := (mkF m 43 #[.val (.ref a0), .val (.int p1), .val (.int p2), .val (.int p3), .val (.long q4), .second, .val (.int p5), .val (.int (p1 - p2)), .unset] [(.long (((q4.toUInt64 >>> (((7 : Int32) * (p1 - p2)) &&& 0x3f).toInt64.toUInt64).toInt64) &&& (127 : Int64)))])) (fun _ k => XS.land X0.here hx rfl (hb hby d3_42) rfl k) ?_
      refine run_fwd (T' := s₁) (g' := (mkF m 44 #[.val (.ref a0), .val (.int p1), .val (.int p2), .val (.int p3), .val (.long q4), .second, .val (.int p5), .val (.int (p1 - p2)), .unset] [(.int ((((q4.toUInt64 >>> (((7 : Int32) * (p1 - p2)) &&& 0x3f).toInt64.toUInt64).toInt64) &&& (127 : Int64)).toInt32))])) (fun _ k => XS.l2i X0.here hx rfl (hb hby d3_43) rfl k) ?_
      refine run_fwd (T' := s₁) (g' := (mkF m 46 #[.val (.ref a0), .val (.int p1), .val (.int p2), .val (.int p3), .val (.long q4), .second, .val (.int p5), .val (.int (p1 - p2)), .val (.int ((((q4.toUInt64 >>> (((7 : Int32) * (p1 - p2)) &&& 0x3f).toInt64.toUInt64).toInt64) &&& (127 : Int64)).toInt32))] [])) (fun _ k => XS.istore X0.here hx rfl (hb hby d3_44) rfl (l' := #[.val (.ref a0), .val (.int p1), .val (.int p2), .val (.int p3), .val (.long q4), .second, .val (.int p5), .val (.int (p1 - p2)), .val (.int ((((q4.toUInt64 >>> (((7 : Int32) * (p1 - p2)) &&& 0x3f).toInt64.toUInt64).toInt64) &&& (127 : Int64)).toInt32))]) rfl k) ?_
      refine run_fwd (T' := s₁) (g' := (mkF m 48 #[.val (.ref a0), .val (.int p1), .val (.int p2), .val (.int p3), .val (.long q4), .second, .val (.int p5), .val (.int (p1 - p2)), .val (.int ((((q4.toUInt64 >>> (((7 : Int32) * (p1 - p2)) &&& 0x3f).toInt64.toUInt64).toInt64) &&& (127 : Int64)).toInt32))] [(.int (p1 - p2))])) (fun _ k => XS.iload X0.here hx rfl (hb hby d3_46) rfl k) ?_
      refine run_fwd (T' := s₁) (g' := (mkF m 49 #[.val (.ref a0), .val (.int p1), .val (.int p2), .val (.int p3), .val (.long q4), .second, .val (.int p5), .val (.int (p1 - p2)), .val (.int ((((q4.toUInt64 >>> (((7 : Int32) * (p1 - p2)) &&& 0x3f).toInt64.toUInt64).toInt64) &&& (127 : Int64)).toInt32))] [(.int p3), (.int (p1 - p2))])) (fun _ k => XS.iloadN X0.here hx rfl (hb hby d3_48) rfl k) ?_
      refine run_fwd (T' := s₁) (g' := (mkF m 50 #[.val (.ref a0), .val (.int p1), .val (.int p2), .val (.int p3), .val (.long q4), .second, .val (.int p5), .val (.int (p1 - p2)), .val (.int ((((q4.toUInt64 >>> (((7 : Int32) * (p1 - p2)) &&& 0x3f).toInt64.toUInt64).toInt64) &&& (127 : Int64)).toInt32))] [(.int (1 : Int32)), (.int p3), (.int (p1 - p2))])) (fun _ k => XS.iconst X0.here hx rfl (hb hby d3_49) k) ?_
      refine run_fwd (T' := s₁) (g' := (mkF m 51 #[.val (.ref a0), .val (.int p1), .val (.int p2), .val (.int p3), .val (.long q4), .second, .val (.int p5), .val (.int (p1 - p2)), .val (.int ((((q4.toUInt64 >>> (((7 : Int32) * (p1 - p2)) &&& 0x3f).toInt64.toUInt64).toInt64) &&& (127 : Int64)).toInt32))] [(.int (p3 - (1 : Int32))), (.int (p1 - p2))])) (fun _ k => XS.isub X0.here hx rfl (hb hby d3_50) rfl k) ?_
      by_cases hc51_5 : (p1 - p2) < (p3 - (1 : Int32))
      ·
        refine run_fwd (T' := s₁) (g' := (mkF m 54 #[.val (.ref a0), .val (.int p1), .val (.int p2), .val (.int p3), .val (.long q4), .second, .val (.int p5), .val (.int (p1 - p2)), .val (.int ((((q4.toUInt64 >>> (((7 : Int32) * (p1 - p2)) &&& 0x3f).toInt64.toUInt64).toInt64) &&& (127 : Int64)).toInt32))] [])) (fun _ k => XS.icmpNo X0.here hx rfl (hb hby d3_51) rfl (tlt hc51_5).2.1 k) ?_
        refine run_fwd (T' := s₁) (g' := (mkF m 56 #[.val (.ref a0), .val (.int p1), .val (.int p2), .val (.int p3), .val (.long q4), .second, .val (.int p5), .val (.int (p1 - p2)), .val (.int ((((q4.toUInt64 >>> (((7 : Int32) * (p1 - p2)) &&& 0x3f).toInt64.toUInt64).toInt64) &&& (127 : Int64)).toInt32))] [(.int ((((q4.toUInt64 >>> (((7 : Int32) * (p1 - p2)) &&& 0x3f).toInt64.toUInt64).toInt64) &&& (127 : Int64)).toInt32))])) (fun _ k => XS.iload X0.here hx rfl (hb hby d3_54) rfl k) ?_
        refine run_fwd (T' := s₁) (g' := (mkF m 59 #[.val (.ref a0), .val (.int p1), .val (.int p2), .val (.int p3), .val (.long q4), .second, .val (.int p5), .val (.int (p1 - p2)), .val (.int ((((q4.toUInt64 >>> (((7 : Int32) * (p1 - p2)) &&& 0x3f).toInt64.toUInt64).toInt64) &&& (127 : Int64)).toInt32))] [(.int (128 : Int32)), (.int ((((q4.toUInt64 >>> (((7 : Int32) * (p1 - p2)) &&& 0x3f).toInt64.toUInt64).toInt64) &&& (127 : Int64)).toInt32))])) (fun _ k => XS.sipush X0.here hx rfl (hb hby d3_56) k) ?_
        refine run_fwd (T' := s₁) (g' := (mkF m 60 #[.val (.ref a0), .val (.int p1), .val (.int p2), .val (.int p3), .val (.long q4), .second, .val (.int p5), .val (.int (p1 - p2)), .val (.int ((((q4.toUInt64 >>> (((7 : Int32) * (p1 - p2)) &&& 0x3f).toInt64.toUInt64).toInt64) &&& (127 : Int64)).toInt32))] [(.int (((((q4.toUInt64 >>> (((7 : Int32) * (p1 - p2)) &&& 0x3f).toInt64.toUInt64).toInt64) &&& (127 : Int64)).toInt32) ||| (128 : Int32)))])) (fun _ k => XS.ior X0.here hx rfl (hb hby d3_59) rfl k) ?_
        refine run_fwd (T' := s₁) (g' := (mkF m 62 #[.val (.ref a0), .val (.int p1), .val (.int p2), .val (.int p3), .val (.long q4), .second, .val (.int p5), .val (.int (p1 - p2)), .val (.int (((((q4.toUInt64 >>> (((7 : Int32) * (p1 - p2)) &&& 0x3f).toInt64.toUInt64).toInt64) &&& (127 : Int64)).toInt32) ||| (128 : Int32)))] [])) (fun _ k => XS.istore X0.here hx rfl (hb hby d3_60) rfl (l' := #[.val (.ref a0), .val (.int p1), .val (.int p2), .val (.int p3), .val (.long q4), .second, .val (.int p5), .val (.int (p1 - p2)), .val (.int (((((q4.toUInt64 >>> (((7 : Int32) * (p1 - p2)) &&& 0x3f).toInt64.toUInt64).toInt64) &&& (127 : Int64)).toInt32) ||| (128 : Int32)))]) rfl k) ?_
        refine run_fwd (T' := s₁) (g' := (mkF m 63 #[.val (.ref a0), .val (.int p1), .val (.int p2), .val (.int p3), .val (.long q4), .second, .val (.int p5), .val (.int (p1 - p2)), .val (.int (((((q4.toUInt64 >>> (((7 : Int32) * (p1 - p2)) &&& 0x3f).toInt64.toUInt64).toInt64) &&& (127 : Int64)).toInt32) ||| (128 : Int32)))] [(.ref a0)])) (fun _ k => XS.aloadN X0.here hx rfl (hb hby d3_62) rfl rfl k) ?_
        refine run_fwd (T' := s₁) (g' := (mkF m 64 #[.val (.ref a0), .val (.int p1), .val (.int p2), .val (.int p3), .val (.long q4), .second, .val (.int p5), .val (.int (p1 - p2)), .val (.int (((((q4.toUInt64 >>> (((7 : Int32) * (p1 - p2)) &&& 0x3f).toInt64.toUInt64).toInt64) &&& (127 : Int64)).toInt32) ||| (128 : Int32)))] [(.int p1), (.ref a0)])) (fun _ k => XS.iloadN X0.here hx rfl (hb hby d3_63) rfl k) ?_
        obtain ⟨cl6, Ar6, -, S6, M6, Hh6, -⟩ := id (Vi0)
        have hin6 : ¬ (p1 < 0 ∨ cl6.slots.size ≤ (p1).toNatClampNeg) := inb_of S6 hi1
        have hat6 : cl6.slots[(p1).toNatClampNeg]? = some (.int x) := Hh6.at hin6 hx1
        refine run_fwd (T' := s₁) (g' := (mkF m 65 #[.val (.ref a0), .val (.int p1), .val (.int p2), .val (.int p3), .val (.long q4), .second, .val (.int p5), .val (.int (p1 - p2)), .val (.int (((((q4.toUInt64 >>> (((7 : Int32) * (p1 - p2)) &&& 0x3f).toInt64.toUInt64).toInt64) &&& (127 : Int64)).toInt32) ||| (128 : Int32)))] [(.int x)])) (fun _ k => X0.baloadBytes hx (j := p1) (v := (.int x)) (by rw [e0]; exact Ar6.1) (State.isArrayOf_alike hZ.alike Ar6.2.1) Ar6.2.2 hin6 hat6 (g := (mkF m 64 #[.val (.ref a0), .val (.int p1), .val (.int p2), .val (.int p3), .val (.long q4), .second, .val (.int p5), .val (.int (p1 - p2)), .val (.int (((((q4.toUInt64 >>> (((7 : Int32) * (p1 - p2)) &&& 0x3f).toInt64.toUInt64).toInt64) &&& (127 : Int64)).toInt32) ||| (128 : Int32)))] [(.int p1), (.ref a0)])) rfl rfl (hb hby d3_64) _ k) ?_
        refine run_fwd (T' := s₁) (g' := (mkF m 67 #[.val (.ref a0), .val (.int p1), .val (.int p2), .val (.int p3), .val (.long q4), .second, .val (.int p5), .val (.int (p1 - p2)), .val (.int (((((q4.toUInt64 >>> (((7 : Int32) * (p1 - p2)) &&& 0x3f).toInt64.toUInt64).toInt64) &&& (127 : Int64)).toInt32) ||| (128 : Int32)))] [(.int (((((q4.toUInt64 >>> (((7 : Int32) * (p1 - p2)) &&& 0x3f).toInt64.toUInt64).toInt64) &&& (127 : Int64)).toInt32) ||| (128 : Int32))), (.int x)])) (fun _ k => XS.iload X0.here hx rfl (hb hby d3_65) rfl k) ?_
        refine run_fwd (T' := s₁) (g' := (mkF m 68 #[.val (.ref a0), .val (.int p1), .val (.int p2), .val (.int p3), .val (.long q4), .second, .val (.int p5), .val (.int (p1 - p2)), .val (.int (((((q4.toUInt64 >>> (((7 : Int32) * (p1 - p2)) &&& 0x3f).toInt64.toUInt64).toInt64) &&& (127 : Int64)).toInt32) ||| (128 : Int32)))] [(.int ((((((q4.toUInt64 >>> (((7 : Int32) * (p1 - p2)) &&& 0x3f).toInt64.toUInt64).toInt64) &&& (127 : Int64)).toInt32) ||| (128 : Int32)).toInt8.toInt32)), (.int x)])) (fun _ k => XS.i2b X0.here hx rfl (hb hby d3_67) rfl k) ?_
        have hc68_7 : x = ((((((q4.toUInt64 >>> (((7 : Int32) * (p1 - p2)) &&& 0x3f).toInt64.toUInt64).toInt64) &&& (127 : Int64)).toInt32) ||| (128 : Int32)).toInt8.toInt32) := hin1 hc2_1 hc9_4 hc51_5
        refine run_fwd (T' := s₁) (g' := (mkF m 71 #[.val (.ref a0), .val (.int p1), .val (.int p2), .val (.int p3), .val (.long q4), .second, .val (.int p5), .val (.int (p1 - p2)), .val (.int (((((q4.toUInt64 >>> (((7 : Int32) * (p1 - p2)) &&& 0x3f).toInt64.toUInt64).toInt64) &&& (127 : Int64)).toInt32) ||| (128 : Int32)))] [])) (fun _ k => XS.icmpNo X0.here hx rfl (hb hby d3_68) rfl (teq hc68_7).2 k) ?_
        refine run_fwd (T' := s₁) (g' := (mkF m 72 #[.val (.ref a0), .val (.int p1), .val (.int p2), .val (.int p3), .val (.long q4), .second, .val (.int p5), .val (.int (p1 - p2)), .val (.int (((((q4.toUInt64 >>> (((7 : Int32) * (p1 - p2)) &&& 0x3f).toInt64.toUInt64).toInt64) &&& (127 : Int64)).toInt32) ||| (128 : Int32)))] [(.int (1 : Int32))])) (fun _ k => XS.iconst X0.here hx rfl (hb hby d3_71) k) ?_
        refine run_fwd (T' := s₁) (g' := (mkF m 76 #[.val (.ref a0), .val (.int p1), .val (.int p2), .val (.int p3), .val (.long q4), .second, .val (.int p5), .val (.int (p1 - p2)), .val (.int (((((q4.toUInt64 >>> (((7 : Int32) * (p1 - p2)) &&& 0x3f).toInt64.toUInt64).toInt64) &&& (127 : Int64)).toInt32) ||| (128 : Int32)))] [(.int (1 : Int32))])) (fun _ k => XS.goto X0.here hx rfl (pc0 := 72) (pc' := 76) rfl (hb hby d3_72) (by decide) (by decide) k) ?_
        exact run_ret X0 hx Bd.returns Bd.notSynchronized rfl (Or.inl ⟨rfl, by simp, _, rfl⟩) (hb hby d3_76) (by rw [e0]; exact ⟨rfl, N0, rfl⟩) (by decide) (by decide)
      ·
        refine run_fwd (T' := s₁) (g' := (mkF m 62 #[.val (.ref a0), .val (.int p1), .val (.int p2), .val (.int p3), .val (.long q4), .second, .val (.int p5), .val (.int (p1 - p2)), .val (.int ((((q4.toUInt64 >>> (((7 : Int32) * (p1 - p2)) &&& 0x3f).toInt64.toUInt64).toInt64) &&& (127 : Int64)).toInt32))] [])) (fun _ k => XS.icmpYes X0.here hx rfl (pc0 := 51) (pc' := 62) rfl (hb hby d3_51) rfl (flt hc51_5).2.1 (by decide) (by decide) k) ?_
        refine run_fwd (T' := s₁) (g' := (mkF m 63 #[.val (.ref a0), .val (.int p1), .val (.int p2), .val (.int p3), .val (.long q4), .second, .val (.int p5), .val (.int (p1 - p2)), .val (.int ((((q4.toUInt64 >>> (((7 : Int32) * (p1 - p2)) &&& 0x3f).toInt64.toUInt64).toInt64) &&& (127 : Int64)).toInt32))] [(.ref a0)])) (fun _ k => XS.aloadN X0.here hx rfl (hb hby d3_62) rfl rfl k) ?_
        refine run_fwd (T' := s₁) (g' := (mkF m 64 #[.val (.ref a0), .val (.int p1), .val (.int p2), .val (.int p3), .val (.long q4), .second, .val (.int p5), .val (.int (p1 - p2)), .val (.int ((((q4.toUInt64 >>> (((7 : Int32) * (p1 - p2)) &&& 0x3f).toInt64.toUInt64).toInt64) &&& (127 : Int64)).toInt32))] [(.int p1), (.ref a0)])) (fun _ k => XS.iloadN X0.here hx rfl (hb hby d3_63) rfl k) ?_
        obtain ⟨cl8, Ar8, -, S8, M8, Hh8, -⟩ := id (Vi0)
        have hin8 : ¬ (p1 < 0 ∨ cl8.slots.size ≤ (p1).toNatClampNeg) := inb_of S8 hi1
        have hat8 : cl8.slots[(p1).toNatClampNeg]? = some (.int x) := Hh8.at hin8 hx1
        refine run_fwd (T' := s₁) (g' := (mkF m 65 #[.val (.ref a0), .val (.int p1), .val (.int p2), .val (.int p3), .val (.long q4), .second, .val (.int p5), .val (.int (p1 - p2)), .val (.int ((((q4.toUInt64 >>> (((7 : Int32) * (p1 - p2)) &&& 0x3f).toInt64.toUInt64).toInt64) &&& (127 : Int64)).toInt32))] [(.int x)])) (fun _ k => X0.baloadBytes hx (j := p1) (v := (.int x)) (by rw [e0]; exact Ar8.1) (State.isArrayOf_alike hZ.alike Ar8.2.1) Ar8.2.2 hin8 hat8 (g := (mkF m 64 #[.val (.ref a0), .val (.int p1), .val (.int p2), .val (.int p3), .val (.long q4), .second, .val (.int p5), .val (.int (p1 - p2)), .val (.int ((((q4.toUInt64 >>> (((7 : Int32) * (p1 - p2)) &&& 0x3f).toInt64.toUInt64).toInt64) &&& (127 : Int64)).toInt32))] [(.int p1), (.ref a0)])) rfl rfl (hb hby d3_64) _ k) ?_
        refine run_fwd (T' := s₁) (g' := (mkF m 67 #[.val (.ref a0), .val (.int p1), .val (.int p2), .val (.int p3), .val (.long q4), .second, .val (.int p5), .val (.int (p1 - p2)), .val (.int ((((q4.toUInt64 >>> (((7 : Int32) * (p1 - p2)) &&& 0x3f).toInt64.toUInt64).toInt64) &&& (127 : Int64)).toInt32))] [(.int ((((q4.toUInt64 >>> (((7 : Int32) * (p1 - p2)) &&& 0x3f).toInt64.toUInt64).toInt64) &&& (127 : Int64)).toInt32)), (.int x)])) (fun _ k => XS.iload X0.here hx rfl (hb hby d3_65) rfl k) ?_
        refine run_fwd (T' := s₁) (g' := (mkF m 68 #[.val (.ref a0), .val (.int p1), .val (.int p2), .val (.int p3), .val (.long q4), .second, .val (.int p5), .val (.int (p1 - p2)), .val (.int ((((q4.toUInt64 >>> (((7 : Int32) * (p1 - p2)) &&& 0x3f).toInt64.toUInt64).toInt64) &&& (127 : Int64)).toInt32))] [(.int (((((q4.toUInt64 >>> (((7 : Int32) * (p1 - p2)) &&& 0x3f).toInt64.toUInt64).toInt64) &&& (127 : Int64)).toInt32).toInt8.toInt32)), (.int x)])) (fun _ k => XS.i2b X0.here hx rfl (hb hby d3_67) rfl k) ?_
        have hc68_9 : x = (((((q4.toUInt64 >>> (((7 : Int32) * (p1 - p2)) &&& 0x3f).toInt64.toUInt64).toInt64) &&& (127 : Int64)).toInt32).toInt8.toInt32) := hin2 hc2_1 hc9_4 hc51_5
        refine run_fwd (T' := s₁) (g' := (mkF m 71 #[.val (.ref a0), .val (.int p1), .val (.int p2), .val (.int p3), .val (.long q4), .second, .val (.int p5), .val (.int (p1 - p2)), .val (.int ((((q4.toUInt64 >>> (((7 : Int32) * (p1 - p2)) &&& 0x3f).toInt64.toUInt64).toInt64) &&& (127 : Int64)).toInt32))] [])) (fun _ k => XS.icmpNo X0.here hx rfl (hb hby d3_68) rfl (teq hc68_9).2 k) ?_
        refine run_fwd (T' := s₁) (g' := (mkF m 72 #[.val (.ref a0), .val (.int p1), .val (.int p2), .val (.int p3), .val (.long q4), .second, .val (.int p5), .val (.int (p1 - p2)), .val (.int ((((q4.toUInt64 >>> (((7 : Int32) * (p1 - p2)) &&& 0x3f).toInt64.toUInt64).toInt64) &&& (127 : Int64)).toInt32))] [(.int (1 : Int32))])) (fun _ k => XS.iconst X0.here hx rfl (hb hby d3_71) k) ?_
        refine run_fwd (T' := s₁) (g' := (mkF m 76 #[.val (.ref a0), .val (.int p1), .val (.int p2), .val (.int p3), .val (.long q4), .second, .val (.int p5), .val (.int (p1 - p2)), .val (.int ((((q4.toUInt64 >>> (((7 : Int32) * (p1 - p2)) &&& 0x3f).toInt64.toUInt64).toInt64) &&& (127 : Int64)).toInt32))] [(.int (1 : Int32))])) (fun _ k => XS.goto X0.here hx rfl (pc0 := 72) (pc' := 76) rfl (hb hby d3_72) (by decide) (by decide) k) ?_
        exact run_ret X0 hx Bd.returns Bd.notSynchronized rfl (Or.inl ⟨rfl, by simp, _, rfl⟩) (hb hby d3_76) (by rw [e0]; exact ⟨rfl, N0, rfl⟩) (by decide) (by decide)
    ·
      refine run_fwd (T' := s₁) (g' := (mkF m 12 #[.val (.ref a0), .val (.int p1), .val (.int p2), .val (.int p3), .val (.long q4), .second, .val (.int p5), .unset, .unset] [])) (fun _ k => XS.icmpNo X0.here hx rfl (hb hby d3_9) rfl (flt hc9_4).1 k) ?_
      refine run_fwd (T' := s₁) (g' := (mkF m 13 #[.val (.ref a0), .val (.int p1), .val (.int p2), .val (.int p3), .val (.long q4), .second, .val (.int p5), .unset, .unset] [(.ref a0)])) (fun _ k => XS.aloadN X0.here hx rfl (hb hby d3_12) rfl rfl k) ?_
      refine run_fwd (T' := s₁) (g' := (mkF m 14 #[.val (.ref a0), .val (.int p1), .val (.int p2), .val (.int p3), .val (.long q4), .second, .val (.int p5), .unset, .unset] [(.int p1), (.ref a0)])) (fun _ k => XS.iloadN X0.here hx rfl (hb hby d3_13) rfl k) ?_
      obtain ⟨cl10, Ar10, -, S10, M10, Hh10, -⟩ := id (Vi0)
      have hin10 : ¬ (p1 < 0 ∨ cl10.slots.size ≤ (p1).toNatClampNeg) := inb_of S10 hi1
      have hat10 : cl10.slots[(p1).toNatClampNeg]? = some (.int x) := Hh10.at hin10 hx1
      refine run_fwd (T' := s₁) (g' := (mkF m 15 #[.val (.ref a0), .val (.int p1), .val (.int p2), .val (.int p3), .val (.long q4), .second, .val (.int p5), .unset, .unset] [(.int x)])) (fun _ k => X0.baloadBytes hx (j := p1) (v := (.int x)) (by rw [e0]; exact Ar10.1) (State.isArrayOf_alike hZ.alike Ar10.2.1) Ar10.2.2 hin10 hat10 (g := (mkF m 14 #[.val (.ref a0), .val (.int p1), .val (.int p2), .val (.int p3), .val (.long q4), .second, .val (.int p5), .unset, .unset] [(.int p1), (.ref a0)])) rfl rfl (hb hby d3_14) _ k) ?_
      refine run_fwd (T' := s₁) (g' := (mkF m 17 #[.val (.ref a0), .val (.int p1), .val (.int p2), .val (.int p3), .val (.long q4), .second, .val (.int p5), .unset, .unset] [(.int p5), (.int x)])) (fun _ k => XS.iload X0.here hx rfl (hb hby d3_15) rfl k) ?_
      have hc17_11 : x = p5 := hout (Or.inr hc9_4)
      refine run_fwd (T' := s₁) (g' := (mkF m 20 #[.val (.ref a0), .val (.int p1), .val (.int p2), .val (.int p3), .val (.long q4), .second, .val (.int p5), .unset, .unset] [])) (fun _ k => XS.icmpNo X0.here hx rfl (hb hby d3_17) rfl (teq hc17_11).2 k) ?_
      refine run_fwd (T' := s₁) (g' := (mkF m 21 #[.val (.ref a0), .val (.int p1), .val (.int p2), .val (.int p3), .val (.long q4), .second, .val (.int p5), .unset, .unset] [(.int (1 : Int32))])) (fun _ k => XS.iconst X0.here hx rfl (hb hby d3_20) k) ?_
      refine run_fwd (T' := s₁) (g' := (mkF m 25 #[.val (.ref a0), .val (.int p1), .val (.int p2), .val (.int p3), .val (.long q4), .second, .val (.int p5), .unset, .unset] [(.int (1 : Int32))])) (fun _ k => XS.goto X0.here hx rfl (pc0 := 21) (pc' := 25) rfl (hb hby d3_21) (by decide) (by decide) k) ?_
      exact run_ret X0 hx Bd.returns Bd.notSynchronized rfl (Or.inl ⟨rfl, by simp, _, rfl⟩) (hb hby d3_25) (by rw [e0]; exact ⟨rfl, N0, rfl⟩) (by decide) (by decide)
theorem d2_0 : decode prog_85_method_15_code 0 = .ok (.lload_n 2, 1) := by decide +kernel
theorem d2_1 : decode prog_85_method_15_code 1 = .ok (.ldc2_w 319, 3) := by decide +kernel
theorem d2_4 : decode prog_85_method_15_code 4 = .ok (.land, 1) := by decide +kernel
theorem d2_5 : decode prog_85_method_15_code 5 = .ok (.lconst 0, 1) := by decide +kernel
theorem d2_6 : decode prog_85_method_15_code 6 = .ok (.lcmp, 1) := by decide +kernel
theorem d2_7 : decode prog_85_method_15_code 7 = .ok (.ifCond .eq 28, 3) := by decide +kernel
theorem d2_35 : decode prog_85_method_15_code 35 = .ok (.aload_n 0, 1) := by decide +kernel
theorem d2_36 : decode prog_85_method_15_code 36 = .ok (.iload_n 1, 1) := by decide +kernel
theorem d2_37 : decode prog_85_method_15_code 37 = .ok (.iinc 1 1, 3) := by decide +kernel
theorem d2_40 : decode prog_85_method_15_code 40 = .ok (.lload_n 2, 1) := by decide +kernel
theorem d2_41 : decode prog_85_method_15_code 41 = .ok (.l2i, 1) := by decide +kernel
theorem d2_42 : decode prog_85_method_15_code 42 = .ok (.i2b, 1) := by decide +kernel
theorem d2_43 : decode prog_85_method_15_code 43 = .ok (.bastore, 1) := by decide +kernel
theorem d2_44 : decode prog_85_method_15_code 44 = .ok (.iload_n 1, 1) := by decide +kernel
theorem d2_45 : decode prog_85_method_15_code 45 = .ok (.ireturn, 1) := by decide +kernel
theorem d2_10 : decode prog_85_method_15_code 10 = .ok (.aload_n 0, 1) := by decide +kernel
theorem d2_11 : decode prog_85_method_15_code 11 = .ok (.iload_n 1, 1) := by decide +kernel
theorem d2_12 : decode prog_85_method_15_code 12 = .ok (.iinc 1 1, 3) := by decide +kernel
theorem d2_15 : decode prog_85_method_15_code 15 = .ok (.lload_n 2, 1) := by decide +kernel
theorem d2_16 : decode prog_85_method_15_code 16 = .ok (.ldc2_w 321, 3) := by decide +kernel
theorem d2_19 : decode prog_85_method_15_code 19 = .ok (.land, 1) := by decide +kernel
theorem d2_20 : decode prog_85_method_15_code 20 = .ok (.ldc2_w 323, 3) := by decide +kernel
theorem d2_23 : decode prog_85_method_15_code 23 = .ok (.lor, 1) := by decide +kernel
theorem d2_24 : decode prog_85_method_15_code 24 = .ok (.l2i, 1) := by decide +kernel
theorem d2_25 : decode prog_85_method_15_code 25 = .ok (.i2b, 1) := by decide +kernel
theorem d2_26 : decode prog_85_method_15_code 26 = .ok (.bastore, 1) := by decide +kernel
theorem d2_27 : decode prog_85_method_15_code 27 = .ok (.lload_n 2, 1) := by decide +kernel
theorem d2_28 : decode prog_85_method_15_code 28 = .ok (.bipush 7, 2) := by decide +kernel
theorem d2_30 : decode prog_85_method_15_code 30 = .ok (.lushr, 1) := by decide +kernel
theorem d2_31 : decode prog_85_method_15_code 31 = .ok (.lstore_n 2, 1) := by decide +kernel
theorem d2_32 : decode prog_85_method_15_code 32 = .ok (.goto (-32), 3) := by decide +kernel
theorem pn_querent_index_IndexFile : plainName "querent/index/IndexFile" = true := by first | (simp [plainName, overriddenIn]; done) | decide +kernel
theorem ef_rm2 (m : MethodId) (x0 : Addr) (x1 : Int32) (x2 : Int64) : entryFrame m #[(.ref x0), (.int x1), (.long x2)] 4 = mkF m 0 #[.val (.ref x0), .val (.int x1), .val (.long x2), .second] [] := by first | (simp [entryFrame, mkF, argsToLocals, Value.category]; done) | rfl
def Qrm2 (Z : State) (a0 : Addr) (p1 : Int32) (q2 : Int64) (kk : ClassId) (vs : List Value) (f : Int32) (h0 : Heap) (n0 : Nat) (v : Option Value) (h : Heap) (L : List Loc) : Prop := v = some (.int (p1 + (own_sz q2))) ∧ Fr n0 L ∧ Keep h0 h [a0] ∧ Arv Z h a0 kk .byte (13 : Int32) (own_tab (own_Y q2 p1 f) 13) (.int (0 : Int32))
set_option maxRecDepth 65536 in
set_option maxHeartbeats 40000000 in
theorem rm2 (l : Launch) (Z : State) (aV : Array Value) (hw : ∀ d ∈ tables_1, d.before aV Z = true) (ws : List Jvm.Cond) (a0 : Addr) (p1 : Int32) (q2 : Int64) (kk : ClassId) (vs : List Value) (f : Int32) (h0 : Heap) (n0 : Nat) (O0 : Old Z n0 h0) (gi0 : n0 ≤ a0) (Vi1 : Arv Z h0 a0 kk .byte (13 : Int32) vs (.int (0 : Int32))) (hz : ∀ i, i < 13 → vs.getD i (.int (0 : Int32)) = .int f) (hl : vs.length = 13) (hv : ¬ q2 < 0) (ha : 0 ≤ p1.toInt ∧ p1.toInt < 4) :
    MetFree l (⟨"querent/index/IndexFile", "writeVLong", "([BIJ)I"⟩ : MethodName) (head1 (Jvm.Cond.code (⟨"querent/index/IndexFile", "writeVLong", "([BIJ)I"⟩ : MethodName) prog_85_method_15_code 4 (some .int) :: ws) ({ frames := 0, cells := 0, slots := 0, locals := 0 } : Room)) (fun a U => a = #[(.ref a0), (.int p1), (.long q2)] ∧ Z.Warmed39 U.vm ∧ U.heap = h0) (fun _ _ _ _ _ => True) (fun _ U o U' => ∃ v L, o = .returned v ∧ Qrm2 Z a0 p1 q2 kk vs f h0 n0 v U'.heap L ∧ FrameEnd U o U' L ({ frames := 0, cells := 0, slots := 0, locals := 0 } : Room).cells ({ frames := 0, cells := 0, slots := 0, locals := 0 } : Room).slots) := by
  refine MetFree.of_bodySF (plainFor_of_name pn_querent_index_IndexFile) hisR ?_
  intro p e s m args below meth c s₁ Bd hml0 hP hK
  obtain ⟨rfl, hZ, hh⟩ := hP
  have hx := Bd.exec
  have hby := Bd.bytes
  have hml : c.maxLocals = 4 := hml0
  have hown : s.vm.findClass "querent/index/IndexFile" = some m.cls := findClass_of_methodNamed Bd.named
  have hnm := (name_of_methodNamed Bd.named Bd.method).1
  have X0 : Stand p l e ({ frames := 0, cells := 0, slots := 0, locals := 0 } : Room) s m #[(.ref a0), (.int p1), (.long q2)] below meth c s₁ [] 0 0 := Stand.of_body Bd
  have e0 : s₁.heap = h0 := by rw [← hh, Bd.state]; rfl
  have N0 := Fr.nil n0
  show Run p.tables e below (Wd s (Qrm2 Z a0 p1 q2 kk vs f h0 n0) ({ frames := 0, cells := 0, slots := 0, locals := 0 } : Room).cells ({ frames := 0, cells := 0, slots := 0, locals := 0 } : Room).slots) s₁ (entryFrame m #[(.ref a0), (.int p1), (.long q2)] 4)
  rw [ef_rm2 m a0 p1 q2]
  have loop0 : ∀ (k m' : Nat) (T : State) (locs : List Loc) (h : Heap) (i : Int32) (q : Int64), m' + k = 8 → Stand p l e ({ frames := 0, cells := 0, slots := 0, locals := 0 } : Room) s m #[(.ref a0), (.int p1), (.long q2)] below meth c T locs 0 0 → T.heap = h → Fr n0 locs → Old Z n0 h → Keep h0 h [a0] → Arv Z h a0 kk .byte (13 : Int32) (own_tab (own_X q2 p1 f m') 13) (.int (0 : Int32)) → q.toInt = q2.toInt / ((128 ^ m' : Nat) : Int) → i.toInt = (own_A p1 : Int) + m' → (m' = 0 ∨ ((128 ^ m' : Nat) : Int) ≤ q2.toInt) → Run p.tables e below (Wd s (Qrm2 Z a0 p1 q2 kk vs f h0 n0) ({ frames := 0, cells := 0, slots := 0, locals := 0 } : Room).cells ({ frames := 0, cells := 0, slots := 0, locals := 0 } : Room).slots) T (mkF m 0 #[.val (.ref a0), .val (.int i), .val (.long q), .second] []) := by
    intro k
    induction k with
    | zero =>
      intro m' T locs h i q hk X eh NN OO KK VV hq hi hlo
      have hix := own_ix q2 p1 i m' (by omega) ha.1 ha.2 hi
      have hqn : 0 ≤ q.toInt := by rw [hq]; exact Int.ediv_nonneg (own_nn hv) (Int.natCast_nonneg _)
      obtain rfl : m' = 8 := by omega
      refine run_fwd (T' := T) (g' := (mkF m 1 #[.val (.ref a0), .val (.int i), .val (.long q), .second] [(.long q)])) (fun _ k => XS.lloadN X.here hx rfl (hb hby d2_0) rfl k) ?_
      refine run_fwd (T' := T) (g' := (mkF m 4 #[.val (.ref a0), .val (.int i), .val (.long q), .second] [(.long (-128 : Int64)), (.long q)])) (fun _ k => X.ldc2Long hx hown (mvT hZ (hw _ (List.mem_of_getElem? (i := 11) rfl))) (g := (mkF m 1 #[.val (.ref a0), .val (.int i), .val (.long q), .second] [(.long q)])) rfl (hb hby d2_1) _ k) ?_
      refine run_fwd (T' := T) (g' := (mkF m 5 #[.val (.ref a0), .val (.int i), .val (.long q), .second] [(.long (q &&& (-128 : Int64)))])) (fun _ k => XS.land X.here hx rfl (hb hby d2_4) rfl k) ?_
      refine run_fwd (T' := T) (g' := (mkF m 6 #[.val (.ref a0), .val (.int i), .val (.long q), .second] [(.long (0 : Int64)), (.long (q &&& (-128 : Int64)))])) (fun _ k => XS.lconst X.here hx rfl (hb hby d2_5) k) ?_
      refine run_fwd (T' := T) (g' := (mkF m 7 #[.val (.ref a0), .val (.int i), .val (.long q), .second] [(.int (lcmpW (q &&& (-128 : Int64)) (0 : Int64)))])) (fun _ k => XS.lcmp X.here hx rfl (hb hby d2_6) rfl k) ?_
      have hc7_1 : (q &&& (-128 : Int64)) = (0 : Int64) := (own_mask q hqn).mpr (by rw [hq]; exact own_last q2 (own_nn hv))
      refine run_fwd (T' := T) (g' := (mkF m 35 #[.val (.ref a0), .val (.int i), .val (.long q), .second] [])) (fun _ k => XS.ifYes X.here hx rfl (pc0 := 7) (pc' := 35) rfl (hb hby d2_7) rfl ((if0 _ _).trans (teq ((lw_eq (q &&& (-128 : Int64)) (0 : Int64)).mpr hc7_1)).1) (by decide) (by decide) k) ?_
      have hsm : q.toInt < 128 := by rw [hq]; exact own_last q2 (own_nn hv)
      have hS : own_S q2 = 8 + 1 := own_cnt q2 hv 8 hlo (own_small (own_nn hv) (by rw [← hq]; exact hsm))
      refine run_fwd (T' := T) (g' := (mkF m 36 #[.val (.ref a0), .val (.int i), .val (.long q), .second] [(.ref a0)])) (fun _ k => XS.aloadN X.here hx rfl (hb hby d2_35) rfl rfl k) ?_
      refine run_fwd (T' := T) (g' := (mkF m 37 #[.val (.ref a0), .val (.int i), .val (.long q), .second] [(.int i), (.ref a0)])) (fun _ k => XS.iloadN X.here hx rfl (hb hby d2_36) rfl k) ?_
      refine run_fwd (T' := T) (g' := (mkF m 40 #[.val (.ref a0), .val (.int (i + (1 : Int32))), .val (.long q), .second] [(.int i), (.ref a0)])) (fun _ k => XS.iinc X.here hx rfl (hb hby d2_37) rfl (l' := #[.val (.ref a0), .val (.int (i + (1 : Int32))), .val (.long q), .second]) rfl k) ?_
      refine run_fwd (T' := T) (g' := (mkF m 41 #[.val (.ref a0), .val (.int (i + (1 : Int32))), .val (.long q), .second] [(.long q), (.int i), (.ref a0)])) (fun _ k => XS.lloadN X.here hx rfl (hb hby d2_40) rfl k) ?_
      refine run_fwd (T' := T) (g' := (mkF m 42 #[.val (.ref a0), .val (.int (i + (1 : Int32))), .val (.long q), .second] [(.int (q.toInt32)), (.int i), (.ref a0)])) (fun _ k => XS.l2i X.here hx rfl (hb hby d2_41) rfl k) ?_
      refine run_fwd (T' := T) (g' := (mkF m 43 #[.val (.ref a0), .val (.int (i + (1 : Int32))), .val (.long q), .second] [(.int ((q.toInt32).toInt8.toInt32)), (.int i), (.ref a0)])) (fun _ k => XS.i2b X.here hx rfl (hb hby d2_42) rfl k) ?_
      obtain ⟨cl2, Ar2, qq2, S2, M2, Hh2, G2⟩ := id (VV)
      have hin2 : ¬ (i < 0 ∨ cl2.slots.size ≤ (i).toNatClampNeg) := inb_of S2 hix.1
      obtain ⟨T2, h2, X2, e2, W2, st2⟩ := stB X hx hZ eh Ar2 (j := i) hin2 (g := (mkF m 43 #[.val (.ref a0), .val (.int (i + (1 : Int32))), .val (.long q), .second] [(.int ((q.toInt32).toInt8.toInt32)), (.int i), (.ref a0)])) rfl rfl (hb hby d2_43)
      have O3 : Old Z n0 h2 := OO.wr W2 gi0
      have K4 : Keep h0 h2 [a0] := KK.wr W2 (Or.inl (List.mem_of_getElem? (i := 0) rfl))
      have N2 := Fr.snoc X2 NN gi0
      have V2 : Arv Z h2 a0 kk .byte (13 : Int32) (own_tab (own_Y q2 p1 f) 13) (.int (0 : Int32)) := own_fin q2 q p1 f 8 hS hq hqn hsm ▸ Arv.set Ar2 qq2 S2 M2 Hh2 G2 (fits_nar_byte _) W2 _ hix.2.1 (by rw [own_tab_len]; exact hix.2.2.1)
      refine run_fwd (T' := T2) (g' := (mkF m 44 #[.val (.ref a0), .val (.int (i + (1 : Int32))), .val (.long q), .second] [])) (fun _ k => st2 _ k) ?_
      refine run_fwd (T' := T2) (g' := (mkF m 45 #[.val (.ref a0), .val (.int (i + (1 : Int32))), .val (.long q), .second] [(.int (i + (1 : Int32)))])) (fun _ k => XS.iloadN X2.here hx rfl (hb hby d2_44) rfl k) ?_
      exact run_ret X2 hx Bd.returns Bd.notSynchronized rfl (Or.inl ⟨rfl, by simp, _, rfl⟩) (hb hby d2_45) (by rw [e2]; exact ⟨by rw [own_ret q2 p1 i 8 hv hS ha.1 ha.2 hix.2.2.2], N2, K4, V2⟩) (by decide) (by decide)
    | succ k ih =>
      intro m' T locs h i q hk X eh NN OO KK VV hq hi hlo
      have hix := own_ix q2 p1 i m' (by omega) ha.1 ha.2 hi
      have hqn : 0 ≤ q.toInt := by rw [hq]; exact Int.ediv_nonneg (own_nn hv) (Int.natCast_nonneg _)
      refine run_fwd (T' := T) (g' := (mkF m 1 #[.val (.ref a0), .val (.int i), .val (.long q), .second] [(.long q)])) (fun _ k => XS.lloadN X.here hx rfl (hb hby d2_0) rfl k) ?_
      refine run_fwd (T' := T) (g' := (mkF m 4 #[.val (.ref a0), .val (.int i), .val (.long q), .second] [(.long (-128 : Int64)), (.long q)])) (fun _ k => X.ldc2Long hx hown (mvT hZ (hw _ (List.mem_of_getElem? (i := 11) rfl))) (g := (mkF m 1 #[.val (.ref a0), .val (.int i), .val (.long q), .second] [(.long q)])) rfl (hb hby d2_1) _ k) ?_
      refine run_fwd (T' := T) (g' := (mkF m 5 #[.val (.ref a0), .val (.int i), .val (.long q), .second] [(.long (q &&& (-128 : Int64)))])) (fun _ k => XS.land X.here hx rfl (hb hby d2_4) rfl k) ?_
      refine run_fwd (T' := T) (g' := (mkF m 6 #[.val (.ref a0), .val (.int i), .val (.long q), .second] [(.long (0 : Int64)), (.long (q &&& (-128 : Int64)))])) (fun _ k => XS.lconst X.here hx rfl (hb hby d2_5) k) ?_
      refine run_fwd (T' := T) (g' := (mkF m 7 #[.val (.ref a0), .val (.int i), .val (.long q), .second] [(.int (lcmpW (q &&& (-128 : Int64)) (0 : Int64)))])) (fun _ k => XS.lcmp X.here hx rfl (hb hby d2_6) rfl k) ?_
      by_cases hc7_5 : (q &&& (-128 : Int64)) = (0 : Int64)
      ·
        refine run_fwd (T' := T) (g' := (mkF m 35 #[.val (.ref a0), .val (.int i), .val (.long q), .second] [])) (fun _ k => XS.ifYes X.here hx rfl (pc0 := 7) (pc' := 35) rfl (hb hby d2_7) rfl ((if0 _ _).trans (teq ((lw_eq (q &&& (-128 : Int64)) (0 : Int64)).mpr hc7_5)).1) (by decide) (by decide) k) ?_
        have hsm : q.toInt < 128 := (own_mask q hqn).mp hc7_5
        have hS : own_S q2 = m' + 1 := own_cnt q2 hv m' hlo (own_small (own_nn hv) (by rw [← hq]; exact hsm))
        refine run_fwd (T' := T) (g' := (mkF m 36 #[.val (.ref a0), .val (.int i), .val (.long q), .second] [(.ref a0)])) (fun _ k => XS.aloadN X.here hx rfl (hb hby d2_35) rfl rfl k) ?_
        refine run_fwd (T' := T) (g' := (mkF m 37 #[.val (.ref a0), .val (.int i), .val (.long q), .second] [(.int i), (.ref a0)])) (fun _ k => XS.iloadN X.here hx rfl (hb hby d2_36) rfl k) ?_
        refine run_fwd (T' := T) (g' := (mkF m 40 #[.val (.ref a0), .val (.int (i + (1 : Int32))), .val (.long q), .second] [(.int i), (.ref a0)])) (fun _ k => XS.iinc X.here hx rfl (hb hby d2_37) rfl (l' := #[.val (.ref a0), .val (.int (i + (1 : Int32))), .val (.long q), .second]) rfl k) ?_
        refine run_fwd (T' := T) (g' := (mkF m 41 #[.val (.ref a0), .val (.int (i + (1 : Int32))), .val (.long q), .second] [(.long q), (.int i), (.ref a0)])) (fun _ k => XS.lloadN X.here hx rfl (hb hby d2_40) rfl k) ?_
        refine run_fwd (T' := T) (g' := (mkF m 42 #[.val (.ref a0), .val (.int (i + (1 : Int32))), .val (.long q), .second] [(.int (q.toInt32)), (.int i), (.ref a0)])) (fun _ k => XS.l2i X.here hx rfl (hb hby d2_41) rfl k) ?_
        refine run_fwd (T' := T) (g' := (mkF m 43 #[.val (.ref a0), .val (.int (i + (1 : Int32))), .val (.long q), .second] [(.int ((q.toInt32).toInt8.toInt32)), (.int i), (.ref a0)])) (fun _ k => XS.i2b X.here hx rfl (hb hby d2_42) rfl k) ?_
        obtain ⟨cl6, Ar6, qq6, S6, M6, Hh6, G6⟩ := id (VV)
        have hin6 : ¬ (i < 0 ∨ cl6.slots.size ≤ (i).toNatClampNeg) := inb_of S6 hix.1
        obtain ⟨T6, h6, X6, e6, W6, st6⟩ := stB X hx hZ eh Ar6 (j := i) hin6 (g := (mkF m 43 #[.val (.ref a0), .val (.int (i + (1 : Int32))), .val (.long q), .second] [(.int ((q.toInt32).toInt8.toInt32)), (.int i), (.ref a0)])) rfl rfl (hb hby d2_43)
        have O7 : Old Z n0 h6 := OO.wr W6 gi0
        have K8 : Keep h0 h6 [a0] := KK.wr W6 (Or.inl (List.mem_of_getElem? (i := 0) rfl))
        have N6 := Fr.snoc X6 NN gi0
        have V6 : Arv Z h6 a0 kk .byte (13 : Int32) (own_tab (own_Y q2 p1 f) 13) (.int (0 : Int32)) := own_fin q2 q p1 f m' hS hq hqn hsm ▸ Arv.set Ar6 qq6 S6 M6 Hh6 G6 (fits_nar_byte _) W6 _ hix.2.1 (by rw [own_tab_len]; exact hix.2.2.1)
        refine run_fwd (T' := T6) (g' := (mkF m 44 #[.val (.ref a0), .val (.int (i + (1 : Int32))), .val (.long q), .second] [])) (fun _ k => st6 _ k) ?_
        refine run_fwd (T' := T6) (g' := (mkF m 45 #[.val (.ref a0), .val (.int (i + (1 : Int32))), .val (.long q), .second] [(.int (i + (1 : Int32)))])) (fun _ k => XS.iloadN X6.here hx rfl (hb hby d2_44) rfl k) ?_
        exact run_ret X6 hx Bd.returns Bd.notSynchronized rfl (Or.inl ⟨rfl, by simp, _, rfl⟩) (hb hby d2_45) (by rw [e6]; exact ⟨by rw [own_ret q2 p1 i m' hv hS ha.1 ha.2 hix.2.2.2], N6, K8, V6⟩) (by decide) (by decide)
      ·
        refine run_fwd (T' := T) (g' := (mkF m 10 #[.val (.ref a0), .val (.int i), .val (.long q), .second] [])) (fun _ k => XS.ifNo X.here hx rfl (hb hby d2_7) rfl ((if0 _ _).trans (feq (fun z => hc7_5 ((lw_eq (q &&& (-128 : Int64)) (0 : Int64)).mp z))).1) k) ?_
        refine run_fwd (T' := T) (g' := (mkF m 11 #[.val (.ref a0), .val (.int i), .val (.long q), .second] [(.ref a0)])) (fun _ k => XS.aloadN X.here hx rfl (hb hby d2_10) rfl rfl k) ?_
        refine run_fwd (T' := T) (g' := (mkF m 12 #[.val (.ref a0), .val (.int i), .val (.long q), .second] [(.int i), (.ref a0)])) (fun _ k => XS.iloadN X.here hx rfl (hb hby d2_11) rfl k) ?_
        refine run_fwd (T' := T) (g' := (mkF m 15 #[.val (.ref a0), .val (.int (i + (1 : Int32))), .val (.long q), .second] [(.int i), (.ref a0)])) (fun _ k => XS.iinc X.here hx rfl (hb hby d2_12) rfl (l' := #[.val (.ref a0), .val (.int (i + (1 : Int32))), .val (.long q), .second]) rfl k) ?_
        refine run_fwd (T' := T) (g' := (mkF m 16 #[.val (.ref a0), .val (.int (i + (1 : Int32))), .val (.long q), .second] [(.long q), (.int i), (.ref a0)])) (fun _ k => XS.lloadN X.here hx rfl (hb hby d2_15) rfl k) ?_
        refine run_fwd (T' := T) (g' := (mkF m 19 #[.val (.ref a0), .val (.int (i + (1 : Int32))), .val (.long q), .second] [(.long (127 : Int64)), (.long q), (.int i), (.ref a0)])) (fun _ k => X.ldc2Long hx hown (mvT hZ (hw _ (List.mem_of_getElem? (i := 20) rfl))) (g := (mkF m 16 #[.val (.ref a0), .val (.int (i + (1 : Int32))), .val (.long q), .second] [(.long q), (.int i), (.ref a0)])) rfl (hb hby d2_16) _ k) ?_
        refine run_fwd (T' := T) (g' := (mkF m 20 #[.val (.ref a0), .val (.int (i + (1 : Int32))), .val (.long q), .second] [(.long (q &&& (127 : Int64))), (.int i), (.ref a0)])) (fun _ k => XS.land X.here hx rfl (hb hby d2_19) rfl k) ?_
        refine run_fwd (T' := T) (g' := (mkF m 23 #[.val (.ref a0), .val (.int (i + (1 : Int32))), .val (.long q), .second] [(.long (128 : Int64)), (.long (q &&& (127 : Int64))), (.int i), (.ref a0)])) (fun _ k => X.ldc2Long hx hown (mvT hZ (hw _ (List.mem_of_getElem? (i := 21) rfl))) (g := (mkF m 20 #[.val (.ref a0), .val (.int (i + (1 : Int32))), .val (.long q), .second] [(.long (q &&& (127 : Int64))), (.int i), (.ref a0)])) rfl (hb hby d2_20) _ k) ?_
        refine run_fwd (T' := T) (g' := (mkF m 24 #[.val (.ref a0), .val (.int (i + (1 : Int32))), .val (.long q), .second] [(.long ((q &&& (127 : Int64)) ||| (128 : Int64))), (.int i), (.ref a0)])) (fun _ k => XS.lor X.here hx rfl (hb hby d2_23) rfl k) ?_
        refine run_fwd (T' := T) (g' := (mkF m 25 #[.val (.ref a0), .val (.int (i + (1 : Int32))), .val (.long q), .second] [(.int (((q &&& (127 : Int64)) ||| (128 : Int64)).toInt32)), (.int i), (.ref a0)])) (fun _ k => XS.l2i X.here hx rfl (hb hby d2_24) rfl k) ?_
        refine run_fwd (T' := T) (g' := (mkF m 26 #[.val (.ref a0), .val (.int (i + (1 : Int32))), .val (.long q), .second] [(.int ((((q &&& (127 : Int64)) ||| (128 : Int64)).toInt32).toInt8.toInt32)), (.int i), (.ref a0)])) (fun _ k => XS.i2b X.here hx rfl (hb hby d2_25) rfl k) ?_
        obtain ⟨cl9, Ar9, qq9, S9, M9, Hh9, G9⟩ := id (VV)
        have hin9 : ¬ (i < 0 ∨ cl9.slots.size ≤ (i).toNatClampNeg) := inb_of S9 hix.1
        obtain ⟨T9, h9, X9, e9, W9, st9⟩ := stB X hx hZ eh Ar9 (j := i) hin9 (g := (mkF m 26 #[.val (.ref a0), .val (.int (i + (1 : Int32))), .val (.long q), .second] [(.int ((((q &&& (127 : Int64)) ||| (128 : Int64)).toInt32).toInt8.toInt32)), (.int i), (.ref a0)])) rfl rfl (hb hby d2_26)
        have O10 : Old Z n0 h9 := OO.wr W9 gi0
        have K11 : Keep h0 h9 [a0] := KK.wr W9 (Or.inl (List.mem_of_getElem? (i := 0) rfl))
        have N9 := Fr.snoc X9 NN gi0
        have V9 : Arv Z h9 a0 kk .byte (13 : Int32) (own_tab (own_X q2 p1 f (m' + 1)) 13) (.int (0 : Int32)) := own_turn q2 q p1 f m' hq ▸ Arv.set Ar9 qq9 S9 M9 Hh9 G9 (fits_nar_byte _) W9 _ hix.2.1 (by rw [own_tab_len]; exact hix.2.2.1)
        refine run_fwd (T' := T9) (g' := (mkF m 27 #[.val (.ref a0), .val (.int (i + (1 : Int32))), .val (.long q), .second] [])) (fun _ k => st9 _ k) ?_
        refine run_fwd (T' := T9) (g' := (mkF m 28 #[.val (.ref a0), .val (.int (i + (1 : Int32))), .val (.long q), .second] [(.long q)])) (fun _ k => XS.lloadN X9.here hx rfl (hb hby d2_27) rfl k) ?_
        refine run_fwd (T' := T9) (g' := (mkF m 30 #[.val (.ref a0), .val (.int (i + (1 : Int32))), .val (.long q), .second] [(.int (7 : Int32)), (.long q)])) (fun _ k => XS.bipush X9.here hx rfl (hb hby d2_28) k) ?_
        refine run_fwd (T' := T9) (g' := (mkF m 31 #[.val (.ref a0), .val (.int (i + (1 : Int32))), .val (.long q), .second] [(.long ((q.toUInt64 >>> ((7 : Int32) &&& 0x3f).toInt64.toUInt64).toInt64))])) (fun _ k => XS.lushr X9.here hx rfl (hb hby d2_30) rfl k) ?_
        refine run_fwd (T' := T9) (g' := (mkF m 32 #[.val (.ref a0), .val (.int (i + (1 : Int32))), .val (.long ((q.toUInt64 >>> ((7 : Int32) &&& 0x3f).toInt64.toUInt64).toInt64)), .second] [])) (fun _ k => XS.lstoreN X9.here hx rfl (hb hby d2_31) rfl (l' := #[.val (.ref a0), .val (.int (i + (1 : Int32))), .val (.long ((q.toUInt64 >>> ((7 : Int32) &&& 0x3f).toInt64.toUInt64).toInt64)), .second]) rfl k) ?_
        refine run_fwd (T' := T9) (g' := (mkF m 0 #[.val (.ref a0), .val (.int (i + (1 : Int32))), .val (.long ((q.toUInt64 >>> ((7 : Int32) &&& 0x3f).toInt64.toUInt64).toInt64)), .second] [])) (fun _ k => XS.goto X9.here hx rfl (pc0 := 32) (pc' := 0) rfl (hb hby d2_32) (by decide) (by decide) k) ?_
        exact ih (m' + 1) _ _ _ _ _ (by omega) X9 e9 N9 O10 K11 V9 (by rw [own_shr q hqn 7 7 (by decide) (by decide)]; exact own_div _ hq) hix.2.2.2 (Or.inr (own_big (own_nn hv) (by rw [← hq, ← own_mask q hqn]; exact hc7_5)))
  exact loop0 8 0 _ _ _ _ _ (by omega) X0 e0 N0 O0 (Keep.refl h0 [a0]) (own_pad q2 p1 f vs hz hl ▸ Vi1) (by simp) (by show p1.toInt = ((p1.toInt.toNat : Nat) : Int) + ((0 : Nat) : Int); omega) (Or.inl rfl)
theorem own_get (F : Nat → Int32) (n : Nat) (j : Int32) (J : Nat) (hj : j.toNatClampNeg = J) (h : J < n) (d : Value) : (own_tab F n).getD j.toNatClampNeg d = .int (F J) := by
  rw [hj]; exact own_tab_get F n J h d
theorem own_rep (f : Int32) (i : Nat) (h : i < 13) : ([.int f, .int f, .int f, .int f, .int f, .int f, .int f, .int f, .int f, .int f, .int f, .int f, .int f] : List Value).getD i (.int (0 : Int32)) = .int f := by
  have k : ∀ (j : Fin 13), ([.int f, .int f, .int f, .int f, .int f, .int f, .int f, .int f, .int f, .int f, .int f, .int f, .int f] : List Value).getD j.val (.int (0 : Int32)) = .int f := by
    intro j
    match j with
    | ⟨0, _⟩ | ⟨1, _⟩ | ⟨2, _⟩ | ⟨3, _⟩ | ⟨4, _⟩ | ⟨5, _⟩ | ⟨6, _⟩ | ⟨7, _⟩ | ⟨8, _⟩ | ⟨9, _⟩ | ⟨10, _⟩ | ⟨11, _⟩ | ⟨12, _⟩ => rfl
  exact k ⟨i, h⟩
theorem pd__28J_29I : parseMethodDescriptor "(J)I" = some ⟨[.long], some .int⟩ := by decide +kernel
theorem pd__28_5bBIJ_29I : parseMethodDescriptor "([BIJ)I" = some ⟨[(.array .byte), .int, .long], some .int⟩ := by decide +kernel
theorem pd__28_5bBIIIJB_29Z : parseMethodDescriptor "([BIIIJB)Z" = some ⟨[(.array .byte), .int, .int, .int, .long, .byte], some .boolean⟩ := by decide +kernel
theorem ef_rm0 (m : MethodId) (x0 : Int64) (x1 : Int32) (x2 : Int32) (x3 : Int32) : entryFrame m #[(.long x0), (.int x1), (.int x2), (.int x3)] maxLocals = mkF m 0 #[.val (.long x0), .second, .val (.int x1), .val (.int x2), .val (.int x3), .unset, .unset, .unset, .unset, .unset, .unset, .unset] [] := by first | (simp [entryFrame, mkF, argsToLocals, Value.category, maxLocals]; done) | rfl
def Qrm0 (Z : State) (q0 : Int64) (p1 : Int32) (p2 : Int32) (p3 : Int32) (h0 : Heap) (n0 : Nat) (v : Option Value) (h : Heap) (L : List Loc) : Prop := v = some (.int (1 : Int32)) ∧ Fr n0 L
set_option maxRecDepth 65536 in
set_option maxHeartbeats 40000000 in
theorem rm0 (l : Launch) (Z : State) (aV : Array Value) (hw : ∀ d ∈ tables_1, d.before aV Z = true) (ws : List Jvm.Cond) (q0 : Int64) (p1 : Int32) (p2 : Int32) (p3 : Int32) (h0 : Heap) (n0 : Nat) (O0 : Old Z n0 h0) :
    MetFree l x (head1 (Jvm.Cond.code x code maxLocals ret :: ws) room_1) (fun a U => a = #[(.long q0), (.int p1), (.int p2), (.int p3)] ∧ Z.Warmed39 U.vm ∧ U.heap = h0) (fun _ _ _ _ _ => True) (fun _ U o U' => ∃ v L, o = .returned v ∧ Qrm0 Z q0 p1 p2 p3 h0 n0 v U'.heap L ∧ FrameEnd U o U' L room_1.cells room_1.slots) := by
  refine MetFree.of_bodySF (plainFor_of_name pn_querent_index_IndexFileWriteVLongPinLaw) hisR ?_
  intro p e s m args below meth c s₁ Bd hml0 hP hK
  obtain ⟨rfl, hZ, hh⟩ := hP
  have hx := Bd.exec
  have hby := Bd.bytes
  have hml : c.maxLocals = 12 := hml0
  have hown : s.vm.findClass "querent/index/IndexFileWriteVLongPinLaw" = some m.cls := findClass_of_methodNamed Bd.named
  have hnm := (name_of_methodNamed Bd.named Bd.method).1
  have X0 : Stand p l e room_1 s m #[(.long q0), (.int p1), (.int p2), (.int p3)] below meth c s₁ [] 0 0 := Stand.of_body Bd
  have e0 : s₁.heap = h0 := by rw [← hh, Bd.state]; rfl
  have N0 := Fr.nil n0
  show Run p.tables e below (Wd s (Qrm0 Z q0 p1 p2 p3 h0 n0) room_1.cells room_1.slots) s₁ (entryFrame m #[(.long q0), (.int p1), (.int p2), (.int p3)] maxLocals)
  rw [ef_rm0 m q0 p1 p2 p3]
  refine run_fwd (T' := s₁) (g' := (mkF m 1 #[.val (.long q0), .second, .val (.int p1), .val (.int p2), .val (.int p3), .unset, .unset, .unset, .unset, .unset, .unset, .unset] [(.long q0)])) (fun _ k => XS.lloadN X0.here hx rfl (hb hby at_0) rfl k) ?_
  refine run_fwd (T' := s₁) (g' := (mkF m 4 #[.val (.long q0), .second, .val (.int p1), .val (.int p2), .val (.int p3), .unset, .unset, .unset, .unset, .unset, .unset, .unset] [(.long (9223372036854775807 : Int64)), (.long q0)])) (fun _ k => X0.ldc2Long hx hown (mvT hZ (hw _ (List.mem_of_getElem? (i := 0) rfl))) (g := (mkF m 1 #[.val (.long q0), .second, .val (.int p1), .val (.int p2), .val (.int p3), .unset, .unset, .unset, .unset, .unset, .unset, .unset] [(.long q0)])) rfl (hb hby at_1) _ k) ?_
  refine run_fwd (T' := s₁) (g' := (mkF m 5 #[.val (.long q0), .second, .val (.int p1), .val (.int p2), .val (.int p3), .unset, .unset, .unset, .unset, .unset, .unset, .unset] [(.long (q0 &&& (9223372036854775807 : Int64)))])) (fun _ k => XS.land X0.here hx rfl (hb hby at_4) rfl k) ?_
  refine run_fwd (T' := s₁) (g' := (mkF m 6 #[.val (.long q0), .second, .val (.int p1), .val (.int p2), .val (.int p3), .unset, .unset, .unset, .unset, .unset, .unset, .unset] [(.int p1), (.long (q0 &&& (9223372036854775807 : Int64)))])) (fun _ k => XS.iloadN X0.here hx rfl (hb hby at_5) rfl k) ?_
  refine run_fwd (T' := s₁) (g' := (mkF m 8 #[.val (.long q0), .second, .val (.int p1), .val (.int p2), .val (.int p3), .unset, .unset, .unset, .unset, .unset, .unset, .unset] [(.int (63 : Int32)), (.int p1), (.long (q0 &&& (9223372036854775807 : Int64)))])) (fun _ k => XS.bipush X0.here hx rfl (hb hby at_6) k) ?_
  refine run_fwd (T' := s₁) (g' := (mkF m 9 #[.val (.long q0), .second, .val (.int p1), .val (.int p2), .val (.int p3), .unset, .unset, .unset, .unset, .unset, .unset, .unset] [(.int (p1 &&& (63 : Int32))), (.long (q0 &&& (9223372036854775807 : Int64)))])) (fun _ k => XS.iand X0.here hx rfl (hb hby at_8) rfl k) ?_
  refine run_fwd (T' := s₁) (g' := (mkF m 10 #[.val (.long q0), .second, .val (.int p1), .val (.int p2), .val (.int p3), .unset, .unset, .unset, .unset, .unset, .unset, .unset] [(.long (((q0 &&& (9223372036854775807 : Int64)).toUInt64 >>> ((p1 &&& (63 : Int32)) &&& 0x3f).toInt64.toUInt64).toInt64))])) (fun _ k => XS.lushr X0.here hx rfl (hb hby at_9) rfl k) ?_
  refine run_fwd (T' := s₁) (g' := (mkF m 12 #[.val (.long q0), .second, .val (.int p1), .val (.int p2), .val (.int p3), .val (.long (((q0 &&& (9223372036854775807 : Int64)).toUInt64 >>> ((p1 &&& (63 : Int32)) &&& 0x3f).toInt64.toUInt64).toInt64)), .second, .unset, .unset, .unset, .unset, .unset] [])) (fun _ k => XS.lstore X0.here hx rfl (hb hby at_10) rfl (l' := #[.val (.long q0), .second, .val (.int p1), .val (.int p2), .val (.int p3), .val (.long (((q0 &&& (9223372036854775807 : Int64)).toUInt64 >>> ((p1 &&& (63 : Int32)) &&& 0x3f).toInt64.toUInt64).toInt64)), .second, .unset, .unset, .unset, .unset, .unset]) rfl k) ?_
  refine run_fwd (T' := s₁) (g' := (mkF m 13 #[.val (.long q0), .second, .val (.int p1), .val (.int p2), .val (.int p3), .val (.long (((q0 &&& (9223372036854775807 : Int64)).toUInt64 >>> ((p1 &&& (63 : Int32)) &&& 0x3f).toInt64.toUInt64).toInt64)), .second, .unset, .unset, .unset, .unset, .unset] [(.int p2)])) (fun _ k => XS.iloadN X0.here hx rfl (hb hby at_12) rfl k) ?_
  refine run_fwd (T' := s₁) (g' := (mkF m 14 #[.val (.long q0), .second, .val (.int p1), .val (.int p2), .val (.int p3), .val (.long (((q0 &&& (9223372036854775807 : Int64)).toUInt64 >>> ((p1 &&& (63 : Int32)) &&& 0x3f).toInt64.toUInt64).toInt64)), .second, .unset, .unset, .unset, .unset, .unset] [(.int (3 : Int32)), (.int p2)])) (fun _ k => XS.iconst X0.here hx rfl (hb hby at_13) k) ?_
  refine run_fwd (T' := s₁) (g' := (mkF m 15 #[.val (.long q0), .second, .val (.int p1), .val (.int p2), .val (.int p3), .val (.long (((q0 &&& (9223372036854775807 : Int64)).toUInt64 >>> ((p1 &&& (63 : Int32)) &&& 0x3f).toInt64.toUInt64).toInt64)), .second, .unset, .unset, .unset, .unset, .unset] [(.int (p2 &&& (3 : Int32)))])) (fun _ k => XS.iand X0.here hx rfl (hb hby at_14) rfl k) ?_
  refine run_fwd (T' := s₁) (g' := (mkF m 17 #[.val (.long q0), .second, .val (.int p1), .val (.int p2), .val (.int p3), .val (.long (((q0 &&& (9223372036854775807 : Int64)).toUInt64 >>> ((p1 &&& (63 : Int32)) &&& 0x3f).toInt64.toUInt64).toInt64)), .second, .val (.int (p2 &&& (3 : Int32))), .unset, .unset, .unset, .unset] [])) (fun _ k => XS.istore X0.here hx rfl (hb hby at_15) rfl (l' := #[.val (.long q0), .second, .val (.int p1), .val (.int p2), .val (.int p3), .val (.long (((q0 &&& (9223372036854775807 : Int64)).toUInt64 >>> ((p1 &&& (63 : Int32)) &&& 0x3f).toInt64.toUInt64).toInt64)), .second, .val (.int (p2 &&& (3 : Int32))), .unset, .unset, .unset, .unset]) rfl k) ?_
  refine run_fwd (T' := s₁) (g' := (mkF m 19 #[.val (.long q0), .second, .val (.int p1), .val (.int p2), .val (.int p3), .val (.long (((q0 &&& (9223372036854775807 : Int64)).toUInt64 >>> ((p1 &&& (63 : Int32)) &&& 0x3f).toInt64.toUInt64).toInt64)), .second, .val (.int (p2 &&& (3 : Int32))), .unset, .unset, .unset, .unset] [(.int p3)])) (fun _ k => XS.iload X0.here hx rfl (hb hby at_17) rfl k) ?_
  refine run_fwd (T' := s₁) (g' := (mkF m 20 #[.val (.long q0), .second, .val (.int p1), .val (.int p2), .val (.int p3), .val (.long (((q0 &&& (9223372036854775807 : Int64)).toUInt64 >>> ((p1 &&& (63 : Int32)) &&& 0x3f).toInt64.toUInt64).toInt64)), .second, .val (.int (p2 &&& (3 : Int32))), .unset, .unset, .unset, .unset] [(.int (p3.toInt8.toInt32))])) (fun _ k => XS.i2b X0.here hx rfl (hb hby at_19) rfl k) ?_
  refine run_fwd (T' := s₁) (g' := (mkF m 22 #[.val (.long q0), .second, .val (.int p1), .val (.int p2), .val (.int p3), .val (.long (((q0 &&& (9223372036854775807 : Int64)).toUInt64 >>> ((p1 &&& (63 : Int32)) &&& 0x3f).toInt64.toUInt64).toInt64)), .second, .val (.int (p2 &&& (3 : Int32))), .val (.int (p3.toInt8.toInt32)), .unset, .unset, .unset] [])) (fun _ k => XS.istore X0.here hx rfl (hb hby at_20) rfl (l' := #[.val (.long q0), .second, .val (.int p1), .val (.int p2), .val (.int p3), .val (.long (((q0 &&& (9223372036854775807 : Int64)).toUInt64 >>> ((p1 &&& (63 : Int32)) &&& 0x3f).toInt64.toUInt64).toInt64)), .second, .val (.int (p2 &&& (3 : Int32))), .val (.int (p3.toInt8.toInt32)), .unset, .unset, .unset]) rfl k) ?_
  have tail : ∀ (v : Int64) (a : Int32) (f : Int32) (hv : ¬ v < 0) (ha : 0 ≤ a.toInt ∧ a.toInt < 4) (hf : nar .byte f = f), Run p.tables e below (Wd s (Qrm0 Z q0 p1 p2 p3 h0 n0) room_1.cells room_1.slots) s₁ (mkF m 22 #[.val (.long q0), .second, .val (.int p1), .val (.int p2), .val (.int p3), .val (.long v), .second, .val (.int a), .val (.int f), .unset, .unset, .unset] []) := by
    intro v a f hv ha hf
    refine run_fwd (T' := s₁) (g' := (mkF m 24 #[.val (.long q0), .second, .val (.int p1), .val (.int p2), .val (.int p3), .val (.long v), .second, .val (.int a), .val (.int f), .unset, .unset, .unset] [(.int (13 : Int32))])) (fun _ k => XS.bipush X0.here hx rfl (hb hby at_22) k) ?_
    obtain ⟨T1, h1, k1, X1, e1, E1, A1, st1⟩ := newP X0 hx hZ (hw _ (List.mem_of_getElem? (i := 1) rfl)) e0 (g := (mkF m 24 #[.val (.long q0), .second, .val (.int p1), .val (.int p2), .val (.int p3), .val (.long v), .second, .val (.int a), .val (.int f), .unset, .unset, .unset] [(.int (13 : Int32))])) rfl (hb hby at_24) rfl (by decide) (cap := 13) (by decide) (by decide) (by decide) (by decide)
    obtain ⟨b1, g1⟩ : ∃ z, z = h0.size := ⟨_, rfl⟩
    rw [← g1] at A1 st1
    have gg1 : n0 ≤ b1 := Nat.le_trans (own_le O0) (Nat.le_of_eq g1.symm)
    have sz1 : h0.size ≤ b1 := Nat.le_trans (Keep.refl h0 []).1 (Nat.le_of_eq g1.symm)
    have O2 : Old Z n0 h1 := O0.ext E1
    have K3 : Keep h0 h1 [] := (Keep.refl h0 []).ext E1
    have V1 : Arv Z h1 b1 k1 .byte (13 : Int32) [(.int (0 : Int32)), (.int (0 : Int32)), (.int (0 : Int32)), (.int (0 : Int32)), (.int (0 : Int32)), (.int (0 : Int32)), (.int (0 : Int32)), (.int (0 : Int32)), (.int (0 : Int32)), (.int (0 : Int32)), (.int (0 : Int32)), (.int (0 : Int32)), (.int (0 : Int32))] (.int (0 : Int32)) := (Arv.new A1 (by decide)).pad (pad_rep [] (.int (0 : Int32)) 13)
    refine run_fwd (T' := T1) (g' := (mkF m 26 #[.val (.long q0), .second, .val (.int p1), .val (.int p2), .val (.int p3), .val (.long v), .second, .val (.int a), .val (.int f), .unset, .unset, .unset] [(.ref b1)])) (fun _ k => st1 _ k) ?_
    refine run_fwd (T' := T1) (g' := (mkF m 27 #[.val (.long q0), .second, .val (.int p1), .val (.int p2), .val (.int p3), .val (.long v), .second, .val (.int a), .val (.int f), .unset, .unset, .unset] [(.ref b1), (.ref b1)])) (fun _ k => XS.dup X1.here hx rfl (hb hby at_26) rfl rfl k) ?_
    refine run_fwd (T' := T1) (g' := (mkF m 28 #[.val (.long q0), .second, .val (.int p1), .val (.int p2), .val (.int p3), .val (.long v), .second, .val (.int a), .val (.int f), .unset, .unset, .unset] [(.int (0 : Int32)), (.ref b1), (.ref b1)])) (fun _ k => XS.iconst X1.here hx rfl (hb hby at_27) k) ?_
    refine run_fwd (T' := T1) (g' := (mkF m 30 #[.val (.long q0), .second, .val (.int p1), .val (.int p2), .val (.int p3), .val (.long v), .second, .val (.int a), .val (.int f), .unset, .unset, .unset] [(.int f), (.int (0 : Int32)), (.ref b1), (.ref b1)])) (fun _ k => XS.iload X1.here hx rfl (hb hby at_28) rfl k) ?_
    obtain ⟨cl4, Ar4, qq4, S4, M4, Hh4, G4⟩ := id (V1)
    have hin4 : ¬ ((0 : Int32) < 0 ∨ cl4.slots.size ≤ ((0 : Int32)).toNatClampNeg) := inb_of S4 ⟨by decide, by decide⟩
    obtain ⟨T4, h4, X4, e4, W4, st4⟩ := stB X1 hx hZ e1 Ar4 (j := (0 : Int32)) hin4 (g := (mkF m 30 #[.val (.long q0), .second, .val (.int p1), .val (.int p2), .val (.int p3), .val (.long v), .second, .val (.int a), .val (.int f), .unset, .unset, .unset] [(.int f), (.int (0 : Int32)), (.ref b1), (.ref b1)])) rfl rfl (hb hby at_30)
    have O5 : Old Z n0 h4 := O2.wr W4 gg1
    have K6 : Keep h0 h4 [] := K3.wr W4 (Or.inr sz1)
    have N4 := Fr.snoc X4 N0 gg1
    have V4 : Arv Z h4 b1 k1 .byte (13 : Int32) [(.int (nar .byte f)), (.int (0 : Int32)), (.int (0 : Int32)), (.int (0 : Int32)), (.int (0 : Int32)), (.int (0 : Int32)), (.int (0 : Int32)), (.int (0 : Int32)), (.int (0 : Int32)), (.int (0 : Int32)), (.int (0 : Int32)), (.int (0 : Int32)), (.int (0 : Int32))] (.int (0 : Int32)) := Arv.set Ar4 qq4 S4 M4 Hh4 G4 (fits_nar_byte _) W4 0 rfl (Nat.le_of_ble_eq_true rfl)
    refine run_fwd (T' := T4) (g' := (mkF m 31 #[.val (.long q0), .second, .val (.int p1), .val (.int p2), .val (.int p3), .val (.long v), .second, .val (.int a), .val (.int f), .unset, .unset, .unset] [(.ref b1)])) (fun _ k => st4 _ k) ?_
    refine run_fwd (T' := T4) (g' := (mkF m 32 #[.val (.long q0), .second, .val (.int p1), .val (.int p2), .val (.int p3), .val (.long v), .second, .val (.int a), .val (.int f), .unset, .unset, .unset] [(.ref b1), (.ref b1)])) (fun _ k => XS.dup X4.here hx rfl (hb hby at_31) rfl rfl k) ?_
    refine run_fwd (T' := T4) (g' := (mkF m 33 #[.val (.long q0), .second, .val (.int p1), .val (.int p2), .val (.int p3), .val (.long v), .second, .val (.int a), .val (.int f), .unset, .unset, .unset] [(.int (1 : Int32)), (.ref b1), (.ref b1)])) (fun _ k => XS.iconst X4.here hx rfl (hb hby at_32) k) ?_
    refine run_fwd (T' := T4) (g' := (mkF m 35 #[.val (.long q0), .second, .val (.int p1), .val (.int p2), .val (.int p3), .val (.long v), .second, .val (.int a), .val (.int f), .unset, .unset, .unset] [(.int f), (.int (1 : Int32)), (.ref b1), (.ref b1)])) (fun _ k => XS.iload X4.here hx rfl (hb hby at_33) rfl k) ?_
    obtain ⟨cl7, Ar7, qq7, S7, M7, Hh7, G7⟩ := id (V4)
    have hin7 : ¬ ((1 : Int32) < 0 ∨ cl7.slots.size ≤ ((1 : Int32)).toNatClampNeg) := inb_of S7 ⟨by decide, by decide⟩
    obtain ⟨T7, h7, X7, e7, W7, st7⟩ := stB X4 hx hZ e4 Ar7 (j := (1 : Int32)) hin7 (g := (mkF m 35 #[.val (.long q0), .second, .val (.int p1), .val (.int p2), .val (.int p3), .val (.long v), .second, .val (.int a), .val (.int f), .unset, .unset, .unset] [(.int f), (.int (1 : Int32)), (.ref b1), (.ref b1)])) rfl rfl (hb hby at_35)
    have O8 : Old Z n0 h7 := O5.wr W7 gg1
    have K9 : Keep h0 h7 [] := K6.wr W7 (Or.inr sz1)
    have N7 := Fr.snoc X7 N4 gg1
    have V7 : Arv Z h7 b1 k1 .byte (13 : Int32) [(.int (nar .byte f)), (.int (nar .byte f)), (.int (0 : Int32)), (.int (0 : Int32)), (.int (0 : Int32)), (.int (0 : Int32)), (.int (0 : Int32)), (.int (0 : Int32)), (.int (0 : Int32)), (.int (0 : Int32)), (.int (0 : Int32)), (.int (0 : Int32)), (.int (0 : Int32))] (.int (0 : Int32)) := Arv.set Ar7 qq7 S7 M7 Hh7 G7 (fits_nar_byte _) W7 1 rfl (Nat.le_of_ble_eq_true rfl)
    refine run_fwd (T' := T7) (g' := (mkF m 36 #[.val (.long q0), .second, .val (.int p1), .val (.int p2), .val (.int p3), .val (.long v), .second, .val (.int a), .val (.int f), .unset, .unset, .unset] [(.ref b1)])) (fun _ k => st7 _ k) ?_
    refine run_fwd (T' := T7) (g' := (mkF m 37 #[.val (.long q0), .second, .val (.int p1), .val (.int p2), .val (.int p3), .val (.long v), .second, .val (.int a), .val (.int f), .unset, .unset, .unset] [(.ref b1), (.ref b1)])) (fun _ k => XS.dup X7.here hx rfl (hb hby at_36) rfl rfl k) ?_
    refine run_fwd (T' := T7) (g' := (mkF m 38 #[.val (.long q0), .second, .val (.int p1), .val (.int p2), .val (.int p3), .val (.long v), .second, .val (.int a), .val (.int f), .unset, .unset, .unset] [(.int (2 : Int32)), (.ref b1), (.ref b1)])) (fun _ k => XS.iconst X7.here hx rfl (hb hby at_37) k) ?_
    refine run_fwd (T' := T7) (g' := (mkF m 40 #[.val (.long q0), .second, .val (.int p1), .val (.int p2), .val (.int p3), .val (.long v), .second, .val (.int a), .val (.int f), .unset, .unset, .unset] [(.int f), (.int (2 : Int32)), (.ref b1), (.ref b1)])) (fun _ k => XS.iload X7.here hx rfl (hb hby at_38) rfl k) ?_
    obtain ⟨cl10, Ar10, qq10, S10, M10, Hh10, G10⟩ := id (V7)
    have hin10 : ¬ ((2 : Int32) < 0 ∨ cl10.slots.size ≤ ((2 : Int32)).toNatClampNeg) := inb_of S10 ⟨by decide, by decide⟩
    obtain ⟨T10, h10, X10, e10, W10, st10⟩ := stB X7 hx hZ e7 Ar10 (j := (2 : Int32)) hin10 (g := (mkF m 40 #[.val (.long q0), .second, .val (.int p1), .val (.int p2), .val (.int p3), .val (.long v), .second, .val (.int a), .val (.int f), .unset, .unset, .unset] [(.int f), (.int (2 : Int32)), (.ref b1), (.ref b1)])) rfl rfl (hb hby at_40)
    have O11 : Old Z n0 h10 := O8.wr W10 gg1
    have K12 : Keep h0 h10 [] := K9.wr W10 (Or.inr sz1)
    have N10 := Fr.snoc X10 N7 gg1
    have V10 : Arv Z h10 b1 k1 .byte (13 : Int32) [(.int (nar .byte f)), (.int (nar .byte f)), (.int (nar .byte f)), (.int (0 : Int32)), (.int (0 : Int32)), (.int (0 : Int32)), (.int (0 : Int32)), (.int (0 : Int32)), (.int (0 : Int32)), (.int (0 : Int32)), (.int (0 : Int32)), (.int (0 : Int32)), (.int (0 : Int32))] (.int (0 : Int32)) := Arv.set Ar10 qq10 S10 M10 Hh10 G10 (fits_nar_byte _) W10 2 rfl (Nat.le_of_ble_eq_true rfl)
    refine run_fwd (T' := T10) (g' := (mkF m 41 #[.val (.long q0), .second, .val (.int p1), .val (.int p2), .val (.int p3), .val (.long v), .second, .val (.int a), .val (.int f), .unset, .unset, .unset] [(.ref b1)])) (fun _ k => st10 _ k) ?_
    refine run_fwd (T' := T10) (g' := (mkF m 42 #[.val (.long q0), .second, .val (.int p1), .val (.int p2), .val (.int p3), .val (.long v), .second, .val (.int a), .val (.int f), .unset, .unset, .unset] [(.ref b1), (.ref b1)])) (fun _ k => XS.dup X10.here hx rfl (hb hby at_41) rfl rfl k) ?_
    refine run_fwd (T' := T10) (g' := (mkF m 43 #[.val (.long q0), .second, .val (.int p1), .val (.int p2), .val (.int p3), .val (.long v), .second, .val (.int a), .val (.int f), .unset, .unset, .unset] [(.int (3 : Int32)), (.ref b1), (.ref b1)])) (fun _ k => XS.iconst X10.here hx rfl (hb hby at_42) k) ?_
    refine run_fwd (T' := T10) (g' := (mkF m 45 #[.val (.long q0), .second, .val (.int p1), .val (.int p2), .val (.int p3), .val (.long v), .second, .val (.int a), .val (.int f), .unset, .unset, .unset] [(.int f), (.int (3 : Int32)), (.ref b1), (.ref b1)])) (fun _ k => XS.iload X10.here hx rfl (hb hby at_43) rfl k) ?_
    obtain ⟨cl13, Ar13, qq13, S13, M13, Hh13, G13⟩ := id (V10)
    have hin13 : ¬ ((3 : Int32) < 0 ∨ cl13.slots.size ≤ ((3 : Int32)).toNatClampNeg) := inb_of S13 ⟨by decide, by decide⟩
    obtain ⟨T13, h13, X13, e13, W13, st13⟩ := stB X10 hx hZ e10 Ar13 (j := (3 : Int32)) hin13 (g := (mkF m 45 #[.val (.long q0), .second, .val (.int p1), .val (.int p2), .val (.int p3), .val (.long v), .second, .val (.int a), .val (.int f), .unset, .unset, .unset] [(.int f), (.int (3 : Int32)), (.ref b1), (.ref b1)])) rfl rfl (hb hby at_45)
    have O14 : Old Z n0 h13 := O11.wr W13 gg1
    have K15 : Keep h0 h13 [] := K12.wr W13 (Or.inr sz1)
    have N13 := Fr.snoc X13 N10 gg1
    have V13 : Arv Z h13 b1 k1 .byte (13 : Int32) [(.int (nar .byte f)), (.int (nar .byte f)), (.int (nar .byte f)), (.int (nar .byte f)), (.int (0 : Int32)), (.int (0 : Int32)), (.int (0 : Int32)), (.int (0 : Int32)), (.int (0 : Int32)), (.int (0 : Int32)), (.int (0 : Int32)), (.int (0 : Int32)), (.int (0 : Int32))] (.int (0 : Int32)) := Arv.set Ar13 qq13 S13 M13 Hh13 G13 (fits_nar_byte _) W13 3 rfl (Nat.le_of_ble_eq_true rfl)
    refine run_fwd (T' := T13) (g' := (mkF m 46 #[.val (.long q0), .second, .val (.int p1), .val (.int p2), .val (.int p3), .val (.long v), .second, .val (.int a), .val (.int f), .unset, .unset, .unset] [(.ref b1)])) (fun _ k => st13 _ k) ?_
    refine run_fwd (T' := T13) (g' := (mkF m 47 #[.val (.long q0), .second, .val (.int p1), .val (.int p2), .val (.int p3), .val (.long v), .second, .val (.int a), .val (.int f), .unset, .unset, .unset] [(.ref b1), (.ref b1)])) (fun _ k => XS.dup X13.here hx rfl (hb hby at_46) rfl rfl k) ?_
    refine run_fwd (T' := T13) (g' := (mkF m 48 #[.val (.long q0), .second, .val (.int p1), .val (.int p2), .val (.int p3), .val (.long v), .second, .val (.int a), .val (.int f), .unset, .unset, .unset] [(.int (4 : Int32)), (.ref b1), (.ref b1)])) (fun _ k => XS.iconst X13.here hx rfl (hb hby at_47) k) ?_
    refine run_fwd (T' := T13) (g' := (mkF m 50 #[.val (.long q0), .second, .val (.int p1), .val (.int p2), .val (.int p3), .val (.long v), .second, .val (.int a), .val (.int f), .unset, .unset, .unset] [(.int f), (.int (4 : Int32)), (.ref b1), (.ref b1)])) (fun _ k => XS.iload X13.here hx rfl (hb hby at_48) rfl k) ?_
    obtain ⟨cl16, Ar16, qq16, S16, M16, Hh16, G16⟩ := id (V13)
    have hin16 : ¬ ((4 : Int32) < 0 ∨ cl16.slots.size ≤ ((4 : Int32)).toNatClampNeg) := inb_of S16 ⟨by decide, by decide⟩
    obtain ⟨T16, h16, X16, e16, W16, st16⟩ := stB X13 hx hZ e13 Ar16 (j := (4 : Int32)) hin16 (g := (mkF m 50 #[.val (.long q0), .second, .val (.int p1), .val (.int p2), .val (.int p3), .val (.long v), .second, .val (.int a), .val (.int f), .unset, .unset, .unset] [(.int f), (.int (4 : Int32)), (.ref b1), (.ref b1)])) rfl rfl (hb hby at_50)
    have O17 : Old Z n0 h16 := O14.wr W16 gg1
    have K18 : Keep h0 h16 [] := K15.wr W16 (Or.inr sz1)
    have N16 := Fr.snoc X16 N13 gg1
    have V16 : Arv Z h16 b1 k1 .byte (13 : Int32) [(.int (nar .byte f)), (.int (nar .byte f)), (.int (nar .byte f)), (.int (nar .byte f)), (.int (nar .byte f)), (.int (0 : Int32)), (.int (0 : Int32)), (.int (0 : Int32)), (.int (0 : Int32)), (.int (0 : Int32)), (.int (0 : Int32)), (.int (0 : Int32)), (.int (0 : Int32))] (.int (0 : Int32)) := Arv.set Ar16 qq16 S16 M16 Hh16 G16 (fits_nar_byte _) W16 4 rfl (Nat.le_of_ble_eq_true rfl)
    refine run_fwd (T' := T16) (g' := (mkF m 51 #[.val (.long q0), .second, .val (.int p1), .val (.int p2), .val (.int p3), .val (.long v), .second, .val (.int a), .val (.int f), .unset, .unset, .unset] [(.ref b1)])) (fun _ k => st16 _ k) ?_
    refine run_fwd (T' := T16) (g' := (mkF m 52 #[.val (.long q0), .second, .val (.int p1), .val (.int p2), .val (.int p3), .val (.long v), .second, .val (.int a), .val (.int f), .unset, .unset, .unset] [(.ref b1), (.ref b1)])) (fun _ k => XS.dup X16.here hx rfl (hb hby at_51) rfl rfl k) ?_
    refine run_fwd (T' := T16) (g' := (mkF m 53 #[.val (.long q0), .second, .val (.int p1), .val (.int p2), .val (.int p3), .val (.long v), .second, .val (.int a), .val (.int f), .unset, .unset, .unset] [(.int (5 : Int32)), (.ref b1), (.ref b1)])) (fun _ k => XS.iconst X16.here hx rfl (hb hby at_52) k) ?_
    refine run_fwd (T' := T16) (g' := (mkF m 55 #[.val (.long q0), .second, .val (.int p1), .val (.int p2), .val (.int p3), .val (.long v), .second, .val (.int a), .val (.int f), .unset, .unset, .unset] [(.int f), (.int (5 : Int32)), (.ref b1), (.ref b1)])) (fun _ k => XS.iload X16.here hx rfl (hb hby at_53) rfl k) ?_
    obtain ⟨cl19, Ar19, qq19, S19, M19, Hh19, G19⟩ := id (V16)
    have hin19 : ¬ ((5 : Int32) < 0 ∨ cl19.slots.size ≤ ((5 : Int32)).toNatClampNeg) := inb_of S19 ⟨by decide, by decide⟩
    obtain ⟨T19, h19, X19, e19, W19, st19⟩ := stB X16 hx hZ e16 Ar19 (j := (5 : Int32)) hin19 (g := (mkF m 55 #[.val (.long q0), .second, .val (.int p1), .val (.int p2), .val (.int p3), .val (.long v), .second, .val (.int a), .val (.int f), .unset, .unset, .unset] [(.int f), (.int (5 : Int32)), (.ref b1), (.ref b1)])) rfl rfl (hb hby at_55)
    have O20 : Old Z n0 h19 := O17.wr W19 gg1
    have K21 : Keep h0 h19 [] := K18.wr W19 (Or.inr sz1)
    have N19 := Fr.snoc X19 N16 gg1
    have V19 : Arv Z h19 b1 k1 .byte (13 : Int32) [(.int (nar .byte f)), (.int (nar .byte f)), (.int (nar .byte f)), (.int (nar .byte f)), (.int (nar .byte f)), (.int (nar .byte f)), (.int (0 : Int32)), (.int (0 : Int32)), (.int (0 : Int32)), (.int (0 : Int32)), (.int (0 : Int32)), (.int (0 : Int32)), (.int (0 : Int32))] (.int (0 : Int32)) := Arv.set Ar19 qq19 S19 M19 Hh19 G19 (fits_nar_byte _) W19 5 rfl (Nat.le_of_ble_eq_true rfl)
    refine run_fwd (T' := T19) (g' := (mkF m 56 #[.val (.long q0), .second, .val (.int p1), .val (.int p2), .val (.int p3), .val (.long v), .second, .val (.int a), .val (.int f), .unset, .unset, .unset] [(.ref b1)])) (fun _ k => st19 _ k) ?_
    refine run_fwd (T' := T19) (g' := (mkF m 57 #[.val (.long q0), .second, .val (.int p1), .val (.int p2), .val (.int p3), .val (.long v), .second, .val (.int a), .val (.int f), .unset, .unset, .unset] [(.ref b1), (.ref b1)])) (fun _ k => XS.dup X19.here hx rfl (hb hby at_56) rfl rfl k) ?_
    refine run_fwd (T' := T19) (g' := (mkF m 59 #[.val (.long q0), .second, .val (.int p1), .val (.int p2), .val (.int p3), .val (.long v), .second, .val (.int a), .val (.int f), .unset, .unset, .unset] [(.int (6 : Int32)), (.ref b1), (.ref b1)])) (fun _ k => XS.bipush X19.here hx rfl (hb hby at_57) k) ?_
    refine run_fwd (T' := T19) (g' := (mkF m 61 #[.val (.long q0), .second, .val (.int p1), .val (.int p2), .val (.int p3), .val (.long v), .second, .val (.int a), .val (.int f), .unset, .unset, .unset] [(.int f), (.int (6 : Int32)), (.ref b1), (.ref b1)])) (fun _ k => XS.iload X19.here hx rfl (hb hby at_59) rfl k) ?_
    obtain ⟨cl22, Ar22, qq22, S22, M22, Hh22, G22⟩ := id (V19)
    have hin22 : ¬ ((6 : Int32) < 0 ∨ cl22.slots.size ≤ ((6 : Int32)).toNatClampNeg) := inb_of S22 ⟨by decide, by decide⟩
    obtain ⟨T22, h22, X22, e22, W22, st22⟩ := stB X19 hx hZ e19 Ar22 (j := (6 : Int32)) hin22 (g := (mkF m 61 #[.val (.long q0), .second, .val (.int p1), .val (.int p2), .val (.int p3), .val (.long v), .second, .val (.int a), .val (.int f), .unset, .unset, .unset] [(.int f), (.int (6 : Int32)), (.ref b1), (.ref b1)])) rfl rfl (hb hby at_61)
    have O23 : Old Z n0 h22 := O20.wr W22 gg1
    have K24 : Keep h0 h22 [] := K21.wr W22 (Or.inr sz1)
    have N22 := Fr.snoc X22 N19 gg1
    have V22 : Arv Z h22 b1 k1 .byte (13 : Int32) [(.int (nar .byte f)), (.int (nar .byte f)), (.int (nar .byte f)), (.int (nar .byte f)), (.int (nar .byte f)), (.int (nar .byte f)), (.int (nar .byte f)), (.int (0 : Int32)), (.int (0 : Int32)), (.int (0 : Int32)), (.int (0 : Int32)), (.int (0 : Int32)), (.int (0 : Int32))] (.int (0 : Int32)) := Arv.set Ar22 qq22 S22 M22 Hh22 G22 (fits_nar_byte _) W22 6 rfl (Nat.le_of_ble_eq_true rfl)
    refine run_fwd (T' := T22) (g' := (mkF m 62 #[.val (.long q0), .second, .val (.int p1), .val (.int p2), .val (.int p3), .val (.long v), .second, .val (.int a), .val (.int f), .unset, .unset, .unset] [(.ref b1)])) (fun _ k => st22 _ k) ?_
    refine run_fwd (T' := T22) (g' := (mkF m 63 #[.val (.long q0), .second, .val (.int p1), .val (.int p2), .val (.int p3), .val (.long v), .second, .val (.int a), .val (.int f), .unset, .unset, .unset] [(.ref b1), (.ref b1)])) (fun _ k => XS.dup X22.here hx rfl (hb hby at_62) rfl rfl k) ?_
    refine run_fwd (T' := T22) (g' := (mkF m 65 #[.val (.long q0), .second, .val (.int p1), .val (.int p2), .val (.int p3), .val (.long v), .second, .val (.int a), .val (.int f), .unset, .unset, .unset] [(.int (7 : Int32)), (.ref b1), (.ref b1)])) (fun _ k => XS.bipush X22.here hx rfl (hb hby at_63) k) ?_
    refine run_fwd (T' := T22) (g' := (mkF m 67 #[.val (.long q0), .second, .val (.int p1), .val (.int p2), .val (.int p3), .val (.long v), .second, .val (.int a), .val (.int f), .unset, .unset, .unset] [(.int f), (.int (7 : Int32)), (.ref b1), (.ref b1)])) (fun _ k => XS.iload X22.here hx rfl (hb hby at_65) rfl k) ?_
    obtain ⟨cl25, Ar25, qq25, S25, M25, Hh25, G25⟩ := id (V22)
    have hin25 : ¬ ((7 : Int32) < 0 ∨ cl25.slots.size ≤ ((7 : Int32)).toNatClampNeg) := inb_of S25 ⟨by decide, by decide⟩
    obtain ⟨T25, h25, X25, e25, W25, st25⟩ := stB X22 hx hZ e22 Ar25 (j := (7 : Int32)) hin25 (g := (mkF m 67 #[.val (.long q0), .second, .val (.int p1), .val (.int p2), .val (.int p3), .val (.long v), .second, .val (.int a), .val (.int f), .unset, .unset, .unset] [(.int f), (.int (7 : Int32)), (.ref b1), (.ref b1)])) rfl rfl (hb hby at_67)
    have O26 : Old Z n0 h25 := O23.wr W25 gg1
    have K27 : Keep h0 h25 [] := K24.wr W25 (Or.inr sz1)
    have N25 := Fr.snoc X25 N22 gg1
    have V25 : Arv Z h25 b1 k1 .byte (13 : Int32) [(.int (nar .byte f)), (.int (nar .byte f)), (.int (nar .byte f)), (.int (nar .byte f)), (.int (nar .byte f)), (.int (nar .byte f)), (.int (nar .byte f)), (.int (nar .byte f)), (.int (0 : Int32)), (.int (0 : Int32)), (.int (0 : Int32)), (.int (0 : Int32)), (.int (0 : Int32))] (.int (0 : Int32)) := Arv.set Ar25 qq25 S25 M25 Hh25 G25 (fits_nar_byte _) W25 7 rfl (Nat.le_of_ble_eq_true rfl)
    refine run_fwd (T' := T25) (g' := (mkF m 68 #[.val (.long q0), .second, .val (.int p1), .val (.int p2), .val (.int p3), .val (.long v), .second, .val (.int a), .val (.int f), .unset, .unset, .unset] [(.ref b1)])) (fun _ k => st25 _ k) ?_
    refine run_fwd (T' := T25) (g' := (mkF m 69 #[.val (.long q0), .second, .val (.int p1), .val (.int p2), .val (.int p3), .val (.long v), .second, .val (.int a), .val (.int f), .unset, .unset, .unset] [(.ref b1), (.ref b1)])) (fun _ k => XS.dup X25.here hx rfl (hb hby at_68) rfl rfl k) ?_
    refine run_fwd (T' := T25) (g' := (mkF m 71 #[.val (.long q0), .second, .val (.int p1), .val (.int p2), .val (.int p3), .val (.long v), .second, .val (.int a), .val (.int f), .unset, .unset, .unset] [(.int (8 : Int32)), (.ref b1), (.ref b1)])) (fun _ k => XS.bipush X25.here hx rfl (hb hby at_69) k) ?_
    refine run_fwd (T' := T25) (g' := (mkF m 73 #[.val (.long q0), .second, .val (.int p1), .val (.int p2), .val (.int p3), .val (.long v), .second, .val (.int a), .val (.int f), .unset, .unset, .unset] [(.int f), (.int (8 : Int32)), (.ref b1), (.ref b1)])) (fun _ k => XS.iload X25.here hx rfl (hb hby at_71) rfl k) ?_
    obtain ⟨cl28, Ar28, qq28, S28, M28, Hh28, G28⟩ := id (V25)
    have hin28 : ¬ ((8 : Int32) < 0 ∨ cl28.slots.size ≤ ((8 : Int32)).toNatClampNeg) := inb_of S28 ⟨by decide, by decide⟩
    obtain ⟨T28, h28, X28, e28, W28, st28⟩ := stB X25 hx hZ e25 Ar28 (j := (8 : Int32)) hin28 (g := (mkF m 73 #[.val (.long q0), .second, .val (.int p1), .val (.int p2), .val (.int p3), .val (.long v), .second, .val (.int a), .val (.int f), .unset, .unset, .unset] [(.int f), (.int (8 : Int32)), (.ref b1), (.ref b1)])) rfl rfl (hb hby at_73)
    have O29 : Old Z n0 h28 := O26.wr W28 gg1
    have K30 : Keep h0 h28 [] := K27.wr W28 (Or.inr sz1)
    have N28 := Fr.snoc X28 N25 gg1
    have V28 : Arv Z h28 b1 k1 .byte (13 : Int32) [(.int (nar .byte f)), (.int (nar .byte f)), (.int (nar .byte f)), (.int (nar .byte f)), (.int (nar .byte f)), (.int (nar .byte f)), (.int (nar .byte f)), (.int (nar .byte f)), (.int (nar .byte f)), (.int (0 : Int32)), (.int (0 : Int32)), (.int (0 : Int32)), (.int (0 : Int32))] (.int (0 : Int32)) := Arv.set Ar28 qq28 S28 M28 Hh28 G28 (fits_nar_byte _) W28 8 rfl (Nat.le_of_ble_eq_true rfl)
    refine run_fwd (T' := T28) (g' := (mkF m 74 #[.val (.long q0), .second, .val (.int p1), .val (.int p2), .val (.int p3), .val (.long v), .second, .val (.int a), .val (.int f), .unset, .unset, .unset] [(.ref b1)])) (fun _ k => st28 _ k) ?_
    refine run_fwd (T' := T28) (g' := (mkF m 75 #[.val (.long q0), .second, .val (.int p1), .val (.int p2), .val (.int p3), .val (.long v), .second, .val (.int a), .val (.int f), .unset, .unset, .unset] [(.ref b1), (.ref b1)])) (fun _ k => XS.dup X28.here hx rfl (hb hby at_74) rfl rfl k) ?_
    refine run_fwd (T' := T28) (g' := (mkF m 77 #[.val (.long q0), .second, .val (.int p1), .val (.int p2), .val (.int p3), .val (.long v), .second, .val (.int a), .val (.int f), .unset, .unset, .unset] [(.int (9 : Int32)), (.ref b1), (.ref b1)])) (fun _ k => XS.bipush X28.here hx rfl (hb hby at_75) k) ?_
    refine run_fwd (T' := T28) (g' := (mkF m 79 #[.val (.long q0), .second, .val (.int p1), .val (.int p2), .val (.int p3), .val (.long v), .second, .val (.int a), .val (.int f), .unset, .unset, .unset] [(.int f), (.int (9 : Int32)), (.ref b1), (.ref b1)])) (fun _ k => XS.iload X28.here hx rfl (hb hby at_77) rfl k) ?_
    obtain ⟨cl31, Ar31, qq31, S31, M31, Hh31, G31⟩ := id (V28)
    have hin31 : ¬ ((9 : Int32) < 0 ∨ cl31.slots.size ≤ ((9 : Int32)).toNatClampNeg) := inb_of S31 ⟨by decide, by decide⟩
    obtain ⟨T31, h31, X31, e31, W31, st31⟩ := stB X28 hx hZ e28 Ar31 (j := (9 : Int32)) hin31 (g := (mkF m 79 #[.val (.long q0), .second, .val (.int p1), .val (.int p2), .val (.int p3), .val (.long v), .second, .val (.int a), .val (.int f), .unset, .unset, .unset] [(.int f), (.int (9 : Int32)), (.ref b1), (.ref b1)])) rfl rfl (hb hby at_79)
    have O32 : Old Z n0 h31 := O29.wr W31 gg1
    have K33 : Keep h0 h31 [] := K30.wr W31 (Or.inr sz1)
    have N31 := Fr.snoc X31 N28 gg1
    have V31 : Arv Z h31 b1 k1 .byte (13 : Int32) [(.int (nar .byte f)), (.int (nar .byte f)), (.int (nar .byte f)), (.int (nar .byte f)), (.int (nar .byte f)), (.int (nar .byte f)), (.int (nar .byte f)), (.int (nar .byte f)), (.int (nar .byte f)), (.int (nar .byte f)), (.int (0 : Int32)), (.int (0 : Int32)), (.int (0 : Int32))] (.int (0 : Int32)) := Arv.set Ar31 qq31 S31 M31 Hh31 G31 (fits_nar_byte _) W31 9 rfl (Nat.le_of_ble_eq_true rfl)
    refine run_fwd (T' := T31) (g' := (mkF m 80 #[.val (.long q0), .second, .val (.int p1), .val (.int p2), .val (.int p3), .val (.long v), .second, .val (.int a), .val (.int f), .unset, .unset, .unset] [(.ref b1)])) (fun _ k => st31 _ k) ?_
    refine run_fwd (T' := T31) (g' := (mkF m 81 #[.val (.long q0), .second, .val (.int p1), .val (.int p2), .val (.int p3), .val (.long v), .second, .val (.int a), .val (.int f), .unset, .unset, .unset] [(.ref b1), (.ref b1)])) (fun _ k => XS.dup X31.here hx rfl (hb hby at_80) rfl rfl k) ?_
    refine run_fwd (T' := T31) (g' := (mkF m 83 #[.val (.long q0), .second, .val (.int p1), .val (.int p2), .val (.int p3), .val (.long v), .second, .val (.int a), .val (.int f), .unset, .unset, .unset] [(.int (10 : Int32)), (.ref b1), (.ref b1)])) (fun _ k => XS.bipush X31.here hx rfl (hb hby at_81) k) ?_
    refine run_fwd (T' := T31) (g' := (mkF m 85 #[.val (.long q0), .second, .val (.int p1), .val (.int p2), .val (.int p3), .val (.long v), .second, .val (.int a), .val (.int f), .unset, .unset, .unset] [(.int f), (.int (10 : Int32)), (.ref b1), (.ref b1)])) (fun _ k => XS.iload X31.here hx rfl (hb hby at_83) rfl k) ?_
    obtain ⟨cl34, Ar34, qq34, S34, M34, Hh34, G34⟩ := id (V31)
    have hin34 : ¬ ((10 : Int32) < 0 ∨ cl34.slots.size ≤ ((10 : Int32)).toNatClampNeg) := inb_of S34 ⟨by decide, by decide⟩
    obtain ⟨T34, h34, X34, e34, W34, st34⟩ := stB X31 hx hZ e31 Ar34 (j := (10 : Int32)) hin34 (g := (mkF m 85 #[.val (.long q0), .second, .val (.int p1), .val (.int p2), .val (.int p3), .val (.long v), .second, .val (.int a), .val (.int f), .unset, .unset, .unset] [(.int f), (.int (10 : Int32)), (.ref b1), (.ref b1)])) rfl rfl (hb hby at_85)
    have O35 : Old Z n0 h34 := O32.wr W34 gg1
    have K36 : Keep h0 h34 [] := K33.wr W34 (Or.inr sz1)
    have N34 := Fr.snoc X34 N31 gg1
    have V34 : Arv Z h34 b1 k1 .byte (13 : Int32) [(.int (nar .byte f)), (.int (nar .byte f)), (.int (nar .byte f)), (.int (nar .byte f)), (.int (nar .byte f)), (.int (nar .byte f)), (.int (nar .byte f)), (.int (nar .byte f)), (.int (nar .byte f)), (.int (nar .byte f)), (.int (nar .byte f)), (.int (0 : Int32)), (.int (0 : Int32))] (.int (0 : Int32)) := Arv.set Ar34 qq34 S34 M34 Hh34 G34 (fits_nar_byte _) W34 10 rfl (Nat.le_of_ble_eq_true rfl)
    refine run_fwd (T' := T34) (g' := (mkF m 86 #[.val (.long q0), .second, .val (.int p1), .val (.int p2), .val (.int p3), .val (.long v), .second, .val (.int a), .val (.int f), .unset, .unset, .unset] [(.ref b1)])) (fun _ k => st34 _ k) ?_
    refine run_fwd (T' := T34) (g' := (mkF m 87 #[.val (.long q0), .second, .val (.int p1), .val (.int p2), .val (.int p3), .val (.long v), .second, .val (.int a), .val (.int f), .unset, .unset, .unset] [(.ref b1), (.ref b1)])) (fun _ k => XS.dup X34.here hx rfl (hb hby at_86) rfl rfl k) ?_
    refine run_fwd (T' := T34) (g' := (mkF m 89 #[.val (.long q0), .second, .val (.int p1), .val (.int p2), .val (.int p3), .val (.long v), .second, .val (.int a), .val (.int f), .unset, .unset, .unset] [(.int (11 : Int32)), (.ref b1), (.ref b1)])) (fun _ k => XS.bipush X34.here hx rfl (hb hby at_87) k) ?_
    refine run_fwd (T' := T34) (g' := (mkF m 91 #[.val (.long q0), .second, .val (.int p1), .val (.int p2), .val (.int p3), .val (.long v), .second, .val (.int a), .val (.int f), .unset, .unset, .unset] [(.int f), (.int (11 : Int32)), (.ref b1), (.ref b1)])) (fun _ k => XS.iload X34.here hx rfl (hb hby at_89) rfl k) ?_
    obtain ⟨cl37, Ar37, qq37, S37, M37, Hh37, G37⟩ := id (V34)
    have hin37 : ¬ ((11 : Int32) < 0 ∨ cl37.slots.size ≤ ((11 : Int32)).toNatClampNeg) := inb_of S37 ⟨by decide, by decide⟩
    obtain ⟨T37, h37, X37, e37, W37, st37⟩ := stB X34 hx hZ e34 Ar37 (j := (11 : Int32)) hin37 (g := (mkF m 91 #[.val (.long q0), .second, .val (.int p1), .val (.int p2), .val (.int p3), .val (.long v), .second, .val (.int a), .val (.int f), .unset, .unset, .unset] [(.int f), (.int (11 : Int32)), (.ref b1), (.ref b1)])) rfl rfl (hb hby at_91)
    have O38 : Old Z n0 h37 := O35.wr W37 gg1
    have K39 : Keep h0 h37 [] := K36.wr W37 (Or.inr sz1)
    have N37 := Fr.snoc X37 N34 gg1
    have V37 : Arv Z h37 b1 k1 .byte (13 : Int32) [(.int (nar .byte f)), (.int (nar .byte f)), (.int (nar .byte f)), (.int (nar .byte f)), (.int (nar .byte f)), (.int (nar .byte f)), (.int (nar .byte f)), (.int (nar .byte f)), (.int (nar .byte f)), (.int (nar .byte f)), (.int (nar .byte f)), (.int (nar .byte f)), (.int (0 : Int32))] (.int (0 : Int32)) := Arv.set Ar37 qq37 S37 M37 Hh37 G37 (fits_nar_byte _) W37 11 rfl (Nat.le_of_ble_eq_true rfl)
    refine run_fwd (T' := T37) (g' := (mkF m 92 #[.val (.long q0), .second, .val (.int p1), .val (.int p2), .val (.int p3), .val (.long v), .second, .val (.int a), .val (.int f), .unset, .unset, .unset] [(.ref b1)])) (fun _ k => st37 _ k) ?_
    refine run_fwd (T' := T37) (g' := (mkF m 93 #[.val (.long q0), .second, .val (.int p1), .val (.int p2), .val (.int p3), .val (.long v), .second, .val (.int a), .val (.int f), .unset, .unset, .unset] [(.ref b1), (.ref b1)])) (fun _ k => XS.dup X37.here hx rfl (hb hby at_92) rfl rfl k) ?_
    refine run_fwd (T' := T37) (g' := (mkF m 95 #[.val (.long q0), .second, .val (.int p1), .val (.int p2), .val (.int p3), .val (.long v), .second, .val (.int a), .val (.int f), .unset, .unset, .unset] [(.int (12 : Int32)), (.ref b1), (.ref b1)])) (fun _ k => XS.bipush X37.here hx rfl (hb hby at_93) k) ?_
    refine run_fwd (T' := T37) (g' := (mkF m 97 #[.val (.long q0), .second, .val (.int p1), .val (.int p2), .val (.int p3), .val (.long v), .second, .val (.int a), .val (.int f), .unset, .unset, .unset] [(.int f), (.int (12 : Int32)), (.ref b1), (.ref b1)])) (fun _ k => XS.iload X37.here hx rfl (hb hby at_95) rfl k) ?_
    obtain ⟨cl40, Ar40, qq40, S40, M40, Hh40, G40⟩ := id (V37)
    have hin40 : ¬ ((12 : Int32) < 0 ∨ cl40.slots.size ≤ ((12 : Int32)).toNatClampNeg) := inb_of S40 ⟨by decide, by decide⟩
    obtain ⟨T40, h40, X40, e40, W40, st40⟩ := stB X37 hx hZ e37 Ar40 (j := (12 : Int32)) hin40 (g := (mkF m 97 #[.val (.long q0), .second, .val (.int p1), .val (.int p2), .val (.int p3), .val (.long v), .second, .val (.int a), .val (.int f), .unset, .unset, .unset] [(.int f), (.int (12 : Int32)), (.ref b1), (.ref b1)])) rfl rfl (hb hby at_97)
    have O41 : Old Z n0 h40 := O38.wr W40 gg1
    have K42 : Keep h0 h40 [] := K39.wr W40 (Or.inr sz1)
    have N40 := Fr.snoc X40 N37 gg1
    have V40 : Arv Z h40 b1 k1 .byte (13 : Int32) [(.int (nar .byte f)), (.int (nar .byte f)), (.int (nar .byte f)), (.int (nar .byte f)), (.int (nar .byte f)), (.int (nar .byte f)), (.int (nar .byte f)), (.int (nar .byte f)), (.int (nar .byte f)), (.int (nar .byte f)), (.int (nar .byte f)), (.int (nar .byte f)), (.int (nar .byte f))] (.int (0 : Int32)) := Arv.set Ar40 qq40 S40 M40 Hh40 G40 (fits_nar_byte _) W40 12 rfl (Nat.le_of_ble_eq_true rfl)
    refine run_fwd (T' := T40) (g' := (mkF m 98 #[.val (.long q0), .second, .val (.int p1), .val (.int p2), .val (.int p3), .val (.long v), .second, .val (.int a), .val (.int f), .unset, .unset, .unset] [(.ref b1)])) (fun _ k => st40 _ k) ?_
    refine run_fwd (T' := T40) (g' := (mkF m 100 #[.val (.long q0), .second, .val (.int p1), .val (.int p2), .val (.int p3), .val (.long v), .second, .val (.int a), .val (.int f), .val (.ref b1), .unset, .unset] [])) (fun _ k => XS.astore X40.here hx rfl (hb hby at_98) rfl rfl (l' := #[.val (.long q0), .second, .val (.int p1), .val (.int p2), .val (.int p3), .val (.long v), .second, .val (.int a), .val (.int f), .val (.ref b1), .unset, .unset]) rfl k) ?_
    refine run_fwd (T' := T40) (g' := (mkF m 102 #[.val (.long q0), .second, .val (.int p1), .val (.int p2), .val (.int p3), .val (.long v), .second, .val (.int a), .val (.int f), .val (.ref b1), .unset, .unset] [(.long v)])) (fun _ k => XS.lload X40.here hx rfl (hb hby at_100) rfl k) ?_
    obtain ⟨T43, v43, L43, X43, hQ43, st43⟩ := own_gotS X40 (Jvm.LawKit.callS X40 hx (y := (⟨"querent/index/IndexFileWriteVLongPinLaw", "size", "(J)I"⟩ : MethodName)) hown (mvT hZ (hw _ (List.mem_of_getElem? (i := 2) rfl))) (mvT hZ (hw _ (List.mem_of_getElem? (i := 3) rfl))) (mvT hZ (hw _ (List.mem_of_getElem? (i := 4) rfl))) (mvT hZ (hw _ (List.mem_of_getElem? (i := 5) rfl))) (by decide) (backOf (W := 0) (rm1 l Z aV hw [] v h40 n0 O41 ) hZ (hw _ (List.mem_of_getElem? (i := 5) rfl)) (hw _ (List.mem_of_getElem? (i := 4) rfl)) (by decide) (by decide)) (g := (mkF m 102 #[.val (.long q0), .second, .val (.int p1), .val (.int p2), .val (.int p3), .val (.long v), .second, .val (.int a), .val (.int f), .val (.ref b1), .unset, .unset] [(.long v)])) rfl (by rw [hml]; rfl) (argsL := [(.long v)]) (rest := []) (lenOf pd__28J_29I rfl) rfl (by show 2 * 0 + _ ≤ _; exact Nat.le_of_eq rfl) (hb hby at_102) (fun _ _ => ⟨rfl, e40, (by decide : 1 + 0 ≤ _), (by decide : 13 + 0 ≤ _)⟩))
    obtain ⟨rfl, N43q, Q43_0⟩ := hQ43
    have N43 := Fr.app N40 N43q
    refine run_fwd (T' := T43) (g' := (mkF m 105 #[.val (.long q0), .second, .val (.int p1), .val (.int p2), .val (.int p3), .val (.long v), .second, .val (.int a), .val (.int f), .val (.ref b1), .unset, .unset] [(.int (own_sz v))])) (fun _ k => st43 _ k) ?_
    refine run_fwd (T' := T43) (g' := (mkF m 107 #[.val (.long q0), .second, .val (.int p1), .val (.int p2), .val (.int p3), .val (.long v), .second, .val (.int a), .val (.int f), .val (.ref b1), .val (.int (own_sz v)), .unset] [])) (fun _ k => XS.istore X43.here hx rfl (hb hby at_105) rfl (l' := #[.val (.long q0), .second, .val (.int p1), .val (.int p2), .val (.int p3), .val (.long v), .second, .val (.int a), .val (.int f), .val (.ref b1), .val (.int (own_sz v)), .unset]) rfl k) ?_
    refine run_fwd (T' := T43) (g' := (mkF m 109 #[.val (.long q0), .second, .val (.int p1), .val (.int p2), .val (.int p3), .val (.long v), .second, .val (.int a), .val (.int f), .val (.ref b1), .val (.int (own_sz v)), .unset] [(.ref b1)])) (fun _ k => XS.aload X43.here hx rfl (hb hby at_107) rfl rfl k) ?_
    refine run_fwd (T' := T43) (g' := (mkF m 111 #[.val (.long q0), .second, .val (.int p1), .val (.int p2), .val (.int p3), .val (.long v), .second, .val (.int a), .val (.int f), .val (.ref b1), .val (.int (own_sz v)), .unset] [(.int a), (.ref b1)])) (fun _ k => XS.iload X43.here hx rfl (hb hby at_109) rfl k) ?_
    refine run_fwd (T' := T43) (g' := (mkF m 113 #[.val (.long q0), .second, .val (.int p1), .val (.int p2), .val (.int p3), .val (.long v), .second, .val (.int a), .val (.int f), .val (.ref b1), .val (.int (own_sz v)), .unset] [(.long v), (.int a), (.ref b1)])) (fun _ k => XS.lload X43.here hx rfl (hb hby at_111) rfl k) ?_
    obtain ⟨T44, v44, L44, X44, hQ44, st44⟩ := own_gotS X43 (Jvm.LawKit.callS X43 hx (y := (⟨"querent/index/IndexFile", "writeVLong", "([BIJ)I"⟩ : MethodName)) hown (mvT hZ (hw _ (List.mem_of_getElem? (i := 7) rfl))) (mvT hZ (hw _ (List.mem_of_getElem? (i := 8) rfl))) (mvT hZ (hw _ (List.mem_of_getElem? (i := 9) rfl))) (mvT hZ (hw _ (List.mem_of_getElem? (i := 10) rfl))) (by decide) (backOf (W := 0) (rm2 l Z aV hw [] b1 a v k1 ([(.int (nar .byte f)), (.int (nar .byte f)), (.int (nar .byte f)), (.int (nar .byte f)), (.int (nar .byte f)), (.int (nar .byte f)), (.int (nar .byte f)), (.int (nar .byte f)), (.int (nar .byte f)), (.int (nar .byte f)), (.int (nar .byte f)), (.int (nar .byte f)), (.int (nar .byte f))]) f h40 n0 O41 gg1 V40 (fun i hi => by rw [hf]; exact own_rep f i hi) (rfl) (hv) (ha)) hZ (hw _ (List.mem_of_getElem? (i := 10) rfl)) (hw _ (List.mem_of_getElem? (i := 9) rfl)) (by decide) (by decide)) (g := (mkF m 113 #[.val (.long q0), .second, .val (.int p1), .val (.int p2), .val (.int p3), .val (.long v), .second, .val (.int a), .val (.int f), .val (.ref b1), .val (.int (own_sz v)), .unset] [(.long v), (.int a), (.ref b1)])) rfl (by rw [hml]; rfl) (argsL := [(.ref b1), (.int a), (.long v)]) (rest := []) (lenOf pd__28_5bBIJ_29I rfl) rfl (by show 2 * 0 + _ ≤ _; exact Nat.le_of_eq rfl) (hb hby at_113) (fun _ _ => ⟨rfl, Q43_0, (by decide : 1 + 0 ≤ _), (by decide : 13 + 0 ≤ _)⟩))
    obtain ⟨rfl, N44q, Q44_0, Q44_1⟩ := hQ44
    have N44 := Fr.app N43 N44q
    obtain ⟨h44, e44⟩ : ∃ z, T44.heap = z := ⟨_, rfl⟩
    rw [e44] at Q44_0 Q44_1
    have O45 : Old Z n0 h44 := O41.keep Q44_0 (allS gg1 all0)
    have K46 : Keep h0 h44 [] := K42.trans Q44_0 (allS (Or.inr sz1) all0)
    refine run_fwd (T' := T44) (g' := (mkF m 116 #[.val (.long q0), .second, .val (.int p1), .val (.int p2), .val (.int p3), .val (.long v), .second, .val (.int a), .val (.int f), .val (.ref b1), .val (.int (own_sz v)), .unset] [(.int (a + (own_sz v)))])) (fun _ k => st44 _ k) ?_
    refine run_fwd (T' := T44) (g' := (mkF m 118 #[.val (.long q0), .second, .val (.int p1), .val (.int p2), .val (.int p3), .val (.long v), .second, .val (.int a), .val (.int f), .val (.ref b1), .val (.int (own_sz v)), .val (.int (a + (own_sz v)))] [])) (fun _ k => XS.istore X44.here hx rfl (hb hby at_116) rfl (l' := #[.val (.long q0), .second, .val (.int p1), .val (.int p2), .val (.int p3), .val (.long v), .second, .val (.int a), .val (.int f), .val (.ref b1), .val (.int (own_sz v)), .val (.int (a + (own_sz v)))]) rfl k) ?_
    refine run_fwd (T' := T44) (g' := (mkF m 120 #[.val (.long q0), .second, .val (.int p1), .val (.int p2), .val (.int p3), .val (.long v), .second, .val (.int a), .val (.int f), .val (.ref b1), .val (.int (own_sz v)), .val (.int (a + (own_sz v)))] [(.int (a + (own_sz v)))])) (fun _ k => XS.iload X44.here hx rfl (hb hby at_118) rfl k) ?_
    refine run_fwd (T' := T44) (g' := (mkF m 122 #[.val (.long q0), .second, .val (.int p1), .val (.int p2), .val (.int p3), .val (.long v), .second, .val (.int a), .val (.int f), .val (.ref b1), .val (.int (own_sz v)), .val (.int (a + (own_sz v)))] [(.int a), (.int (a + (own_sz v)))])) (fun _ k => XS.iload X44.here hx rfl (hb hby at_120) rfl k) ?_
    refine run_fwd (T' := T44) (g' := (mkF m 124 #[.val (.long q0), .second, .val (.int p1), .val (.int p2), .val (.int p3), .val (.long v), .second, .val (.int a), .val (.int f), .val (.ref b1), .val (.int (own_sz v)), .val (.int (a + (own_sz v)))] [(.int (own_sz v)), (.int a), (.int (a + (own_sz v)))])) (fun _ k => XS.iload X44.here hx rfl (hb hby at_122) rfl k) ?_
    refine run_fwd (T' := T44) (g' := (mkF m 125 #[.val (.long q0), .second, .val (.int p1), .val (.int p2), .val (.int p3), .val (.long v), .second, .val (.int a), .val (.int f), .val (.ref b1), .val (.int (own_sz v)), .val (.int (a + (own_sz v)))] [(.int (a + (own_sz v))), (.int (a + (own_sz v)))])) (fun _ k => XS.iadd X44.here hx rfl (hb hby at_124) rfl k) ?_
    have hc125_47 : (a + (own_sz v)) = (a + (own_sz v)) := rfl
    refine run_fwd (T' := T44) (g' := (mkF m 130 #[.val (.long q0), .second, .val (.int p1), .val (.int p2), .val (.int p3), .val (.long v), .second, .val (.int a), .val (.int f), .val (.ref b1), .val (.int (own_sz v)), .val (.int (a + (own_sz v)))] [])) (fun _ k => XS.icmpYes X44.here hx rfl (pc0 := 125) (pc' := 130) rfl (hb hby at_125) rfl (teq hc125_47).1 (by decide) (by decide) k) ?_
    refine run_fwd (T' := T44) (g' := (mkF m 132 #[.val (.long q0), .second, .val (.int p1), .val (.int p2), .val (.int p3), .val (.long v), .second, .val (.int a), .val (.int f), .val (.ref b1), .val (.int (own_sz v)), .val (.int (a + (own_sz v)))] [(.ref b1)])) (fun _ k => XS.aload X44.here hx rfl (hb hby at_130) rfl rfl k) ?_
    refine run_fwd (T' := T44) (g' := (mkF m 133 #[.val (.long q0), .second, .val (.int p1), .val (.int p2), .val (.int p3), .val (.long v), .second, .val (.int a), .val (.int f), .val (.ref b1), .val (.int (own_sz v)), .val (.int (a + (own_sz v)))] [(.int (0 : Int32)), (.ref b1)])) (fun _ k => XS.iconst X44.here hx rfl (hb hby at_132) k) ?_
    refine run_fwd (T' := T44) (g' := (mkF m 135 #[.val (.long q0), .second, .val (.int p1), .val (.int p2), .val (.int p3), .val (.long v), .second, .val (.int a), .val (.int f), .val (.ref b1), .val (.int (own_sz v)), .val (.int (a + (own_sz v)))] [(.int a), (.int (0 : Int32)), (.ref b1)])) (fun _ k => XS.iload X44.here hx rfl (hb hby at_133) rfl k) ?_
    refine run_fwd (T' := T44) (g' := (mkF m 137 #[.val (.long q0), .second, .val (.int p1), .val (.int p2), .val (.int p3), .val (.long v), .second, .val (.int a), .val (.int f), .val (.ref b1), .val (.int (own_sz v)), .val (.int (a + (own_sz v)))] [(.int (own_sz v)), (.int a), (.int (0 : Int32)), (.ref b1)])) (fun _ k => XS.iload X44.here hx rfl (hb hby at_135) rfl k) ?_
    refine run_fwd (T' := T44) (g' := (mkF m 139 #[.val (.long q0), .second, .val (.int p1), .val (.int p2), .val (.int p3), .val (.long v), .second, .val (.int a), .val (.int f), .val (.ref b1), .val (.int (own_sz v)), .val (.int (a + (own_sz v)))] [(.long v), (.int (own_sz v)), (.int a), (.int (0 : Int32)), (.ref b1)])) (fun _ k => XS.lload X44.here hx rfl (hb hby at_137) rfl k) ?_
    refine run_fwd (T' := T44) (g' := (mkF m 141 #[.val (.long q0), .second, .val (.int p1), .val (.int p2), .val (.int p3), .val (.long v), .second, .val (.int a), .val (.int f), .val (.ref b1), .val (.int (own_sz v)), .val (.int (a + (own_sz v)))] [(.int f), (.long v), (.int (own_sz v)), (.int a), (.int (0 : Int32)), (.ref b1)])) (fun _ k => XS.iload X44.here hx rfl (hb hby at_139) rfl k) ?_
    obtain ⟨T48, v48, L48, X48, hQ48, st48⟩ := own_gotS X44 (Jvm.LawKit.callS X44 hx (y := (⟨"querent/index/IndexFileWriteVLongPinLaw", "ok", "([BIIIJB)Z"⟩ : MethodName)) hown (mvT hZ (hw _ (List.mem_of_getElem? (i := 12) rfl))) (mvT hZ (hw _ (List.mem_of_getElem? (i := 13) rfl))) (mvT hZ (hw _ (List.mem_of_getElem? (i := 4) rfl))) (mvT hZ (hw _ (List.mem_of_getElem? (i := 14) rfl))) (by decide) (backOf (W := 0) (rm3 l Z aV hw [] b1 (0 : Int32) a (own_sz v) v f k1 (own_tab (own_Y v a f) 13) (own_Y v a f 0) h44 n0 O45 Q44_1 (⟨by decide, by decide⟩) (own_get _ 13 _ 0 (by decide) (by decide) _) (own_out v hv a f _ 0 (by decide) (by decide) ha.1 ha.2) (own_in1 v hv a f _ 0 (by decide) (by decide) ha.1 ha.2) (own_in2 v hv a f _ 0 (by decide) (by decide) ha.1 ha.2)) hZ (hw _ (List.mem_of_getElem? (i := 14) rfl)) (hw _ (List.mem_of_getElem? (i := 4) rfl)) (by decide) (by decide)) (g := (mkF m 141 #[.val (.long q0), .second, .val (.int p1), .val (.int p2), .val (.int p3), .val (.long v), .second, .val (.int a), .val (.int f), .val (.ref b1), .val (.int (own_sz v)), .val (.int (a + (own_sz v)))] [(.int f), (.long v), (.int (own_sz v)), (.int a), (.int (0 : Int32)), (.ref b1)])) rfl (by rw [hml]; rfl) (argsL := [(.ref b1), (.int (0 : Int32)), (.int a), (.int (own_sz v)), (.long v), (.int f)]) (rest := []) (lenOf pd__28_5bBIIIJB_29Z rfl) rfl (by show 2 * 0 + _ ≤ _; exact Nat.le_of_eq rfl) (hb hby at_141) (fun _ _ => ⟨rfl, e44, (by decide : 1 + 0 ≤ _), (by decide : 13 + 0 ≤ _)⟩))
    obtain ⟨rfl, N48q, Q48_0⟩ := hQ48
    have N48 := Fr.app N44 N48q
    refine run_fwd (T' := T48) (g' := (mkF m 144 #[.val (.long q0), .second, .val (.int p1), .val (.int p2), .val (.int p3), .val (.long v), .second, .val (.int a), .val (.int f), .val (.ref b1), .val (.int (own_sz v)), .val (.int (a + (own_sz v)))] [(.int (1 : Int32))])) (fun _ k => st48 _ k) ?_
    have hc144_49 : ¬ ((1 : Int32) = (0 : Int32)) := (by decide)
    refine run_fwd (T' := T48) (g' := (mkF m 147 #[.val (.long q0), .second, .val (.int p1), .val (.int p2), .val (.int p3), .val (.long v), .second, .val (.int a), .val (.int f), .val (.ref b1), .val (.int (own_sz v)), .val (.int (a + (own_sz v)))] [])) (fun _ k => XS.ifNo X48.here hx rfl (hb hby at_144) rfl ((if0 _ _).trans (feq hc144_49).1) k) ?_
    refine run_fwd (T' := T48) (g' := (mkF m 149 #[.val (.long q0), .second, .val (.int p1), .val (.int p2), .val (.int p3), .val (.long v), .second, .val (.int a), .val (.int f), .val (.ref b1), .val (.int (own_sz v)), .val (.int (a + (own_sz v)))] [(.ref b1)])) (fun _ k => XS.aload X48.here hx rfl (hb hby at_147) rfl rfl k) ?_
    refine run_fwd (T' := T48) (g' := (mkF m 150 #[.val (.long q0), .second, .val (.int p1), .val (.int p2), .val (.int p3), .val (.long v), .second, .val (.int a), .val (.int f), .val (.ref b1), .val (.int (own_sz v)), .val (.int (a + (own_sz v)))] [(.int (1 : Int32)), (.ref b1)])) (fun _ k => XS.iconst X48.here hx rfl (hb hby at_149) k) ?_
    refine run_fwd (T' := T48) (g' := (mkF m 152 #[.val (.long q0), .second, .val (.int p1), .val (.int p2), .val (.int p3), .val (.long v), .second, .val (.int a), .val (.int f), .val (.ref b1), .val (.int (own_sz v)), .val (.int (a + (own_sz v)))] [(.int a), (.int (1 : Int32)), (.ref b1)])) (fun _ k => XS.iload X48.here hx rfl (hb hby at_150) rfl k) ?_
    refine run_fwd (T' := T48) (g' := (mkF m 154 #[.val (.long q0), .second, .val (.int p1), .val (.int p2), .val (.int p3), .val (.long v), .second, .val (.int a), .val (.int f), .val (.ref b1), .val (.int (own_sz v)), .val (.int (a + (own_sz v)))] [(.int (own_sz v)), (.int a), (.int (1 : Int32)), (.ref b1)])) (fun _ k => XS.iload X48.here hx rfl (hb hby at_152) rfl k) ?_
    refine run_fwd (T' := T48) (g' := (mkF m 156 #[.val (.long q0), .second, .val (.int p1), .val (.int p2), .val (.int p3), .val (.long v), .second, .val (.int a), .val (.int f), .val (.ref b1), .val (.int (own_sz v)), .val (.int (a + (own_sz v)))] [(.long v), (.int (own_sz v)), (.int a), (.int (1 : Int32)), (.ref b1)])) (fun _ k => XS.lload X48.here hx rfl (hb hby at_154) rfl k) ?_
    refine run_fwd (T' := T48) (g' := (mkF m 158 #[.val (.long q0), .second, .val (.int p1), .val (.int p2), .val (.int p3), .val (.long v), .second, .val (.int a), .val (.int f), .val (.ref b1), .val (.int (own_sz v)), .val (.int (a + (own_sz v)))] [(.int f), (.long v), (.int (own_sz v)), (.int a), (.int (1 : Int32)), (.ref b1)])) (fun _ k => XS.iload X48.here hx rfl (hb hby at_156) rfl k) ?_
    obtain ⟨T50, v50, L50, X50, hQ50, st50⟩ := own_gotS X48 (Jvm.LawKit.callS X48 hx (y := (⟨"querent/index/IndexFileWriteVLongPinLaw", "ok", "([BIIIJB)Z"⟩ : MethodName)) hown (mvT hZ (hw _ (List.mem_of_getElem? (i := 12) rfl))) (mvT hZ (hw _ (List.mem_of_getElem? (i := 13) rfl))) (mvT hZ (hw _ (List.mem_of_getElem? (i := 4) rfl))) (mvT hZ (hw _ (List.mem_of_getElem? (i := 14) rfl))) (by decide) (backOf (W := 0) (rm3 l Z aV hw [] b1 (1 : Int32) a (own_sz v) v f k1 (own_tab (own_Y v a f) 13) (own_Y v a f 1) h44 n0 O45 Q44_1 (⟨by decide, by decide⟩) (own_get _ 13 _ 1 (by decide) (by decide) _) (own_out v hv a f _ 1 (by decide) (by decide) ha.1 ha.2) (own_in1 v hv a f _ 1 (by decide) (by decide) ha.1 ha.2) (own_in2 v hv a f _ 1 (by decide) (by decide) ha.1 ha.2)) hZ (hw _ (List.mem_of_getElem? (i := 14) rfl)) (hw _ (List.mem_of_getElem? (i := 4) rfl)) (by decide) (by decide)) (g := (mkF m 158 #[.val (.long q0), .second, .val (.int p1), .val (.int p2), .val (.int p3), .val (.long v), .second, .val (.int a), .val (.int f), .val (.ref b1), .val (.int (own_sz v)), .val (.int (a + (own_sz v)))] [(.int f), (.long v), (.int (own_sz v)), (.int a), (.int (1 : Int32)), (.ref b1)])) rfl (by rw [hml]; rfl) (argsL := [(.ref b1), (.int (1 : Int32)), (.int a), (.int (own_sz v)), (.long v), (.int f)]) (rest := []) (lenOf pd__28_5bBIIIJB_29Z rfl) rfl (by show 2 * 0 + _ ≤ _; exact Nat.le_of_eq rfl) (hb hby at_158) (fun _ _ => ⟨rfl, Q48_0, (by decide : 1 + 0 ≤ _), (by decide : 13 + 0 ≤ _)⟩))
    obtain ⟨rfl, N50q, Q50_0⟩ := hQ50
    have N50 := Fr.app N48 N50q
    refine run_fwd (T' := T50) (g' := (mkF m 161 #[.val (.long q0), .second, .val (.int p1), .val (.int p2), .val (.int p3), .val (.long v), .second, .val (.int a), .val (.int f), .val (.ref b1), .val (.int (own_sz v)), .val (.int (a + (own_sz v)))] [(.int (1 : Int32))])) (fun _ k => st50 _ k) ?_
    have hc161_51 : ¬ ((1 : Int32) = (0 : Int32)) := (by decide)
    refine run_fwd (T' := T50) (g' := (mkF m 164 #[.val (.long q0), .second, .val (.int p1), .val (.int p2), .val (.int p3), .val (.long v), .second, .val (.int a), .val (.int f), .val (.ref b1), .val (.int (own_sz v)), .val (.int (a + (own_sz v)))] [])) (fun _ k => XS.ifNo X50.here hx rfl (hb hby at_161) rfl ((if0 _ _).trans (feq hc161_51).1) k) ?_
    refine run_fwd (T' := T50) (g' := (mkF m 166 #[.val (.long q0), .second, .val (.int p1), .val (.int p2), .val (.int p3), .val (.long v), .second, .val (.int a), .val (.int f), .val (.ref b1), .val (.int (own_sz v)), .val (.int (a + (own_sz v)))] [(.ref b1)])) (fun _ k => XS.aload X50.here hx rfl (hb hby at_164) rfl rfl k) ?_
    refine run_fwd (T' := T50) (g' := (mkF m 167 #[.val (.long q0), .second, .val (.int p1), .val (.int p2), .val (.int p3), .val (.long v), .second, .val (.int a), .val (.int f), .val (.ref b1), .val (.int (own_sz v)), .val (.int (a + (own_sz v)))] [(.int (2 : Int32)), (.ref b1)])) (fun _ k => XS.iconst X50.here hx rfl (hb hby at_166) k) ?_
    refine run_fwd (T' := T50) (g' := (mkF m 169 #[.val (.long q0), .second, .val (.int p1), .val (.int p2), .val (.int p3), .val (.long v), .second, .val (.int a), .val (.int f), .val (.ref b1), .val (.int (own_sz v)), .val (.int (a + (own_sz v)))] [(.int a), (.int (2 : Int32)), (.ref b1)])) (fun _ k => XS.iload X50.here hx rfl (hb hby at_167) rfl k) ?_
    refine run_fwd (T' := T50) (g' := (mkF m 171 #[.val (.long q0), .second, .val (.int p1), .val (.int p2), .val (.int p3), .val (.long v), .second, .val (.int a), .val (.int f), .val (.ref b1), .val (.int (own_sz v)), .val (.int (a + (own_sz v)))] [(.int (own_sz v)), (.int a), (.int (2 : Int32)), (.ref b1)])) (fun _ k => XS.iload X50.here hx rfl (hb hby at_169) rfl k) ?_
    refine run_fwd (T' := T50) (g' := (mkF m 173 #[.val (.long q0), .second, .val (.int p1), .val (.int p2), .val (.int p3), .val (.long v), .second, .val (.int a), .val (.int f), .val (.ref b1), .val (.int (own_sz v)), .val (.int (a + (own_sz v)))] [(.long v), (.int (own_sz v)), (.int a), (.int (2 : Int32)), (.ref b1)])) (fun _ k => XS.lload X50.here hx rfl (hb hby at_171) rfl k) ?_
    refine run_fwd (T' := T50) (g' := (mkF m 175 #[.val (.long q0), .second, .val (.int p1), .val (.int p2), .val (.int p3), .val (.long v), .second, .val (.int a), .val (.int f), .val (.ref b1), .val (.int (own_sz v)), .val (.int (a + (own_sz v)))] [(.int f), (.long v), (.int (own_sz v)), (.int a), (.int (2 : Int32)), (.ref b1)])) (fun _ k => XS.iload X50.here hx rfl (hb hby at_173) rfl k) ?_
    obtain ⟨T52, v52, L52, X52, hQ52, st52⟩ := own_gotS X50 (Jvm.LawKit.callS X50 hx (y := (⟨"querent/index/IndexFileWriteVLongPinLaw", "ok", "([BIIIJB)Z"⟩ : MethodName)) hown (mvT hZ (hw _ (List.mem_of_getElem? (i := 12) rfl))) (mvT hZ (hw _ (List.mem_of_getElem? (i := 13) rfl))) (mvT hZ (hw _ (List.mem_of_getElem? (i := 4) rfl))) (mvT hZ (hw _ (List.mem_of_getElem? (i := 14) rfl))) (by decide) (backOf (W := 0) (rm3 l Z aV hw [] b1 (2 : Int32) a (own_sz v) v f k1 (own_tab (own_Y v a f) 13) (own_Y v a f 2) h44 n0 O45 Q44_1 (⟨by decide, by decide⟩) (own_get _ 13 _ 2 (by decide) (by decide) _) (own_out v hv a f _ 2 (by decide) (by decide) ha.1 ha.2) (own_in1 v hv a f _ 2 (by decide) (by decide) ha.1 ha.2) (own_in2 v hv a f _ 2 (by decide) (by decide) ha.1 ha.2)) hZ (hw _ (List.mem_of_getElem? (i := 14) rfl)) (hw _ (List.mem_of_getElem? (i := 4) rfl)) (by decide) (by decide)) (g := (mkF m 175 #[.val (.long q0), .second, .val (.int p1), .val (.int p2), .val (.int p3), .val (.long v), .second, .val (.int a), .val (.int f), .val (.ref b1), .val (.int (own_sz v)), .val (.int (a + (own_sz v)))] [(.int f), (.long v), (.int (own_sz v)), (.int a), (.int (2 : Int32)), (.ref b1)])) rfl (by rw [hml]; rfl) (argsL := [(.ref b1), (.int (2 : Int32)), (.int a), (.int (own_sz v)), (.long v), (.int f)]) (rest := []) (lenOf pd__28_5bBIIIJB_29Z rfl) rfl (by show 2 * 0 + _ ≤ _; exact Nat.le_of_eq rfl) (hb hby at_175) (fun _ _ => ⟨rfl, Q50_0, (by decide : 1 + 0 ≤ _), (by decide : 13 + 0 ≤ _)⟩))
    obtain ⟨rfl, N52q, Q52_0⟩ := hQ52
    have N52 := Fr.app N50 N52q
    refine run_fwd (T' := T52) (g' := (mkF m 178 #[.val (.long q0), .second, .val (.int p1), .val (.int p2), .val (.int p3), .val (.long v), .second, .val (.int a), .val (.int f), .val (.ref b1), .val (.int (own_sz v)), .val (.int (a + (own_sz v)))] [(.int (1 : Int32))])) (fun _ k => st52 _ k) ?_
    have hc178_53 : ¬ ((1 : Int32) = (0 : Int32)) := (by decide)
    refine run_fwd (T' := T52) (g' := (mkF m 181 #[.val (.long q0), .second, .val (.int p1), .val (.int p2), .val (.int p3), .val (.long v), .second, .val (.int a), .val (.int f), .val (.ref b1), .val (.int (own_sz v)), .val (.int (a + (own_sz v)))] [])) (fun _ k => XS.ifNo X52.here hx rfl (hb hby at_178) rfl ((if0 _ _).trans (feq hc178_53).1) k) ?_
    refine run_fwd (T' := T52) (g' := (mkF m 183 #[.val (.long q0), .second, .val (.int p1), .val (.int p2), .val (.int p3), .val (.long v), .second, .val (.int a), .val (.int f), .val (.ref b1), .val (.int (own_sz v)), .val (.int (a + (own_sz v)))] [(.ref b1)])) (fun _ k => XS.aload X52.here hx rfl (hb hby at_181) rfl rfl k) ?_
    refine run_fwd (T' := T52) (g' := (mkF m 184 #[.val (.long q0), .second, .val (.int p1), .val (.int p2), .val (.int p3), .val (.long v), .second, .val (.int a), .val (.int f), .val (.ref b1), .val (.int (own_sz v)), .val (.int (a + (own_sz v)))] [(.int (3 : Int32)), (.ref b1)])) (fun _ k => XS.iconst X52.here hx rfl (hb hby at_183) k) ?_
    refine run_fwd (T' := T52) (g' := (mkF m 186 #[.val (.long q0), .second, .val (.int p1), .val (.int p2), .val (.int p3), .val (.long v), .second, .val (.int a), .val (.int f), .val (.ref b1), .val (.int (own_sz v)), .val (.int (a + (own_sz v)))] [(.int a), (.int (3 : Int32)), (.ref b1)])) (fun _ k => XS.iload X52.here hx rfl (hb hby at_184) rfl k) ?_
    refine run_fwd (T' := T52) (g' := (mkF m 188 #[.val (.long q0), .second, .val (.int p1), .val (.int p2), .val (.int p3), .val (.long v), .second, .val (.int a), .val (.int f), .val (.ref b1), .val (.int (own_sz v)), .val (.int (a + (own_sz v)))] [(.int (own_sz v)), (.int a), (.int (3 : Int32)), (.ref b1)])) (fun _ k => XS.iload X52.here hx rfl (hb hby at_186) rfl k) ?_
    refine run_fwd (T' := T52) (g' := (mkF m 190 #[.val (.long q0), .second, .val (.int p1), .val (.int p2), .val (.int p3), .val (.long v), .second, .val (.int a), .val (.int f), .val (.ref b1), .val (.int (own_sz v)), .val (.int (a + (own_sz v)))] [(.long v), (.int (own_sz v)), (.int a), (.int (3 : Int32)), (.ref b1)])) (fun _ k => XS.lload X52.here hx rfl (hb hby at_188) rfl k) ?_
    refine run_fwd (T' := T52) (g' := (mkF m 192 #[.val (.long q0), .second, .val (.int p1), .val (.int p2), .val (.int p3), .val (.long v), .second, .val (.int a), .val (.int f), .val (.ref b1), .val (.int (own_sz v)), .val (.int (a + (own_sz v)))] [(.int f), (.long v), (.int (own_sz v)), (.int a), (.int (3 : Int32)), (.ref b1)])) (fun _ k => XS.iload X52.here hx rfl (hb hby at_190) rfl k) ?_
    obtain ⟨T54, v54, L54, X54, hQ54, st54⟩ := own_gotS X52 (Jvm.LawKit.callS X52 hx (y := (⟨"querent/index/IndexFileWriteVLongPinLaw", "ok", "([BIIIJB)Z"⟩ : MethodName)) hown (mvT hZ (hw _ (List.mem_of_getElem? (i := 12) rfl))) (mvT hZ (hw _ (List.mem_of_getElem? (i := 13) rfl))) (mvT hZ (hw _ (List.mem_of_getElem? (i := 4) rfl))) (mvT hZ (hw _ (List.mem_of_getElem? (i := 14) rfl))) (by decide) (backOf (W := 0) (rm3 l Z aV hw [] b1 (3 : Int32) a (own_sz v) v f k1 (own_tab (own_Y v a f) 13) (own_Y v a f 3) h44 n0 O45 Q44_1 (⟨by decide, by decide⟩) (own_get _ 13 _ 3 (by decide) (by decide) _) (own_out v hv a f _ 3 (by decide) (by decide) ha.1 ha.2) (own_in1 v hv a f _ 3 (by decide) (by decide) ha.1 ha.2) (own_in2 v hv a f _ 3 (by decide) (by decide) ha.1 ha.2)) hZ (hw _ (List.mem_of_getElem? (i := 14) rfl)) (hw _ (List.mem_of_getElem? (i := 4) rfl)) (by decide) (by decide)) (g := (mkF m 192 #[.val (.long q0), .second, .val (.int p1), .val (.int p2), .val (.int p3), .val (.long v), .second, .val (.int a), .val (.int f), .val (.ref b1), .val (.int (own_sz v)), .val (.int (a + (own_sz v)))] [(.int f), (.long v), (.int (own_sz v)), (.int a), (.int (3 : Int32)), (.ref b1)])) rfl (by rw [hml]; rfl) (argsL := [(.ref b1), (.int (3 : Int32)), (.int a), (.int (own_sz v)), (.long v), (.int f)]) (rest := []) (lenOf pd__28_5bBIIIJB_29Z rfl) rfl (by show 2 * 0 + _ ≤ _; exact Nat.le_of_eq rfl) (hb hby at_192) (fun _ _ => ⟨rfl, Q52_0, (by decide : 1 + 0 ≤ _), (by decide : 13 + 0 ≤ _)⟩))
    obtain ⟨rfl, N54q, Q54_0⟩ := hQ54
    have N54 := Fr.app N52 N54q
    refine run_fwd (T' := T54) (g' := (mkF m 195 #[.val (.long q0), .second, .val (.int p1), .val (.int p2), .val (.int p3), .val (.long v), .second, .val (.int a), .val (.int f), .val (.ref b1), .val (.int (own_sz v)), .val (.int (a + (own_sz v)))] [(.int (1 : Int32))])) (fun _ k => st54 _ k) ?_
    have hc195_55 : ¬ ((1 : Int32) = (0 : Int32)) := (by decide)
    refine run_fwd (T' := T54) (g' := (mkF m 198 #[.val (.long q0), .second, .val (.int p1), .val (.int p2), .val (.int p3), .val (.long v), .second, .val (.int a), .val (.int f), .val (.ref b1), .val (.int (own_sz v)), .val (.int (a + (own_sz v)))] [])) (fun _ k => XS.ifNo X54.here hx rfl (hb hby at_195) rfl ((if0 _ _).trans (feq hc195_55).1) k) ?_
    refine run_fwd (T' := T54) (g' := (mkF m 200 #[.val (.long q0), .second, .val (.int p1), .val (.int p2), .val (.int p3), .val (.long v), .second, .val (.int a), .val (.int f), .val (.ref b1), .val (.int (own_sz v)), .val (.int (a + (own_sz v)))] [(.ref b1)])) (fun _ k => XS.aload X54.here hx rfl (hb hby at_198) rfl rfl k) ?_
    refine run_fwd (T' := T54) (g' := (mkF m 201 #[.val (.long q0), .second, .val (.int p1), .val (.int p2), .val (.int p3), .val (.long v), .second, .val (.int a), .val (.int f), .val (.ref b1), .val (.int (own_sz v)), .val (.int (a + (own_sz v)))] [(.int (4 : Int32)), (.ref b1)])) (fun _ k => XS.iconst X54.here hx rfl (hb hby at_200) k) ?_
    refine run_fwd (T' := T54) (g' := (mkF m 203 #[.val (.long q0), .second, .val (.int p1), .val (.int p2), .val (.int p3), .val (.long v), .second, .val (.int a), .val (.int f), .val (.ref b1), .val (.int (own_sz v)), .val (.int (a + (own_sz v)))] [(.int a), (.int (4 : Int32)), (.ref b1)])) (fun _ k => XS.iload X54.here hx rfl (hb hby at_201) rfl k) ?_
    refine run_fwd (T' := T54) (g' := (mkF m 205 #[.val (.long q0), .second, .val (.int p1), .val (.int p2), .val (.int p3), .val (.long v), .second, .val (.int a), .val (.int f), .val (.ref b1), .val (.int (own_sz v)), .val (.int (a + (own_sz v)))] [(.int (own_sz v)), (.int a), (.int (4 : Int32)), (.ref b1)])) (fun _ k => XS.iload X54.here hx rfl (hb hby at_203) rfl k) ?_
    refine run_fwd (T' := T54) (g' := (mkF m 207 #[.val (.long q0), .second, .val (.int p1), .val (.int p2), .val (.int p3), .val (.long v), .second, .val (.int a), .val (.int f), .val (.ref b1), .val (.int (own_sz v)), .val (.int (a + (own_sz v)))] [(.long v), (.int (own_sz v)), (.int a), (.int (4 : Int32)), (.ref b1)])) (fun _ k => XS.lload X54.here hx rfl (hb hby at_205) rfl k) ?_
    refine run_fwd (T' := T54) (g' := (mkF m 209 #[.val (.long q0), .second, .val (.int p1), .val (.int p2), .val (.int p3), .val (.long v), .second, .val (.int a), .val (.int f), .val (.ref b1), .val (.int (own_sz v)), .val (.int (a + (own_sz v)))] [(.int f), (.long v), (.int (own_sz v)), (.int a), (.int (4 : Int32)), (.ref b1)])) (fun _ k => XS.iload X54.here hx rfl (hb hby at_207) rfl k) ?_
    obtain ⟨T56, v56, L56, X56, hQ56, st56⟩ := own_gotS X54 (Jvm.LawKit.callS X54 hx (y := (⟨"querent/index/IndexFileWriteVLongPinLaw", "ok", "([BIIIJB)Z"⟩ : MethodName)) hown (mvT hZ (hw _ (List.mem_of_getElem? (i := 12) rfl))) (mvT hZ (hw _ (List.mem_of_getElem? (i := 13) rfl))) (mvT hZ (hw _ (List.mem_of_getElem? (i := 4) rfl))) (mvT hZ (hw _ (List.mem_of_getElem? (i := 14) rfl))) (by decide) (backOf (W := 0) (rm3 l Z aV hw [] b1 (4 : Int32) a (own_sz v) v f k1 (own_tab (own_Y v a f) 13) (own_Y v a f 4) h44 n0 O45 Q44_1 (⟨by decide, by decide⟩) (own_get _ 13 _ 4 (by decide) (by decide) _) (own_out v hv a f _ 4 (by decide) (by decide) ha.1 ha.2) (own_in1 v hv a f _ 4 (by decide) (by decide) ha.1 ha.2) (own_in2 v hv a f _ 4 (by decide) (by decide) ha.1 ha.2)) hZ (hw _ (List.mem_of_getElem? (i := 14) rfl)) (hw _ (List.mem_of_getElem? (i := 4) rfl)) (by decide) (by decide)) (g := (mkF m 209 #[.val (.long q0), .second, .val (.int p1), .val (.int p2), .val (.int p3), .val (.long v), .second, .val (.int a), .val (.int f), .val (.ref b1), .val (.int (own_sz v)), .val (.int (a + (own_sz v)))] [(.int f), (.long v), (.int (own_sz v)), (.int a), (.int (4 : Int32)), (.ref b1)])) rfl (by rw [hml]; rfl) (argsL := [(.ref b1), (.int (4 : Int32)), (.int a), (.int (own_sz v)), (.long v), (.int f)]) (rest := []) (lenOf pd__28_5bBIIIJB_29Z rfl) rfl (by show 2 * 0 + _ ≤ _; exact Nat.le_of_eq rfl) (hb hby at_209) (fun _ _ => ⟨rfl, Q54_0, (by decide : 1 + 0 ≤ _), (by decide : 13 + 0 ≤ _)⟩))
    obtain ⟨rfl, N56q, Q56_0⟩ := hQ56
    have N56 := Fr.app N54 N56q
    refine run_fwd (T' := T56) (g' := (mkF m 212 #[.val (.long q0), .second, .val (.int p1), .val (.int p2), .val (.int p3), .val (.long v), .second, .val (.int a), .val (.int f), .val (.ref b1), .val (.int (own_sz v)), .val (.int (a + (own_sz v)))] [(.int (1 : Int32))])) (fun _ k => st56 _ k) ?_
    have hc212_57 : ¬ ((1 : Int32) = (0 : Int32)) := (by decide)
    refine run_fwd (T' := T56) (g' := (mkF m 215 #[.val (.long q0), .second, .val (.int p1), .val (.int p2), .val (.int p3), .val (.long v), .second, .val (.int a), .val (.int f), .val (.ref b1), .val (.int (own_sz v)), .val (.int (a + (own_sz v)))] [])) (fun _ k => XS.ifNo X56.here hx rfl (hb hby at_212) rfl ((if0 _ _).trans (feq hc212_57).1) k) ?_
    refine run_fwd (T' := T56) (g' := (mkF m 217 #[.val (.long q0), .second, .val (.int p1), .val (.int p2), .val (.int p3), .val (.long v), .second, .val (.int a), .val (.int f), .val (.ref b1), .val (.int (own_sz v)), .val (.int (a + (own_sz v)))] [(.ref b1)])) (fun _ k => XS.aload X56.here hx rfl (hb hby at_215) rfl rfl k) ?_
    refine run_fwd (T' := T56) (g' := (mkF m 218 #[.val (.long q0), .second, .val (.int p1), .val (.int p2), .val (.int p3), .val (.long v), .second, .val (.int a), .val (.int f), .val (.ref b1), .val (.int (own_sz v)), .val (.int (a + (own_sz v)))] [(.int (5 : Int32)), (.ref b1)])) (fun _ k => XS.iconst X56.here hx rfl (hb hby at_217) k) ?_
    refine run_fwd (T' := T56) (g' := (mkF m 220 #[.val (.long q0), .second, .val (.int p1), .val (.int p2), .val (.int p3), .val (.long v), .second, .val (.int a), .val (.int f), .val (.ref b1), .val (.int (own_sz v)), .val (.int (a + (own_sz v)))] [(.int a), (.int (5 : Int32)), (.ref b1)])) (fun _ k => XS.iload X56.here hx rfl (hb hby at_218) rfl k) ?_
    refine run_fwd (T' := T56) (g' := (mkF m 222 #[.val (.long q0), .second, .val (.int p1), .val (.int p2), .val (.int p3), .val (.long v), .second, .val (.int a), .val (.int f), .val (.ref b1), .val (.int (own_sz v)), .val (.int (a + (own_sz v)))] [(.int (own_sz v)), (.int a), (.int (5 : Int32)), (.ref b1)])) (fun _ k => XS.iload X56.here hx rfl (hb hby at_220) rfl k) ?_
    refine run_fwd (T' := T56) (g' := (mkF m 224 #[.val (.long q0), .second, .val (.int p1), .val (.int p2), .val (.int p3), .val (.long v), .second, .val (.int a), .val (.int f), .val (.ref b1), .val (.int (own_sz v)), .val (.int (a + (own_sz v)))] [(.long v), (.int (own_sz v)), (.int a), (.int (5 : Int32)), (.ref b1)])) (fun _ k => XS.lload X56.here hx rfl (hb hby at_222) rfl k) ?_
    refine run_fwd (T' := T56) (g' := (mkF m 226 #[.val (.long q0), .second, .val (.int p1), .val (.int p2), .val (.int p3), .val (.long v), .second, .val (.int a), .val (.int f), .val (.ref b1), .val (.int (own_sz v)), .val (.int (a + (own_sz v)))] [(.int f), (.long v), (.int (own_sz v)), (.int a), (.int (5 : Int32)), (.ref b1)])) (fun _ k => XS.iload X56.here hx rfl (hb hby at_224) rfl k) ?_
    obtain ⟨T58, v58, L58, X58, hQ58, st58⟩ := own_gotS X56 (Jvm.LawKit.callS X56 hx (y := (⟨"querent/index/IndexFileWriteVLongPinLaw", "ok", "([BIIIJB)Z"⟩ : MethodName)) hown (mvT hZ (hw _ (List.mem_of_getElem? (i := 12) rfl))) (mvT hZ (hw _ (List.mem_of_getElem? (i := 13) rfl))) (mvT hZ (hw _ (List.mem_of_getElem? (i := 4) rfl))) (mvT hZ (hw _ (List.mem_of_getElem? (i := 14) rfl))) (by decide) (backOf (W := 0) (rm3 l Z aV hw [] b1 (5 : Int32) a (own_sz v) v f k1 (own_tab (own_Y v a f) 13) (own_Y v a f 5) h44 n0 O45 Q44_1 (⟨by decide, by decide⟩) (own_get _ 13 _ 5 (by decide) (by decide) _) (own_out v hv a f _ 5 (by decide) (by decide) ha.1 ha.2) (own_in1 v hv a f _ 5 (by decide) (by decide) ha.1 ha.2) (own_in2 v hv a f _ 5 (by decide) (by decide) ha.1 ha.2)) hZ (hw _ (List.mem_of_getElem? (i := 14) rfl)) (hw _ (List.mem_of_getElem? (i := 4) rfl)) (by decide) (by decide)) (g := (mkF m 226 #[.val (.long q0), .second, .val (.int p1), .val (.int p2), .val (.int p3), .val (.long v), .second, .val (.int a), .val (.int f), .val (.ref b1), .val (.int (own_sz v)), .val (.int (a + (own_sz v)))] [(.int f), (.long v), (.int (own_sz v)), (.int a), (.int (5 : Int32)), (.ref b1)])) rfl (by rw [hml]; rfl) (argsL := [(.ref b1), (.int (5 : Int32)), (.int a), (.int (own_sz v)), (.long v), (.int f)]) (rest := []) (lenOf pd__28_5bBIIIJB_29Z rfl) rfl (by show 2 * 0 + _ ≤ _; exact Nat.le_of_eq rfl) (hb hby at_226) (fun _ _ => ⟨rfl, Q56_0, (by decide : 1 + 0 ≤ _), (by decide : 13 + 0 ≤ _)⟩))
    obtain ⟨rfl, N58q, Q58_0⟩ := hQ58
    have N58 := Fr.app N56 N58q
    refine run_fwd (T' := T58) (g' := (mkF m 229 #[.val (.long q0), .second, .val (.int p1), .val (.int p2), .val (.int p3), .val (.long v), .second, .val (.int a), .val (.int f), .val (.ref b1), .val (.int (own_sz v)), .val (.int (a + (own_sz v)))] [(.int (1 : Int32))])) (fun _ k => st58 _ k) ?_
    have hc229_59 : ¬ ((1 : Int32) = (0 : Int32)) := (by decide)
    refine run_fwd (T' := T58) (g' := (mkF m 232 #[.val (.long q0), .second, .val (.int p1), .val (.int p2), .val (.int p3), .val (.long v), .second, .val (.int a), .val (.int f), .val (.ref b1), .val (.int (own_sz v)), .val (.int (a + (own_sz v)))] [])) (fun _ k => XS.ifNo X58.here hx rfl (hb hby at_229) rfl ((if0 _ _).trans (feq hc229_59).1) k) ?_
    refine run_fwd (T' := T58) (g' := (mkF m 234 #[.val (.long q0), .second, .val (.int p1), .val (.int p2), .val (.int p3), .val (.long v), .second, .val (.int a), .val (.int f), .val (.ref b1), .val (.int (own_sz v)), .val (.int (a + (own_sz v)))] [(.ref b1)])) (fun _ k => XS.aload X58.here hx rfl (hb hby at_232) rfl rfl k) ?_
    refine run_fwd (T' := T58) (g' := (mkF m 236 #[.val (.long q0), .second, .val (.int p1), .val (.int p2), .val (.int p3), .val (.long v), .second, .val (.int a), .val (.int f), .val (.ref b1), .val (.int (own_sz v)), .val (.int (a + (own_sz v)))] [(.int (6 : Int32)), (.ref b1)])) (fun _ k => XS.bipush X58.here hx rfl (hb hby at_234) k) ?_
    refine run_fwd (T' := T58) (g' := (mkF m 238 #[.val (.long q0), .second, .val (.int p1), .val (.int p2), .val (.int p3), .val (.long v), .second, .val (.int a), .val (.int f), .val (.ref b1), .val (.int (own_sz v)), .val (.int (a + (own_sz v)))] [(.int a), (.int (6 : Int32)), (.ref b1)])) (fun _ k => XS.iload X58.here hx rfl (hb hby at_236) rfl k) ?_
    refine run_fwd (T' := T58) (g' := (mkF m 240 #[.val (.long q0), .second, .val (.int p1), .val (.int p2), .val (.int p3), .val (.long v), .second, .val (.int a), .val (.int f), .val (.ref b1), .val (.int (own_sz v)), .val (.int (a + (own_sz v)))] [(.int (own_sz v)), (.int a), (.int (6 : Int32)), (.ref b1)])) (fun _ k => XS.iload X58.here hx rfl (hb hby at_238) rfl k) ?_
    refine run_fwd (T' := T58) (g' := (mkF m 242 #[.val (.long q0), .second, .val (.int p1), .val (.int p2), .val (.int p3), .val (.long v), .second, .val (.int a), .val (.int f), .val (.ref b1), .val (.int (own_sz v)), .val (.int (a + (own_sz v)))] [(.long v), (.int (own_sz v)), (.int a), (.int (6 : Int32)), (.ref b1)])) (fun _ k => XS.lload X58.here hx rfl (hb hby at_240) rfl k) ?_
    refine run_fwd (T' := T58) (g' := (mkF m 244 #[.val (.long q0), .second, .val (.int p1), .val (.int p2), .val (.int p3), .val (.long v), .second, .val (.int a), .val (.int f), .val (.ref b1), .val (.int (own_sz v)), .val (.int (a + (own_sz v)))] [(.int f), (.long v), (.int (own_sz v)), (.int a), (.int (6 : Int32)), (.ref b1)])) (fun _ k => XS.iload X58.here hx rfl (hb hby at_242) rfl k) ?_
    obtain ⟨T60, v60, L60, X60, hQ60, st60⟩ := own_gotS X58 (Jvm.LawKit.callS X58 hx (y := (⟨"querent/index/IndexFileWriteVLongPinLaw", "ok", "([BIIIJB)Z"⟩ : MethodName)) hown (mvT hZ (hw _ (List.mem_of_getElem? (i := 12) rfl))) (mvT hZ (hw _ (List.mem_of_getElem? (i := 13) rfl))) (mvT hZ (hw _ (List.mem_of_getElem? (i := 4) rfl))) (mvT hZ (hw _ (List.mem_of_getElem? (i := 14) rfl))) (by decide) (backOf (W := 0) (rm3 l Z aV hw [] b1 (6 : Int32) a (own_sz v) v f k1 (own_tab (own_Y v a f) 13) (own_Y v a f 6) h44 n0 O45 Q44_1 (⟨by decide, by decide⟩) (own_get _ 13 _ 6 (by decide) (by decide) _) (own_out v hv a f _ 6 (by decide) (by decide) ha.1 ha.2) (own_in1 v hv a f _ 6 (by decide) (by decide) ha.1 ha.2) (own_in2 v hv a f _ 6 (by decide) (by decide) ha.1 ha.2)) hZ (hw _ (List.mem_of_getElem? (i := 14) rfl)) (hw _ (List.mem_of_getElem? (i := 4) rfl)) (by decide) (by decide)) (g := (mkF m 244 #[.val (.long q0), .second, .val (.int p1), .val (.int p2), .val (.int p3), .val (.long v), .second, .val (.int a), .val (.int f), .val (.ref b1), .val (.int (own_sz v)), .val (.int (a + (own_sz v)))] [(.int f), (.long v), (.int (own_sz v)), (.int a), (.int (6 : Int32)), (.ref b1)])) rfl (by rw [hml]; rfl) (argsL := [(.ref b1), (.int (6 : Int32)), (.int a), (.int (own_sz v)), (.long v), (.int f)]) (rest := []) (lenOf pd__28_5bBIIIJB_29Z rfl) rfl (by show 2 * 0 + _ ≤ _; exact Nat.le_of_eq rfl) (hb hby at_244) (fun _ _ => ⟨rfl, Q58_0, (by decide : 1 + 0 ≤ _), (by decide : 13 + 0 ≤ _)⟩))
    obtain ⟨rfl, N60q, Q60_0⟩ := hQ60
    have N60 := Fr.app N58 N60q
    refine run_fwd (T' := T60) (g' := (mkF m 247 #[.val (.long q0), .second, .val (.int p1), .val (.int p2), .val (.int p3), .val (.long v), .second, .val (.int a), .val (.int f), .val (.ref b1), .val (.int (own_sz v)), .val (.int (a + (own_sz v)))] [(.int (1 : Int32))])) (fun _ k => st60 _ k) ?_
    have hc247_61 : ¬ ((1 : Int32) = (0 : Int32)) := (by decide)
    refine run_fwd (T' := T60) (g' := (mkF m 250 #[.val (.long q0), .second, .val (.int p1), .val (.int p2), .val (.int p3), .val (.long v), .second, .val (.int a), .val (.int f), .val (.ref b1), .val (.int (own_sz v)), .val (.int (a + (own_sz v)))] [])) (fun _ k => XS.ifNo X60.here hx rfl (hb hby at_247) rfl ((if0 _ _).trans (feq hc247_61).1) k) ?_
    refine run_fwd (T' := T60) (g' := (mkF m 252 #[.val (.long q0), .second, .val (.int p1), .val (.int p2), .val (.int p3), .val (.long v), .second, .val (.int a), .val (.int f), .val (.ref b1), .val (.int (own_sz v)), .val (.int (a + (own_sz v)))] [(.ref b1)])) (fun _ k => XS.aload X60.here hx rfl (hb hby at_250) rfl rfl k) ?_
    refine run_fwd (T' := T60) (g' := (mkF m 254 #[.val (.long q0), .second, .val (.int p1), .val (.int p2), .val (.int p3), .val (.long v), .second, .val (.int a), .val (.int f), .val (.ref b1), .val (.int (own_sz v)), .val (.int (a + (own_sz v)))] [(.int (7 : Int32)), (.ref b1)])) (fun _ k => XS.bipush X60.here hx rfl (hb hby at_252) k) ?_
    refine run_fwd (T' := T60) (g' := (mkF m 256 #[.val (.long q0), .second, .val (.int p1), .val (.int p2), .val (.int p3), .val (.long v), .second, .val (.int a), .val (.int f), .val (.ref b1), .val (.int (own_sz v)), .val (.int (a + (own_sz v)))] [(.int a), (.int (7 : Int32)), (.ref b1)])) (fun _ k => XS.iload X60.here hx rfl (hb hby at_254) rfl k) ?_
    refine run_fwd (T' := T60) (g' := (mkF m 258 #[.val (.long q0), .second, .val (.int p1), .val (.int p2), .val (.int p3), .val (.long v), .second, .val (.int a), .val (.int f), .val (.ref b1), .val (.int (own_sz v)), .val (.int (a + (own_sz v)))] [(.int (own_sz v)), (.int a), (.int (7 : Int32)), (.ref b1)])) (fun _ k => XS.iload X60.here hx rfl (hb hby at_256) rfl k) ?_
    refine run_fwd (T' := T60) (g' := (mkF m 260 #[.val (.long q0), .second, .val (.int p1), .val (.int p2), .val (.int p3), .val (.long v), .second, .val (.int a), .val (.int f), .val (.ref b1), .val (.int (own_sz v)), .val (.int (a + (own_sz v)))] [(.long v), (.int (own_sz v)), (.int a), (.int (7 : Int32)), (.ref b1)])) (fun _ k => XS.lload X60.here hx rfl (hb hby at_258) rfl k) ?_
    refine run_fwd (T' := T60) (g' := (mkF m 262 #[.val (.long q0), .second, .val (.int p1), .val (.int p2), .val (.int p3), .val (.long v), .second, .val (.int a), .val (.int f), .val (.ref b1), .val (.int (own_sz v)), .val (.int (a + (own_sz v)))] [(.int f), (.long v), (.int (own_sz v)), (.int a), (.int (7 : Int32)), (.ref b1)])) (fun _ k => XS.iload X60.here hx rfl (hb hby at_260) rfl k) ?_
    obtain ⟨T62, v62, L62, X62, hQ62, st62⟩ := own_gotS X60 (Jvm.LawKit.callS X60 hx (y := (⟨"querent/index/IndexFileWriteVLongPinLaw", "ok", "([BIIIJB)Z"⟩ : MethodName)) hown (mvT hZ (hw _ (List.mem_of_getElem? (i := 12) rfl))) (mvT hZ (hw _ (List.mem_of_getElem? (i := 13) rfl))) (mvT hZ (hw _ (List.mem_of_getElem? (i := 4) rfl))) (mvT hZ (hw _ (List.mem_of_getElem? (i := 14) rfl))) (by decide) (backOf (W := 0) (rm3 l Z aV hw [] b1 (7 : Int32) a (own_sz v) v f k1 (own_tab (own_Y v a f) 13) (own_Y v a f 7) h44 n0 O45 Q44_1 (⟨by decide, by decide⟩) (own_get _ 13 _ 7 (by decide) (by decide) _) (own_out v hv a f _ 7 (by decide) (by decide) ha.1 ha.2) (own_in1 v hv a f _ 7 (by decide) (by decide) ha.1 ha.2) (own_in2 v hv a f _ 7 (by decide) (by decide) ha.1 ha.2)) hZ (hw _ (List.mem_of_getElem? (i := 14) rfl)) (hw _ (List.mem_of_getElem? (i := 4) rfl)) (by decide) (by decide)) (g := (mkF m 262 #[.val (.long q0), .second, .val (.int p1), .val (.int p2), .val (.int p3), .val (.long v), .second, .val (.int a), .val (.int f), .val (.ref b1), .val (.int (own_sz v)), .val (.int (a + (own_sz v)))] [(.int f), (.long v), (.int (own_sz v)), (.int a), (.int (7 : Int32)), (.ref b1)])) rfl (by rw [hml]; rfl) (argsL := [(.ref b1), (.int (7 : Int32)), (.int a), (.int (own_sz v)), (.long v), (.int f)]) (rest := []) (lenOf pd__28_5bBIIIJB_29Z rfl) rfl (by show 2 * 0 + _ ≤ _; exact Nat.le_of_eq rfl) (hb hby at_262) (fun _ _ => ⟨rfl, Q60_0, (by decide : 1 + 0 ≤ _), (by decide : 13 + 0 ≤ _)⟩))
    obtain ⟨rfl, N62q, Q62_0⟩ := hQ62
    have N62 := Fr.app N60 N62q
    refine run_fwd (T' := T62) (g' := (mkF m 265 #[.val (.long q0), .second, .val (.int p1), .val (.int p2), .val (.int p3), .val (.long v), .second, .val (.int a), .val (.int f), .val (.ref b1), .val (.int (own_sz v)), .val (.int (a + (own_sz v)))] [(.int (1 : Int32))])) (fun _ k => st62 _ k) ?_
    have hc265_63 : ¬ ((1 : Int32) = (0 : Int32)) := (by decide)
    refine run_fwd (T' := T62) (g' := (mkF m 268 #[.val (.long q0), .second, .val (.int p1), .val (.int p2), .val (.int p3), .val (.long v), .second, .val (.int a), .val (.int f), .val (.ref b1), .val (.int (own_sz v)), .val (.int (a + (own_sz v)))] [])) (fun _ k => XS.ifNo X62.here hx rfl (hb hby at_265) rfl ((if0 _ _).trans (feq hc265_63).1) k) ?_
    refine run_fwd (T' := T62) (g' := (mkF m 270 #[.val (.long q0), .second, .val (.int p1), .val (.int p2), .val (.int p3), .val (.long v), .second, .val (.int a), .val (.int f), .val (.ref b1), .val (.int (own_sz v)), .val (.int (a + (own_sz v)))] [(.ref b1)])) (fun _ k => XS.aload X62.here hx rfl (hb hby at_268) rfl rfl k) ?_
    refine run_fwd (T' := T62) (g' := (mkF m 272 #[.val (.long q0), .second, .val (.int p1), .val (.int p2), .val (.int p3), .val (.long v), .second, .val (.int a), .val (.int f), .val (.ref b1), .val (.int (own_sz v)), .val (.int (a + (own_sz v)))] [(.int (8 : Int32)), (.ref b1)])) (fun _ k => XS.bipush X62.here hx rfl (hb hby at_270) k) ?_
    refine run_fwd (T' := T62) (g' := (mkF m 274 #[.val (.long q0), .second, .val (.int p1), .val (.int p2), .val (.int p3), .val (.long v), .second, .val (.int a), .val (.int f), .val (.ref b1), .val (.int (own_sz v)), .val (.int (a + (own_sz v)))] [(.int a), (.int (8 : Int32)), (.ref b1)])) (fun _ k => XS.iload X62.here hx rfl (hb hby at_272) rfl k) ?_
    refine run_fwd (T' := T62) (g' := (mkF m 276 #[.val (.long q0), .second, .val (.int p1), .val (.int p2), .val (.int p3), .val (.long v), .second, .val (.int a), .val (.int f), .val (.ref b1), .val (.int (own_sz v)), .val (.int (a + (own_sz v)))] [(.int (own_sz v)), (.int a), (.int (8 : Int32)), (.ref b1)])) (fun _ k => XS.iload X62.here hx rfl (hb hby at_274) rfl k) ?_
    refine run_fwd (T' := T62) (g' := (mkF m 278 #[.val (.long q0), .second, .val (.int p1), .val (.int p2), .val (.int p3), .val (.long v), .second, .val (.int a), .val (.int f), .val (.ref b1), .val (.int (own_sz v)), .val (.int (a + (own_sz v)))] [(.long v), (.int (own_sz v)), (.int a), (.int (8 : Int32)), (.ref b1)])) (fun _ k => XS.lload X62.here hx rfl (hb hby at_276) rfl k) ?_
    refine run_fwd (T' := T62) (g' := (mkF m 280 #[.val (.long q0), .second, .val (.int p1), .val (.int p2), .val (.int p3), .val (.long v), .second, .val (.int a), .val (.int f), .val (.ref b1), .val (.int (own_sz v)), .val (.int (a + (own_sz v)))] [(.int f), (.long v), (.int (own_sz v)), (.int a), (.int (8 : Int32)), (.ref b1)])) (fun _ k => XS.iload X62.here hx rfl (hb hby at_278) rfl k) ?_
    obtain ⟨T64, v64, L64, X64, hQ64, st64⟩ := own_gotS X62 (Jvm.LawKit.callS X62 hx (y := (⟨"querent/index/IndexFileWriteVLongPinLaw", "ok", "([BIIIJB)Z"⟩ : MethodName)) hown (mvT hZ (hw _ (List.mem_of_getElem? (i := 12) rfl))) (mvT hZ (hw _ (List.mem_of_getElem? (i := 13) rfl))) (mvT hZ (hw _ (List.mem_of_getElem? (i := 4) rfl))) (mvT hZ (hw _ (List.mem_of_getElem? (i := 14) rfl))) (by decide) (backOf (W := 0) (rm3 l Z aV hw [] b1 (8 : Int32) a (own_sz v) v f k1 (own_tab (own_Y v a f) 13) (own_Y v a f 8) h44 n0 O45 Q44_1 (⟨by decide, by decide⟩) (own_get _ 13 _ 8 (by decide) (by decide) _) (own_out v hv a f _ 8 (by decide) (by decide) ha.1 ha.2) (own_in1 v hv a f _ 8 (by decide) (by decide) ha.1 ha.2) (own_in2 v hv a f _ 8 (by decide) (by decide) ha.1 ha.2)) hZ (hw _ (List.mem_of_getElem? (i := 14) rfl)) (hw _ (List.mem_of_getElem? (i := 4) rfl)) (by decide) (by decide)) (g := (mkF m 280 #[.val (.long q0), .second, .val (.int p1), .val (.int p2), .val (.int p3), .val (.long v), .second, .val (.int a), .val (.int f), .val (.ref b1), .val (.int (own_sz v)), .val (.int (a + (own_sz v)))] [(.int f), (.long v), (.int (own_sz v)), (.int a), (.int (8 : Int32)), (.ref b1)])) rfl (by rw [hml]; rfl) (argsL := [(.ref b1), (.int (8 : Int32)), (.int a), (.int (own_sz v)), (.long v), (.int f)]) (rest := []) (lenOf pd__28_5bBIIIJB_29Z rfl) rfl (by show 2 * 0 + _ ≤ _; exact Nat.le_of_eq rfl) (hb hby at_280) (fun _ _ => ⟨rfl, Q62_0, (by decide : 1 + 0 ≤ _), (by decide : 13 + 0 ≤ _)⟩))
    obtain ⟨rfl, N64q, Q64_0⟩ := hQ64
    have N64 := Fr.app N62 N64q
    refine run_fwd (T' := T64) (g' := (mkF m 283 #[.val (.long q0), .second, .val (.int p1), .val (.int p2), .val (.int p3), .val (.long v), .second, .val (.int a), .val (.int f), .val (.ref b1), .val (.int (own_sz v)), .val (.int (a + (own_sz v)))] [(.int (1 : Int32))])) (fun _ k => st64 _ k) ?_
    have hc283_65 : ¬ ((1 : Int32) = (0 : Int32)) := (by decide)
    refine run_fwd (T' := T64) (g' := (mkF m 286 #[.val (.long q0), .second, .val (.int p1), .val (.int p2), .val (.int p3), .val (.long v), .second, .val (.int a), .val (.int f), .val (.ref b1), .val (.int (own_sz v)), .val (.int (a + (own_sz v)))] [])) (fun _ k => XS.ifNo X64.here hx rfl (hb hby at_283) rfl ((if0 _ _).trans (feq hc283_65).1) k) ?_
    refine run_fwd (T' := T64) (g' := (mkF m 288 #[.val (.long q0), .second, .val (.int p1), .val (.int p2), .val (.int p3), .val (.long v), .second, .val (.int a), .val (.int f), .val (.ref b1), .val (.int (own_sz v)), .val (.int (a + (own_sz v)))] [(.ref b1)])) (fun _ k => XS.aload X64.here hx rfl (hb hby at_286) rfl rfl k) ?_
    refine run_fwd (T' := T64) (g' := (mkF m 290 #[.val (.long q0), .second, .val (.int p1), .val (.int p2), .val (.int p3), .val (.long v), .second, .val (.int a), .val (.int f), .val (.ref b1), .val (.int (own_sz v)), .val (.int (a + (own_sz v)))] [(.int (9 : Int32)), (.ref b1)])) (fun _ k => XS.bipush X64.here hx rfl (hb hby at_288) k) ?_
    refine run_fwd (T' := T64) (g' := (mkF m 292 #[.val (.long q0), .second, .val (.int p1), .val (.int p2), .val (.int p3), .val (.long v), .second, .val (.int a), .val (.int f), .val (.ref b1), .val (.int (own_sz v)), .val (.int (a + (own_sz v)))] [(.int a), (.int (9 : Int32)), (.ref b1)])) (fun _ k => XS.iload X64.here hx rfl (hb hby at_290) rfl k) ?_
    refine run_fwd (T' := T64) (g' := (mkF m 294 #[.val (.long q0), .second, .val (.int p1), .val (.int p2), .val (.int p3), .val (.long v), .second, .val (.int a), .val (.int f), .val (.ref b1), .val (.int (own_sz v)), .val (.int (a + (own_sz v)))] [(.int (own_sz v)), (.int a), (.int (9 : Int32)), (.ref b1)])) (fun _ k => XS.iload X64.here hx rfl (hb hby at_292) rfl k) ?_
    refine run_fwd (T' := T64) (g' := (mkF m 296 #[.val (.long q0), .second, .val (.int p1), .val (.int p2), .val (.int p3), .val (.long v), .second, .val (.int a), .val (.int f), .val (.ref b1), .val (.int (own_sz v)), .val (.int (a + (own_sz v)))] [(.long v), (.int (own_sz v)), (.int a), (.int (9 : Int32)), (.ref b1)])) (fun _ k => XS.lload X64.here hx rfl (hb hby at_294) rfl k) ?_
    refine run_fwd (T' := T64) (g' := (mkF m 298 #[.val (.long q0), .second, .val (.int p1), .val (.int p2), .val (.int p3), .val (.long v), .second, .val (.int a), .val (.int f), .val (.ref b1), .val (.int (own_sz v)), .val (.int (a + (own_sz v)))] [(.int f), (.long v), (.int (own_sz v)), (.int a), (.int (9 : Int32)), (.ref b1)])) (fun _ k => XS.iload X64.here hx rfl (hb hby at_296) rfl k) ?_
    obtain ⟨T66, v66, L66, X66, hQ66, st66⟩ := own_gotS X64 (Jvm.LawKit.callS X64 hx (y := (⟨"querent/index/IndexFileWriteVLongPinLaw", "ok", "([BIIIJB)Z"⟩ : MethodName)) hown (mvT hZ (hw _ (List.mem_of_getElem? (i := 12) rfl))) (mvT hZ (hw _ (List.mem_of_getElem? (i := 13) rfl))) (mvT hZ (hw _ (List.mem_of_getElem? (i := 4) rfl))) (mvT hZ (hw _ (List.mem_of_getElem? (i := 14) rfl))) (by decide) (backOf (W := 0) (rm3 l Z aV hw [] b1 (9 : Int32) a (own_sz v) v f k1 (own_tab (own_Y v a f) 13) (own_Y v a f 9) h44 n0 O45 Q44_1 (⟨by decide, by decide⟩) (own_get _ 13 _ 9 (by decide) (by decide) _) (own_out v hv a f _ 9 (by decide) (by decide) ha.1 ha.2) (own_in1 v hv a f _ 9 (by decide) (by decide) ha.1 ha.2) (own_in2 v hv a f _ 9 (by decide) (by decide) ha.1 ha.2)) hZ (hw _ (List.mem_of_getElem? (i := 14) rfl)) (hw _ (List.mem_of_getElem? (i := 4) rfl)) (by decide) (by decide)) (g := (mkF m 298 #[.val (.long q0), .second, .val (.int p1), .val (.int p2), .val (.int p3), .val (.long v), .second, .val (.int a), .val (.int f), .val (.ref b1), .val (.int (own_sz v)), .val (.int (a + (own_sz v)))] [(.int f), (.long v), (.int (own_sz v)), (.int a), (.int (9 : Int32)), (.ref b1)])) rfl (by rw [hml]; rfl) (argsL := [(.ref b1), (.int (9 : Int32)), (.int a), (.int (own_sz v)), (.long v), (.int f)]) (rest := []) (lenOf pd__28_5bBIIIJB_29Z rfl) rfl (by show 2 * 0 + _ ≤ _; exact Nat.le_of_eq rfl) (hb hby at_298) (fun _ _ => ⟨rfl, Q64_0, (by decide : 1 + 0 ≤ _), (by decide : 13 + 0 ≤ _)⟩))
    obtain ⟨rfl, N66q, Q66_0⟩ := hQ66
    have N66 := Fr.app N64 N66q
    refine run_fwd (T' := T66) (g' := (mkF m 301 #[.val (.long q0), .second, .val (.int p1), .val (.int p2), .val (.int p3), .val (.long v), .second, .val (.int a), .val (.int f), .val (.ref b1), .val (.int (own_sz v)), .val (.int (a + (own_sz v)))] [(.int (1 : Int32))])) (fun _ k => st66 _ k) ?_
    have hc301_67 : ¬ ((1 : Int32) = (0 : Int32)) := (by decide)
    refine run_fwd (T' := T66) (g' := (mkF m 304 #[.val (.long q0), .second, .val (.int p1), .val (.int p2), .val (.int p3), .val (.long v), .second, .val (.int a), .val (.int f), .val (.ref b1), .val (.int (own_sz v)), .val (.int (a + (own_sz v)))] [])) (fun _ k => XS.ifNo X66.here hx rfl (hb hby at_301) rfl ((if0 _ _).trans (feq hc301_67).1) k) ?_
    refine run_fwd (T' := T66) (g' := (mkF m 306 #[.val (.long q0), .second, .val (.int p1), .val (.int p2), .val (.int p3), .val (.long v), .second, .val (.int a), .val (.int f), .val (.ref b1), .val (.int (own_sz v)), .val (.int (a + (own_sz v)))] [(.ref b1)])) (fun _ k => XS.aload X66.here hx rfl (hb hby at_304) rfl rfl k) ?_
    refine run_fwd (T' := T66) (g' := (mkF m 308 #[.val (.long q0), .second, .val (.int p1), .val (.int p2), .val (.int p3), .val (.long v), .second, .val (.int a), .val (.int f), .val (.ref b1), .val (.int (own_sz v)), .val (.int (a + (own_sz v)))] [(.int (10 : Int32)), (.ref b1)])) (fun _ k => XS.bipush X66.here hx rfl (hb hby at_306) k) ?_
    refine run_fwd (T' := T66) (g' := (mkF m 310 #[.val (.long q0), .second, .val (.int p1), .val (.int p2), .val (.int p3), .val (.long v), .second, .val (.int a), .val (.int f), .val (.ref b1), .val (.int (own_sz v)), .val (.int (a + (own_sz v)))] [(.int a), (.int (10 : Int32)), (.ref b1)])) (fun _ k => XS.iload X66.here hx rfl (hb hby at_308) rfl k) ?_
    refine run_fwd (T' := T66) (g' := (mkF m 312 #[.val (.long q0), .second, .val (.int p1), .val (.int p2), .val (.int p3), .val (.long v), .second, .val (.int a), .val (.int f), .val (.ref b1), .val (.int (own_sz v)), .val (.int (a + (own_sz v)))] [(.int (own_sz v)), (.int a), (.int (10 : Int32)), (.ref b1)])) (fun _ k => XS.iload X66.here hx rfl (hb hby at_310) rfl k) ?_
    refine run_fwd (T' := T66) (g' := (mkF m 314 #[.val (.long q0), .second, .val (.int p1), .val (.int p2), .val (.int p3), .val (.long v), .second, .val (.int a), .val (.int f), .val (.ref b1), .val (.int (own_sz v)), .val (.int (a + (own_sz v)))] [(.long v), (.int (own_sz v)), (.int a), (.int (10 : Int32)), (.ref b1)])) (fun _ k => XS.lload X66.here hx rfl (hb hby at_312) rfl k) ?_
    refine run_fwd (T' := T66) (g' := (mkF m 316 #[.val (.long q0), .second, .val (.int p1), .val (.int p2), .val (.int p3), .val (.long v), .second, .val (.int a), .val (.int f), .val (.ref b1), .val (.int (own_sz v)), .val (.int (a + (own_sz v)))] [(.int f), (.long v), (.int (own_sz v)), (.int a), (.int (10 : Int32)), (.ref b1)])) (fun _ k => XS.iload X66.here hx rfl (hb hby at_314) rfl k) ?_
    obtain ⟨T68, v68, L68, X68, hQ68, st68⟩ := own_gotS X66 (Jvm.LawKit.callS X66 hx (y := (⟨"querent/index/IndexFileWriteVLongPinLaw", "ok", "([BIIIJB)Z"⟩ : MethodName)) hown (mvT hZ (hw _ (List.mem_of_getElem? (i := 12) rfl))) (mvT hZ (hw _ (List.mem_of_getElem? (i := 13) rfl))) (mvT hZ (hw _ (List.mem_of_getElem? (i := 4) rfl))) (mvT hZ (hw _ (List.mem_of_getElem? (i := 14) rfl))) (by decide) (backOf (W := 0) (rm3 l Z aV hw [] b1 (10 : Int32) a (own_sz v) v f k1 (own_tab (own_Y v a f) 13) (own_Y v a f 10) h44 n0 O45 Q44_1 (⟨by decide, by decide⟩) (own_get _ 13 _ 10 (by decide) (by decide) _) (own_out v hv a f _ 10 (by decide) (by decide) ha.1 ha.2) (own_in1 v hv a f _ 10 (by decide) (by decide) ha.1 ha.2) (own_in2 v hv a f _ 10 (by decide) (by decide) ha.1 ha.2)) hZ (hw _ (List.mem_of_getElem? (i := 14) rfl)) (hw _ (List.mem_of_getElem? (i := 4) rfl)) (by decide) (by decide)) (g := (mkF m 316 #[.val (.long q0), .second, .val (.int p1), .val (.int p2), .val (.int p3), .val (.long v), .second, .val (.int a), .val (.int f), .val (.ref b1), .val (.int (own_sz v)), .val (.int (a + (own_sz v)))] [(.int f), (.long v), (.int (own_sz v)), (.int a), (.int (10 : Int32)), (.ref b1)])) rfl (by rw [hml]; rfl) (argsL := [(.ref b1), (.int (10 : Int32)), (.int a), (.int (own_sz v)), (.long v), (.int f)]) (rest := []) (lenOf pd__28_5bBIIIJB_29Z rfl) rfl (by show 2 * 0 + _ ≤ _; exact Nat.le_of_eq rfl) (hb hby at_316) (fun _ _ => ⟨rfl, Q66_0, (by decide : 1 + 0 ≤ _), (by decide : 13 + 0 ≤ _)⟩))
    obtain ⟨rfl, N68q, Q68_0⟩ := hQ68
    have N68 := Fr.app N66 N68q
    refine run_fwd (T' := T68) (g' := (mkF m 319 #[.val (.long q0), .second, .val (.int p1), .val (.int p2), .val (.int p3), .val (.long v), .second, .val (.int a), .val (.int f), .val (.ref b1), .val (.int (own_sz v)), .val (.int (a + (own_sz v)))] [(.int (1 : Int32))])) (fun _ k => st68 _ k) ?_
    have hc319_69 : ¬ ((1 : Int32) = (0 : Int32)) := (by decide)
    refine run_fwd (T' := T68) (g' := (mkF m 322 #[.val (.long q0), .second, .val (.int p1), .val (.int p2), .val (.int p3), .val (.long v), .second, .val (.int a), .val (.int f), .val (.ref b1), .val (.int (own_sz v)), .val (.int (a + (own_sz v)))] [])) (fun _ k => XS.ifNo X68.here hx rfl (hb hby at_319) rfl ((if0 _ _).trans (feq hc319_69).1) k) ?_
    refine run_fwd (T' := T68) (g' := (mkF m 324 #[.val (.long q0), .second, .val (.int p1), .val (.int p2), .val (.int p3), .val (.long v), .second, .val (.int a), .val (.int f), .val (.ref b1), .val (.int (own_sz v)), .val (.int (a + (own_sz v)))] [(.ref b1)])) (fun _ k => XS.aload X68.here hx rfl (hb hby at_322) rfl rfl k) ?_
    refine run_fwd (T' := T68) (g' := (mkF m 326 #[.val (.long q0), .second, .val (.int p1), .val (.int p2), .val (.int p3), .val (.long v), .second, .val (.int a), .val (.int f), .val (.ref b1), .val (.int (own_sz v)), .val (.int (a + (own_sz v)))] [(.int (11 : Int32)), (.ref b1)])) (fun _ k => XS.bipush X68.here hx rfl (hb hby at_324) k) ?_
    refine run_fwd (T' := T68) (g' := (mkF m 328 #[.val (.long q0), .second, .val (.int p1), .val (.int p2), .val (.int p3), .val (.long v), .second, .val (.int a), .val (.int f), .val (.ref b1), .val (.int (own_sz v)), .val (.int (a + (own_sz v)))] [(.int a), (.int (11 : Int32)), (.ref b1)])) (fun _ k => XS.iload X68.here hx rfl (hb hby at_326) rfl k) ?_
    refine run_fwd (T' := T68) (g' := (mkF m 330 #[.val (.long q0), .second, .val (.int p1), .val (.int p2), .val (.int p3), .val (.long v), .second, .val (.int a), .val (.int f), .val (.ref b1), .val (.int (own_sz v)), .val (.int (a + (own_sz v)))] [(.int (own_sz v)), (.int a), (.int (11 : Int32)), (.ref b1)])) (fun _ k => XS.iload X68.here hx rfl (hb hby at_328) rfl k) ?_
    refine run_fwd (T' := T68) (g' := (mkF m 332 #[.val (.long q0), .second, .val (.int p1), .val (.int p2), .val (.int p3), .val (.long v), .second, .val (.int a), .val (.int f), .val (.ref b1), .val (.int (own_sz v)), .val (.int (a + (own_sz v)))] [(.long v), (.int (own_sz v)), (.int a), (.int (11 : Int32)), (.ref b1)])) (fun _ k => XS.lload X68.here hx rfl (hb hby at_330) rfl k) ?_
    refine run_fwd (T' := T68) (g' := (mkF m 334 #[.val (.long q0), .second, .val (.int p1), .val (.int p2), .val (.int p3), .val (.long v), .second, .val (.int a), .val (.int f), .val (.ref b1), .val (.int (own_sz v)), .val (.int (a + (own_sz v)))] [(.int f), (.long v), (.int (own_sz v)), (.int a), (.int (11 : Int32)), (.ref b1)])) (fun _ k => XS.iload X68.here hx rfl (hb hby at_332) rfl k) ?_
    obtain ⟨T70, v70, L70, X70, hQ70, st70⟩ := own_gotS X68 (Jvm.LawKit.callS X68 hx (y := (⟨"querent/index/IndexFileWriteVLongPinLaw", "ok", "([BIIIJB)Z"⟩ : MethodName)) hown (mvT hZ (hw _ (List.mem_of_getElem? (i := 12) rfl))) (mvT hZ (hw _ (List.mem_of_getElem? (i := 13) rfl))) (mvT hZ (hw _ (List.mem_of_getElem? (i := 4) rfl))) (mvT hZ (hw _ (List.mem_of_getElem? (i := 14) rfl))) (by decide) (backOf (W := 0) (rm3 l Z aV hw [] b1 (11 : Int32) a (own_sz v) v f k1 (own_tab (own_Y v a f) 13) (own_Y v a f 11) h44 n0 O45 Q44_1 (⟨by decide, by decide⟩) (own_get _ 13 _ 11 (by decide) (by decide) _) (own_out v hv a f _ 11 (by decide) (by decide) ha.1 ha.2) (own_in1 v hv a f _ 11 (by decide) (by decide) ha.1 ha.2) (own_in2 v hv a f _ 11 (by decide) (by decide) ha.1 ha.2)) hZ (hw _ (List.mem_of_getElem? (i := 14) rfl)) (hw _ (List.mem_of_getElem? (i := 4) rfl)) (by decide) (by decide)) (g := (mkF m 334 #[.val (.long q0), .second, .val (.int p1), .val (.int p2), .val (.int p3), .val (.long v), .second, .val (.int a), .val (.int f), .val (.ref b1), .val (.int (own_sz v)), .val (.int (a + (own_sz v)))] [(.int f), (.long v), (.int (own_sz v)), (.int a), (.int (11 : Int32)), (.ref b1)])) rfl (by rw [hml]; rfl) (argsL := [(.ref b1), (.int (11 : Int32)), (.int a), (.int (own_sz v)), (.long v), (.int f)]) (rest := []) (lenOf pd__28_5bBIIIJB_29Z rfl) rfl (by show 2 * 0 + _ ≤ _; exact Nat.le_of_eq rfl) (hb hby at_334) (fun _ _ => ⟨rfl, Q68_0, (by decide : 1 + 0 ≤ _), (by decide : 13 + 0 ≤ _)⟩))
    obtain ⟨rfl, N70q, Q70_0⟩ := hQ70
    have N70 := Fr.app N68 N70q
    refine run_fwd (T' := T70) (g' := (mkF m 337 #[.val (.long q0), .second, .val (.int p1), .val (.int p2), .val (.int p3), .val (.long v), .second, .val (.int a), .val (.int f), .val (.ref b1), .val (.int (own_sz v)), .val (.int (a + (own_sz v)))] [(.int (1 : Int32))])) (fun _ k => st70 _ k) ?_
    have hc337_71 : ¬ ((1 : Int32) = (0 : Int32)) := (by decide)
    refine run_fwd (T' := T70) (g' := (mkF m 340 #[.val (.long q0), .second, .val (.int p1), .val (.int p2), .val (.int p3), .val (.long v), .second, .val (.int a), .val (.int f), .val (.ref b1), .val (.int (own_sz v)), .val (.int (a + (own_sz v)))] [])) (fun _ k => XS.ifNo X70.here hx rfl (hb hby at_337) rfl ((if0 _ _).trans (feq hc337_71).1) k) ?_
    refine run_fwd (T' := T70) (g' := (mkF m 342 #[.val (.long q0), .second, .val (.int p1), .val (.int p2), .val (.int p3), .val (.long v), .second, .val (.int a), .val (.int f), .val (.ref b1), .val (.int (own_sz v)), .val (.int (a + (own_sz v)))] [(.ref b1)])) (fun _ k => XS.aload X70.here hx rfl (hb hby at_340) rfl rfl k) ?_
    refine run_fwd (T' := T70) (g' := (mkF m 344 #[.val (.long q0), .second, .val (.int p1), .val (.int p2), .val (.int p3), .val (.long v), .second, .val (.int a), .val (.int f), .val (.ref b1), .val (.int (own_sz v)), .val (.int (a + (own_sz v)))] [(.int (12 : Int32)), (.ref b1)])) (fun _ k => XS.bipush X70.here hx rfl (hb hby at_342) k) ?_
    refine run_fwd (T' := T70) (g' := (mkF m 346 #[.val (.long q0), .second, .val (.int p1), .val (.int p2), .val (.int p3), .val (.long v), .second, .val (.int a), .val (.int f), .val (.ref b1), .val (.int (own_sz v)), .val (.int (a + (own_sz v)))] [(.int a), (.int (12 : Int32)), (.ref b1)])) (fun _ k => XS.iload X70.here hx rfl (hb hby at_344) rfl k) ?_
    refine run_fwd (T' := T70) (g' := (mkF m 348 #[.val (.long q0), .second, .val (.int p1), .val (.int p2), .val (.int p3), .val (.long v), .second, .val (.int a), .val (.int f), .val (.ref b1), .val (.int (own_sz v)), .val (.int (a + (own_sz v)))] [(.int (own_sz v)), (.int a), (.int (12 : Int32)), (.ref b1)])) (fun _ k => XS.iload X70.here hx rfl (hb hby at_346) rfl k) ?_
    refine run_fwd (T' := T70) (g' := (mkF m 350 #[.val (.long q0), .second, .val (.int p1), .val (.int p2), .val (.int p3), .val (.long v), .second, .val (.int a), .val (.int f), .val (.ref b1), .val (.int (own_sz v)), .val (.int (a + (own_sz v)))] [(.long v), (.int (own_sz v)), (.int a), (.int (12 : Int32)), (.ref b1)])) (fun _ k => XS.lload X70.here hx rfl (hb hby at_348) rfl k) ?_
    refine run_fwd (T' := T70) (g' := (mkF m 352 #[.val (.long q0), .second, .val (.int p1), .val (.int p2), .val (.int p3), .val (.long v), .second, .val (.int a), .val (.int f), .val (.ref b1), .val (.int (own_sz v)), .val (.int (a + (own_sz v)))] [(.int f), (.long v), (.int (own_sz v)), (.int a), (.int (12 : Int32)), (.ref b1)])) (fun _ k => XS.iload X70.here hx rfl (hb hby at_350) rfl k) ?_
    obtain ⟨T72, v72, L72, X72, hQ72, st72⟩ := own_gotS X70 (Jvm.LawKit.callS X70 hx (y := (⟨"querent/index/IndexFileWriteVLongPinLaw", "ok", "([BIIIJB)Z"⟩ : MethodName)) hown (mvT hZ (hw _ (List.mem_of_getElem? (i := 12) rfl))) (mvT hZ (hw _ (List.mem_of_getElem? (i := 13) rfl))) (mvT hZ (hw _ (List.mem_of_getElem? (i := 4) rfl))) (mvT hZ (hw _ (List.mem_of_getElem? (i := 14) rfl))) (by decide) (backOf (W := 0) (rm3 l Z aV hw [] b1 (12 : Int32) a (own_sz v) v f k1 (own_tab (own_Y v a f) 13) (own_Y v a f 12) h44 n0 O45 Q44_1 (⟨by decide, by decide⟩) (own_get _ 13 _ 12 (by decide) (by decide) _) (own_out v hv a f _ 12 (by decide) (by decide) ha.1 ha.2) (own_in1 v hv a f _ 12 (by decide) (by decide) ha.1 ha.2) (own_in2 v hv a f _ 12 (by decide) (by decide) ha.1 ha.2)) hZ (hw _ (List.mem_of_getElem? (i := 14) rfl)) (hw _ (List.mem_of_getElem? (i := 4) rfl)) (by decide) (by decide)) (g := (mkF m 352 #[.val (.long q0), .second, .val (.int p1), .val (.int p2), .val (.int p3), .val (.long v), .second, .val (.int a), .val (.int f), .val (.ref b1), .val (.int (own_sz v)), .val (.int (a + (own_sz v)))] [(.int f), (.long v), (.int (own_sz v)), (.int a), (.int (12 : Int32)), (.ref b1)])) rfl (by rw [hml]; rfl) (argsL := [(.ref b1), (.int (12 : Int32)), (.int a), (.int (own_sz v)), (.long v), (.int f)]) (rest := []) (lenOf pd__28_5bBIIIJB_29Z rfl) rfl (by show 2 * 0 + _ ≤ _; exact Nat.le_of_eq rfl) (hb hby at_352) (fun _ _ => ⟨rfl, Q70_0, (by decide : 1 + 0 ≤ _), (by decide : 13 + 0 ≤ _)⟩))
    obtain ⟨rfl, N72q, Q72_0⟩ := hQ72
    have N72 := Fr.app N70 N72q
    refine run_fwd (T' := T72) (g' := (mkF m 355 #[.val (.long q0), .second, .val (.int p1), .val (.int p2), .val (.int p3), .val (.long v), .second, .val (.int a), .val (.int f), .val (.ref b1), .val (.int (own_sz v)), .val (.int (a + (own_sz v)))] [(.int (1 : Int32))])) (fun _ k => st72 _ k) ?_
    have hc355_73 : ¬ ((1 : Int32) = (0 : Int32)) := (by decide)
    refine run_fwd (T' := T72) (g' := (mkF m 358 #[.val (.long q0), .second, .val (.int p1), .val (.int p2), .val (.int p3), .val (.long v), .second, .val (.int a), .val (.int f), .val (.ref b1), .val (.int (own_sz v)), .val (.int (a + (own_sz v)))] [])) (fun _ k => XS.ifNo X72.here hx rfl (hb hby at_355) rfl ((if0 _ _).trans (feq hc355_73).1) k) ?_
    refine run_fwd (T' := T72) (g' := (mkF m 359 #[.val (.long q0), .second, .val (.int p1), .val (.int p2), .val (.int p3), .val (.long v), .second, .val (.int a), .val (.int f), .val (.ref b1), .val (.int (own_sz v)), .val (.int (a + (own_sz v)))] [(.int (1 : Int32))])) (fun _ k => XS.iconst X72.here hx rfl (hb hby at_358) k) ?_
    refine run_fwd (T' := T72) (g' := (mkF m 363 #[.val (.long q0), .second, .val (.int p1), .val (.int p2), .val (.int p3), .val (.long v), .second, .val (.int a), .val (.int f), .val (.ref b1), .val (.int (own_sz v)), .val (.int (a + (own_sz v)))] [(.int (1 : Int32))])) (fun _ k => XS.goto X72.here hx rfl (pc0 := 359) (pc' := 363) rfl (hb hby at_359) (by decide) (by decide) k) ?_
    exact run_ret X72 hx Bd.returns Bd.notSynchronized rfl (Or.inl ⟨rfl, by simp, _, rfl⟩) (hb hby at_363) (by rw [Q72_0]; exact ⟨rfl, N72⟩) (by decide) (by decide)
  exact tail (((q0 &&& (9223372036854775807 : Int64)).toUInt64 >>> ((p1 &&& (63 : Int32)) &&& 0x3f).toInt64.toUInt64).toInt64) (p2 &&& (3 : Int32)) (p3.toInt8.toInt32) (own_val q0 p1) (own_at p2) (own_fill p3)
set_option maxRecDepth 65536 in
set_option maxHeartbeats 40000000 in
theorem comes_1 {Post : Tables → Env → Array Value → State → Outcome → State → Prop} (hpost : ∀ tb e args s v u, (limb_1_1.after args s (.returned v) u = true ∧ limb_1_2.after args s (.returned v) u = true ∧ True) → FrameEnd s (.returned v) u (Jvm.fieldLocs frame_1_writes args s ++ Jvm.arrayLocs frame_1_arrays args s ++ Jvm.staticLocs frame_1_statics s) 16 128 → Post tb e args s (.returned v) u) :
    ArmFor flags0 classFile x code maxLocals ret World_1 tables_1 room_1 Calls_1 rest_1 Pre_1 Post := by
  intro l hfl _ _ p e ha hc hk s m args below hf hA hF happ hP
  obtain ⟨hcalls, hrest, hpre⟩ := hP
  obtain ⟨-, -, -, hnamed, -, -, -, hat⟩ := (Spec.applies_iff hf).mp happ
  obtain ⟨hg, hn⟩ := and_e (Cond.before_iff.mp (show (Jvm.Cond.and given_1 narrow_1).before args s = true from hpre))
  obtain ⟨g1, g2⟩ := and_e hg
  obtain ⟨g3, g4⟩ := and_e g2
  obtain ⟨g5, g6⟩ := and_e g4
  obtain ⟨g7, g8⟩ := and_e g6
  obtain ⟨w0, w1, w2, w3, rfl⟩ : ∃ w0 w1 w2 w3 : Value, args = #[w0, w1, w2, w3] := by
    have hs : args.size = 4 := by simpa [Cond.value, given_1] using g1
    obtain ⟨L⟩ := args
    match L, hs with
    | [w0, w1, w2, w3], _ => exact ⟨w0, w1, w2, w3, rfl⟩
  have hw := fun d (hd : d ∈ tables_1) => atoms_spec (ws := Jvm.Cond.code x code maxLocals ret :: tables_1) hat d (List.mem_cons_of_mem _ hd)
  obtain ⟨i0, ei0⟩ := isL_v g3
  obtain rfl : w0 = (.long i0) := Option.some.inj ei0
  obtain ⟨i1, ei1⟩ := is_v g5
  obtain rfl : w1 = (.int i1) := Option.some.inj ei1
  obtain ⟨i2, ei2⟩ := is_v g7
  obtain rfl : w2 = (.int i2) := Option.some.inj ei2
  obtain ⟨i3, ei3⟩ := is_v g8
  obtain rfl : w3 = (.int i3) := Option.some.inj ei3
  obtain ⟨n, o, h1, h2, h3, _, L, rfl, ⟨rfl, N⟩, hq⟩ := rm0 l s _ hw tables_1 i0 i1 i2 i3  s.heap s.heap.size (Old.start s)  p e ha hc hk s m _ below hf ((Spec.applies_iff_loose hf).mp happ).1 ⟨rfl, State.Warmed39.refl s, rfl⟩ trivial
  refine ⟨n, _, h1, h2, h3, hpost _ _ _ _ _ _ ⟨Cond.after_iff.mpr rfl, Cond.after_iff.mpr (eq_i res_at (Term.int_eval (1)) rfl), trivial⟩ ⟨hq.1, hq.2.1, (hq.2.2.sift fun y hy => Or.inr (N y hy)).mono (by decide) (by decide)⟩⟩
theorem main_1_1 : Claimed_1_1 := comes_1 fun _ _ _ _ _ _ h hF => ⟨h.1, hF⟩
theorem main_1_2 : Claimed_1_2 := comes_1 fun _ _ _ _ _ _ h hF => ⟨h.2.1, hF⟩
end Jvm.Pilot.@@N@@
namespace Jvm.Pilot.@@N@@
open Jvm Jvm.ClassFile Sem Op Lib Jvm.Free Jvm.Stand Jvm.Pilot.@@N@@.Jvm.D
/-! MADE BY PROGRAM (witnessworld.py) out of the Statement's table words and the real class files: 9 classes; the members and pool entries that the words name. The judged class is class 1, her method 3. -/
namespace start1
open Jvm.ClassFile
def u (s : String) : CpInfo := .utf8 (stringToUtf16 s)
/-- a pool by its gaps: so many unusable entries, then the entry; so many at the end -/
def gap : Nat → List CpInfo → List CpInfo
  | 0, r => r
  | n + 1, r => .unusable :: gap n r
def poolList (es : List (Nat × CpInfo)) (last : Nat) : List CpInfo := es.foldr (fun e r => gap e.1 (e.2 :: r)) (gap last [])
def pool (es : List (Nat × CpInfo)) (last : Nat) : Array CpInfo := ⟨poolList es last⟩
def fileOf (pool : Array CpInfo) (this : Nat) (attrs : Array Attribute := #[]) (ms : Array MethodInfo := #[]) (fl : Nat := 33) (sup : Nat := 0) (ifs : Array Nat := #[]) (fds : Array FieldInfo := #[]) : ClassFile where
  minorVersion := 0
  majorVersion := 65
  constantPool := pool
  accessFlags := fl
  thisClass := this
  superClass := sup
  interfaces := ifs
  fields := fds
  methods := ms
  attributes := attrs
def plain (name : String) (sup : Option ClassId) : Class where
  name := name
  kind := .ordinary
  loader := none
  accessFlags := 33
  super := sup
  interfaces := #[]
  cf := none
  fields := #[]
  methods := #[]
  instanceTypes := #[]
  staticTypes := #[]
  resolved := #[]
  callSites := []
  init := .initialized
  statics := none
  mirror := none

def pool0 : Array CpInfo := pool [(5, u "<init>"), (0, u "()V"), (1, .class_ 10), (1, u "java/lang/Object")] 113

def k0m0 : Method := { name := "<init>", desc := "()V", sig := { parameters := [], returnType := none }, accessFlags := 1, code := none }
/-- java/lang/Object -/
def k0 : Class := { plain "java/lang/Object" none with
  accessFlags := 33
  interfaces := #[]
  cf := some (fileOf pool0 8 #[] #[{ accessFlags := 1, nameIndex := 5, descriptorIndex := 6, attributes := #[] }] 33 0 #[] #[])
  fields := #[]
  methods := #[k0m0]
  instanceTypes := #[]
  staticTypes := #[]
  resolved := Array.replicate 124 none
  statics := none }

def pool1 : Array CpInfo := pool [(2, .class_ 4), (1, u "java/lang/Object"), (0, u "<init>"), (0, u "()V"), (0, .long 128), (1, .long 16384), (1, .long 2097152), (1, .long 268435456), (1, .long 34359738368), (1, .long 4398046511104), (1, .long 562949953421312), (1, .long 72057594037927936), (1, .long 127), (3, .long 9223372036854775807), (1, .methodref 30 31), (0, .class_ 32), (0, .nameAndType 33 34), (0, u "querent/index/IndexFileWriteVLongPinLaw"), (0, u "size"), (0, u "(J)I"), (0, .methodref 36 37), (0, .class_ 38), (0, .nameAndType 39 40), (0, u "querent/index/IndexFile"), (0, u "writeVLong"), (0, u "([BIJ)I"), (0, .methodref 30 42), (0, .nameAndType 43 44), (0, u "ok"), (0, u "([BIIIJB)Z"), (3, u "law"), (0, u "(JIII)Z")] 4

def k1m0 : Method := { name := "<init>", desc := "()V", sig := { parameters := [], returnType := none }, accessFlags := 2, code := none }
def k1c1 : Code := { maxStack := 4, maxLocals := 2, code := method_2_code, exceptionTable := #[], attributes := #[] }
def k1m1 : Method := { name := "size", desc := "(J)I", sig := { parameters := [.long], returnType := some .int }, accessFlags := 10, code := some k1c1 }
def k1c2 : Code := { maxStack := 4, maxLocals := 9, code := method_3_code, exceptionTable := #[], attributes := #[] }
def k1m2 : Method := { name := "ok", desc := "([BIIIJB)Z", sig := { parameters := [(.array .byte), .int, .int, .int, .long, .byte], returnType := some .boolean }, accessFlags := 10, code := some k1c2 }
def k1c3 : Code := { maxStack := 7, maxLocals := 12, code := code, exceptionTable := #[], attributes := #[] }
def k1m3 : Method := { name := "law", desc := "(JIII)Z", sig := { parameters := [.long, .int, .int, .int], returnType := some .boolean }, accessFlags := 9, code := some k1c3 }
/-- querent/index/IndexFileWriteVLongPinLaw -/
def k1 : Class := { plain "querent/index/IndexFileWriteVLongPinLaw" (some 0) with
  accessFlags := 49
  interfaces := #[]
  cf := some (fileOf pool1 30 #[] #[{ accessFlags := 2, nameIndex := 5, descriptorIndex := 6, attributes := #[] }, { accessFlags := 10, nameIndex := 33, descriptorIndex := 34, attributes := #[] }, { accessFlags := 10, nameIndex := 43, descriptorIndex := 44, attributes := #[] }, { accessFlags := 9, nameIndex := 48, descriptorIndex := 49, attributes := #[] }] 49 2 #[] #[])
  fields := #[]
  methods := #[k1m0, k1m1, k1m2, k1m3]
  instanceTypes := #[]
  staticTypes := #[]
  resolved := Array.replicate 54 none
  statics := none }

def pool2 : Array CpInfo := pool [(3, .class_ 4), (0, u "querent/index/IndexFile"), (1, .class_ 8), (1, u "java/lang/Object"), (0, u "<init>"), (0, u "()V"), (0, .class_ 12), (0, u "querent/index/IndexFile$Output"), (47, .class_ 62), (1, u "querent/index/IndexFile$Checksum"), (7, .class_ 72), (1, u "querent/index/IndexFile$Mapped"), (24, .class_ 99), (1, u "querent/index/IndexFile$Reading"), (219, .long 18446744073709551488), (1, .long 127), (1, .long 128), (100, u "MAX_BYTES"), (0, u "J"), (1, u "VERSION"), (0, u "I"), (1, u "HEADER_BYTES"), (1, u "CHECKSUM_BYTES"), (1, u "CHECKSUM_READ_BYTES"), (1, u "ENVELOPE_BYTES"), (1, u "MAX_VINT_BYTES"), (1, u "MAX_FIFTH_VINT_BYTE"), (1, u "VINT_TOO_LONG"), (0, u "Ljava/lang/String;"), (0, u "MAX_VLONG_BYTES"), (21, u "writeVLong"), (0, u "([BIJ)I"), (20, .class_ 489), (0, u "querent/index/IndexFile$PrefixCoded")] 40

def k2m0 : Method := { name := "<init>", desc := "()V", sig := { parameters := [], returnType := none }, accessFlags := 2, code := none }
def k2c1 : Code := { maxStack := 6, maxLocals := 4, code := prog_85_method_15_code, exceptionTable := #[], attributes := #[] }
def k2m1 : Method := { name := "writeVLong", desc := "([BIJ)I", sig := { parameters := [(.array .byte), .int, .long], returnType := some .int }, accessFlags := 8, code := some k2c1 }
/-- querent/index/IndexFile -/
def k2 : Class := { plain "querent/index/IndexFile" (some 0) with
  accessFlags := 48
  interfaces := #[]
  cf := some (fileOf pool2 3 #[.nestMembers #[11, 97, 488, 70, 60]] #[{ accessFlags := 2, nameIndex := 9, descriptorIndex := 10, attributes := #[] }, { accessFlags := 8, nameIndex := 466, descriptorIndex := 467, attributes := #[] }] 48 6 #[] #[{ accessFlags := 24, nameIndex := 424, descriptorIndex := 425, attributes := #[] }, { accessFlags := 24, nameIndex := 427, descriptorIndex := 428, attributes := #[] }, { accessFlags := 26, nameIndex := 430, descriptorIndex := 428, attributes := #[] }, { accessFlags := 26, nameIndex := 432, descriptorIndex := 428, attributes := #[] }, { accessFlags := 26, nameIndex := 434, descriptorIndex := 428, attributes := #[] }, { accessFlags := 24, nameIndex := 436, descriptorIndex := 428, attributes := #[] }, { accessFlags := 24, nameIndex := 438, descriptorIndex := 428, attributes := #[] }, { accessFlags := 24, nameIndex := 440, descriptorIndex := 428, attributes := #[] }, { accessFlags := 24, nameIndex := 442, descriptorIndex := 443, attributes := #[] }, { accessFlags := 24, nameIndex := 444, descriptorIndex := 428, attributes := #[] }])
  fields := #[{ name := "MAX_BYTES", type := .long, accessFlags := 24, slot := 0, constantValue := 0 }, { name := "VERSION", type := .int, accessFlags := 24, slot := 1, constantValue := 0 }, { name := "HEADER_BYTES", type := .int, accessFlags := 26, slot := 2, constantValue := 0 }, { name := "CHECKSUM_BYTES", type := .int, accessFlags := 26, slot := 3, constantValue := 0 }, { name := "CHECKSUM_READ_BYTES", type := .int, accessFlags := 26, slot := 4, constantValue := 0 }, { name := "ENVELOPE_BYTES", type := .int, accessFlags := 24, slot := 5, constantValue := 0 }, { name := "MAX_VINT_BYTES", type := .int, accessFlags := 24, slot := 6, constantValue := 0 }, { name := "MAX_FIFTH_VINT_BYTE", type := .int, accessFlags := 24, slot := 7, constantValue := 0 }, { name := "VINT_TOO_LONG", type := (.object "java/lang/String"), accessFlags := 24, slot := 8, constantValue := 0 }, { name := "MAX_VLONG_BYTES", type := .int, accessFlags := 24, slot := 9, constantValue := 0 }]
  methods := #[k2m0, k2m1]
  instanceTypes := #[]
  staticTypes := #[.long, .int, .int, .int, .int, .int, .int, .int, (.object "java/lang/String"), .int]
  resolved := Array.replicate 530 none
  statics := none }

def pool3 : Array CpInfo := pool [(1, u "java/lang/Cloneable"), (0, .class_ 1), (0, u "java/lang/Object"), (0, .class_ 3)] 3

/-- java/lang/Cloneable -/
def k3 : Class := { plain "java/lang/Cloneable" (some 0) with
  accessFlags := 1537
  interfaces := #[]
  cf := some (fileOf pool3 2 #[] #[] 1537 4 #[] #[])
  fields := #[]
  methods := #[]
  instanceTypes := #[]
  staticTypes := #[]
  resolved := Array.replicate 8 none
  statics := none }

def pool4 : Array CpInfo := pool [(1, u "java/io/Serializable"), (0, .class_ 1), (0, u "java/lang/Object"), (0, .class_ 3)] 3

/-- java/io/Serializable -/
def k4 : Class := { plain "java/io/Serializable" (some 0) with
  accessFlags := 1537
  interfaces := #[]
  cf := some (fileOf pool4 2 #[] #[] 1537 4 #[] #[])
  fields := #[]
  methods := #[]
  instanceTypes := #[]
  staticTypes := #[]
  resolved := Array.replicate 8 none
  statics := none }

/-- the primitive byte -/
def k5 : Class := { plain "byte" none with kind := .primitive 'B', accessFlags := 0x411 }
/-- [B -/
def k6 : Class := { plain "[B" (some 0) with kind := .array 5 .byte, interfaces := #[3, 4], accessFlags := 1041 }

/-- the primitive int -/
def k7 : Class := { plain "int" none with kind := .primitive 'I', accessFlags := 0x411 }
/-- [I -/
def k8 : Class := { plain "[I" (some 0) with kind := .array 7 .int, interfaces := #[3, 4], accessFlags := 1041 }

def heap : Heap := #[]
def classes : Array Class := #[k0, k1, k2, k3, k4, k5, k6, k7, k8]
def interned : List (Array UInt16 × Addr) := []
def slotsUsed : Nat := 0
def theMethod : MethodId := ⟨1, 3⟩
def args0 : Array Value := #[.long 5, .int 1, .int 2, .int 300]
def aboutOver (below : List Frame) : State where
  vm := { classes := classes, interned := interned.toArray }
  heap := heap
  slotsUsed := slotsUsed
  threads := #[{ frames := .invoking theMethod args0 :: below }]
def below0 : List Frame := [.native { method := ⟨0, 0⟩, args := #[] }]
def about1 : State := aboutOver below0
def p0 : Program := .bare "" "" ""
def e0 : Env := launch0.env 0 0 0
theorem w_frames : about1.frames = Frame.invoking theMethod args0 :: below0 := rfl
set_option maxRecDepth 65536 in
theorem w_args : argsFit about1.vm theMethod args0 = true := by decide +kernel
set_option maxRecDepth 65536 in
theorem w_heap : heapFits about1 = true := by decide +kernel
set_option maxRecDepth 65536 in
theorem w_runnable : about1.curStatus? = some .runnable := by decide +kernel
set_option maxRecDepth 65536 in
theorem w_alone : about1.alone = true := by decide +kernel
set_option maxRecDepth 65536 in
theorem w_named : about1.methodNamed? x = some theMethod := by decide +kernel
set_option maxRecDepth 65536 in
theorem w_hears : about1.hears theMethod below0 = true := by decide +kernel
set_option maxRecDepth 65536 in
theorem w_ripe : about1.ripe theMethod args0 below0 = true := by decide +kernel
theorem w_running : about1.status = .running := rfl
set_option maxRecDepth 65536 in
theorem w_room : about1.hasRoom e0.platform room_1 = true :=
  launch0.hasRoom_least _ room_1 (by decide +kernel) (by decide +kernel) (by decide +kernel) (by decide +kernel) (by decide +kernel) (by decide +kernel)
theorem allAtoms_all (ts : List Jvm.Cond) (a : Array Jvm.Value) (st : Jvm.State) : (allAtoms ts).before a st = ts.all (fun c => c.before a st) := by
  induction ts with
  | nil => rfl
  | cons c t ih =>
    show (Jvm.Cond.and c (allAtoms t)).before a st = _
    rw [Jvm.Cond.before_and, ih, List.all_cons]
def words1 : List Jvm.Cond := Jvm.Cond.code x code maxLocals ret :: tables_1
/-- a 'code' word, met by the world's own term for the bytes: nothing is compared byte by byte -/
theorem code_word {y : MethodName} {bytes : ByteArray} {mx : Nat} {rt : Option FieldType} {a : Array Value} {s : State} {m : MethodId} {meth : Method} {c : Code} (h1 : s.methodNamed? y = some m) (h2 : s.vm.method? m = some meth) (h3 : meth.code = some c) (h4 : c.code = bytes)
    (h5 : (c.maxLocals == mx && c.exceptionTable.isEmpty && decide (c.maxStack ≤ mostOperands) && decide (meth.sig.returnType = rt) && !meth.locks && decide (parseMethodDescriptor y.desc = some meth.sig)) = true) : (Jvm.Cond.code y bytes mx rt).before a s = true := by
  simp only [Bool.and_eq_true, beq_iff_eq, Bool.not_eq_true', decide_eq_true_eq] at h5
  obtain ⟨⟨⟨⟨⟨g1, g2⟩, g3⟩, g4⟩, g5⟩, g6⟩ := h5
  simp [Cond.before, Cond.holds, Cond.value, h1, h2, h3, h4, g1, g2, g3, g4, g5, g6]
def isCode : Jvm.Cond → Bool
  | .code _ _ _ _ => true
  | _ => false
theorem all_split {L : List Jvm.Cond} {P : Jvm.Cond → Bool} (h1 : L.all (fun c => isCode c || P c) = true) (h2 : ∀ c ∈ L.filter isCode, P c = true) : L.all P = true := by
  refine List.all_eq_true.mpr fun c hc => ?_
  have h := List.all_eq_true.mp h1 c hc
  rcases Bool.eq_false_or_eq_true (isCode c) with hi | hi
  · exact h2 c (List.mem_filter.mpr ⟨hc, hi⟩)
  · simpa [hi] using h
set_option maxRecDepth 65536 in
theorem w_c0 : (Jvm.Cond.code x code maxLocals ret).before args0 about1 = true := code_word (m := ⟨1, 3⟩) (meth := k1m3) (c := k1c3) (by decide +kernel) rfl rfl rfl (by decide +kernel)
set_option maxRecDepth 65536 in
theorem w_c1 : (Jvm.Cond.code ({ cls := "querent/index/IndexFileWriteVLongPinLaw", name := "size", desc := "(J)I" } : Jvm.MethodName) method_2_code (2 : Nat) (Option.some Jvm.ClassFile.FieldType.int)).before args0 about1 = true := code_word (m := ⟨1, 1⟩) (meth := k1m1) (c := k1c1) (by decide +kernel) rfl rfl rfl (by decide +kernel)
set_option maxRecDepth 65536 in
theorem w_c2 : (Jvm.Cond.code ({ cls := "querent/index/IndexFile", name := "writeVLong", desc := "([BIJ)I" } : Jvm.MethodName) prog_85_method_15_code (4 : Nat) (Option.some Jvm.ClassFile.FieldType.int)).before args0 about1 = true := code_word (m := ⟨2, 1⟩) (meth := k2m1) (c := k2c1) (by decide +kernel) rfl rfl rfl (by decide +kernel)
set_option maxRecDepth 65536 in
theorem w_c3 : (Jvm.Cond.code ({ cls := "querent/index/IndexFileWriteVLongPinLaw", name := "ok", desc := "([BIIIJB)Z" } : Jvm.MethodName) method_3_code (9 : Nat) (Option.some Jvm.ClassFile.FieldType.boolean)).before args0 about1 = true := code_word (m := ⟨1, 2⟩) (meth := k1m2) (c := k1c2) (by decide +kernel) rfl rfl rfl (by decide +kernel)
def codes1 : List Jvm.Cond := [Jvm.Cond.code x code maxLocals ret, Jvm.Cond.code ({ cls := "querent/index/IndexFileWriteVLongPinLaw", name := "size", desc := "(J)I" } : Jvm.MethodName) method_2_code (2 : Nat) (Option.some Jvm.ClassFile.FieldType.int), Jvm.Cond.code ({ cls := "querent/index/IndexFile", name := "writeVLong", desc := "([BIJ)I" } : Jvm.MethodName) prog_85_method_15_code (4 : Nat) (Option.some Jvm.ClassFile.FieldType.int), Jvm.Cond.code ({ cls := "querent/index/IndexFileWriteVLongPinLaw", name := "ok", desc := "([BIIIJB)Z" } : Jvm.MethodName) method_3_code (9 : Nat) (Option.some Jvm.ClassFile.FieldType.boolean)]
set_option maxRecDepth 65536 in
theorem codes_eq : words1.filter isCode = codes1 := rfl
theorem w_codes : ∀ c ∈ words1.filter isCode, c.before args0 about1 = true := by
  rw [codes_eq]
  intro c hc
  simp only [codes1, List.mem_cons, List.not_mem_nil, or_false] at hc
  rcases hc with rfl | rfl | rfl | rfl
  · exact w_c0
  · exact w_c1
  · exact w_c2
  · exact w_c3
set_option maxRecDepth 65536 in
theorem w_t1 : (words1.take 24).all (fun c => isCode c || c.before args0 about1) = true := by decide +kernel
set_option maxRecDepth 65536 in
theorem w_t2 : (words1.drop 24).all (fun c => isCode c || c.before args0 about1) = true := by decide +kernel
theorem w_tables : (allAtoms (Jvm.Cond.code x code maxLocals ret :: tables_1)).before args0 about1 = true := by
  rw [allAtoms_all]
  show words1.all (fun c => c.before args0 about1) = true
  refine all_split ?_ w_codes
  rw [← List.take_append_drop 24 words1, List.all_append, w_t1, w_t2]
  rfl
set_option maxRecDepth 65536 in
theorem w_case : (Jvm.Cond.and given_1 narrow_1).before args0 about1 = true := by decide +kernel
theorem w_applies : (headSpec (Jvm.Cond.code x code maxLocals ret :: tables_1) room_1).applies x e0.platform about1 = true :=
  (Spec.applies_iff w_frames).mpr ⟨w_running, w_runnable, w_alone, w_named, w_hears, w_ripe, w_room, w_tables⟩
theorem atStart : AtStart classFile x code maxLocals ret World_1 tables_1 room_1 Calls_1 rest_1 Pre_1 launch0 p0 e0 about1 theMethod args0 below0 :=
  ⟨lists_1, trivial, launch0.admits_env _ _ _, launch0.least_env, fairChoices_fair.cas, fairChoices_fair.clock, w_frames, w_args, w_heap, w_applies, trivial, trivial, w_case⟩
end start1
theorem witness_1 : WitnessClaimed_1 := ⟨start1.p0, start1.e0, start1.about1, start1.theMethod, start1.args0, start1.below0, start1.atStart⟩
end Jvm.Pilot.@@N@@
