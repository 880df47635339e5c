import JvmDerived
import JvmDerived.Pilot.@@N@@Statement
import JvmDerived.Pilot.@@N@@Code
set_option linter.unusedVariables false
set_option linter.unusedSimpArgs false

namespace Jvm.Pilot.@@N@@
open Jvm Jvm.ClassFile Sem Op Lib Jvm.Free Jvm.Stand Jvm.LawKit Jvm.RoadKit Bundle Jvm.Pilot.@@N@@.Jvm.D
section OwnKit
def Run (tb : Tables) (e : Env) (below : List Frame) (W : Outcome → State → Prop) (T : State) (g : JFrame) : Prop := ∃ s₂ o, Steps tb e below (T.setTop g) s₂ ∧ s₂.status = .running ∧ Ended s₂ below o ∧ W o s₂
abbrev Wd (s : State) (Q : Option Value → Heap → List Loc → Prop) (k n : Nat) : Outcome → State → Prop := fun o U => ∃ v L, o = .returned v ∧ Q v U.heap L ∧ FrameEnd s o U L k n
theorem run_fwd {tb : Tables} {e : Env} {below : List Frame} {W : Outcome → State → Prop} {T T' : State} {g g' : JFrame} (st : ∀ t, Steps tb e below (T'.setTop g') t → Steps tb e below (T.setTop g) t) (h : Run tb e below W T' g') : Run tb e below W T g := by
  obtain ⟨t, o, h1, h2⟩ := h
  exact ⟨t, o, st t h1, h2⟩
variable {p : Program} {l : Launch} {e : Env} {R : Room} {s : State} {m : MethodId} {args : Array Value} {below : List Frame} {meth : Method} {c : Code} {T : State} {locs : List Loc} {cells slots : Nat}
theorem run_ret (X : Stand p l e R s m args below meth c T locs cells slots) (hx : p.tables.exec = Jvm.exec) {pc : Nat} {Ls : Array Slot} {w : Value} {t : FieldType} {i : Instr} {rest : List Value} {Q : Option Value → Heap → List Loc → Prop} {k n : Nat} (hret : meth.sig.returnType = some t) (hlk : meth.locks = false) (hn : narrow t w = w)
    (hi : (i = .ireturn ∧ (t = .int ∨ t = .boolean ∨ t = .byte ∨ t = .char ∨ t = .short) ∧ ∃ z, w = .int z) ∨ (i = .lreturn ∧ t = .long ∧ ∃ z, w = .long z) ∨ (i = .dreturn ∧ t = .double ∧ ∃ z, w = .double z) ∨ (i = .freturn ∧ t = .float ∧ ∃ z, w = .float z) ∨ (i = .areturn ∧ t.isReference = true ∧ w.isRef = true))
    (hd : decode c.code pc = .ok (i, 1)) (hQ : Q (some w) T.heap locs) (hk : cells ≤ k) (hs : slots ≤ n) : Run p.tables e below (Wd s Q k n) T (mkF m pc Ls (w :: rest)) := by
  obtain ⟨fs, hr, hrun, hended, hW, hsame⟩ := X.leave (v := some w) (fun h => by rw [hret] at h; cases h) hlk
  exact ⟨_, _, retOut X hx hret hn hi hd hr, hrun, hended, _, _, rfl, hQ, ⟨_, rfl⟩, hW, hsame.mono hk hs⟩
theorem run_retN (X : Stand p l e R s m args below meth c T locs cells slots) (hx : p.tables.exec = Jvm.exec) {pc : Nat} {Ls : Array Slot} {z : Int32} {t : FieldType} {rest : List Value} {Q : Option Value → Heap → List Loc → Prop} {k n : Nat} (hret : meth.sig.returnType = some t) (hlk : meth.locks = false) (ht : t = .boolean ∨ t = .byte ∨ t = .char ∨ t = .short)
    (hd : decode c.code pc = .ok (.ireturn, 1)) (hQ : Q (some (.int (nar t z))) T.heap locs) (hk : cells ≤ k) (hs : slots ≤ n) : Run p.tables e below (Wd s Q k n) T (mkF m pc Ls (.int z :: rest)) := by
  obtain ⟨fs, hr, hrun, hended, hW, hsame⟩ := X.leave (v := some (.int (nar t z))) (fun h => by rw [hret] at h; cases h) hlk
  exact ⟨_, _, retN X hx hret ht hd hr, hrun, hended, _, _, rfl, hQ, ⟨_, rfl⟩, hW, hsame.mono hk hs⟩
theorem run_ret0 (X : Stand p l e R s m args below meth c T locs cells slots) (hx : p.tables.exec = Jvm.exec) {pc : Nat} {Ls : Array Slot} {Q : Option Value → Heap → List Loc → Prop} {k n : Nat} (hret : meth.sig.returnType = none) (hlk : meth.locks = false)
    (hd : decode c.code pc = .ok (.return_, 1)) (hQ : Q none T.heap locs) (hk : cells ≤ k) (hs : slots ≤ n) : Run p.tables e below (Wd s Q k n) T (mkF m pc Ls []) := by
  obtain ⟨fs, hr, hrun, hended, hW, hsame⟩ := X.leave (v := none) (fun _ => rfl) hlk
  exact ⟨_, _, X.returnOut hx hret hd hr, hrun, hended, _, _, rfl, hQ, ⟨_, rfl⟩, hW, hsame.mono hk hs⟩
abbrev WdW (s : State) (Q : Option Value → Heap → List Loc → Prop) (k n : Nat) : Outcome → State → Prop := fun o U => ∃ v L, o = .returned v ∧ Q v U.heap L ∧ ReturnedEndW s o U L k n
theorem run_retW {vm1 : Vm} {n1 : Nat} (X : Stand p l e R (s.setVm vm1) m args below meth c T locs cells slots) (hx : p.tables.exec = Jvm.exec) (hS : s.Since vm1 n1) (hn1 : n1 ≤ T.heap.size) {pc : Nat} {Ls : Array Slot} {w : Value} {t : FieldType} {i : Instr} {rest : List Value} {Q : Option Value → Heap → List Loc → Prop} {k n : Nat} (hret : meth.sig.returnType = some t) (hlk : meth.locks = false) (hn : narrow t w = w)
    (hi : (i = .ireturn ∧ (t = .int ∨ t = .boolean ∨ t = .byte ∨ t = .char ∨ t = .short) ∧ ∃ z, w = .int z) ∨ (i = .lreturn ∧ t = .long ∧ ∃ z, w = .long z) ∨ (i = .dreturn ∧ t = .double ∧ ∃ z, w = .double z) ∨ (i = .freturn ∧ t = .float ∧ ∃ z, w = .float z) ∨ (i = .areturn ∧ t.isReference = true ∧ w.isRef = true))
    (hd : decode c.code pc = .ok (i, 1)) (hQ : Q (some w) T.heap locs) (hk : cells ≤ k) (hs : slots ≤ n) : Run p.tables e below (WdW s Q k n) T (mkF m pc Ls (w :: rest)) := by
  obtain ⟨fs, hr, hrun, hended, hE⟩ := X.leaveW hS hn1 (v := some w) (fun h => by rw [hret] at h; cases h) hlk
  exact ⟨_, _, retOut X hx hret hn hi hd hr, hrun, hended, _, _, rfl, hQ, hE.1, hE.2.1, hE.2.2.1, hE.2.2.2.mono hk hs⟩
theorem own_le {Z : State} {n0 : Nat} {h : Heap} (O : Old Z n0 h) : n0 ≤ h.size := O.1 ▸ O.2.1
end OwnKit
def own_d (n : Int32) : Int32 := if n < (10 : Int32) then (1 : Int32) else if n < (100 : Int32) then (2 : Int32) else if n < (1000 : Int32) then (3 : Int32) else if n < (10000 : Int32) then (4 : Int32) else if n < (100000 : Int32) then (5 : Int32) else if n < (1000000 : Int32) then (6 : Int32) else if n < (10000000 : Int32) then (7 : Int32) else if n < (100000000 : Int32) then (8 : Int32) else if n < (1000000000 : Int32) then (9 : Int32) else (10 : Int32)
def own_pow (e : Int32) : Int32 := if e = (0 : Int32) then (1 : Int32) else if e = (1 : Int32) then (10 : Int32) else if e = (2 : Int32) then (100 : Int32) else if e = (3 : Int32) then (1000 : Int32) else if e = (4 : Int32) then (10000 : Int32) else if e = (5 : Int32) then (100000 : Int32) else if e = (6 : Int32) then (1000000 : Int32) else if e = (7 : Int32) then (10000000 : Int32) else if e = (8 : Int32) then (100000000 : Int32) else (1000000000 : Int32)
def own_chr (r : Int32) : Int32 := (((48 : Int32) + (r % (10 : Int32))).toUInt32.toUInt16.toUInt32.toInt32)
def own_D (n : Int32) : Nat := (own_d n).toInt.toNat
def own_A (a : Int32) : Nat := a.toInt.toNat
def own_X (n a : Int32) (m j : Nat) : Int32 := if own_A a + own_D n - m ≤ j ∧ j < own_A a + own_D n then Int32.ofInt (48 + (n.toInt / (10 ^ (own_A a + own_D n - 1 - j) : Nat)) % 10) else 0
def own_tab (F : Nat → Int32) (n : Nat) : List Value := (List.range n).map fun j => .int (F j)
theorem own_tab_len (F : Nat → Int32) (n : Nat) : (own_tab F n).length = n := by simp [own_tab]
theorem own_tab_get (F : Nat → Int32) (n j : Nat) (h : j < n) (d : Value) : (own_tab F n).getD j d = .int (F j) := by simp [own_tab, List.getD_eq_getElem?_getD, h]
theorem own_tab_out (F : Nat → Int32) (n j : Nat) (h : ¬ j < n) (d : Value) : (own_tab F n).getD j d = d := by
  have q : n ≤ j := by omega
  simp [own_tab, List.getD_eq_getElem?_getD, q]
theorem own_tab_set (F G : Nat → Int32) (n i : Nat) (v : Int32) (h : ∀ j, j < n → G j = if j = i then v else F j) : (own_tab F n).set i (.int v) = own_tab G n := by
  apply List.ext_getElem
  · simp [own_tab]
  · intro j h1 h2
    have hj : j < n := by simpa [own_tab] using h2
    rw [List.getElem_set]
    simp only [own_tab, List.getElem_map, List.getElem_range, h j hj]
    by_cases q : i = j
    · simp [q]
    · simp [q, Ne.symm q]
theorem own_d_spec (n : Int32) (h : ¬ n < 0) : ∃ j : Nat, j ≤ 9 ∧ (own_d n).toInt = j + 1 ∧ (j = 0 ∨ ((10 ^ j : Nat) : Int) ≤ n.toInt) ∧ n.toInt < ((10 ^ (j + 1) : Nat) : Int) := by
  by_cases h1 : n < (10 : Int32)
  · refine ⟨0, by omega, by rw [own_d, if_pos h1]; decide, Or.inl rfl, ?_⟩
    rw [Int32.lt_iff_toInt_lt, show (10 : Int32).toInt = 10 from by decide] at h1
    simpa using h1
  by_cases h2 : n < (100 : Int32)
  · refine ⟨1, by omega, by rw [own_d, if_neg h1, if_pos h2]; decide, Or.inr (by rw [Int32.lt_iff_toInt_lt, show (10 : Int32).toInt = 10 from by decide] at h1; simpa using h1), ?_⟩
    rw [Int32.lt_iff_toInt_lt, show (100 : Int32).toInt = 100 from by decide] at h2
    simpa using h2
  by_cases h3 : n < (1000 : Int32)
  · refine ⟨2, by omega, by rw [own_d, if_neg h1, if_neg h2, if_pos h3]; decide, Or.inr (by rw [Int32.lt_iff_toInt_lt, show (100 : Int32).toInt = 100 from by decide] at h2; simpa using h2), ?_⟩
    rw [Int32.lt_iff_toInt_lt, show (1000 : Int32).toInt = 1000 from by decide] at h3
    simpa using h3
  by_cases h4 : n < (10000 : Int32)
  · refine ⟨3, by omega, by rw [own_d, if_neg h1, if_neg h2, if_neg h3, if_pos h4]; decide, Or.inr (by rw [Int32.lt_iff_toInt_lt, show (1000 : Int32).toInt = 1000 from by decide] at h3; simpa using h3), ?_⟩
    rw [Int32.lt_iff_toInt_lt, show (10000 : Int32).toInt = 10000 from by decide] at h4
    simpa using h4
  by_cases h5 : n < (100000 : Int32)
  · refine ⟨4, by omega, by rw [own_d, if_neg h1, if_neg h2, if_neg h3, if_neg h4, if_pos h5]; decide, Or.inr (by rw [Int32.lt_iff_toInt_lt, show (10000 : Int32).toInt = 10000 from by decide] at h4; simpa using h4), ?_⟩
    rw [Int32.lt_iff_toInt_lt, show (100000 : Int32).toInt = 100000 from by decide] at h5
    simpa using h5
  by_cases h6 : n < (1000000 : Int32)
  · refine ⟨5, by omega, by rw [own_d, if_neg h1, if_neg h2, if_neg h3, if_neg h4, if_neg h5, if_pos h6]; decide, Or.inr (by rw [Int32.lt_iff_toInt_lt, show (100000 : Int32).toInt = 100000 from by decide] at h5; simpa using h5), ?_⟩
    rw [Int32.lt_iff_toInt_lt, show (1000000 : Int32).toInt = 1000000 from by decide] at h6
    simpa using h6
  by_cases h7 : n < (10000000 : Int32)
  · refine ⟨6, by omega, by rw [own_d, if_neg h1, if_neg h2, if_neg h3, if_neg h4, if_neg h5, if_neg h6, if_pos h7]; decide, Or.inr (by rw [Int32.lt_iff_toInt_lt, show (1000000 : Int32).toInt = 1000000 from by decide] at h6; simpa using h6), ?_⟩
    rw [Int32.lt_iff_toInt_lt, show (10000000 : Int32).toInt = 10000000 from by decide] at h7
    simpa using h7
  by_cases h8 : n < (100000000 : Int32)
  · refine ⟨7, by omega, by rw [own_d, if_neg h1, if_neg h2, if_neg h3, if_neg h4, if_neg h5, if_neg h6, if_neg h7, if_pos h8]; decide, Or.inr (by rw [Int32.lt_iff_toInt_lt, show (10000000 : Int32).toInt = 10000000 from by decide] at h7; simpa using h7), ?_⟩
    rw [Int32.lt_iff_toInt_lt, show (100000000 : Int32).toInt = 100000000 from by decide] at h8
    simpa using h8
  by_cases h9 : n < (1000000000 : Int32)
  · refine ⟨8, by omega, by rw [own_d, if_neg h1, if_neg h2, if_neg h3, if_neg h4, if_neg h5, if_neg h6, if_neg h7, if_neg h8, if_pos h9]; decide, Or.inr (by rw [Int32.lt_iff_toInt_lt, show (100000000 : Int32).toInt = 100000000 from by decide] at h8; simpa using h8), ?_⟩
    rw [Int32.lt_iff_toInt_lt, show (1000000000 : Int32).toInt = 1000000000 from by decide] at h9
    simpa using h9
  refine ⟨9, by omega, by rw [own_d, if_neg h1, if_neg h2, if_neg h3, if_neg h4, if_neg h5, if_neg h6, if_neg h7, if_neg h8, if_neg h9]; decide, Or.inr (by rw [Int32.lt_iff_toInt_lt, show (1000000000 : Int32).toInt = 1000000000 from by decide] at h9; simpa using h9), ?_⟩
  have q := n.toInt_lt
  have e : ((10 ^ (9 + 1) : Nat) : Int) = 10000000000 := by decide
  rw [e]; omega
theorem own_uniq {N : Int} {i j : Nat} (h1 : i = 0 ∨ ((10 ^ i : Nat) : Int) ≤ N) (h2 : N < ((10 ^ (i + 1) : Nat) : Int)) (g1 : j = 0 ∨ ((10 ^ j : Nat) : Int) ≤ N) (g2 : N < ((10 ^ (j + 1) : Nat) : Int)) : i = j := by
  rcases Nat.lt_trichotomy i j with q | q | q
  · rcases g1 with g1 | g1
    · omega
    · have w : 10 ^ (i + 1) ≤ 10 ^ j := Nat.pow_le_pow_right (by decide) q
      have w' : ((10 ^ (i + 1) : Nat) : Int) ≤ ((10 ^ j : Nat) : Int) := Int.ofNat_le.mpr w
      omega
  · exact q
  · rcases h1 with h1 | h1
    · omega
    · have w : 10 ^ (j + 1) ≤ 10 ^ i := Nat.pow_le_pow_right (by decide) q
      have w' : ((10 ^ (j + 1) : Nat) : Int) ≤ ((10 ^ i : Nat) : Int) := Int.ofNat_le.mpr w
      omega
theorem own_cnt (n cnt : Int32) (h : ¬ n < 0) (j : Nat) (hc : cnt.toInt = j + 1) (h1 : j = 0 ∨ ((10 ^ j : Nat) : Int) ≤ n.toInt) (h2 : n.toInt < ((10 ^ (j + 1) : Nat) : Int)) : cnt = own_d n := by
  obtain ⟨i, -, q1, q2, q3⟩ := own_d_spec n h
  have e := own_uniq h1 h2 q2 q3
  apply Int32.toInt_inj.mp
  rw [hc, q1, e]
theorem own_nn {n : Int32} (h : ¬ n < 0) : 0 ≤ n.toInt := by
  rw [Int32.lt_iff_toInt_lt, show (0 : Int32).toInt = 0 from rfl] at h; omega
theorem own_lt0 {n : Int32} : n < (0 : Int32) ↔ n.toInt < 0 := by rw [Int32.lt_iff_toInt_lt]; rfl
theorem own_gt0 {n : Int32} : (0 : Int32) < n ↔ 0 < n.toInt := by rw [Int32.lt_iff_toInt_lt]; rfl
theorem own_div (r : Int32) {N : Int} {k : Nat} (hN : 0 ≤ N) (h : r.toInt = N / ((10 ^ k : Nat) : Int)) : (r / (10 : Int32)).toInt = N / ((10 ^ (k + 1) : Nat) : Int) := by
  have h0 : 0 ≤ r.toInt := by rw [h]; exact Int.ediv_nonneg hN (Int.natCast_nonneg _)
  rw [(c_idiv r 10 10 (by decide) (by decide)).1 h0, h, Int.ediv_ediv_of_nonneg (Int.natCast_nonneg _), Nat.pow_succ]
  simp
theorem own_div0 (n : Int32) (hN : 0 ≤ n.toInt) : (n / (10 : Int32)).toInt = n.toInt / ((10 ^ (0 + 1) : Nat) : Int) := own_div n hN (by simp)
theorem own_big {N : Int} {k : Nat} (hN : 0 ≤ N) (h : 0 < N / ((10 ^ k : Nat) : Int)) : ((10 ^ k : Nat) : Int) ≤ N := by
  by_cases q : ((10 ^ k : Nat) : Int) ≤ N
  · exact q
  · rw [Int.ediv_eq_zero_of_lt hN (by omega)] at h; omega
theorem own_small {N : Int} {k : Nat} (hN : 0 ≤ N) (h : ¬ 0 < N / ((10 ^ k : Nat) : Int)) : N < ((10 ^ k : Nat) : Int) := by
  by_cases q : ((10 ^ k : Nat) : Int) ≤ N
  · have hp : (0 : Int) < ((10 ^ k : Nat) : Int) := Int.natCast_pos.mpr (Nat.pow_pos (by decide))
    have w : 1 ≤ N / ((10 ^ k : Nat) : Int) := by rw [Int.le_ediv_iff_mul_le hp]; omega
    omega
  · omega
theorem own_last (n : Int32) (hN : 0 ≤ n.toInt) : ¬ 0 < n.toInt / ((10 ^ (9 + 1) : Nat) : Int) := by
  have q := n.toInt_lt
  have e : ((10 ^ (9 + 1) : Nat) : Int) = 10000000000 := by decide
  rw [e, Int.ediv_eq_zero_of_lt hN (by omega)]; omega
theorem own_chr_eq (r : Int32) (h : 0 ≤ r.toInt) : own_chr r = Int32.ofInt (48 + r.toInt % 10) := by
  apply Int32.toInt_inj.mp
  have h1 := (c_irem r 10 10 (by decide)).1 h
  have h2 : ((48 : Int32) + (r % (10 : Int32))).toInt = 48 + r.toInt % 10 := by
    rw [Jvm.Free.XT.add32 (by unfold Jvm.Free.XT.fits32; rw [h1, show (48 : Int32).toInt = 48 from by decide]; omega), h1]; rfl
  have h3 := c_i2c ((48 : Int32) + (r % (10 : Int32)))
  rw [h2] at h3
  rw [Int32.toInt_ofInt, Jvm.Free.XT.bmod32 (by unfold Jvm.Free.XT.fits32; omega)]
  show (((48 : Int32) + (r % (10 : Int32))).toUInt32.toUInt16.toUInt32.toInt32).toInt = _
  omega
theorem own_nar (r : Int32) : nar .char (own_chr r) = own_chr r := by
  show ((own_chr r).toUInt32.toUInt16.toUInt32.toInt32) = own_chr r
  apply Int32.toInt_inj.mp
  have h1 := c_i2c (own_chr r)
  have h2 := c_i2c ((48 : Int32) + (r % (10 : Int32)))
  have h3 : (own_chr r).toInt = ((48 : Int32) + (r % (10 : Int32))).toUInt32.toUInt16.toUInt32.toInt32.toInt := rfl
  omega
theorem own_Dle (n : Int32) (h : ¬ n < 0) : 1 ≤ own_D n ∧ own_D n ≤ 10 ∧ (own_d n).toInt = own_D n := by
  obtain ⟨j, h1, h2, -⟩ := own_d_spec n h
  unfold own_D
  rw [h2]; omega
theorem own_pad (n a : Int32) (vs : List Value) (hz : ∀ i, vs.getD i (.int (0 : Int32)) = .int (0 : Int32)) (i : Nat) : (own_tab (own_X n a 0) 20).getD i (.int (0 : Int32)) = vs.getD i (.int (0 : Int32)) := by
  rw [hz]
  by_cases q : i < 20
  · rw [own_tab_get _ _ _ q, own_X, if_neg (by omega)]
  · exact own_tab_out _ _ _ q _
theorem own_turn (n a r : Int32) (m : Nat) (hm : m < own_D n) (hr : r.toInt = n.toInt / ((10 ^ m : Nat) : Int)) (hN : 0 ≤ n.toInt) : (own_tab (own_X n a m) 20).set (own_A a + own_D n - 1 - m) (.int (nar .char (own_chr r))) = own_tab (own_X n a (m + 1)) 20 := by
  rw [own_nar, own_chr_eq r (by rw [hr]; exact Int.ediv_nonneg hN (Int.natCast_nonneg _)), hr]
  apply own_tab_set
  intro j hj
  unfold own_X
  by_cases q : j = own_A a + own_D n - 1 - m
  · subst q
    rw [if_pos (by omega), if_pos rfl, show own_A a + own_D n - 1 - (own_A a + own_D n - 1 - m) = m by omega]
  · rw [if_neg q]
    by_cases w : own_A a + own_D n - m ≤ j ∧ j < own_A a + own_D n
    · rw [if_pos w, if_pos (by omega)]
    · rw [if_neg w, if_neg (by omega)]
theorem own_pow_val (e : Int32) (E : Nat) (h : e.toInt = E) (hE : E ≤ 9) : (own_pow e).toInt = ((10 ^ E : Nat) : Int) := by
  have he : e = Int32.ofNat E := by
    apply Int32.toInt_inj.mp; rw [h, Int32.toInt_ofNat_small (by omega)]
  subst he
  have k : ∀ E : Fin 10, (own_pow (Int32.ofNat E.val)).toInt = ((10 ^ E.val : Nat) : Int) := by decide +kernel
  exact k ⟨E, by omega⟩
theorem own_pow_ne (e : Int32) : ¬ own_pow e = 0 := by
  unfold own_pow
  repeat (first | (split; · decide) | decide)
theorem own_k (i a : Int32) (I : Nat) (hi : i.toInt = I) (hI : I < 20) (h1 : 0 ≤ a.toInt) (h2 : a.toInt < 10) : (i - a).toInt = (I : Int) - own_A a := by
  have e : a.toInt = own_A a := by unfold own_A; omega
  rw [Jvm.Free.XT.sub32 (by unfold Jvm.Free.XT.fits32; omega), hi, e]
theorem own_in (n a i : Int32) (I : Nat) (hi : i.toInt = I) (hI : I < 20) (hn : ¬ n < 0) (h1 : 0 ≤ a.toInt) (h2 : a.toInt < 10) (g1 : ¬ (i - a) < (0 : Int32)) (g2 : (i - a) < own_d n) : own_X n a (own_D n) I = own_chr (n / own_pow ((own_d n - (1 : Int32)) - (i - a))) := by
  have hk := own_k i a I hi hI h1 h2
  obtain ⟨d1, d2, d3⟩ := own_Dle n hn
  rw [own_lt0, hk] at g1
  rw [Int32.lt_iff_toInt_lt, hk, d3] at g2
  have w1 : (own_d n - (1 : Int32)).toInt = (own_D n : Int) - 1 := by
    rw [Jvm.Free.XT.sub32 (by unfold Jvm.Free.XT.fits32; rw [d3, show (1 : Int32).toInt = 1 from rfl]; omega), d3]; rfl
  have w2 : ((own_d n - (1 : Int32)) - (i - a)).toInt = ((own_A a + own_D n - 1 - I : Nat) : Int) := by
    rw [Jvm.Free.XT.sub32 (by unfold Jvm.Free.XT.fits32; rw [w1, hk]; omega), w1, hk]; omega
  have w3 := own_pow_val _ _ w2 (by omega)
  have w4 : own_pow ((own_d n - (1 : Int32)) - (i - a)) ≠ -1 := fun q => by
    rw [q] at w3
    have w5 : (0 : Int) ≤ ((10 ^ (own_A a + own_D n - 1 - I) : Nat) : Int) := Int.natCast_nonneg _
    rw [← w3] at w5; revert w5; decide
  have w6 := (c_idiv n _ _ w3 w4).1 (own_nn hn)
  rw [own_chr_eq _ (by rw [w6]; exact Int.ediv_nonneg (own_nn hn) (Int.natCast_nonneg _)), w6, own_X, if_pos (by omega)]
theorem own_out (n a i : Int32) (I : Nat) (hi : i.toInt = I) (hI : I < 20) (hn : ¬ n < 0) (h1 : 0 ≤ a.toInt) (h2 : a.toInt < 10) (g : (i - a) < (0 : Int32) ∨ ¬ (i - a) < own_d n) : own_X n a (own_D n) I = 0 := by
  have hk := own_k i a I hi hI h1 h2
  obtain ⟨d1, d2, d3⟩ := own_Dle n hn
  rw [own_lt0, hk, Int32.lt_iff_toInt_lt, hk, d3] at g
  rw [own_X, if_neg (by omega)]
theorem own_n0 (p : Int32) : ¬ (p &&& (2147483647 : Int32)) < 0 := by
  have h := c_mask p 2147483647 31 (by decide) (by decide)
  rw [own_lt0, h]; omega
theorem own_at (p : Int32) : 0 ≤ ((p &&& (2147483647 : Int32)) % (10 : Int32)).toInt ∧ ((p &&& (2147483647 : Int32)) % (10 : Int32)).toInt < 10 := by
  have h1 := (c_irem (p &&& (2147483647 : Int32)) 10 10 (by decide)).1 (own_nn (own_n0 p))
  rw [h1]; omega
theorem own_ix (n a i : Int32) (m : Nat) (hm : m < own_D n) (hn : ¬ n < 0) (h1 : 0 ≤ a.toInt) (h2 : a.toInt < 10) (hi : i.toInt = (own_A a : Int) + own_D n - 1 - m) : (¬ i < (0 : Int32) ∧ i < (20 : Int32)) ∧ i.toNatClampNeg = own_A a + own_D n - 1 - m ∧ ¬ i < a ∧ own_A a + own_D n - 1 - m < 20 := by
  obtain ⟨d1, d2, d3⟩ := own_Dle n hn
  have e : a.toInt = own_A a := by unfold own_A; omega
  refine ⟨⟨?_, ?_⟩, ?_, ?_, ?_⟩
  · rw [own_lt0, hi]; omega
  · rw [Int32.lt_iff_toInt_lt, hi, show (20 : Int32).toInt = 20 from by decide]; omega
  · unfold Int32.toNatClampNeg; rw [hi]; omega
  · rw [Int32.lt_iff_toInt_lt, hi, e]; omega
  · omega
theorem own_dec (i : Int32) (k : Int) (h : i.toInt = k) (hk : 0 ≤ k) : (i + (-1 : Int32)).toInt = k - 1 := by
  have e : (-1 : Int32).toInt = -1 := by decide
  have w := i.toInt_lt
  rw [Jvm.Free.XT.add32 (by unfold Jvm.Free.XT.fits32; rw [e]; omega), e, h]; omega
theorem own_inc (i : Int32) (k : Nat) (h : i.toInt = k + 1) (hk : k ≤ 9) : (i + (1 : Int32)).toInt = ((k + 1 : Nat) : Int) + 1 := by
  rw [Jvm.Free.XT.add32 (by unfold Jvm.Free.XT.fits32; rw [h, show (1 : Int32).toInt = 1 from rfl]; omega), h, show (1 : Int32).toInt = 1 from rfl]; omega
theorem own_first (n a : Int32) (hn : ¬ n < 0) (h1 : 0 ≤ a.toInt) (h2 : a.toInt < 10) : ((a + own_d n) - (1 : Int32)).toInt = (own_A a : Int) + own_D n - 1 - (0 : Nat) := by
  obtain ⟨d1, d2, d3⟩ := own_Dle n hn
  have e : a.toInt = own_A a := by unfold own_A; omega
  have w : (a + own_d n).toInt = (own_A a : Int) + own_D n := by rw [Jvm.Free.XT.add32 (by unfold Jvm.Free.XT.fits32; omega), e, d3]
  rw [Jvm.Free.XT.sub32 (by unfold Jvm.Free.XT.fits32; rw [w, show (1 : Int32).toInt = 1 from rfl]; omega), w, show (1 : Int32).toInt = 1 from rfl]; omega
theorem d2_0 : decode method_3_code 0 = .ok (.iload_n 0, 1) := by decide +kernel
theorem d2_1 : decode method_3_code 1 = .ok (.bipush 10, 2) := by decide +kernel
theorem d2_3 : decode method_3_code 3 = .ok (.if_icmp .ge 5, 3) := by decide +kernel
theorem d2_6 : decode method_3_code 6 = .ok (.iconst 1, 1) := by decide +kernel
theorem d2_7 : decode method_3_code 7 = .ok (.ireturn, 1) := by decide +kernel
theorem d2_8 : decode method_3_code 8 = .ok (.iload_n 0, 1) := by decide +kernel
theorem d2_9 : decode method_3_code 9 = .ok (.bipush 100, 2) := by decide +kernel
theorem d2_11 : decode method_3_code 11 = .ok (.if_icmp .ge 5, 3) := by decide +kernel
theorem d2_14 : decode method_3_code 14 = .ok (.iconst 2, 1) := by decide +kernel
theorem d2_15 : decode method_3_code 15 = .ok (.ireturn, 1) := by decide +kernel
theorem d2_16 : decode method_3_code 16 = .ok (.iload_n 0, 1) := by decide +kernel
theorem d2_17 : decode method_3_code 17 = .ok (.sipush 1000, 3) := by decide +kernel
theorem d2_20 : decode method_3_code 20 = .ok (.if_icmp .ge 5, 3) := by decide +kernel
theorem d2_23 : decode method_3_code 23 = .ok (.iconst 3, 1) := by decide +kernel
theorem d2_24 : decode method_3_code 24 = .ok (.ireturn, 1) := by decide +kernel
theorem d2_25 : decode method_3_code 25 = .ok (.iload_n 0, 1) := by decide +kernel
theorem d2_26 : decode method_3_code 26 = .ok (.sipush 10000, 3) := by decide +kernel
theorem d2_29 : decode method_3_code 29 = .ok (.if_icmp .ge 5, 3) := by decide +kernel
theorem d2_32 : decode method_3_code 32 = .ok (.iconst 4, 1) := by decide +kernel
theorem d2_33 : decode method_3_code 33 = .ok (.ireturn, 1) := by decide +kernel
theorem d2_34 : decode method_3_code 34 = .ok (.iload_n 0, 1) := by decide +kernel
theorem d2_35 : decode method_3_code 35 = .ok (.ldc 24, 2) := by decide +kernel
theorem d2_37 : decode method_3_code 37 = .ok (.if_icmp .ge 5, 3) := by decide +kernel
theorem d2_40 : decode method_3_code 40 = .ok (.iconst 5, 1) := by decide +kernel
theorem d2_41 : decode method_3_code 41 = .ok (.ireturn, 1) := by decide +kernel
theorem d2_42 : decode method_3_code 42 = .ok (.iload_n 0, 1) := by decide +kernel
theorem d2_43 : decode method_3_code 43 = .ok (.ldc 25, 2) := by decide +kernel
theorem d2_45 : decode method_3_code 45 = .ok (.if_icmp .ge 6, 3) := by decide +kernel
theorem d2_48 : decode method_3_code 48 = .ok (.bipush 6, 2) := by decide +kernel
theorem d2_50 : decode method_3_code 50 = .ok (.ireturn, 1) := by decide +kernel
theorem d2_51 : decode method_3_code 51 = .ok (.iload_n 0, 1) := by decide +kernel
theorem d2_52 : decode method_3_code 52 = .ok (.ldc 26, 2) := by decide +kernel
theorem d2_54 : decode method_3_code 54 = .ok (.if_icmp .ge 6, 3) := by decide +kernel
theorem d2_57 : decode method_3_code 57 = .ok (.bipush 7, 2) := by decide +kernel
theorem d2_59 : decode method_3_code 59 = .ok (.ireturn, 1) := by decide +kernel
theorem d2_60 : decode method_3_code 60 = .ok (.iload_n 0, 1) := by decide +kernel
theorem d2_61 : decode method_3_code 61 = .ok (.ldc 27, 2) := by decide +kernel
theorem d2_63 : decode method_3_code 63 = .ok (.if_icmp .ge 6, 3) := by decide +kernel
theorem d2_66 : decode method_3_code 66 = .ok (.bipush 8, 2) := by decide +kernel
theorem d2_68 : decode method_3_code 68 = .ok (.ireturn, 1) := by decide +kernel
theorem d2_69 : decode method_3_code 69 = .ok (.iload_n 0, 1) := by decide +kernel
theorem d2_70 : decode method_3_code 70 = .ok (.ldc 28, 2) := by decide +kernel
theorem d2_72 : decode method_3_code 72 = .ok (.if_icmp .ge 6, 3) := by decide +kernel
theorem d2_75 : decode method_3_code 75 = .ok (.bipush 9, 2) := by decide +kernel
theorem d2_77 : decode method_3_code 77 = .ok (.ireturn, 1) := by decide +kernel
theorem d2_78 : decode method_3_code 78 = .ok (.bipush 10, 2) := by decide +kernel
theorem d2_80 : decode method_3_code 80 = .ok (.ireturn, 1) := by decide +kernel
theorem pn_com_example_recurr_recurr_WholeNumberWritePinLaw : plainName "com/example/recurr/recurr/WholeNumberWritePinLaw" = true := by first | (simp [plainName, overriddenIn]; done) | decide +kernel
theorem ef_rm2 (m : MethodId) (x0 : Int32) : entryFrame m #[(.int x0)] 1 = mkF m 0 #[.val (.int x0)] [] := by first | (simp [entryFrame, mkF, argsToLocals, Value.category]; done) | rfl
def Qrm2 (Z : State) (p0 : Int32) (h0 : Heap) (n0 : Nat) (v : Option Value) (h : Heap) (L : List Loc) : Prop := v = some (.int (own_d p0)) ∧ Fr n0 L ∧ h = h0
set_option maxRecDepth 65536 in
set_option maxHeartbeats 40000000 in
theorem rm2 (l : Launch) (Z : State) (aV : Array Value) (hw : ∀ d ∈ tables_1, d.before aV Z = true) (ws : List Jvm.Cond) (p0 : Int32) (h0 : Heap) (n0 : Nat) (O0 : Old Z n0 h0) :
    MetFree l (⟨"com/example/recurr/recurr/WholeNumberWritePinLaw", "digits", "(I)I"⟩ : MethodName) (head1 (Jvm.Cond.code (⟨"com/example/recurr/recurr/WholeNumberWritePinLaw", "digits", "(I)I"⟩ : MethodName) method_3_code 1 (some .int) :: ws) ({ frames := 0, cells := 0, slots := 0, locals := 0 } : Room)) (fun a U => a = #[(.int p0)] ∧ Z.Warmed39 U.vm ∧ U.heap = h0) (fun _ _ _ _ _ => True) (fun _ U o U' => ∃ v L, o = .returned v ∧ Qrm2 Z p0 h0 n0 v U'.heap L ∧ FrameEnd U o U' L ({ frames := 0, cells := 0, slots := 0, locals := 0 } : Room).cells ({ frames := 0, cells := 0, slots := 0, locals := 0 } : Room).slots) := by
  refine MetFree.of_bodySF (plainFor_of_name pn_com_example_recurr_recurr_WholeNumberWritePinLaw) hisR ?_
  intro p e s m args below meth c s₁ Bd hml0 hP hK
  obtain ⟨rfl, hZ, hh⟩ := hP
  have hx := Bd.exec
  have hby := Bd.bytes
  have hml : c.maxLocals = 1 := hml0
  have hown : s.vm.findClass "com/example/recurr/recurr/WholeNumberWritePinLaw" = some m.cls := findClass_of_methodNamed Bd.named
  have hnm := (name_of_methodNamed Bd.named Bd.method).1
  have X0 : Stand p l e ({ frames := 0, cells := 0, slots := 0, locals := 0 } : Room) s m #[(.int p0)] below meth c s₁ [] 0 0 := Stand.of_body Bd
  have e0 : s₁.heap = h0 := by rw [← hh, Bd.state]; rfl
  have N0 := Fr.nil n0
  show Run p.tables e below (Wd s (Qrm2 Z p0 h0 n0) ({ frames := 0, cells := 0, slots := 0, locals := 0 } : Room).cells ({ frames := 0, cells := 0, slots := 0, locals := 0 } : Room).slots) s₁ (entryFrame m #[(.int p0)] 1)
  rw [ef_rm2 m p0]
  refine run_fwd (T' := s₁) (g' := (mkF m 1 #[.val (.int p0)] [(.int p0)])) (fun _ k => XS.iloadN X0.here hx rfl (hb hby d2_0) rfl k) ?_
  refine run_fwd (T' := s₁) (g' := (mkF m 3 #[.val (.int p0)] [(.int (10 : Int32)), (.int p0)])) (fun _ k => XS.bipush X0.here hx rfl (hb hby d2_1) k) ?_
  by_cases hc3_1 : p0 < (10 : Int32)
  ·
    refine run_fwd (T' := s₁) (g' := (mkF m 6 #[.val (.int p0)] [])) (fun _ k => XS.icmpNo X0.here hx rfl (hb hby d2_3) rfl (tlt hc3_1).2.1 k) ?_
    refine run_fwd (T' := s₁) (g' := (mkF m 7 #[.val (.int p0)] [(.int (1 : Int32))])) (fun _ k => XS.iconst X0.here hx rfl (hb hby d2_6) k) ?_
    exact run_ret X0 hx Bd.returns Bd.notSynchronized rfl (Or.inl ⟨rfl, by simp, _, rfl⟩) (hb hby d2_7) (by rw [e0]; exact ⟨by rw [own_d, if_pos hc3_1], N0, rfl⟩) (by decide) (by decide)
  ·
    refine run_fwd (T' := s₁) (g' := (mkF m 8 #[.val (.int p0)] [])) (fun _ k => XS.icmpYes X0.here hx rfl (pc0 := 3) (pc' := 8) rfl (hb hby d2_3) rfl (flt hc3_1).2.1 (by decide) (by decide) k) ?_
    refine run_fwd (T' := s₁) (g' := (mkF m 9 #[.val (.int p0)] [(.int p0)])) (fun _ k => XS.iloadN X0.here hx rfl (hb hby d2_8) rfl k) ?_
    refine run_fwd (T' := s₁) (g' := (mkF m 11 #[.val (.int p0)] [(.int (100 : Int32)), (.int p0)])) (fun _ k => XS.bipush X0.here hx rfl (hb hby d2_9) k) ?_
    by_cases hc11_2 : p0 < (100 : Int32)
    ·
      refine run_fwd (T' := s₁) (g' := (mkF m 14 #[.val (.int p0)] [])) (fun _ k => XS.icmpNo X0.here hx rfl (hb hby d2_11) rfl (tlt hc11_2).2.1 k) ?_
      refine run_fwd (T' := s₁) (g' := (mkF m 15 #[.val (.int p0)] [(.int (2 : Int32))])) (fun _ k => XS.iconst X0.here hx rfl (hb hby d2_14) k) ?_
      exact run_ret X0 hx Bd.returns Bd.notSynchronized rfl (Or.inl ⟨rfl, by simp, _, rfl⟩) (hb hby d2_15) (by rw [e0]; exact ⟨by rw [own_d, if_neg hc3_1, if_pos hc11_2], N0, rfl⟩) (by decide) (by decide)
    ·
      refine run_fwd (T' := s₁) (g' := (mkF m 16 #[.val (.int p0)] [])) (fun _ k => XS.icmpYes X0.here hx rfl (pc0 := 11) (pc' := 16) rfl (hb hby d2_11) rfl (flt hc11_2).2.1 (by decide) (by decide) k) ?_
      refine run_fwd (T' := s₁) (g' := (mkF m 17 #[.val (.int p0)] [(.int p0)])) (fun _ k => XS.iloadN X0.here hx rfl (hb hby d2_16) rfl k) ?_
      refine run_fwd (T' := s₁) (g' := (mkF m 20 #[.val (.int p0)] [(.int (1000 : Int32)), (.int p0)])) (fun _ k => XS.sipush X0.here hx rfl (hb hby d2_17) k) ?_
      by_cases hc20_3 : p0 < (1000 : Int32)
      ·
        refine run_fwd (T' := s₁) (g' := (mkF m 23 #[.val (.int p0)] [])) (fun _ k => XS.icmpNo X0.here hx rfl (hb hby d2_20) rfl (tlt hc20_3).2.1 k) ?_
        refine run_fwd (T' := s₁) (g' := (mkF m 24 #[.val (.int p0)] [(.int (3 : Int32))])) (fun _ k => XS.iconst X0.here hx rfl (hb hby d2_23) k) ?_
        exact run_ret X0 hx Bd.returns Bd.notSynchronized rfl (Or.inl ⟨rfl, by simp, _, rfl⟩) (hb hby d2_24) (by rw [e0]; exact ⟨by rw [own_d, if_neg hc3_1, if_neg hc11_2, if_pos hc20_3], N0, rfl⟩) (by decide) (by decide)
      ·
        refine run_fwd (T' := s₁) (g' := (mkF m 25 #[.val (.int p0)] [])) (fun _ k => XS.icmpYes X0.here hx rfl (pc0 := 20) (pc' := 25) rfl (hb hby d2_20) rfl (flt hc20_3).2.1 (by decide) (by decide) k) ?_
        refine run_fwd (T' := s₁) (g' := (mkF m 26 #[.val (.int p0)] [(.int p0)])) (fun _ k => XS.iloadN X0.here hx rfl (hb hby d2_25) rfl k) ?_
        refine run_fwd (T' := s₁) (g' := (mkF m 29 #[.val (.int p0)] [(.int (10000 : Int32)), (.int p0)])) (fun _ k => XS.sipush X0.here hx rfl (hb hby d2_26) k) ?_
        by_cases hc29_4 : p0 < (10000 : Int32)
        ·
          refine run_fwd (T' := s₁) (g' := (mkF m 32 #[.val (.int p0)] [])) (fun _ k => XS.icmpNo X0.here hx rfl (hb hby d2_29) rfl (tlt hc29_4).2.1 k) ?_
          refine run_fwd (T' := s₁) (g' := (mkF m 33 #[.val (.int p0)] [(.int (4 : Int32))])) (fun _ k => XS.iconst X0.here hx rfl (hb hby d2_32) k) ?_
          exact run_ret X0 hx Bd.returns Bd.notSynchronized rfl (Or.inl ⟨rfl, by simp, _, rfl⟩) (hb hby d2_33) (by rw [e0]; exact ⟨by rw [own_d, if_neg hc3_1, if_neg hc11_2, if_neg hc20_3, if_pos hc29_4], N0, rfl⟩) (by decide) (by decide)
        ·
          refine run_fwd (T' := s₁) (g' := (mkF m 34 #[.val (.int p0)] [])) (fun _ k => XS.icmpYes X0.here hx rfl (pc0 := 29) (pc' := 34) rfl (hb hby d2_29) rfl (flt hc29_4).2.1 (by decide) (by decide) k) ?_
          refine run_fwd (T' := s₁) (g' := (mkF m 35 #[.val (.int p0)] [(.int p0)])) (fun _ k => XS.iloadN X0.here hx rfl (hb hby d2_34) rfl k) ?_
          refine run_fwd (T' := s₁) (g' := (mkF m 37 #[.val (.int p0)] [(.int (100000 : Int32)), (.int p0)])) (fun _ k => X0.ldcInt hx hown (mvT hZ (hw _ (List.mem_of_getElem? (i := 16) rfl))) (g := (mkF m 35 #[.val (.int p0)] [(.int p0)])) rfl (hb hby d2_35) _ k) ?_
          by_cases hc37_5 : p0 < (100000 : Int32)
          ·
            refine run_fwd (T' := s₁) (g' := (mkF m 40 #[.val (.int p0)] [])) (fun _ k => XS.icmpNo X0.here hx rfl (hb hby d2_37) rfl (tlt hc37_5).2.1 k) ?_
            refine run_fwd (T' := s₁) (g' := (mkF m 41 #[.val (.int p0)] [(.int (5 : Int32))])) (fun _ k => XS.iconst X0.here hx rfl (hb hby d2_40) k) ?_
            exact run_ret X0 hx Bd.returns Bd.notSynchronized rfl (Or.inl ⟨rfl, by simp, _, rfl⟩) (hb hby d2_41) (by rw [e0]; exact ⟨by rw [own_d, if_neg hc3_1, if_neg hc11_2, if_neg hc20_3, if_neg hc29_4, if_pos hc37_5], N0, rfl⟩) (by decide) (by decide)
          ·
            refine run_fwd (T' := s₁) (g' := (mkF m 42 #[.val (.int p0)] [])) (fun _ k => XS.icmpYes X0.here hx rfl (pc0 := 37) (pc' := 42) rfl (hb hby d2_37) rfl (flt hc37_5).2.1 (by decide) (by decide) k) ?_
            refine run_fwd (T' := s₁) (g' := (mkF m 43 #[.val (.int p0)] [(.int p0)])) (fun _ k => XS.iloadN X0.here hx rfl (hb hby d2_42) rfl k) ?_
            refine run_fwd (T' := s₁) (g' := (mkF m 45 #[.val (.int p0)] [(.int (1000000 : Int32)), (.int p0)])) (fun _ k => X0.ldcInt hx hown (mvT hZ (hw _ (List.mem_of_getElem? (i := 17) rfl))) (g := (mkF m 43 #[.val (.int p0)] [(.int p0)])) rfl (hb hby d2_43) _ k) ?_
            by_cases hc45_6 : p0 < (1000000 : Int32)
            ·
              refine run_fwd (T' := s₁) (g' := (mkF m 48 #[.val (.int p0)] [])) (fun _ k => XS.icmpNo X0.here hx rfl (hb hby d2_45) rfl (tlt hc45_6).2.1 k) ?_
              refine run_fwd (T' := s₁) (g' := (mkF m 50 #[.val (.int p0)] [(.int (6 : Int32))])) (fun _ k => XS.bipush X0.here hx rfl (hb hby d2_48) k) ?_
              exact run_ret X0 hx Bd.returns Bd.notSynchronized rfl (Or.inl ⟨rfl, by simp, _, rfl⟩) (hb hby d2_50) (by rw [e0]; exact ⟨by rw [own_d, if_neg hc3_1, if_neg hc11_2, if_neg hc20_3, if_neg hc29_4, if_neg hc37_5, if_pos hc45_6], N0, rfl⟩) (by decide) (by decide)
            ·
              refine run_fwd (T' := s₁) (g' := (mkF m 51 #[.val (.int p0)] [])) (fun _ k => XS.icmpYes X0.here hx rfl (pc0 := 45) (pc' := 51) rfl (hb hby d2_45) rfl (flt hc45_6).2.1 (by decide) (by decide) k) ?_
              refine run_fwd (T' := s₁) (g' := (mkF m 52 #[.val (.int p0)] [(.int p0)])) (fun _ k => XS.iloadN X0.here hx rfl (hb hby d2_51) rfl k) ?_
              refine run_fwd (T' := s₁) (g' := (mkF m 54 #[.val (.int p0)] [(.int (10000000 : Int32)), (.int p0)])) (fun _ k => X0.ldcInt hx hown (mvT hZ (hw _ (List.mem_of_getElem? (i := 18) rfl))) (g := (mkF m 52 #[.val (.int p0)] [(.int p0)])) rfl (hb hby d2_52) _ k) ?_
              by_cases hc54_7 : p0 < (10000000 : Int32)
              ·
                refine run_fwd (T' := s₁) (g' := (mkF m 57 #[.val (.int p0)] [])) (fun _ k => XS.icmpNo X0.here hx rfl (hb hby d2_54) rfl (tlt hc54_7).2.1 k) ?_
                refine run_fwd (T' := s₁) (g' := (mkF m 59 #[.val (.int p0)] [(.int (7 : Int32))])) (fun _ k => XS.bipush X0.here hx rfl (hb hby d2_57) k) ?_
                exact run_ret X0 hx Bd.returns Bd.notSynchronized rfl (Or.inl ⟨rfl, by simp, _, rfl⟩) (hb hby d2_59) (by rw [e0]; exact ⟨by rw [own_d, if_neg hc3_1, if_neg hc11_2, if_neg hc20_3, if_neg hc29_4, if_neg hc37_5, if_neg hc45_6, if_pos hc54_7], N0, rfl⟩) (by decide) (by decide)
              ·
                refine run_fwd (T' := s₁) (g' := (mkF m 60 #[.val (.int p0)] [])) (fun _ k => XS.icmpYes X0.here hx rfl (pc0 := 54) (pc' := 60) rfl (hb hby d2_54) rfl (flt hc54_7).2.1 (by decide) (by decide) k) ?_
                refine run_fwd (T' := s₁) (g' := (mkF m 61 #[.val (.int p0)] [(.int p0)])) (fun _ k => XS.iloadN X0.here hx rfl (hb hby d2_60) rfl k) ?_
                refine run_fwd (T' := s₁) (g' := (mkF m 63 #[.val (.int p0)] [(.int (100000000 : Int32)), (.int p0)])) (fun _ k => X0.ldcInt hx hown (mvT hZ (hw _ (List.mem_of_getElem? (i := 19) rfl))) (g := (mkF m 61 #[.val (.int p0)] [(.int p0)])) rfl (hb hby d2_61) _ k) ?_
                by_cases hc63_8 : p0 < (100000000 : Int32)
                ·
                  refine run_fwd (T' := s₁) (g' := (mkF m 66 #[.val (.int p0)] [])) (fun _ k => XS.icmpNo X0.here hx rfl (hb hby d2_63) rfl (tlt hc63_8).2.1 k) ?_
                  refine run_fwd (T' := s₁) (g' := (mkF m 68 #[.val (.int p0)] [(.int (8 : Int32))])) (fun _ k => XS.bipush X0.here hx rfl (hb hby d2_66) k) ?_
                  exact run_ret X0 hx Bd.returns Bd.notSynchronized rfl (Or.inl ⟨rfl, by simp, _, rfl⟩) (hb hby d2_68) (by rw [e0]; exact ⟨by rw [own_d, if_neg hc3_1, if_neg hc11_2, if_neg hc20_3, if_neg hc29_4, if_neg hc37_5, if_neg hc45_6, if_neg hc54_7, if_pos hc63_8], N0, rfl⟩) (by decide) (by decide)
                ·
                  refine run_fwd (T' := s₁) (g' := (mkF m 69 #[.val (.int p0)] [])) (fun _ k => XS.icmpYes X0.here hx rfl (pc0 := 63) (pc' := 69) rfl (hb hby d2_63) rfl (flt hc63_8).2.1 (by decide) (by decide) k) ?_
                  refine run_fwd (T' := s₁) (g' := (mkF m 70 #[.val (.int p0)] [(.int p0)])) (fun _ k => XS.iloadN X0.here hx rfl (hb hby d2_69) rfl k) ?_
                  refine run_fwd (T' := s₁) (g' := (mkF m 72 #[.val (.int p0)] [(.int (1000000000 : Int32)), (.int p0)])) (fun _ k => X0.ldcInt hx hown (mvT hZ (hw _ (List.mem_of_getElem? (i := 20) rfl))) (g := (mkF m 70 #[.val (.int p0)] [(.int p0)])) rfl (hb hby d2_70) _ k) ?_
                  by_cases hc72_9 : p0 < (1000000000 : Int32)
                  ·
                    refine run_fwd (T' := s₁) (g' := (mkF m 75 #[.val (.int p0)] [])) (fun _ k => XS.icmpNo X0.here hx rfl (hb hby d2_72) rfl (tlt hc72_9).2.1 k) ?_
                    refine run_fwd (T' := s₁) (g' := (mkF m 77 #[.val (.int p0)] [(.int (9 : Int32))])) (fun _ k => XS.bipush X0.here hx rfl (hb hby d2_75) k) ?_
                    exact run_ret X0 hx Bd.returns Bd.notSynchronized rfl (Or.inl ⟨rfl, by simp, _, rfl⟩) (hb hby d2_77) (by rw [e0]; exact ⟨by rw [own_d, if_neg hc3_1, if_neg hc11_2, if_neg hc20_3, if_neg hc29_4, if_neg hc37_5, if_neg hc45_6, if_neg hc54_7, if_neg hc63_8, if_pos hc72_9], N0, rfl⟩) (by decide) (by decide)
                  ·
                    refine run_fwd (T' := s₁) (g' := (mkF m 78 #[.val (.int p0)] [])) (fun _ k => XS.icmpYes X0.here hx rfl (pc0 := 72) (pc' := 78) rfl (hb hby d2_72) rfl (flt hc72_9).2.1 (by decide) (by decide) k) ?_
                    refine run_fwd (T' := s₁) (g' := (mkF m 80 #[.val (.int p0)] [(.int (10 : Int32))])) (fun _ k => XS.bipush X0.here hx rfl (hb hby d2_78) k) ?_
                    exact run_ret X0 hx Bd.returns Bd.notSynchronized rfl (Or.inl ⟨rfl, by simp, _, rfl⟩) (hb hby d2_80) (by rw [e0]; exact ⟨by rw [own_d, if_neg hc3_1, if_neg hc11_2, if_neg hc20_3, if_neg hc29_4, if_neg hc37_5, if_neg hc45_6, if_neg hc54_7, if_neg hc63_8, if_neg hc72_9], N0, rfl⟩) (by decide) (by decide)
theorem d4_0 : decode method_4_code 0 = .ok (.iload_n 0, 1) := by decide +kernel
theorem d4_1 : decode method_4_code 1 = .ok (.ifCond .ne 5, 3) := by decide +kernel
theorem d4_4 : decode method_4_code 4 = .ok (.iconst 1, 1) := by decide +kernel
theorem d4_5 : decode method_4_code 5 = .ok (.ireturn, 1) := by decide +kernel
theorem d4_6 : decode method_4_code 6 = .ok (.iload_n 0, 1) := by decide +kernel
theorem d4_7 : decode method_4_code 7 = .ok (.iconst 1, 1) := by decide +kernel
theorem d4_8 : decode method_4_code 8 = .ok (.if_icmp .ne 6, 3) := by decide +kernel
theorem d4_11 : decode method_4_code 11 = .ok (.bipush 10, 2) := by decide +kernel
theorem d4_13 : decode method_4_code 13 = .ok (.ireturn, 1) := by decide +kernel
theorem d4_14 : decode method_4_code 14 = .ok (.iload_n 0, 1) := by decide +kernel
theorem d4_15 : decode method_4_code 15 = .ok (.iconst 2, 1) := by decide +kernel
theorem d4_16 : decode method_4_code 16 = .ok (.if_icmp .ne 6, 3) := by decide +kernel
theorem d4_19 : decode method_4_code 19 = .ok (.bipush 100, 2) := by decide +kernel
theorem d4_21 : decode method_4_code 21 = .ok (.ireturn, 1) := by decide +kernel
theorem d4_22 : decode method_4_code 22 = .ok (.iload_n 0, 1) := by decide +kernel
theorem d4_23 : decode method_4_code 23 = .ok (.iconst 3, 1) := by decide +kernel
theorem d4_24 : decode method_4_code 24 = .ok (.if_icmp .ne 7, 3) := by decide +kernel
theorem d4_27 : decode method_4_code 27 = .ok (.sipush 1000, 3) := by decide +kernel
theorem d4_30 : decode method_4_code 30 = .ok (.ireturn, 1) := by decide +kernel
theorem d4_31 : decode method_4_code 31 = .ok (.iload_n 0, 1) := by decide +kernel
theorem d4_32 : decode method_4_code 32 = .ok (.iconst 4, 1) := by decide +kernel
theorem d4_33 : decode method_4_code 33 = .ok (.if_icmp .ne 7, 3) := by decide +kernel
theorem d4_36 : decode method_4_code 36 = .ok (.sipush 10000, 3) := by decide +kernel
theorem d4_39 : decode method_4_code 39 = .ok (.ireturn, 1) := by decide +kernel
theorem d4_40 : decode method_4_code 40 = .ok (.iload_n 0, 1) := by decide +kernel
theorem d4_41 : decode method_4_code 41 = .ok (.iconst 5, 1) := by decide +kernel
theorem d4_42 : decode method_4_code 42 = .ok (.if_icmp .ne 6, 3) := by decide +kernel
theorem d4_45 : decode method_4_code 45 = .ok (.ldc 24, 2) := by decide +kernel
theorem d4_47 : decode method_4_code 47 = .ok (.ireturn, 1) := by decide +kernel
theorem d4_48 : decode method_4_code 48 = .ok (.iload_n 0, 1) := by decide +kernel
theorem d4_49 : decode method_4_code 49 = .ok (.bipush 6, 2) := by decide +kernel
theorem d4_51 : decode method_4_code 51 = .ok (.if_icmp .ne 6, 3) := by decide +kernel
theorem d4_54 : decode method_4_code 54 = .ok (.ldc 25, 2) := by decide +kernel
theorem d4_56 : decode method_4_code 56 = .ok (.ireturn, 1) := by decide +kernel
theorem d4_57 : decode method_4_code 57 = .ok (.iload_n 0, 1) := by decide +kernel
theorem d4_58 : decode method_4_code 58 = .ok (.bipush 7, 2) := by decide +kernel
theorem d4_60 : decode method_4_code 60 = .ok (.if_icmp .ne 6, 3) := by decide +kernel
theorem d4_63 : decode method_4_code 63 = .ok (.ldc 26, 2) := by decide +kernel
theorem d4_65 : decode method_4_code 65 = .ok (.ireturn, 1) := by decide +kernel
theorem d4_66 : decode method_4_code 66 = .ok (.iload_n 0, 1) := by decide +kernel
theorem d4_67 : decode method_4_code 67 = .ok (.bipush 8, 2) := by decide +kernel
theorem d4_69 : decode method_4_code 69 = .ok (.if_icmp .ne 6, 3) := by decide +kernel
theorem d4_72 : decode method_4_code 72 = .ok (.ldc 27, 2) := by decide +kernel
theorem d4_74 : decode method_4_code 74 = .ok (.ireturn, 1) := by decide +kernel
theorem d4_75 : decode method_4_code 75 = .ok (.ldc 28, 2) := by decide +kernel
theorem d4_77 : decode method_4_code 77 = .ok (.ireturn, 1) := by decide +kernel
theorem ef_rm4 (m : MethodId) (x0 : Int32) : entryFrame m #[(.int x0)] 1 = mkF m 0 #[.val (.int x0)] [] := by first | (simp [entryFrame, mkF, argsToLocals, Value.category]; done) | rfl
def Qrm4 (Z : State) (p0 : Int32) (h0 : Heap) (n0 : Nat) (v : Option Value) (h : Heap) (L : List Loc) : Prop := v = some (.int (own_pow p0)) ∧ Fr n0 L ∧ h = h0
set_option maxRecDepth 65536 in
set_option maxHeartbeats 40000000 in
theorem rm4 (l : Launch) (Z : State) (aV : Array Value) (hw : ∀ d ∈ tables_1, d.before aV Z = true) (ws : List Jvm.Cond) (p0 : Int32) (h0 : Heap) (n0 : Nat) (O0 : Old Z n0 h0) :
    MetFree l (⟨"com/example/recurr/recurr/WholeNumberWritePinLaw", "pow10", "(I)I"⟩ : MethodName) (head1 (Jvm.Cond.code (⟨"com/example/recurr/recurr/WholeNumberWritePinLaw", "pow10", "(I)I"⟩ : MethodName) method_4_code 1 (some .int) :: ws) ({ frames := 0, cells := 0, slots := 0, locals := 0 } : Room)) (fun a U => a = #[(.int p0)] ∧ Z.Warmed39 U.vm ∧ U.heap = h0) (fun _ _ _ _ _ => True) (fun _ U o U' => ∃ v L, o = .returned v ∧ Qrm4 Z p0 h0 n0 v U'.heap L ∧ FrameEnd U o U' L ({ frames := 0, cells := 0, slots := 0, locals := 0 } : Room).cells ({ frames := 0, cells := 0, slots := 0, locals := 0 } : Room).slots) := by
  refine MetFree.of_bodySF (plainFor_of_name pn_com_example_recurr_recurr_WholeNumberWritePinLaw) hisR ?_
  intro p e s m args below meth c s₁ Bd hml0 hP hK
  obtain ⟨rfl, hZ, hh⟩ := hP
  have hx := Bd.exec
  have hby := Bd.bytes
  have hml : c.maxLocals = 1 := hml0
  have hown : s.vm.findClass "com/example/recurr/recurr/WholeNumberWritePinLaw" = some m.cls := findClass_of_methodNamed Bd.named
  have hnm := (name_of_methodNamed Bd.named Bd.method).1
  have X0 : Stand p l e ({ frames := 0, cells := 0, slots := 0, locals := 0 } : Room) s m #[(.int p0)] below meth c s₁ [] 0 0 := Stand.of_body Bd
  have e0 : s₁.heap = h0 := by rw [← hh, Bd.state]; rfl
  have N0 := Fr.nil n0
  show Run p.tables e below (Wd s (Qrm4 Z p0 h0 n0) ({ frames := 0, cells := 0, slots := 0, locals := 0 } : Room).cells ({ frames := 0, cells := 0, slots := 0, locals := 0 } : Room).slots) s₁ (entryFrame m #[(.int p0)] 1)
  rw [ef_rm4 m p0]
  refine run_fwd (T' := s₁) (g' := (mkF m 1 #[.val (.int p0)] [(.int p0)])) (fun _ k => XS.iloadN X0.here hx rfl (hb hby d4_0) rfl k) ?_
  by_cases hc1_1 : p0 = (0 : Int32)
  ·
    refine run_fwd (T' := s₁) (g' := (mkF m 4 #[.val (.int p0)] [])) (fun _ k => XS.ifNo X0.here hx rfl (hb hby d4_1) rfl ((if0 _ _).trans (teq hc1_1).2) k) ?_
    refine run_fwd (T' := s₁) (g' := (mkF m 5 #[.val (.int p0)] [(.int (1 : Int32))])) (fun _ k => XS.iconst X0.here hx rfl (hb hby d4_4) k) ?_
    exact run_ret X0 hx Bd.returns Bd.notSynchronized rfl (Or.inl ⟨rfl, by simp, _, rfl⟩) (hb hby d4_5) (by rw [e0]; exact ⟨by rw [own_pow, if_pos hc1_1], N0, rfl⟩) (by decide) (by decide)
  ·
    refine run_fwd (T' := s₁) (g' := (mkF m 6 #[.val (.int p0)] [])) (fun _ k => XS.ifYes X0.here hx rfl (pc0 := 1) (pc' := 6) rfl (hb hby d4_1) rfl ((if0 _ _).trans (feq hc1_1).2) (by decide) (by decide) k) ?_
    refine run_fwd (T' := s₁) (g' := (mkF m 7 #[.val (.int p0)] [(.int p0)])) (fun _ k => XS.iloadN X0.here hx rfl (hb hby d4_6) rfl k) ?_
    refine run_fwd (T' := s₁) (g' := (mkF m 8 #[.val (.int p0)] [(.int (1 : Int32)), (.int p0)])) (fun _ k => XS.iconst X0.here hx rfl (hb hby d4_7) k) ?_
    by_cases hc8_2 : p0 = (1 : Int32)
    ·
      refine run_fwd (T' := s₁) (g' := (mkF m 11 #[.val (.int p0)] [])) (fun _ k => XS.icmpNo X0.here hx rfl (hb hby d4_8) rfl (teq hc8_2).2 k) ?_
      refine run_fwd (T' := s₁) (g' := (mkF m 13 #[.val (.int p0)] [(.int (10 : Int32))])) (fun _ k => XS.bipush X0.here hx rfl (hb hby d4_11) k) ?_
      exact run_ret X0 hx Bd.returns Bd.notSynchronized rfl (Or.inl ⟨rfl, by simp, _, rfl⟩) (hb hby d4_13) (by rw [e0]; exact ⟨by rw [own_pow, if_neg hc1_1, if_pos hc8_2], N0, rfl⟩) (by decide) (by decide)
    ·
      refine run_fwd (T' := s₁) (g' := (mkF m 14 #[.val (.int p0)] [])) (fun _ k => XS.icmpYes X0.here hx rfl (pc0 := 8) (pc' := 14) rfl (hb hby d4_8) rfl (feq hc8_2).2 (by decide) (by decide) k) ?_
      refine run_fwd (T' := s₁) (g' := (mkF m 15 #[.val (.int p0)] [(.int p0)])) (fun _ k => XS.iloadN X0.here hx rfl (hb hby d4_14) rfl k) ?_
      refine run_fwd (T' := s₁) (g' := (mkF m 16 #[.val (.int p0)] [(.int (2 : Int32)), (.int p0)])) (fun _ k => XS.iconst X0.here hx rfl (hb hby d4_15) k) ?_
      by_cases hc16_3 : p0 = (2 : Int32)
      ·
        refine run_fwd (T' := s₁) (g' := (mkF m 19 #[.val (.int p0)] [])) (fun _ k => XS.icmpNo X0.here hx rfl (hb hby d4_16) rfl (teq hc16_3).2 k) ?_
        refine run_fwd (T' := s₁) (g' := (mkF m 21 #[.val (.int p0)] [(.int (100 : Int32))])) (fun _ k => XS.bipush X0.here hx rfl (hb hby d4_19) k) ?_
        exact run_ret X0 hx Bd.returns Bd.notSynchronized rfl (Or.inl ⟨rfl, by simp, _, rfl⟩) (hb hby d4_21) (by rw [e0]; exact ⟨by rw [own_pow, if_neg hc1_1, if_neg hc8_2, if_pos hc16_3], N0, rfl⟩) (by decide) (by decide)
      ·
        refine run_fwd (T' := s₁) (g' := (mkF m 22 #[.val (.int p0)] [])) (fun _ k => XS.icmpYes X0.here hx rfl (pc0 := 16) (pc' := 22) rfl (hb hby d4_16) rfl (feq hc16_3).2 (by decide) (by decide) k) ?_
        refine run_fwd (T' := s₁) (g' := (mkF m 23 #[.val (.int p0)] [(.int p0)])) (fun _ k => XS.iloadN X0.here hx rfl (hb hby d4_22) rfl k) ?_
        refine run_fwd (T' := s₁) (g' := (mkF m 24 #[.val (.int p0)] [(.int (3 : Int32)), (.int p0)])) (fun _ k => XS.iconst X0.here hx rfl (hb hby d4_23) k) ?_
        by_cases hc24_4 : p0 = (3 : Int32)
        ·
          refine run_fwd (T' := s₁) (g' := (mkF m 27 #[.val (.int p0)] [])) (fun _ k => XS.icmpNo X0.here hx rfl (hb hby d4_24) rfl (teq hc24_4).2 k) ?_
          refine run_fwd (T' := s₁) (g' := (mkF m 30 #[.val (.int p0)] [(.int (1000 : Int32))])) (fun _ k => XS.sipush X0.here hx rfl (hb hby d4_27) k) ?_
          exact run_ret X0 hx Bd.returns Bd.notSynchronized rfl (Or.inl ⟨rfl, by simp, _, rfl⟩) (hb hby d4_30) (by rw [e0]; exact ⟨by rw [own_pow, if_neg hc1_1, if_neg hc8_2, if_neg hc16_3, if_pos hc24_4], N0, rfl⟩) (by decide) (by decide)
        ·
          refine run_fwd (T' := s₁) (g' := (mkF m 31 #[.val (.int p0)] [])) (fun _ k => XS.icmpYes X0.here hx rfl (pc0 := 24) (pc' := 31) rfl (hb hby d4_24) rfl (feq hc24_4).2 (by decide) (by decide) k) ?_
          refine run_fwd (T' := s₁) (g' := (mkF m 32 #[.val (.int p0)] [(.int p0)])) (fun _ k => XS.iloadN X0.here hx rfl (hb hby d4_31) rfl k) ?_
          refine run_fwd (T' := s₁) (g' := (mkF m 33 #[.val (.int p0)] [(.int (4 : Int32)), (.int p0)])) (fun _ k => XS.iconst X0.here hx rfl (hb hby d4_32) k) ?_
          by_cases hc33_5 : p0 = (4 : Int32)
          ·
            refine run_fwd (T' := s₁) (g' := (mkF m 36 #[.val (.int p0)] [])) (fun _ k => XS.icmpNo X0.here hx rfl (hb hby d4_33) rfl (teq hc33_5).2 k) ?_
            refine run_fwd (T' := s₁) (g' := (mkF m 39 #[.val (.int p0)] [(.int (10000 : Int32))])) (fun _ k => XS.sipush X0.here hx rfl (hb hby d4_36) k) ?_
            exact run_ret X0 hx Bd.returns Bd.notSynchronized rfl (Or.inl ⟨rfl, by simp, _, rfl⟩) (hb hby d4_39) (by rw [e0]; exact ⟨by rw [own_pow, if_neg hc1_1, if_neg hc8_2, if_neg hc16_3, if_neg hc24_4, if_pos hc33_5], N0, rfl⟩) (by decide) (by decide)
          ·
            refine run_fwd (T' := s₁) (g' := (mkF m 40 #[.val (.int p0)] [])) (fun _ k => XS.icmpYes X0.here hx rfl (pc0 := 33) (pc' := 40) rfl (hb hby d4_33) rfl (feq hc33_5).2 (by decide) (by decide) k) ?_
            refine run_fwd (T' := s₁) (g' := (mkF m 41 #[.val (.int p0)] [(.int p0)])) (fun _ k => XS.iloadN X0.here hx rfl (hb hby d4_40) rfl k) ?_
            refine run_fwd (T' := s₁) (g' := (mkF m 42 #[.val (.int p0)] [(.int (5 : Int32)), (.int p0)])) (fun _ k => XS.iconst X0.here hx rfl (hb hby d4_41) k) ?_
            by_cases hc42_6 : p0 = (5 : Int32)
            ·
              refine run_fwd (T' := s₁) (g' := (mkF m 45 #[.val (.int p0)] [])) (fun _ k => XS.icmpNo X0.here hx rfl (hb hby d4_42) rfl (teq hc42_6).2 k) ?_
              refine run_fwd (T' := s₁) (g' := (mkF m 47 #[.val (.int p0)] [(.int (100000 : Int32))])) (fun _ k => X0.ldcInt hx hown (mvT hZ (hw _ (List.mem_of_getElem? (i := 16) rfl))) (g := (mkF m 45 #[.val (.int p0)] [])) rfl (hb hby d4_45) _ k) ?_
              exact run_ret X0 hx Bd.returns Bd.notSynchronized rfl (Or.inl ⟨rfl, by simp, _, rfl⟩) (hb hby d4_47) (by rw [e0]; exact ⟨by rw [own_pow, if_neg hc1_1, if_neg hc8_2, if_neg hc16_3, if_neg hc24_4, if_neg hc33_5, if_pos hc42_6], N0, rfl⟩) (by decide) (by decide)
            ·
              refine run_fwd (T' := s₁) (g' := (mkF m 48 #[.val (.int p0)] [])) (fun _ k => XS.icmpYes X0.here hx rfl (pc0 := 42) (pc' := 48) rfl (hb hby d4_42) rfl (feq hc42_6).2 (by decide) (by decide) k) ?_
              refine run_fwd (T' := s₁) (g' := (mkF m 49 #[.val (.int p0)] [(.int p0)])) (fun _ k => XS.iloadN X0.here hx rfl (hb hby d4_48) rfl k) ?_
              refine run_fwd (T' := s₁) (g' := (mkF m 51 #[.val (.int p0)] [(.int (6 : Int32)), (.int p0)])) (fun _ k => XS.bipush X0.here hx rfl (hb hby d4_49) k) ?_
              by_cases hc51_7 : p0 = (6 : Int32)
              ·
                refine run_fwd (T' := s₁) (g' := (mkF m 54 #[.val (.int p0)] [])) (fun _ k => XS.icmpNo X0.here hx rfl (hb hby d4_51) rfl (teq hc51_7).2 k) ?_
                refine run_fwd (T' := s₁) (g' := (mkF m 56 #[.val (.int p0)] [(.int (1000000 : Int32))])) (fun _ k => X0.ldcInt hx hown (mvT hZ (hw _ (List.mem_of_getElem? (i := 17) rfl))) (g := (mkF m 54 #[.val (.int p0)] [])) rfl (hb hby d4_54) _ k) ?_
                exact run_ret X0 hx Bd.returns Bd.notSynchronized rfl (Or.inl ⟨rfl, by simp, _, rfl⟩) (hb hby d4_56) (by rw [e0]; exact ⟨by rw [own_pow, if_neg hc1_1, if_neg hc8_2, if_neg hc16_3, if_neg hc24_4, if_neg hc33_5, if_neg hc42_6, if_pos hc51_7], N0, rfl⟩) (by decide) (by decide)
              ·
                refine run_fwd (T' := s₁) (g' := (mkF m 57 #[.val (.int p0)] [])) (fun _ k => XS.icmpYes X0.here hx rfl (pc0 := 51) (pc' := 57) rfl (hb hby d4_51) rfl (feq hc51_7).2 (by decide) (by decide) k) ?_
                refine run_fwd (T' := s₁) (g' := (mkF m 58 #[.val (.int p0)] [(.int p0)])) (fun _ k => XS.iloadN X0.here hx rfl (hb hby d4_57) rfl k) ?_
                refine run_fwd (T' := s₁) (g' := (mkF m 60 #[.val (.int p0)] [(.int (7 : Int32)), (.int p0)])) (fun _ k => XS.bipush X0.here hx rfl (hb hby d4_58) k) ?_
                by_cases hc60_8 : p0 = (7 : Int32)
                ·
                  refine run_fwd (T' := s₁) (g' := (mkF m 63 #[.val (.int p0)] [])) (fun _ k => XS.icmpNo X0.here hx rfl (hb hby d4_60) rfl (teq hc60_8).2 k) ?_
                  refine run_fwd (T' := s₁) (g' := (mkF m 65 #[.val (.int p0)] [(.int (10000000 : Int32))])) (fun _ k => X0.ldcInt hx hown (mvT hZ (hw _ (List.mem_of_getElem? (i := 18) rfl))) (g := (mkF m 63 #[.val (.int p0)] [])) rfl (hb hby d4_63) _ k) ?_
                  exact run_ret X0 hx Bd.returns Bd.notSynchronized rfl (Or.inl ⟨rfl, by simp, _, rfl⟩) (hb hby d4_65) (by rw [e0]; exact ⟨by rw [own_pow, if_neg hc1_1, if_neg hc8_2, if_neg hc16_3, if_neg hc24_4, if_neg hc33_5, if_neg hc42_6, if_neg hc51_7, if_pos hc60_8], N0, rfl⟩) (by decide) (by decide)
                ·
                  refine run_fwd (T' := s₁) (g' := (mkF m 66 #[.val (.int p0)] [])) (fun _ k => XS.icmpYes X0.here hx rfl (pc0 := 60) (pc' := 66) rfl (hb hby d4_60) rfl (feq hc60_8).2 (by decide) (by decide) k) ?_
                  refine run_fwd (T' := s₁) (g' := (mkF m 67 #[.val (.int p0)] [(.int p0)])) (fun _ k => XS.iloadN X0.here hx rfl (hb hby d4_66) rfl k) ?_
                  refine run_fwd (T' := s₁) (g' := (mkF m 69 #[.val (.int p0)] [(.int (8 : Int32)), (.int p0)])) (fun _ k => XS.bipush X0.here hx rfl (hb hby d4_67) k) ?_
                  by_cases hc69_9 : p0 = (8 : Int32)
                  ·
                    refine run_fwd (T' := s₁) (g' := (mkF m 72 #[.val (.int p0)] [])) (fun _ k => XS.icmpNo X0.here hx rfl (hb hby d4_69) rfl (teq hc69_9).2 k) ?_
                    refine run_fwd (T' := s₁) (g' := (mkF m 74 #[.val (.int p0)] [(.int (100000000 : Int32))])) (fun _ k => X0.ldcInt hx hown (mvT hZ (hw _ (List.mem_of_getElem? (i := 19) rfl))) (g := (mkF m 72 #[.val (.int p0)] [])) rfl (hb hby d4_72) _ k) ?_
                    exact run_ret X0 hx Bd.returns Bd.notSynchronized rfl (Or.inl ⟨rfl, by simp, _, rfl⟩) (hb hby d4_74) (by rw [e0]; exact ⟨by rw [own_pow, if_neg hc1_1, if_neg hc8_2, if_neg hc16_3, if_neg hc24_4, if_neg hc33_5, if_neg hc42_6, if_neg hc51_7, if_neg hc60_8, if_pos hc69_9], N0, rfl⟩) (by decide) (by decide)
                  ·
                    refine run_fwd (T' := s₁) (g' := (mkF m 75 #[.val (.int p0)] [])) (fun _ k => XS.icmpYes X0.here hx rfl (pc0 := 69) (pc' := 75) rfl (hb hby d4_69) rfl (feq hc69_9).2 (by decide) (by decide) k) ?_
                    refine run_fwd (T' := s₁) (g' := (mkF m 77 #[.val (.int p0)] [(.int (1000000000 : Int32))])) (fun _ k => X0.ldcInt hx hown (mvT hZ (hw _ (List.mem_of_getElem? (i := 20) rfl))) (g := (mkF m 75 #[.val (.int p0)] [])) rfl (hb hby d4_75) _ k) ?_
                    exact run_ret X0 hx Bd.returns Bd.notSynchronized rfl (Or.inl ⟨rfl, by simp, _, rfl⟩) (hb hby d4_77) (by rw [e0]; exact ⟨by rw [own_pow, if_neg hc1_1, if_neg hc8_2, if_neg hc16_3, if_neg hc24_4, if_neg hc33_5, if_neg hc42_6, if_neg hc51_7, if_neg hc60_8, if_neg hc69_9], N0, rfl⟩) (by decide) (by decide)
theorem d3_0 : decode method_5_code 0 = .ok (.iload_n 1, 1) := by decide +kernel
theorem d3_1 : decode method_5_code 1 = .ok (.iload_n 3, 1) := by decide +kernel
theorem d3_2 : decode method_5_code 2 = .ok (.isub, 1) := by decide +kernel
theorem d3_3 : decode method_5_code 3 = .ok (.istore 5, 2) := by decide +kernel
theorem d3_5 : decode method_5_code 5 = .ok (.iload 5, 2) := by decide +kernel
theorem d3_7 : decode method_5_code 7 = .ok (.ifCond .lt 10, 3) := by decide +kernel
theorem d3_17 : decode method_5_code 17 = .ok (.aload_n 0, 1) := by decide +kernel
theorem d3_18 : decode method_5_code 18 = .ok (.iload_n 1, 1) := by decide +kernel
theorem d3_19 : decode method_5_code 19 = .ok (.caload, 1) := by decide +kernel
theorem d3_20 : decode method_5_code 20 = .ok (.ifCond .ne 7, 3) := by decide +kernel
theorem d3_23 : decode method_5_code 23 = .ok (.iconst 1, 1) := by decide +kernel
theorem d3_24 : decode method_5_code 24 = .ok (.goto 4, 3) := by decide +kernel
theorem d3_28 : decode method_5_code 28 = .ok (.ireturn, 1) := by decide +kernel
theorem d3_10 : decode method_5_code 10 = .ok (.iload 5, 2) := by decide +kernel
theorem d3_12 : decode method_5_code 12 = .ok (.iload 4, 2) := by decide +kernel
theorem d3_14 : decode method_5_code 14 = .ok (.if_icmp .lt 15, 3) := by decide +kernel
theorem d3_29 : decode method_5_code 29 = .ok (.aload_n 0, 1) := by decide +kernel
theorem d3_30 : decode method_5_code 30 = .ok (.iload_n 1, 1) := by decide +kernel
theorem d3_31 : decode method_5_code 31 = .ok (.caload, 1) := by decide +kernel
theorem d3_32 : decode method_5_code 32 = .ok (.bipush 48, 2) := by decide +kernel
theorem d3_34 : decode method_5_code 34 = .ok (.iload_n 2, 1) := by decide +kernel
theorem d3_35 : decode method_5_code 35 = .ok (.iload 4, 2) := by decide +kernel
theorem d3_37 : decode method_5_code 37 = .ok (.iconst 1, 1) := by decide +kernel
theorem d3_38 : decode method_5_code 38 = .ok (.isub, 1) := by decide +kernel
theorem d3_39 : decode method_5_code 39 = .ok (.iload 5, 2) := by decide +kernel
theorem d3_41 : decode method_5_code 41 = .ok (.isub, 1) := by decide +kernel
theorem d3_42 : decode method_5_code 42 = .ok (.invokestatic 29, 3) := by decide +kernel
theorem pd__28I_29I : parseMethodDescriptor "(I)I" = some ⟨[.int], some .int⟩ := by decide +kernel
theorem d3_45 : decode method_5_code 45 = .ok (.idiv, 1) := by decide +kernel
theorem d3_46 : decode method_5_code 46 = .ok (.bipush 10, 2) := by decide +kernel
theorem d3_48 : decode method_5_code 48 = .ok (.irem, 1) := by decide +kernel
theorem d3_49 : decode method_5_code 49 = .ok (.iadd, 1) := by decide +kernel
theorem d3_50 : decode method_5_code 50 = .ok (.i2c, 1) := by decide +kernel
theorem d3_51 : decode method_5_code 51 = .ok (.if_icmp .ne 7, 3) := by decide +kernel
theorem d3_54 : decode method_5_code 54 = .ok (.iconst 1, 1) := by decide +kernel
theorem d3_55 : decode method_5_code 55 = .ok (.goto 4, 3) := by decide +kernel
theorem d3_59 : decode method_5_code 59 = .ok (.ireturn, 1) := by decide +kernel
theorem ef_rm3 (m : MethodId) (x0 : Addr) (x1 : Int32) (x2 : Int32) (x3 : Int32) (x4 : Int32) : entryFrame m #[(.ref x0), (.int x1), (.int x2), (.int x3), (.int x4)] 6 = mkF m 0 #[.val (.ref x0), .val (.int x1), .val (.int x2), .val (.int x3), .val (.int x4), .unset] [] := by first | (simp [entryFrame, mkF, argsToLocals, Value.category]; done) | rfl
def Qrm3 (Z : State) (a0 : Addr) (p1 : Int32) (p2 : Int32) (p3 : Int32) (p4 : Int32) (k : ClassId) (vs : List Value) (x : Int32) (h0 : Heap) (n0 : Nat) (v : Option Value) (h : Heap) (L : List Loc) : Prop := v = some (.int (1 : Int32)) ∧ Fr n0 L ∧ h = h0
set_option maxRecDepth 65536 in
set_option maxHeartbeats 40000000 in
theorem rm3 (l : Launch) (Z : State) (aV : Array Value) (hw : ∀ d ∈ tables_1, d.before aV Z = true) (ws : List Jvm.Cond) (a0 : Addr) (p1 : Int32) (p2 : Int32) (p3 : Int32) (p4 : Int32) (k : ClassId) (vs : List Value) (x : Int32) (h0 : Heap) (n0 : Nat) (O0 : Old Z n0 h0) (Vi0 : Arv Z h0 a0 k .char (20 : Int32) vs (.int (0 : Int32))) (hi1 : ¬ p1 < (0 : Int32) ∧ p1 < (20 : Int32)) (hx1 : vs.getD p1.toNatClampNeg (.int (0 : Int32)) = .int x) (hin : ¬ (p1 - p3) < (0 : Int32) → (p1 - p3) < p4 → x = own_chr (p2 / own_pow ((p4 - (1 : Int32)) - (p1 - p3)))) (hout : ((p1 - p3) < (0 : Int32) ∨ ¬ (p1 - p3) < p4) → x = 0) :
    MetFree l (⟨"com/example/recurr/recurr/WholeNumberWritePinLaw", "ok", "([CIIII)Z"⟩ : MethodName) (head1 (Jvm.Cond.code (⟨"com/example/recurr/recurr/WholeNumberWritePinLaw", "ok", "([CIIII)Z"⟩ : MethodName) method_5_code 6 (some .boolean) :: ws) ({ frames := 1, cells := 0, slots := 0, locals := 15 } : Room)) (fun a U => a = #[(.ref a0), (.int p1), (.int p2), (.int p3), (.int p4)] ∧ Z.Warmed39 U.vm ∧ U.heap = h0) (fun _ _ _ _ _ => True) (fun _ U o U' => ∃ v L, o = .returned v ∧ Qrm3 Z a0 p1 p2 p3 p4 k vs x h0 n0 v U'.heap L ∧ FrameEnd U o U' L ({ frames := 1, cells := 0, slots := 0, locals := 15 } : Room).cells ({ frames := 1, cells := 0, slots := 0, locals := 15 } : Room).slots) := by
  refine MetFree.of_bodySF (plainFor_of_name pn_com_example_recurr_recurr_WholeNumberWritePinLaw) hisR ?_
  intro p e s m args below meth c s₁ Bd hml0 hP hK
  obtain ⟨rfl, hZ, hh⟩ := hP
  have hx := Bd.exec
  have hby := Bd.bytes
  have hml : c.maxLocals = 6 := hml0
  have hown : s.vm.findClass "com/example/recurr/recurr/WholeNumberWritePinLaw" = some m.cls := findClass_of_methodNamed Bd.named
  have hnm := (name_of_methodNamed Bd.named Bd.method).1
  have X0 : Stand p l e ({ frames := 1, cells := 0, slots := 0, locals := 15 } : Room) s m #[(.ref a0), (.int p1), (.int p2), (.int p3), (.int p4)] below meth c s₁ [] 0 0 := Stand.of_body Bd
  have e0 : s₁.heap = h0 := by rw [← hh, Bd.state]; rfl
  have N0 := Fr.nil n0
  show Run p.tables e below (Wd s (Qrm3 Z a0 p1 p2 p3 p4 k vs x h0 n0) ({ frames := 1, cells := 0, slots := 0, locals := 15 } : Room).cells ({ frames := 1, cells := 0, slots := 0, locals := 15 } : Room).slots) s₁ (entryFrame m #[(.ref a0), (.int p1), (.int p2), (.int p3), (.int p4)] 6)
  rw [ef_rm3 m a0 p1 p2 p3 p4]
  refine run_fwd (T' := s₁) (g' := (mkF m 1 #[.val (.ref a0), .val (.int p1), .val (.int p2), .val (.int p3), .val (.int p4), .unset] [(.int p1)])) (fun _ k => XS.iloadN X0.here hx rfl (hb hby d3_0) rfl k) ?_
  refine run_fwd (T' := s₁) (g' := (mkF m 2 #[.val (.ref a0), .val (.int p1), .val (.int p2), .val (.int p3), .val (.int p4), .unset] [(.int p3), (.int p1)])) (fun _ k => XS.iloadN X0.here hx rfl (hb hby d3_1) rfl k) ?_
  refine run_fwd (T' := s₁) (g' := (mkF m 3 #[.val (.ref a0), .val (.int p1), .val (.int p2), .val (.int p3), .val (.int p4), .unset] [(.int (p1 - p3))])) (fun _ k => XS.isub X0.here hx rfl (hb hby d3_2) rfl k) ?_
  refine run_fwd (T' := s₁) (g' := (mkF m 5 #[.val (.ref a0), .val (.int p1), .val (.int p2), .val (.int p3), .val (.int p4), .val (.int (p1 - p3))] [])) (fun _ k => XS.istore X0.here hx rfl (hb hby d3_3) rfl (l' := #[.val (.ref a0), .val (.int p1), .val (.int p2), .val (.int p3), .val (.int p4), .val (.int (p1 - p3))]) rfl k) ?_
  refine run_fwd (T' := s₁) (g' := (mkF m 7 #[.val (.ref a0), .val (.int p1), .val (.int p2), .val (.int p3), .val (.int p4), .val (.int (p1 - p3))] [(.int (p1 - p3))])) (fun _ k => XS.iload X0.here hx rfl (hb hby d3_5) rfl k) ?_
  by_cases hc7_1 : (p1 - p3) < (0 : Int32)
  ·
    refine run_fwd (T' := s₁) (g' := (mkF m 17 #[.val (.ref a0), .val (.int p1), .val (.int p2), .val (.int p3), .val (.int p4), .val (.int (p1 - p3))] [])) (fun _ k => XS.ifYes X0.here hx rfl (pc0 := 7) (pc' := 17) rfl (hb hby d3_7) rfl ((if0 _ _).trans (tlt hc7_1).1) (by decide) (by decide) k) ?_
    refine run_fwd (T' := s₁) (g' := (mkF m 18 #[.val (.ref a0), .val (.int p1), .val (.int p2), .val (.int p3), .val (.int p4), .val (.int (p1 - p3))] [(.ref a0)])) (fun _ k => XS.aloadN X0.here hx rfl (hb hby d3_17) rfl rfl k) ?_
    refine run_fwd (T' := s₁) (g' := (mkF m 19 #[.val (.ref a0), .val (.int p1), .val (.int p2), .val (.int p3), .val (.int p4), .val (.int (p1 - p3))] [(.int p1), (.ref a0)])) (fun _ k => XS.iloadN X0.here hx rfl (hb hby d3_18) rfl k) ?_
    obtain ⟨cl2, Ar2, -, S2, M2, Hh2, -⟩ := id (Vi0)
    have hin2 : ¬ (p1 < 0 ∨ cl2.slots.size ≤ (p1).toNatClampNeg) := inb_of S2 hi1
    have hat2 : cl2.slots[(p1).toNatClampNeg]? = some (.int x) := Hh2.at hin2 hx1
    refine run_fwd (T' := s₁) (g' := (mkF m 20 #[.val (.ref a0), .val (.int p1), .val (.int p2), .val (.int p3), .val (.int p4), .val (.int (p1 - p3))] [(.int x)])) (fun _ k => X0.caload hx (j := p1) (v := (.int x)) (by rw [e0]; exact Ar2.1) (State.isArrayOf_alike hZ.alike Ar2.2.1) Ar2.2.2 hin2 hat2 (g := (mkF m 19 #[.val (.ref a0), .val (.int p1), .val (.int p2), .val (.int p3), .val (.int p4), .val (.int (p1 - p3))] [(.int p1), (.ref a0)])) rfl rfl (hb hby d3_19) _ k) ?_
    have hc20_3 : x = (0 : Int32) := hout (Or.inl hc7_1)
    refine run_fwd (T' := s₁) (g' := (mkF m 23 #[.val (.ref a0), .val (.int p1), .val (.int p2), .val (.int p3), .val (.int p4), .val (.int (p1 - p3))] [])) (fun _ k => XS.ifNo X0.here hx rfl (hb hby d3_20) rfl ((if0 _ _).trans (teq hc20_3).2) k) ?_
    refine run_fwd (T' := s₁) (g' := (mkF m 24 #[.val (.ref a0), .val (.int p1), .val (.int p2), .val (.int p3), .val (.int p4), .val (.int (p1 - p3))] [(.int (1 : Int32))])) (fun _ k => XS.iconst X0.here hx rfl (hb hby d3_23) k) ?_
    refine run_fwd (T' := s₁) (g' := (mkF m 28 #[.val (.ref a0), .val (.int p1), .val (.int p2), .val (.int p3), .val (.int p4), .val (.int (p1 - p3))] [(.int (1 : Int32))])) (fun _ k => XS.goto X0.here hx rfl (pc0 := 24) (pc' := 28) rfl (hb hby d3_24) (by decide) (by decide) k) ?_
    exact run_ret X0 hx Bd.returns Bd.notSynchronized rfl (Or.inl ⟨rfl, by simp, _, rfl⟩) (hb hby d3_28) (by rw [e0]; exact ⟨rfl, N0, rfl⟩) (by decide) (by decide)
  ·
    refine run_fwd (T' := s₁) (g' := (mkF m 10 #[.val (.ref a0), .val (.int p1), .val (.int p2), .val (.int p3), .val (.int p4), .val (.int (p1 - p3))] [])) (fun _ k => XS.ifNo X0.here hx rfl (hb hby d3_7) rfl ((if0 _ _).trans (flt hc7_1).1) k) ?_
    refine run_fwd (T' := s₁) (g' := (mkF m 12 #[.val (.ref a0), .val (.int p1), .val (.int p2), .val (.int p3), .val (.int p4), .val (.int (p1 - p3))] [(.int (p1 - p3))])) (fun _ k => XS.iload X0.here hx rfl (hb hby d3_10) rfl k) ?_
    refine run_fwd (T' := s₁) (g' := (mkF m 14 #[.val (.ref a0), .val (.int p1), .val (.int p2), .val (.int p3), .val (.int p4), .val (.int (p1 - p3))] [(.int p4), (.int (p1 - p3))])) (fun _ k => XS.iload X0.here hx rfl (hb hby d3_12) rfl k) ?_
    by_cases hc14_4 : (p1 - p3) < p4
    ·
      refine run_fwd (T' := s₁) (g' := (mkF m 29 #[.val (.ref a0), .val (.int p1), .val (.int p2), .val (.int p3), .val (.int p4), .val (.int (p1 - p3))] [])) (fun _ k => XS.icmpYes X0.here hx rfl (pc0 := 14) (pc' := 29) rfl (hb hby d3_14) rfl (tlt hc14_4).1 (by decide) (by decide) k) ?_
      refine run_fwd (T' := s₁) (g' := (mkF m 30 #[.val (.ref a0), .val (.int p1), .val (.int p2), .val (.int p3), .val (.int p4), .val (.int (p1 - p3))] [(.ref a0)])) (fun _ k => XS.aloadN X0.here hx rfl (hb hby d3_29) rfl rfl k) ?_
      refine run_fwd (T' := s₁) (g' := (mkF m 31 #[.val (.ref a0), .val (.int p1), .val (.int p2), .val (.int p3), .val (.int p4), .val (.int (p1 - p3))] [(.int p1), (.ref a0)])) (fun _ k => XS.iloadN X0.here hx rfl (hb hby d3_30) rfl k) ?_
      obtain ⟨cl5, Ar5, -, S5, M5, Hh5, -⟩ := id (Vi0)
      have hin5 : ¬ (p1 < 0 ∨ cl5.slots.size ≤ (p1).toNatClampNeg) := inb_of S5 hi1
      have hat5 : cl5.slots[(p1).toNatClampNeg]? = some (.int x) := Hh5.at hin5 hx1
      refine run_fwd (T' := s₁) (g' := (mkF m 32 #[.val (.ref a0), .val (.int p1), .val (.int p2), .val (.int p3), .val (.int p4), .val (.int (p1 - p3))] [(.int x)])) (fun _ k => X0.caload hx (j := p1) (v := (.int x)) (by rw [e0]; exact Ar5.1) (State.isArrayOf_alike hZ.alike Ar5.2.1) Ar5.2.2 hin5 hat5 (g := (mkF m 31 #[.val (.ref a0), .val (.int p1), .val (.int p2), .val (.int p3), .val (.int p4), .val (.int (p1 - p3))] [(.int p1), (.ref a0)])) rfl rfl (hb hby d3_31) _ k) ?_
      refine run_fwd (T' := s₁) (g' := (mkF m 34 #[.val (.ref a0), .val (.int p1), .val (.int p2), .val (.int p3), .val (.int p4), .val (.int (p1 - p3))] [(.int (48 : Int32)), (.int x)])) (fun _ k => XS.bipush X0.here hx rfl (hb hby d3_32) k) ?_
      refine run_fwd (T' := s₁) (g' := (mkF m 35 #[.val (.ref a0), .val (.int p1), .val (.int p2), .val (.int p3), .val (.int p4), .val (.int (p1 - p3))] [(.int p2), (.int (48 : Int32)), (.int x)])) (fun _ k => XS.iloadN X0.here hx rfl (hb hby d3_34) rfl k) ?_
      refine run_fwd (T' := s₁) (g' := (mkF m 37 #[.val (.ref a0), .val (.int p1), .val (.int p2), .val (.int p3), .val (.int p4), .val (.int (p1 - p3))] [(.int p4), (.int p2), (.int (48 : Int32)), (.int x)])) (fun _ k => XS.iload X0.here hx rfl (hb hby d3_35) rfl k) ?_
      refine run_fwd (T' := s₁) (g' := (mkF m 38 #[.val (.ref a0), .val (.int p1), .val (.int p2), .val (.int p3), .val (.int p4), .val (.int (p1 - p3))] [(.int (1 : Int32)), (.int p4), (.int p2), (.int (48 : Int32)), (.int x)])) (fun _ k => XS.iconst X0.here hx rfl (hb hby d3_37) k) ?_
      refine run_fwd (T' := s₁) (g' := (mkF m 39 #[.val (.ref a0), .val (.int p1), .val (.int p2), .val (.int p3), .val (.int p4), .val (.int (p1 - p3))] [(.int (p4 - (1 : Int32))), (.int p2), (.int (48 : Int32)), (.int x)])) (fun _ k => XS.isub X0.here hx rfl (hb hby d3_38) rfl k) ?_
      refine run_fwd (T' := s₁) (g' := (mkF m 41 #[.val (.ref a0), .val (.int p1), .val (.int p2), .val (.int p3), .val (.int p4), .val (.int (p1 - p3))] [(.int (p1 - p3)), (.int (p4 - (1 : Int32))), (.int p2), (.int (48 : Int32)), (.int x)])) (fun _ k => XS.iload X0.here hx rfl (hb hby d3_39) rfl k) ?_
      refine run_fwd (T' := s₁) (g' := (mkF m 42 #[.val (.ref a0), .val (.int p1), .val (.int p2), .val (.int p3), .val (.int p4), .val (.int (p1 - p3))] [(.int ((p4 - (1 : Int32)) - (p1 - p3))), (.int p2), (.int (48 : Int32)), (.int x)])) (fun _ k => XS.isub X0.here hx rfl (hb hby d3_41) rfl k) ?_
      obtain ⟨_, _, ⟨T6, L6, kk6, nn6⟩, -, X6, ⟨Lc6, hQ6, l6, y6, z6⟩, st6⟩ := Jvm.LawKit.callS X0 hx (y := (⟨"com/example/recurr/recurr/WholeNumberWritePinLaw", "pow10", "(I)I"⟩ : MethodName)) hown (mvT hZ (hw _ (List.mem_of_getElem? (i := 13) rfl))) (mvT hZ (hw _ (List.mem_of_getElem? (i := 14) rfl))) (mvT hZ (hw _ (List.mem_of_getElem? (i := 8) rfl))) (mvT hZ (hw _ (List.mem_of_getElem? (i := 15) rfl))) (by decide) (backOf (W := 3) (rm4 l Z aV hw [] ((p4 - (1 : Int32)) - (p1 - p3)) h0 n0 O0 ) hZ (hw _ (List.mem_of_getElem? (i := 15) rfl)) (hw _ (List.mem_of_getElem? (i := 8) rfl)) (by decide) (by decide)) (g := (mkF m 42 #[.val (.ref a0), .val (.int p1), .val (.int p2), .val (.int p3), .val (.int p4), .val (.int (p1 - p3))] [(.int ((p4 - (1 : Int32)) - (p1 - p3))), (.int p2), (.int (48 : Int32)), (.int x)])) rfl (by rw [hml]; rfl) (argsL := [(.int ((p4 - (1 : Int32)) - (p1 - p3)))]) (rest := [(.int p2), (.int (48 : Int32)), (.int x)]) (lenOf pd__28I_29I rfl) rfl (by show 2 * 0 + _ ≤ _; exact Nat.le_of_eq rfl) (hb hby d3_42) (fun _ _ => ⟨rfl, e0, (by decide : 0 + 0 ≤ _), (by decide : 0 + 0 ≤ _)⟩)
      dsimp only [Pt.U, Pt.locs, Pt.cells, Pt.slots] at X6 l6 y6 z6 st6 hQ6
      subst l6 y6 z6
      obtain ⟨rfl, N6q, Q6_0⟩ := hQ6
      have N6 := Fr.app N0 N6q
      refine run_fwd (T' := T6) (g' := (mkF m 45 #[.val (.ref a0), .val (.int p1), .val (.int p2), .val (.int p3), .val (.int p4), .val (.int (p1 - p3))] [(.int (own_pow ((p4 - (1 : Int32)) - (p1 - p3)))), (.int p2), (.int (48 : Int32)), (.int x)])) (fun _ k => st6 _ k) ?_
      refine run_fwd (T' := T6) (g' := (mkF m 46 #[.val (.ref a0), .val (.int p1), .val (.int p2), .val (.int p3), .val (.int p4), .val (.int (p1 - p3))] [(.int (p2 / (own_pow ((p4 - (1 : Int32)) - (p1 - p3))))), (.int (48 : Int32)), (.int x)])) (fun _ k => XS.idiv X6.here hx rfl (hb hby d3_45) rfl (own_pow_ne _) k) ?_
      refine run_fwd (T' := T6) (g' := (mkF m 48 #[.val (.ref a0), .val (.int p1), .val (.int p2), .val (.int p3), .val (.int p4), .val (.int (p1 - p3))] [(.int (10 : Int32)), (.int (p2 / (own_pow ((p4 - (1 : Int32)) - (p1 - p3))))), (.int (48 : Int32)), (.int x)])) (fun _ k => XS.bipush X6.here hx rfl (hb hby d3_46) k) ?_
      refine run_fwd (T' := T6) (g' := (mkF m 49 #[.val (.ref a0), .val (.int p1), .val (.int p2), .val (.int p3), .val (.int p4), .val (.int (p1 - p3))] [(.int ((p2 / (own_pow ((p4 - (1 : Int32)) - (p1 - p3)))) % (10 : Int32))), (.int (48 : Int32)), (.int x)])) (fun _ k => iremM X6 hx rfl (hb hby d3_48) rfl (by decide) k) ?_
      refine run_fwd (T' := T6) (g' := (mkF m 50 #[.val (.ref a0), .val (.int p1), .val (.int p2), .val (.int p3), .val (.int p4), .val (.int (p1 - p3))] [(.int ((48 : Int32) + ((p2 / (own_pow ((p4 - (1 : Int32)) - (p1 - p3)))) % (10 : Int32)))), (.int x)])) (fun _ k => XS.iadd X6.here hx rfl (hb hby d3_49) rfl k) ?_
      refine run_fwd (T' := T6) (g' := (mkF m 51 #[.val (.ref a0), .val (.int p1), .val (.int p2), .val (.int p3), .val (.int p4), .val (.int (p1 - p3))] [(.int (((48 : Int32) + ((p2 / (own_pow ((p4 - (1 : Int32)) - (p1 - p3)))) % (10 : Int32))).toUInt32.toUInt16.toUInt32.toInt32)), (.int x)])) (fun _ k => XS.i2c X6.here hx rfl (hb hby d3_50) rfl k) ?_
      have hc51_7 : x = (((48 : Int32) + ((p2 / (own_pow ((p4 - (1 : Int32)) - (p1 - p3)))) % (10 : Int32))).toUInt32.toUInt16.toUInt32.toInt32) := hin hc7_1 hc14_4
      refine run_fwd (T' := T6) (g' := (mkF m 54 #[.val (.ref a0), .val (.int p1), .val (.int p2), .val (.int p3), .val (.int p4), .val (.int (p1 - p3))] [])) (fun _ k => XS.icmpNo X6.here hx rfl (hb hby d3_51) rfl (teq hc51_7).2 k) ?_
      refine run_fwd (T' := T6) (g' := (mkF m 55 #[.val (.ref a0), .val (.int p1), .val (.int p2), .val (.int p3), .val (.int p4), .val (.int (p1 - p3))] [(.int (1 : Int32))])) (fun _ k => XS.iconst X6.here hx rfl (hb hby d3_54) k) ?_
      refine run_fwd (T' := T6) (g' := (mkF m 59 #[.val (.ref a0), .val (.int p1), .val (.int p2), .val (.int p3), .val (.int p4), .val (.int (p1 - p3))] [(.int (1 : Int32))])) (fun _ k => XS.goto X6.here hx rfl (pc0 := 55) (pc' := 59) rfl (hb hby d3_55) (by decide) (by decide) k) ?_
      exact run_ret X6 hx Bd.returns Bd.notSynchronized rfl (Or.inl ⟨rfl, by simp, _, rfl⟩) (hb hby d3_59) (by rw [Q6_0]; exact ⟨rfl, N6, rfl⟩) (by decide) (by decide)
    ·
      refine run_fwd (T' := s₁) (g' := (mkF m 17 #[.val (.ref a0), .val (.int p1), .val (.int p2), .val (.int p3), .val (.int p4), .val (.int (p1 - p3))] [])) (fun _ k => XS.icmpNo X0.here hx rfl (hb hby d3_14) rfl (flt hc14_4).1 k) ?_
      refine run_fwd (T' := s₁) (g' := (mkF m 18 #[.val (.ref a0), .val (.int p1), .val (.int p2), .val (.int p3), .val (.int p4), .val (.int (p1 - p3))] [(.ref a0)])) (fun _ k => XS.aloadN X0.here hx rfl (hb hby d3_17) rfl rfl k) ?_
      refine run_fwd (T' := s₁) (g' := (mkF m 19 #[.val (.ref a0), .val (.int p1), .val (.int p2), .val (.int p3), .val (.int p4), .val (.int (p1 - p3))] [(.int p1), (.ref a0)])) (fun _ k => XS.iloadN X0.here hx rfl (hb hby d3_18) rfl k) ?_
      obtain ⟨cl8, Ar8, -, S8, M8, Hh8, -⟩ := id (Vi0)
      have hin8 : ¬ (p1 < 0 ∨ cl8.slots.size ≤ (p1).toNatClampNeg) := inb_of S8 hi1
      have hat8 : cl8.slots[(p1).toNatClampNeg]? = some (.int x) := Hh8.at hin8 hx1
      refine run_fwd (T' := s₁) (g' := (mkF m 20 #[.val (.ref a0), .val (.int p1), .val (.int p2), .val (.int p3), .val (.int p4), .val (.int (p1 - p3))] [(.int x)])) (fun _ k => X0.caload hx (j := p1) (v := (.int x)) (by rw [e0]; exact Ar8.1) (State.isArrayOf_alike hZ.alike Ar8.2.1) Ar8.2.2 hin8 hat8 (g := (mkF m 19 #[.val (.ref a0), .val (.int p1), .val (.int p2), .val (.int p3), .val (.int p4), .val (.int (p1 - p3))] [(.int p1), (.ref a0)])) rfl rfl (hb hby d3_19) _ k) ?_
      have hc20_9 : x = (0 : Int32) := hout (Or.inr hc14_4)
      refine run_fwd (T' := s₁) (g' := (mkF m 23 #[.val (.ref a0), .val (.int p1), .val (.int p2), .val (.int p3), .val (.int p4), .val (.int (p1 - p3))] [])) (fun _ k => XS.ifNo X0.here hx rfl (hb hby d3_20) rfl ((if0 _ _).trans (teq hc20_9).2) k) ?_
      refine run_fwd (T' := s₁) (g' := (mkF m 24 #[.val (.ref a0), .val (.int p1), .val (.int p2), .val (.int p3), .val (.int p4), .val (.int (p1 - p3))] [(.int (1 : Int32))])) (fun _ k => XS.iconst X0.here hx rfl (hb hby d3_23) k) ?_
      refine run_fwd (T' := s₁) (g' := (mkF m 28 #[.val (.ref a0), .val (.int p1), .val (.int p2), .val (.int p3), .val (.int p4), .val (.int (p1 - p3))] [(.int (1 : Int32))])) (fun _ k => XS.goto X0.here hx rfl (pc0 := 24) (pc' := 28) rfl (hb hby d3_24) (by decide) (by decide) k) ?_
      exact run_ret X0 hx Bd.returns Bd.notSynchronized rfl (Or.inl ⟨rfl, by simp, _, rfl⟩) (hb hby d3_28) (by rw [e0]; exact ⟨rfl, N0, rfl⟩) (by decide) (by decide)
theorem d1_40 : decode prog_17_method_3_code 40 = .ok (.iload 6, 2) := by decide +kernel
theorem d1_42 : decode prog_17_method_3_code 42 = .ok (.iload_n 2, 1) := by decide +kernel
theorem d1_43 : decode prog_17_method_3_code 43 = .ok (.if_icmp .lt 29, 3) := by decide +kernel
theorem d1_72 : decode prog_17_method_3_code 72 = .ok (.iload 4, 2) := by decide +kernel
theorem d1_74 : decode prog_17_method_3_code 74 = .ok (.ireturn, 1) := by decide +kernel
theorem d1_46 : decode prog_17_method_3_code 46 = .ok (.aload_n 1, 1) := by decide +kernel
theorem d1_47 : decode prog_17_method_3_code 47 = .ok (.iload 6, 2) := by decide +kernel
theorem d1_49 : decode prog_17_method_3_code 49 = .ok (.bipush 48, 2) := by decide +kernel
theorem d1_51 : decode prog_17_method_3_code 51 = .ok (.iload 5, 2) := by decide +kernel
theorem d1_53 : decode prog_17_method_3_code 53 = .ok (.bipush 10, 2) := by decide +kernel
theorem d1_55 : decode prog_17_method_3_code 55 = .ok (.irem, 1) := by decide +kernel
theorem d1_56 : decode prog_17_method_3_code 56 = .ok (.iadd, 1) := by decide +kernel
theorem d1_57 : decode prog_17_method_3_code 57 = .ok (.i2c, 1) := by decide +kernel
theorem d1_58 : decode prog_17_method_3_code 58 = .ok (.castore, 1) := by decide +kernel
theorem d1_59 : decode prog_17_method_3_code 59 = .ok (.iload 5, 2) := by decide +kernel
theorem d1_61 : decode prog_17_method_3_code 61 = .ok (.bipush 10, 2) := by decide +kernel
theorem d1_63 : decode prog_17_method_3_code 63 = .ok (.idiv, 1) := by decide +kernel
theorem d1_64 : decode prog_17_method_3_code 64 = .ok (.istore 5, 2) := by decide +kernel
theorem d1_66 : decode prog_17_method_3_code 66 = .ok (.iinc 6 (-1), 3) := by decide +kernel
theorem d1_69 : decode prog_17_method_3_code 69 = .ok (.goto (-29), 3) := by decide +kernel
theorem d1_26 : decode prog_17_method_3_code 26 = .ok (.iload_n 2, 1) := by decide +kernel
theorem d1_27 : decode prog_17_method_3_code 27 = .ok (.iload_n 3, 1) := by decide +kernel
theorem d1_28 : decode prog_17_method_3_code 28 = .ok (.iadd, 1) := by decide +kernel
theorem d1_29 : decode prog_17_method_3_code 29 = .ok (.istore 4, 2) := by decide +kernel
theorem d1_31 : decode prog_17_method_3_code 31 = .ok (.iload_n 0, 1) := by decide +kernel
theorem d1_32 : decode prog_17_method_3_code 32 = .ok (.istore 5, 2) := by decide +kernel
theorem d1_34 : decode prog_17_method_3_code 34 = .ok (.iload 4, 2) := by decide +kernel
theorem d1_36 : decode prog_17_method_3_code 36 = .ok (.iconst 1, 1) := by decide +kernel
theorem d1_37 : decode prog_17_method_3_code 37 = .ok (.isub, 1) := by decide +kernel
theorem d1_38 : decode prog_17_method_3_code 38 = .ok (.istore 6, 2) := by decide +kernel
theorem d1_8 : decode prog_17_method_3_code 8 = .ok (.iload 4, 2) := by decide +kernel
theorem d1_10 : decode prog_17_method_3_code 10 = .ok (.ifCond .le 16, 3) := by decide +kernel
theorem d1_13 : decode prog_17_method_3_code 13 = .ok (.iinc 3 1, 3) := by decide +kernel
theorem d1_16 : decode prog_17_method_3_code 16 = .ok (.iload 4, 2) := by decide +kernel
theorem d1_18 : decode prog_17_method_3_code 18 = .ok (.bipush 10, 2) := by decide +kernel
theorem d1_20 : decode prog_17_method_3_code 20 = .ok (.idiv, 1) := by decide +kernel
theorem d1_21 : decode prog_17_method_3_code 21 = .ok (.istore 4, 2) := by decide +kernel
theorem d1_23 : decode prog_17_method_3_code 23 = .ok (.goto (-15), 3) := by decide +kernel
theorem d1_0 : decode prog_17_method_3_code 0 = .ok (.iconst 1, 1) := by decide +kernel
theorem d1_1 : decode prog_17_method_3_code 1 = .ok (.istore_n 3, 1) := by decide +kernel
theorem d1_2 : decode prog_17_method_3_code 2 = .ok (.iload_n 0, 1) := by decide +kernel
theorem d1_3 : decode prog_17_method_3_code 3 = .ok (.bipush 10, 2) := by decide +kernel
theorem d1_5 : decode prog_17_method_3_code 5 = .ok (.idiv, 1) := by decide +kernel
theorem d1_6 : decode prog_17_method_3_code 6 = .ok (.istore 4, 2) := by decide +kernel
theorem pn_com_example_recurr_recurr_WholeNumber : plainName "com/example/recurr/recurr/WholeNumber" = true := by first | (simp [plainName, overriddenIn]; done) | decide +kernel
theorem ef_rm1 (m : MethodId) (x0 : Int32) (x1 : Addr) (x2 : Int32) : entryFrame m #[(.int x0), (.ref x1), (.int x2)] 7 = mkF m 0 #[.val (.int x0), .val (.ref x1), .val (.int x2), .unset, .unset, .unset, .unset] [] := by first | (simp [entryFrame, mkF, argsToLocals, Value.category]; done) | rfl
def Qrm1 (Z : State) (p0 : Int32) (a1 : Addr) (p2 : Int32) (kk : ClassId) (vs : List Value) (h0 : Heap) (n0 : Nat) (v : Option Value) (h : Heap) (L : List Loc) : Prop := v = some (.int (p2 + (own_d p0))) ∧ Fr n0 L ∧ Keep h0 h [a1] ∧ Arv Z h a1 kk .char (20 : Int32) (own_tab (own_X p0 p2 (own_D p0)) 20) (.int (0 : Int32))
set_option maxRecDepth 65536 in
set_option maxHeartbeats 40000000 in
theorem rm1 (l : Launch) (Z : State) (aV : Array Value) (hw : ∀ d ∈ tables_1, d.before aV Z = true) (ws : List Jvm.Cond) (p0 : Int32) (a1 : Addr) (p2 : Int32) (kk : ClassId) (vs : List Value) (h0 : Heap) (n0 : Nat) (O0 : Old Z n0 h0) (gi0 : n0 ≤ a1) (Vi1 : Arv Z h0 a1 kk .char (20 : Int32) vs (.int (0 : Int32))) (hz : ∀ i, vs.getD i (.int (0 : Int32)) = .int (0 : Int32)) (hn : ¬ p0 < 0) (ha : 0 ≤ p2.toInt ∧ p2.toInt < 10) :
    MetFree l (⟨"com/example/recurr/recurr/WholeNumber", "write", "(I[CI)I"⟩ : MethodName) (head1 (Jvm.Cond.code (⟨"com/example/recurr/recurr/WholeNumber", "write", "(I[CI)I"⟩ : MethodName) prog_17_method_3_code 7 (some .int) :: ws) ({ frames := 0, cells := 0, slots := 0, locals := 0 } : Room)) (fun a U => a = #[(.int p0), (.ref a1), (.int p2)] ∧ Z.Warmed39 U.vm ∧ U.heap = h0) (fun _ _ _ _ _ => True) (fun _ U o U' => ∃ v L, o = .returned v ∧ Qrm1 Z p0 a1 p2 kk vs h0 n0 v U'.heap L ∧ FrameEnd U o U' L ({ frames := 0, cells := 0, slots := 0, locals := 0 } : Room).cells ({ frames := 0, cells := 0, slots := 0, locals := 0 } : Room).slots) := by
  refine MetFree.of_bodySF (plainFor_of_name pn_com_example_recurr_recurr_WholeNumber) hisR ?_
  intro p e s m args below meth c s₁ Bd hml0 hP hK
  obtain ⟨rfl, hZ, hh⟩ := hP
  have hx := Bd.exec
  have hby := Bd.bytes
  have hml : c.maxLocals = 7 := hml0
  have hown : s.vm.findClass "com/example/recurr/recurr/WholeNumber" = some m.cls := findClass_of_methodNamed Bd.named
  have hnm := (name_of_methodNamed Bd.named Bd.method).1
  have X0 : Stand p l e ({ frames := 0, cells := 0, slots := 0, locals := 0 } : Room) s m #[(.int p0), (.ref a1), (.int p2)] below meth c s₁ [] 0 0 := Stand.of_body Bd
  have e0 : s₁.heap = h0 := by rw [← hh, Bd.state]; rfl
  have N0 := Fr.nil n0
  show Run p.tables e below (Wd s (Qrm1 Z p0 a1 p2 kk vs h0 n0) ({ frames := 0, cells := 0, slots := 0, locals := 0 } : Room).cells ({ frames := 0, cells := 0, slots := 0, locals := 0 } : Room).slots) s₁ (entryFrame m #[(.int p0), (.ref a1), (.int p2)] 7)
  rw [ef_rm1 m p0 a1 p2]
  have loop40 : ∀ (k m' : Nat) (T : State) (locs : List Loc) (h : Heap) (r i : Int32), m' + k = own_D p0 → Stand p l e ({ frames := 0, cells := 0, slots := 0, locals := 0 } : Room) s m #[(.int p0), (.ref a1), (.int p2)] below meth c T locs 0 0 → T.heap = h → Fr n0 locs → Old Z n0 h → Keep h0 h [a1] → Arv Z h a1 kk .char (20 : Int32) (own_tab (own_X p0 p2 m') 20) (.int (0 : Int32)) → r.toInt = p0.toInt / ((10 ^ m' : Nat) : Int) → i.toInt = (own_A p2 : Int) + own_D p0 - 1 - m' → Run p.tables e below (Wd s (Qrm1 Z p0 a1 p2 kk vs h0 n0) ({ frames := 0, cells := 0, slots := 0, locals := 0 } : Room).cells ({ frames := 0, cells := 0, slots := 0, locals := 0 } : Room).slots) T (mkF m 40 #[.val (.int p0), .val (.ref a1), .val (.int p2), .val (.int (own_d p0)), .val (.int (p2 + (own_d p0))), .val (.int r), .val (.int i)] []) := by
    intro k
    induction k with
    | zero =>
      intro m' T locs h r i hk X eh NN OO KK VV hr hi
      obtain rfl : m' = own_D p0 := by omega
      refine run_fwd (T' := T) (g' := (mkF m 42 #[.val (.int p0), .val (.ref a1), .val (.int p2), .val (.int (own_d p0)), .val (.int (p2 + (own_d p0))), .val (.int r), .val (.int i)] [(.int i)])) (fun _ k => XS.iload X.here hx rfl (hb hby d1_40) rfl k) ?_
      refine run_fwd (T' := T) (g' := (mkF m 43 #[.val (.int p0), .val (.ref a1), .val (.int p2), .val (.int (own_d p0)), .val (.int (p2 + (own_d p0))), .val (.int r), .val (.int i)] [(.int p2), (.int i)])) (fun _ k => XS.iloadN X.here hx rfl (hb hby d1_42) rfl k) ?_
      have hc43_1 : i < p2 := by rw [Int32.lt_iff_toInt_lt, hi]; have q : p2.toInt = own_A p2 := (by unfold own_A; omega); omega
      refine run_fwd (T' := T) (g' := (mkF m 72 #[.val (.int p0), .val (.ref a1), .val (.int p2), .val (.int (own_d p0)), .val (.int (p2 + (own_d p0))), .val (.int r), .val (.int i)] [])) (fun _ k => XS.icmpYes X.here hx rfl (pc0 := 43) (pc' := 72) rfl (hb hby d1_43) rfl (tlt hc43_1).1 (by decide) (by decide) k) ?_
      refine run_fwd (T' := T) (g' := (mkF m 74 #[.val (.int p0), .val (.ref a1), .val (.int p2), .val (.int (own_d p0)), .val (.int (p2 + (own_d p0))), .val (.int r), .val (.int i)] [(.int (p2 + (own_d p0)))])) (fun _ k => XS.iload X.here hx rfl (hb hby d1_72) rfl k) ?_
      exact run_ret X hx Bd.returns Bd.notSynchronized rfl (Or.inl ⟨rfl, by simp, _, rfl⟩) (hb hby d1_74) (by rw [eh]; exact ⟨rfl, NN, KK, VV⟩) (by decide) (by decide)
    | succ k ih =>
      intro m' T locs h r i hk X eh NN OO KK VV hr hi
      have hix := own_ix p0 p2 i m' (by omega) hn ha.1 ha.2 hi
      refine run_fwd (T' := T) (g' := (mkF m 42 #[.val (.int p0), .val (.ref a1), .val (.int p2), .val (.int (own_d p0)), .val (.int (p2 + (own_d p0))), .val (.int r), .val (.int i)] [(.int i)])) (fun _ k => XS.iload X.here hx rfl (hb hby d1_40) rfl k) ?_
      refine run_fwd (T' := T) (g' := (mkF m 43 #[.val (.int p0), .val (.ref a1), .val (.int p2), .val (.int (own_d p0)), .val (.int (p2 + (own_d p0))), .val (.int r), .val (.int i)] [(.int p2), (.int i)])) (fun _ k => XS.iloadN X.here hx rfl (hb hby d1_42) rfl k) ?_
      have hc43_2 : ¬ (i < p2) := hix.2.2.1
      refine run_fwd (T' := T) (g' := (mkF m 46 #[.val (.int p0), .val (.ref a1), .val (.int p2), .val (.int (own_d p0)), .val (.int (p2 + (own_d p0))), .val (.int r), .val (.int i)] [])) (fun _ k => XS.icmpNo X.here hx rfl (hb hby d1_43) rfl (flt hc43_2).1 k) ?_
      refine run_fwd (T' := T) (g' := (mkF m 47 #[.val (.int p0), .val (.ref a1), .val (.int p2), .val (.int (own_d p0)), .val (.int (p2 + (own_d p0))), .val (.int r), .val (.int i)] [(.ref a1)])) (fun _ k => XS.aloadN X.here hx rfl (hb hby d1_46) rfl rfl k) ?_
      refine run_fwd (T' := T) (g' := (mkF m 49 #[.val (.int p0), .val (.ref a1), .val (.int p2), .val (.int (own_d p0)), .val (.int (p2 + (own_d p0))), .val (.int r), .val (.int i)] [(.int i), (.ref a1)])) (fun _ k => XS.iload X.here hx rfl (hb hby d1_47) rfl k) ?_
      refine run_fwd (T' := T) (g' := (mkF m 51 #[.val (.int p0), .val (.ref a1), .val (.int p2), .val (.int (own_d p0)), .val (.int (p2 + (own_d p0))), .val (.int r), .val (.int i)] [(.int (48 : Int32)), (.int i), (.ref a1)])) (fun _ k => XS.bipush X.here hx rfl (hb hby d1_49) k) ?_
      refine run_fwd (T' := T) (g' := (mkF m 53 #[.val (.int p0), .val (.ref a1), .val (.int p2), .val (.int (own_d p0)), .val (.int (p2 + (own_d p0))), .val (.int r), .val (.int i)] [(.int r), (.int (48 : Int32)), (.int i), (.ref a1)])) (fun _ k => XS.iload X.here hx rfl (hb hby d1_51) rfl k) ?_
      refine run_fwd (T' := T) (g' := (mkF m 55 #[.val (.int p0), .val (.ref a1), .val (.int p2), .val (.int (own_d p0)), .val (.int (p2 + (own_d p0))), .val (.int r), .val (.int i)] [(.int (10 : Int32)), (.int r), (.int (48 : Int32)), (.int i), (.ref a1)])) (fun _ k => XS.bipush X.here hx rfl (hb hby d1_53) k) ?_
      refine run_fwd (T' := T) (g' := (mkF m 56 #[.val (.int p0), .val (.ref a1), .val (.int p2), .val (.int (own_d p0)), .val (.int (p2 + (own_d p0))), .val (.int r), .val (.int i)] [(.int (r % (10 : Int32))), (.int (48 : Int32)), (.int i), (.ref a1)])) (fun _ k => iremM X hx rfl (hb hby d1_55) rfl (by decide) k) ?_
      refine run_fwd (T' := T) (g' := (mkF m 57 #[.val (.int p0), .val (.ref a1), .val (.int p2), .val (.int (own_d p0)), .val (.int (p2 + (own_d p0))), .val (.int r), .val (.int i)] [(.int ((48 : Int32) + (r % (10 : Int32)))), (.int i), (.ref a1)])) (fun _ k => XS.iadd X.here hx rfl (hb hby d1_56) rfl k) ?_
      refine run_fwd (T' := T) (g' := (mkF m 58 #[.val (.int p0), .val (.ref a1), .val (.int p2), .val (.int (own_d p0)), .val (.int (p2 + (own_d p0))), .val (.int r), .val (.int i)] [(.int (((48 : Int32) + (r % (10 : Int32))).toUInt32.toUInt16.toUInt32.toInt32)), (.int i), (.ref a1)])) (fun _ k => XS.i2c X.here hx rfl (hb hby d1_57) rfl k) ?_
      obtain ⟨cl3, Ar3, q3, S3, M3, Hh3, G3⟩ := id (VV)
      have hin3 : ¬ (i < 0 ∨ cl3.slots.size ≤ (i).toNatClampNeg) := inb_of S3 hix.1
      obtain ⟨T3, h3, X3, e3, W3, st3⟩ := stC X hx hZ eh Ar3 (j := i) hin3 (g := (mkF m 58 #[.val (.int p0), .val (.ref a1), .val (.int p2), .val (.int (own_d p0)), .val (.int (p2 + (own_d p0))), .val (.int r), .val (.int i)] [(.int (((48 : Int32) + (r % (10 : Int32))).toUInt32.toUInt16.toUInt32.toInt32)), (.int i), (.ref a1)])) rfl rfl (hb hby d1_58)
      have O4 : Old Z n0 h3 := OO.wr W3 gi0
      have K5 : Keep h0 h3 [a1] := KK.wr W3 (Or.inl (List.mem_of_getElem? (i := 0) rfl))
      have N3 := Fr.snoc X3 NN gi0
      have V3 : Arv Z h3 a1 kk .char (20 : Int32) (own_tab (own_X p0 p2 (m' + 1)) 20) (.int (0 : Int32)) := own_turn p0 p2 r m' (by omega) hr (own_nn hn) ▸ Arv.set Ar3 q3 S3 M3 Hh3 G3 (fits_nar_char _) W3 _ hix.2.1 (by rw [own_tab_len]; exact hix.2.2.2)
      refine run_fwd (T' := T3) (g' := (mkF m 59 #[.val (.int p0), .val (.ref a1), .val (.int p2), .val (.int (own_d p0)), .val (.int (p2 + (own_d p0))), .val (.int r), .val (.int i)] [])) (fun _ k => st3 _ k) ?_
      refine run_fwd (T' := T3) (g' := (mkF m 61 #[.val (.int p0), .val (.ref a1), .val (.int p2), .val (.int (own_d p0)), .val (.int (p2 + (own_d p0))), .val (.int r), .val (.int i)] [(.int r)])) (fun _ k => XS.iload X3.here hx rfl (hb hby d1_59) rfl k) ?_
      refine run_fwd (T' := T3) (g' := (mkF m 63 #[.val (.int p0), .val (.ref a1), .val (.int p2), .val (.int (own_d p0)), .val (.int (p2 + (own_d p0))), .val (.int r), .val (.int i)] [(.int (10 : Int32)), (.int r)])) (fun _ k => XS.bipush X3.here hx rfl (hb hby d1_61) k) ?_
      refine run_fwd (T' := T3) (g' := (mkF m 64 #[.val (.int p0), .val (.ref a1), .val (.int p2), .val (.int (own_d p0)), .val (.int (p2 + (own_d p0))), .val (.int r), .val (.int i)] [(.int (r / (10 : Int32)))])) (fun _ k => XS.idiv X3.here hx rfl (hb hby d1_63) rfl (by decide) k) ?_
      refine run_fwd (T' := T3) (g' := (mkF m 66 #[.val (.int p0), .val (.ref a1), .val (.int p2), .val (.int (own_d p0)), .val (.int (p2 + (own_d p0))), .val (.int (r / (10 : Int32))), .val (.int i)] [])) (fun _ k => XS.istore X3.here hx rfl (hb hby d1_64) rfl (l' := #[.val (.int p0), .val (.ref a1), .val (.int p2), .val (.int (own_d p0)), .val (.int (p2 + (own_d p0))), .val (.int (r / (10 : Int32))), .val (.int i)]) rfl k) ?_
      refine run_fwd (T' := T3) (g' := (mkF m 69 #[.val (.int p0), .val (.ref a1), .val (.int p2), .val (.int (own_d p0)), .val (.int (p2 + (own_d p0))), .val (.int (r / (10 : Int32))), .val (.int (i + (-1 : Int32)))] [])) (fun _ k => XS.iinc X3.here hx rfl (hb hby d1_66) rfl (l' := #[.val (.int p0), .val (.ref a1), .val (.int p2), .val (.int (own_d p0)), .val (.int (p2 + (own_d p0))), .val (.int (r / (10 : Int32))), .val (.int (i + (-1 : Int32)))]) rfl k) ?_
      refine run_fwd (T' := T3) (g' := (mkF m 40 #[.val (.int p0), .val (.ref a1), .val (.int p2), .val (.int (own_d p0)), .val (.int (p2 + (own_d p0))), .val (.int (r / (10 : Int32))), .val (.int (i + (-1 : Int32)))] [])) (fun _ k => XS.goto X3.here hx rfl (pc0 := 69) (pc' := 40) rfl (hb hby d1_69) (by decide) (by decide) k) ?_
      exact ih (m' + 1) _ _ _ _ _ (by omega) X3 e3 N3 O4 K5 V3 (own_div r (own_nn hn) hr) (by have q := own_dec i _ hi (by have := (own_Dle p0 hn).1; omega); rw [q]; omega)
  have tail26 : ∀ r : Int32, Run p.tables e below (Wd s (Qrm1 Z p0 a1 p2 kk vs h0 n0) ({ frames := 0, cells := 0, slots := 0, locals := 0 } : Room).cells ({ frames := 0, cells := 0, slots := 0, locals := 0 } : Room).slots) s₁ (mkF m 26 #[.val (.int p0), .val (.ref a1), .val (.int p2), .val (.int (own_d p0)), .val (.int r), .unset, .unset] []) := by
    intro r
    refine run_fwd (T' := s₁) (g' := (mkF m 27 #[.val (.int p0), .val (.ref a1), .val (.int p2), .val (.int (own_d p0)), .val (.int r), .unset, .unset] [(.int p2)])) (fun _ k => XS.iloadN X0.here hx rfl (hb hby d1_26) rfl k) ?_
    refine run_fwd (T' := s₁) (g' := (mkF m 28 #[.val (.int p0), .val (.ref a1), .val (.int p2), .val (.int (own_d p0)), .val (.int r), .unset, .unset] [(.int (own_d p0)), (.int p2)])) (fun _ k => XS.iloadN X0.here hx rfl (hb hby d1_27) rfl k) ?_
    refine run_fwd (T' := s₁) (g' := (mkF m 29 #[.val (.int p0), .val (.ref a1), .val (.int p2), .val (.int (own_d p0)), .val (.int r), .unset, .unset] [(.int (p2 + (own_d p0)))])) (fun _ k => XS.iadd X0.here hx rfl (hb hby d1_28) rfl k) ?_
    refine run_fwd (T' := s₁) (g' := (mkF m 31 #[.val (.int p0), .val (.ref a1), .val (.int p2), .val (.int (own_d p0)), .val (.int (p2 + (own_d p0))), .unset, .unset] [])) (fun _ k => XS.istore X0.here hx rfl (hb hby d1_29) rfl (l' := #[.val (.int p0), .val (.ref a1), .val (.int p2), .val (.int (own_d p0)), .val (.int (p2 + (own_d p0))), .unset, .unset]) rfl k) ?_
    refine run_fwd (T' := s₁) (g' := (mkF m 32 #[.val (.int p0), .val (.ref a1), .val (.int p2), .val (.int (own_d p0)), .val (.int (p2 + (own_d p0))), .unset, .unset] [(.int p0)])) (fun _ k => XS.iloadN X0.here hx rfl (hb hby d1_31) rfl k) ?_
    refine run_fwd (T' := s₁) (g' := (mkF m 34 #[.val (.int p0), .val (.ref a1), .val (.int p2), .val (.int (own_d p0)), .val (.int (p2 + (own_d p0))), .val (.int p0), .unset] [])) (fun _ k => XS.istore X0.here hx rfl (hb hby d1_32) rfl (l' := #[.val (.int p0), .val (.ref a1), .val (.int p2), .val (.int (own_d p0)), .val (.int (p2 + (own_d p0))), .val (.int p0), .unset]) rfl k) ?_
    refine run_fwd (T' := s₁) (g' := (mkF m 36 #[.val (.int p0), .val (.ref a1), .val (.int p2), .val (.int (own_d p0)), .val (.int (p2 + (own_d p0))), .val (.int p0), .unset] [(.int (p2 + (own_d p0)))])) (fun _ k => XS.iload X0.here hx rfl (hb hby d1_34) rfl k) ?_
    refine run_fwd (T' := s₁) (g' := (mkF m 37 #[.val (.int p0), .val (.ref a1), .val (.int p2), .val (.int (own_d p0)), .val (.int (p2 + (own_d p0))), .val (.int p0), .unset] [(.int (1 : Int32)), (.int (p2 + (own_d p0)))])) (fun _ k => XS.iconst X0.here hx rfl (hb hby d1_36) k) ?_
    refine run_fwd (T' := s₁) (g' := (mkF m 38 #[.val (.int p0), .val (.ref a1), .val (.int p2), .val (.int (own_d p0)), .val (.int (p2 + (own_d p0))), .val (.int p0), .unset] [(.int ((p2 + (own_d p0)) - (1 : Int32)))])) (fun _ k => XS.isub X0.here hx rfl (hb hby d1_37) rfl k) ?_
    refine run_fwd (T' := s₁) (g' := (mkF m 40 #[.val (.int p0), .val (.ref a1), .val (.int p2), .val (.int (own_d p0)), .val (.int (p2 + (own_d p0))), .val (.int p0), .val (.int ((p2 + (own_d p0)) - (1 : Int32)))] [])) (fun _ k => XS.istore X0.here hx rfl (hb hby d1_38) rfl (l' := #[.val (.int p0), .val (.ref a1), .val (.int p2), .val (.int (own_d p0)), .val (.int (p2 + (own_d p0))), .val (.int p0), .val (.int ((p2 + (own_d p0)) - (1 : Int32)))]) rfl k) ?_
    exact loop40 (own_D p0) 0 _ _ _ _ _ (by omega) X0 e0 N0 O0 (Keep.refl h0 [a1]) (Vi1.pad (own_pad p0 p2 vs hz)) (by simp) (own_first p0 p2 hn ha.1 ha.2)
  have loop8 : ∀ (k j : Nat) (cnt r : Int32), j + k = 9 → cnt.toInt = j + 1 → r.toInt = p0.toInt / ((10 ^ (j + 1) : Nat) : Int) → (j = 0 ∨ ((10 ^ j : Nat) : Int) ≤ p0.toInt) → Run p.tables e below (Wd s (Qrm1 Z p0 a1 p2 kk vs h0 n0) ({ frames := 0, cells := 0, slots := 0, locals := 0 } : Room).cells ({ frames := 0, cells := 0, slots := 0, locals := 0 } : Room).slots) s₁ (mkF m 8 #[.val (.int p0), .val (.ref a1), .val (.int p2), .val (.int cnt), .val (.int r), .unset, .unset] []) := by
    intro k
    induction k with
    | zero =>
      intro j cnt r hk hc hr hlo
      obtain rfl : j = 9 := by omega
      refine run_fwd (T' := s₁) (g' := (mkF m 10 #[.val (.int p0), .val (.ref a1), .val (.int p2), .val (.int cnt), .val (.int r), .unset, .unset] [(.int r)])) (fun _ k => XS.iload X0.here hx rfl (hb hby d1_8) rfl k) ?_
      have hc10_6 : ¬ ((0 : Int32) < r) := by rw [own_gt0, hr]; exact own_last p0 (own_nn hn)
      refine run_fwd (T' := s₁) (g' := (mkF m 26 #[.val (.int p0), .val (.ref a1), .val (.int p2), .val (.int cnt), .val (.int r), .unset, .unset] [])) (fun _ k => XS.ifYes X0.here hx rfl (pc0 := 10) (pc' := 26) rfl (hb hby d1_10) rfl ((if0 _ _).trans (flt hc10_6).2.2.2) (by decide) (by decide) k) ?_
      obtain rfl : cnt = own_d p0 := own_cnt p0 cnt hn 9 hc hlo (own_small (own_nn hn) (by exact own_last p0 (own_nn hn)))
      exact tail26 _
    | succ k ih =>
      intro j cnt r hk hc hr hlo
      refine run_fwd (T' := s₁) (g' := (mkF m 10 #[.val (.int p0), .val (.ref a1), .val (.int p2), .val (.int cnt), .val (.int r), .unset, .unset] [(.int r)])) (fun _ k => XS.iload X0.here hx rfl (hb hby d1_8) rfl k) ?_
      by_cases hc10_7 : (0 : Int32) < r
      ·
        refine run_fwd (T' := s₁) (g' := (mkF m 13 #[.val (.int p0), .val (.ref a1), .val (.int p2), .val (.int cnt), .val (.int r), .unset, .unset] [])) (fun _ k => XS.ifNo X0.here hx rfl (hb hby d1_10) rfl ((if0 _ _).trans (tlt hc10_7).2.2.2) k) ?_
        refine run_fwd (T' := s₁) (g' := (mkF m 16 #[.val (.int p0), .val (.ref a1), .val (.int p2), .val (.int (cnt + (1 : Int32))), .val (.int r), .unset, .unset] [])) (fun _ k => XS.iinc X0.here hx rfl (hb hby d1_13) rfl (l' := #[.val (.int p0), .val (.ref a1), .val (.int p2), .val (.int (cnt + (1 : Int32))), .val (.int r), .unset, .unset]) rfl k) ?_
        refine run_fwd (T' := s₁) (g' := (mkF m 18 #[.val (.int p0), .val (.ref a1), .val (.int p2), .val (.int (cnt + (1 : Int32))), .val (.int r), .unset, .unset] [(.int r)])) (fun _ k => XS.iload X0.here hx rfl (hb hby d1_16) rfl k) ?_
        refine run_fwd (T' := s₁) (g' := (mkF m 20 #[.val (.int p0), .val (.ref a1), .val (.int p2), .val (.int (cnt + (1 : Int32))), .val (.int r), .unset, .unset] [(.int (10 : Int32)), (.int r)])) (fun _ k => XS.bipush X0.here hx rfl (hb hby d1_18) k) ?_
        refine run_fwd (T' := s₁) (g' := (mkF m 21 #[.val (.int p0), .val (.ref a1), .val (.int p2), .val (.int (cnt + (1 : Int32))), .val (.int r), .unset, .unset] [(.int (r / (10 : Int32)))])) (fun _ k => XS.idiv X0.here hx rfl (hb hby d1_20) rfl (by decide) k) ?_
        refine run_fwd (T' := s₁) (g' := (mkF m 23 #[.val (.int p0), .val (.ref a1), .val (.int p2), .val (.int (cnt + (1 : Int32))), .val (.int (r / (10 : Int32))), .unset, .unset] [])) (fun _ k => XS.istore X0.here hx rfl (hb hby d1_21) rfl (l' := #[.val (.int p0), .val (.ref a1), .val (.int p2), .val (.int (cnt + (1 : Int32))), .val (.int (r / (10 : Int32))), .unset, .unset]) rfl k) ?_
        refine run_fwd (T' := s₁) (g' := (mkF m 8 #[.val (.int p0), .val (.ref a1), .val (.int p2), .val (.int (cnt + (1 : Int32))), .val (.int (r / (10 : Int32))), .unset, .unset] [])) (fun _ k => XS.goto X0.here hx rfl (pc0 := 23) (pc' := 8) rfl (hb hby d1_23) (by decide) (by decide) k) ?_
        exact ih (j + 1) _ _ (by omega) (own_inc cnt j hc (by omega)) (own_div r (own_nn hn) hr) (Or.inr (own_big (own_nn hn) (by rw [← hr, ← own_gt0]; exact hc10_7)))
      ·
        refine run_fwd (T' := s₁) (g' := (mkF m 26 #[.val (.int p0), .val (.ref a1), .val (.int p2), .val (.int cnt), .val (.int r), .unset, .unset] [])) (fun _ k => XS.ifYes X0.here hx rfl (pc0 := 10) (pc' := 26) rfl (hb hby d1_10) rfl ((if0 _ _).trans (flt hc10_7).2.2.2) (by decide) (by decide) k) ?_
        obtain rfl : cnt = own_d p0 := own_cnt p0 cnt hn j hc hlo (own_small (own_nn hn) (by rw [← hr, ← own_gt0]; exact hc10_7))
        exact tail26 _
  refine run_fwd (T' := s₁) (g' := (mkF m 1 #[.val (.int p0), .val (.ref a1), .val (.int p2), .unset, .unset, .unset, .unset] [(.int (1 : Int32))])) (fun _ k => XS.iconst X0.here hx rfl (hb hby d1_0) k) ?_
  refine run_fwd (T' := s₁) (g' := (mkF m 2 #[.val (.int p0), .val (.ref a1), .val (.int p2), .val (.int (1 : Int32)), .unset, .unset, .unset] [])) (fun _ k => XS.istoreN X0.here hx rfl (hb hby d1_1) rfl (l' := #[.val (.int p0), .val (.ref a1), .val (.int p2), .val (.int (1 : Int32)), .unset, .unset, .unset]) rfl k) ?_
  refine run_fwd (T' := s₁) (g' := (mkF m 3 #[.val (.int p0), .val (.ref a1), .val (.int p2), .val (.int (1 : Int32)), .unset, .unset, .unset] [(.int p0)])) (fun _ k => XS.iloadN X0.here hx rfl (hb hby d1_2) rfl k) ?_
  refine run_fwd (T' := s₁) (g' := (mkF m 5 #[.val (.int p0), .val (.ref a1), .val (.int p2), .val (.int (1 : Int32)), .unset, .unset, .unset] [(.int (10 : Int32)), (.int p0)])) (fun _ k => XS.bipush X0.here hx rfl (hb hby d1_3) k) ?_
  refine run_fwd (T' := s₁) (g' := (mkF m 6 #[.val (.int p0), .val (.ref a1), .val (.int p2), .val (.int (1 : Int32)), .unset, .unset, .unset] [(.int (p0 / (10 : Int32)))])) (fun _ k => XS.idiv X0.here hx rfl (hb hby d1_5) rfl (by decide) k) ?_
  refine run_fwd (T' := s₁) (g' := (mkF m 8 #[.val (.int p0), .val (.ref a1), .val (.int p2), .val (.int (1 : Int32)), .val (.int (p0 / (10 : Int32))), .unset, .unset] [])) (fun _ k => XS.istore X0.here hx rfl (hb hby d1_6) rfl (l' := #[.val (.int p0), .val (.ref a1), .val (.int p2), .val (.int (1 : Int32)), .val (.int (p0 / (10 : Int32))), .unset, .unset]) rfl k) ?_
  exact loop8 9 0 _ _ (by omega) (by decide) (own_div0 p0 (own_nn hn)) (Or.inl rfl)
theorem pd__28I_5bCI_29I : parseMethodDescriptor "(I[CI)I" = some ⟨[.int, (.array .char), .int], some .int⟩ := by decide +kernel
theorem pd__28_5bCIIII_29Z : parseMethodDescriptor "([CIIII)Z" = some ⟨[(.array .char), .int, .int, .int, .int], some .boolean⟩ := by decide +kernel
theorem ef_rm0 (m : MethodId) (x0 : Int32) (x1 : Int32) : entryFrame m #[(.int x0), (.int x1)] maxLocals = mkF m 0 #[.val (.int x0), .val (.int x1), .unset, .unset, .unset, .unset, .unset] [] := by first | (simp [entryFrame, mkF, argsToLocals, Value.category, maxLocals]; done) | rfl
def Qrm0 (Z : State) (p0 : Int32) (p1 : Int32) (h0 : Heap) (n0 : Nat) (v : Option Value) (h : Heap) (L : List Loc) : Prop := v = some (.int (1 : Int32)) ∧ Fr n0 L
set_option maxRecDepth 65536 in
set_option maxHeartbeats 40000000 in
theorem rm0 (l : Launch) (Z : State) (aV : Array Value) (hw : ∀ d ∈ tables_1, d.before aV Z = true) (ws : List Jvm.Cond) (p0 : Int32) (p1 : Int32) (h0 : Heap) (n0 : Nat) (O0 : Old Z n0 h0) :
    MetFree l x (head1 (Jvm.Cond.code x code maxLocals ret :: ws) room_1) (fun a U => a = #[(.int p0), (.int p1)] ∧ Z.Warmed39 U.vm ∧ U.heap = h0) (fun _ _ _ _ _ => True) (fun _ U o U' => ∃ v L, o = .returned v ∧ Qrm0 Z p0 p1 h0 n0 v U'.heap L ∧ FrameEnd U o U' L room_1.cells room_1.slots) := by
  refine MetFree.of_bodySF (plainFor_of_name pn_com_example_recurr_recurr_WholeNumberWritePinLaw) hisR ?_
  intro p e s m args below meth c s₁ Bd hml0 hP hK
  obtain ⟨rfl, hZ, hh⟩ := hP
  have hx := Bd.exec
  have hby := Bd.bytes
  have hml : c.maxLocals = 7 := hml0
  have hown : s.vm.findClass "com/example/recurr/recurr/WholeNumberWritePinLaw" = some m.cls := findClass_of_methodNamed Bd.named
  have hnm := (name_of_methodNamed Bd.named Bd.method).1
  have X0 : Stand p l e room_1 s m #[(.int p0), (.int p1)] below meth c s₁ [] 0 0 := Stand.of_body Bd
  have e0 : s₁.heap = h0 := by rw [← hh, Bd.state]; rfl
  have N0 := Fr.nil n0
  show Run p.tables e below (Wd s (Qrm0 Z p0 p1 h0 n0) room_1.cells room_1.slots) s₁ (entryFrame m #[(.int p0), (.int p1)] maxLocals)
  rw [ef_rm0 m p0 p1]
  refine run_fwd (T' := s₁) (g' := (mkF m 1 #[.val (.int p0), .val (.int p1), .unset, .unset, .unset, .unset, .unset] [(.int p0)])) (fun _ k => XS.iloadN X0.here hx rfl (hb hby at_0) rfl k) ?_
  refine run_fwd (T' := s₁) (g' := (mkF m 3 #[.val (.int p0), .val (.int p1), .unset, .unset, .unset, .unset, .unset] [(.int (2147483647 : Int32)), (.int p0)])) (fun _ k => X0.ldcInt hx hown (mvT hZ (hw _ (List.mem_of_getElem? (i := 0) rfl))) (g := (mkF m 1 #[.val (.int p0), .val (.int p1), .unset, .unset, .unset, .unset, .unset] [(.int p0)])) rfl (hb hby at_1) _ k) ?_
  refine run_fwd (T' := s₁) (g' := (mkF m 4 #[.val (.int p0), .val (.int p1), .unset, .unset, .unset, .unset, .unset] [(.int (p0 &&& (2147483647 : Int32)))])) (fun _ k => XS.iand X0.here hx rfl (hb hby at_3) rfl k) ?_
  refine run_fwd (T' := s₁) (g' := (mkF m 5 #[.val (.int p0), .val (.int p1), .val (.int (p0 &&& (2147483647 : Int32))), .unset, .unset, .unset, .unset] [])) (fun _ k => XS.istoreN X0.here hx rfl (hb hby at_4) rfl (l' := #[.val (.int p0), .val (.int p1), .val (.int (p0 &&& (2147483647 : Int32))), .unset, .unset, .unset, .unset]) rfl k) ?_
  refine run_fwd (T' := s₁) (g' := (mkF m 6 #[.val (.int p0), .val (.int p1), .val (.int (p0 &&& (2147483647 : Int32))), .unset, .unset, .unset, .unset] [(.int p1)])) (fun _ k => XS.iloadN X0.here hx rfl (hb hby at_5) rfl k) ?_
  refine run_fwd (T' := s₁) (g' := (mkF m 8 #[.val (.int p0), .val (.int p1), .val (.int (p0 &&& (2147483647 : Int32))), .unset, .unset, .unset, .unset] [(.int (2147483647 : Int32)), (.int p1)])) (fun _ k => X0.ldcInt hx hown (mvT hZ (hw _ (List.mem_of_getElem? (i := 0) rfl))) (g := (mkF m 6 #[.val (.int p0), .val (.int p1), .val (.int (p0 &&& (2147483647 : Int32))), .unset, .unset, .unset, .unset] [(.int p1)])) rfl (hb hby at_6) _ k) ?_
  refine run_fwd (T' := s₁) (g' := (mkF m 9 #[.val (.int p0), .val (.int p1), .val (.int (p0 &&& (2147483647 : Int32))), .unset, .unset, .unset, .unset] [(.int (p1 &&& (2147483647 : Int32)))])) (fun _ k => XS.iand X0.here hx rfl (hb hby at_8) rfl k) ?_
  refine run_fwd (T' := s₁) (g' := (mkF m 11 #[.val (.int p0), .val (.int p1), .val (.int (p0 &&& (2147483647 : Int32))), .unset, .unset, .unset, .unset] [(.int (10 : Int32)), (.int (p1 &&& (2147483647 : Int32)))])) (fun _ k => XS.bipush X0.here hx rfl (hb hby at_9) k) ?_
  refine run_fwd (T' := s₁) (g' := (mkF m 12 #[.val (.int p0), .val (.int p1), .val (.int (p0 &&& (2147483647 : Int32))), .unset, .unset, .unset, .unset] [(.int ((p1 &&& (2147483647 : Int32)) % (10 : Int32)))])) (fun _ k => iremM X0 hx rfl (hb hby at_11) rfl (by decide) k) ?_
  refine run_fwd (T' := s₁) (g' := (mkF m 13 #[.val (.int p0), .val (.int p1), .val (.int (p0 &&& (2147483647 : Int32))), .val (.int ((p1 &&& (2147483647 : Int32)) % (10 : Int32))), .unset, .unset, .unset] [])) (fun _ k => XS.istoreN X0.here hx rfl (hb hby at_12) rfl (l' := #[.val (.int p0), .val (.int p1), .val (.int (p0 &&& (2147483647 : Int32))), .val (.int ((p1 &&& (2147483647 : Int32)) % (10 : Int32))), .unset, .unset, .unset]) rfl k) ?_
  have tail : ∀ (n : Int32) (a : Int32) (hn : ¬ n < 0) (ha : 0 ≤ a.toInt ∧ a.toInt < 10), Run p.tables e below (Wd s (Qrm0 Z p0 p1 h0 n0) room_1.cells room_1.slots) s₁ (mkF m 13 #[.val (.int p0), .val (.int p1), .val (.int n), .val (.int a), .unset, .unset, .unset] []) := by
    intro n a hn ha
    refine run_fwd (T' := s₁) (g' := (mkF m 15 #[.val (.int p0), .val (.int p1), .val (.int n), .val (.int a), .unset, .unset, .unset] [(.int (20 : Int32))])) (fun _ k => XS.bipush X0.here hx rfl (hb hby at_13) k) ?_
    obtain ⟨T1, h1, k1, X1, e1, E1, A1, st1⟩ := newP X0 hx hZ (hw _ (List.mem_of_getElem? (i := 1) rfl)) e0 (g := (mkF m 15 #[.val (.int p0), .val (.int p1), .val (.int n), .val (.int a), .unset, .unset, .unset] [(.int (20 : Int32))])) rfl (hb hby at_15) rfl (by decide) (cap := 20) (by decide) (by decide) (by decide) (by decide)
    obtain ⟨b1, g1⟩ : ∃ z, z = h0.size := ⟨_, rfl⟩
    rw [← g1] at A1 st1
    have gg1 : n0 ≤ b1 := Nat.le_trans (own_le O0) (Nat.le_of_eq g1.symm)
    have sz1 : h0.size ≤ b1 := Nat.le_trans (Keep.refl h0 []).1 (Nat.le_of_eq g1.symm)
    have O2 : Old Z n0 h1 := O0.ext E1
    have K3 : Keep h0 h1 [] := (Keep.refl h0 []).ext E1
    have V1 : Arv Z h1 b1 k1 .char (20 : Int32) [(.int (0 : Int32)), (.int (0 : Int32)), (.int (0 : Int32)), (.int (0 : Int32)), (.int (0 : Int32)), (.int (0 : Int32)), (.int (0 : Int32)), (.int (0 : Int32)), (.int (0 : Int32)), (.int (0 : Int32)), (.int (0 : Int32)), (.int (0 : Int32)), (.int (0 : Int32)), (.int (0 : Int32)), (.int (0 : Int32)), (.int (0 : Int32)), (.int (0 : Int32)), (.int (0 : Int32)), (.int (0 : Int32)), (.int (0 : Int32))] (.int (0 : Int32)) := (Arv.new A1 (by decide)).pad (pad_rep [] (.int (0 : Int32)) 20)
    refine run_fwd (T' := T1) (g' := (mkF m 17 #[.val (.int p0), .val (.int p1), .val (.int n), .val (.int a), .unset, .unset, .unset] [(.ref b1)])) (fun _ k => st1 _ k) ?_
    refine run_fwd (T' := T1) (g' := (mkF m 19 #[.val (.int p0), .val (.int p1), .val (.int n), .val (.int a), .val (.ref b1), .unset, .unset] [])) (fun _ k => XS.astore X1.here hx rfl (hb hby at_17) rfl rfl (l' := #[.val (.int p0), .val (.int p1), .val (.int n), .val (.int a), .val (.ref b1), .unset, .unset]) rfl k) ?_
    refine run_fwd (T' := T1) (g' := (mkF m 20 #[.val (.int p0), .val (.int p1), .val (.int n), .val (.int a), .val (.ref b1), .unset, .unset] [(.int n)])) (fun _ k => XS.iloadN X1.here hx rfl (hb hby at_19) rfl k) ?_
    refine run_fwd (T' := T1) (g' := (mkF m 22 #[.val (.int p0), .val (.int p1), .val (.int n), .val (.int a), .val (.ref b1), .unset, .unset] [(.ref b1), (.int n)])) (fun _ k => XS.aload X1.here hx rfl (hb hby at_20) rfl rfl k) ?_
    refine run_fwd (T' := T1) (g' := (mkF m 23 #[.val (.int p0), .val (.int p1), .val (.int n), .val (.int a), .val (.ref b1), .unset, .unset] [(.int a), (.ref b1), (.int n)])) (fun _ k => XS.iloadN X1.here hx rfl (hb hby at_22) rfl k) ?_
    obtain ⟨_, _, ⟨T4, L4, kk4, nn4⟩, -, X4, ⟨Lc4, hQ4, l4, y4, z4⟩, st4⟩ := Jvm.LawKit.callS X1 hx (y := (⟨"com/example/recurr/recurr/WholeNumber", "write", "(I[CI)I"⟩ : MethodName)) hown (mvT hZ (hw _ (List.mem_of_getElem? (i := 2) rfl))) (mvT hZ (hw _ (List.mem_of_getElem? (i := 3) rfl))) (mvT hZ (hw _ (List.mem_of_getElem? (i := 4) rfl))) (mvT hZ (hw _ (List.mem_of_getElem? (i := 5) rfl))) (by decide) (backOf (W := 0) (rm1 l Z aV hw [] n b1 a k1 ([(.int (0 : Int32)), (.int (0 : Int32)), (.int (0 : Int32)), (.int (0 : Int32)), (.int (0 : Int32)), (.int (0 : Int32)), (.int (0 : Int32)), (.int (0 : Int32)), (.int (0 : Int32)), (.int (0 : Int32)), (.int (0 : Int32)), (.int (0 : Int32)), (.int (0 : Int32)), (.int (0 : Int32)), (.int (0 : Int32)), (.int (0 : Int32)), (.int (0 : Int32)), (.int (0 : Int32)), (.int (0 : Int32)), (.int (0 : Int32))]) h1 n0 O2 gg1 V1 (fun i => pad_rep [] (.int (0 : Int32)) 20 i) (hn) (ha)) hZ (hw _ (List.mem_of_getElem? (i := 5) rfl)) (hw _ (List.mem_of_getElem? (i := 4) rfl)) (by decide) (by decide)) (g := (mkF m 23 #[.val (.int p0), .val (.int p1), .val (.int n), .val (.int a), .val (.ref b1), .unset, .unset] [(.int a), (.ref b1), (.int n)])) rfl (by rw [hml]; rfl) (argsL := [(.int n), (.ref b1), (.int a)]) (rest := []) (lenOf pd__28I_5bCI_29I rfl) rfl (by show 2 * 0 + _ ≤ _; exact Nat.le_of_eq rfl) (hb hby at_23) (fun _ _ => ⟨rfl, e1, (by decide : 1 + 0 ≤ _), (by decide : 20 + 0 ≤ _)⟩)
    dsimp only [Pt.U, Pt.locs, Pt.cells, Pt.slots] at X4 l4 y4 z4 st4 hQ4
    subst l4 y4 z4
    obtain ⟨rfl, N4q, Q4_0, Q4_1⟩ := hQ4
    have N4 := Fr.app N0 N4q
    obtain ⟨h4, e4⟩ : ∃ z, T4.heap = z := ⟨_, rfl⟩
    rw [e4] at Q4_0 Q4_1
    have O5 : Old Z n0 h4 := O2.keep Q4_0 (allS gg1 all0)
    have K6 : Keep h0 h4 [] := K3.trans Q4_0 (allS (Or.inr sz1) all0)
    refine run_fwd (T' := T4) (g' := (mkF m 26 #[.val (.int p0), .val (.int p1), .val (.int n), .val (.int a), .val (.ref b1), .unset, .unset] [(.int (a + (own_d n)))])) (fun _ k => st4 _ k) ?_
    refine run_fwd (T' := T4) (g' := (mkF m 28 #[.val (.int p0), .val (.int p1), .val (.int n), .val (.int a), .val (.ref b1), .val (.int (a + (own_d n))), .unset] [])) (fun _ k => XS.istore X4.here hx rfl (hb hby at_26) rfl (l' := #[.val (.int p0), .val (.int p1), .val (.int n), .val (.int a), .val (.ref b1), .val (.int (a + (own_d n))), .unset]) rfl k) ?_
    refine run_fwd (T' := T4) (g' := (mkF m 29 #[.val (.int p0), .val (.int p1), .val (.int n), .val (.int a), .val (.ref b1), .val (.int (a + (own_d n))), .unset] [(.int n)])) (fun _ k => XS.iloadN X4.here hx rfl (hb hby at_28) rfl k) ?_
    obtain ⟨_, _, ⟨T7, L7, kk7, nn7⟩, -, X7, ⟨Lc7, hQ7, l7, y7, z7⟩, st7⟩ := Jvm.LawKit.callS X4 hx (y := (⟨"com/example/recurr/recurr/WholeNumberWritePinLaw", "digits", "(I)I"⟩ : MethodName)) hown (mvT hZ (hw _ (List.mem_of_getElem? (i := 6) rfl))) (mvT hZ (hw _ (List.mem_of_getElem? (i := 7) rfl))) (mvT hZ (hw _ (List.mem_of_getElem? (i := 8) rfl))) (mvT hZ (hw _ (List.mem_of_getElem? (i := 9) rfl))) (by decide) (backOf (W := 0) (rm2 l Z aV hw [] n h4 n0 O5 ) hZ (hw _ (List.mem_of_getElem? (i := 9) rfl)) (hw _ (List.mem_of_getElem? (i := 8) rfl)) (by decide) (by decide)) (g := (mkF m 29 #[.val (.int p0), .val (.int p1), .val (.int n), .val (.int a), .val (.ref b1), .val (.int (a + (own_d n))), .unset] [(.int n)])) rfl (by rw [hml]; rfl) (argsL := [(.int n)]) (rest := []) (lenOf pd__28I_29I rfl) rfl (by show 2 * 0 + _ ≤ _; exact Nat.le_of_eq rfl) (hb hby at_29) (fun _ _ => ⟨rfl, e4, (by decide : 1 + 0 ≤ _), (by decide : 20 + 0 ≤ _)⟩)
    dsimp only [Pt.U, Pt.locs, Pt.cells, Pt.slots] at X7 l7 y7 z7 st7 hQ7
    subst l7 y7 z7
    obtain ⟨rfl, N7q, Q7_0⟩ := hQ7
    have N7 := Fr.app N4 N7q
    refine run_fwd (T' := T7) (g' := (mkF m 32 #[.val (.int p0), .val (.int p1), .val (.int n), .val (.int a), .val (.ref b1), .val (.int (a + (own_d n))), .unset] [(.int (own_d n))])) (fun _ k => st7 _ k) ?_
    refine run_fwd (T' := T7) (g' := (mkF m 34 #[.val (.int p0), .val (.int p1), .val (.int n), .val (.int a), .val (.ref b1), .val (.int (a + (own_d n))), .val (.int (own_d n))] [])) (fun _ k => XS.istore X7.here hx rfl (hb hby at_32) rfl (l' := #[.val (.int p0), .val (.int p1), .val (.int n), .val (.int a), .val (.ref b1), .val (.int (a + (own_d n))), .val (.int (own_d n))]) rfl k) ?_
    refine run_fwd (T' := T7) (g' := (mkF m 36 #[.val (.int p0), .val (.int p1), .val (.int n), .val (.int a), .val (.ref b1), .val (.int (a + (own_d n))), .val (.int (own_d n))] [(.int (a + (own_d n)))])) (fun _ k => XS.iload X7.here hx rfl (hb hby at_34) rfl k) ?_
    refine run_fwd (T' := T7) (g' := (mkF m 37 #[.val (.int p0), .val (.int p1), .val (.int n), .val (.int a), .val (.ref b1), .val (.int (a + (own_d n))), .val (.int (own_d n))] [(.int a), (.int (a + (own_d n)))])) (fun _ k => XS.iloadN X7.here hx rfl (hb hby at_36) rfl k) ?_
    refine run_fwd (T' := T7) (g' := (mkF m 39 #[.val (.int p0), .val (.int p1), .val (.int n), .val (.int a), .val (.ref b1), .val (.int (a + (own_d n))), .val (.int (own_d n))] [(.int (own_d n)), (.int a), (.int (a + (own_d n)))])) (fun _ k => XS.iload X7.here hx rfl (hb hby at_37) rfl k) ?_
    refine run_fwd (T' := T7) (g' := (mkF m 40 #[.val (.int p0), .val (.int p1), .val (.int n), .val (.int a), .val (.ref b1), .val (.int (a + (own_d n))), .val (.int (own_d n))] [(.int (a + (own_d n))), (.int (a + (own_d n)))])) (fun _ k => XS.iadd X7.here hx rfl (hb hby at_39) rfl k) ?_
    have hc40_8 : (a + (own_d n)) = (a + (own_d n)) := rfl
    refine run_fwd (T' := T7) (g' := (mkF m 45 #[.val (.int p0), .val (.int p1), .val (.int n), .val (.int a), .val (.ref b1), .val (.int (a + (own_d n))), .val (.int (own_d n))] [])) (fun _ k => XS.icmpYes X7.here hx rfl (pc0 := 40) (pc' := 45) rfl (hb hby at_40) rfl (teq hc40_8).1 (by decide) (by decide) k) ?_
    refine run_fwd (T' := T7) (g' := (mkF m 47 #[.val (.int p0), .val (.int p1), .val (.int n), .val (.int a), .val (.ref b1), .val (.int (a + (own_d n))), .val (.int (own_d n))] [(.ref b1)])) (fun _ k => XS.aload X7.here hx rfl (hb hby at_45) rfl rfl k) ?_
    refine run_fwd (T' := T7) (g' := (mkF m 48 #[.val (.int p0), .val (.int p1), .val (.int n), .val (.int a), .val (.ref b1), .val (.int (a + (own_d n))), .val (.int (own_d n))] [(.int (0 : Int32)), (.ref b1)])) (fun _ k => XS.iconst X7.here hx rfl (hb hby at_47) k) ?_
    refine run_fwd (T' := T7) (g' := (mkF m 49 #[.val (.int p0), .val (.int p1), .val (.int n), .val (.int a), .val (.ref b1), .val (.int (a + (own_d n))), .val (.int (own_d n))] [(.int n), (.int (0 : Int32)), (.ref b1)])) (fun _ k => XS.iloadN X7.here hx rfl (hb hby at_48) rfl k) ?_
    refine run_fwd (T' := T7) (g' := (mkF m 50 #[.val (.int p0), .val (.int p1), .val (.int n), .val (.int a), .val (.ref b1), .val (.int (a + (own_d n))), .val (.int (own_d n))] [(.int a), (.int n), (.int (0 : Int32)), (.ref b1)])) (fun _ k => XS.iloadN X7.here hx rfl (hb hby at_49) rfl k) ?_
    refine run_fwd (T' := T7) (g' := (mkF m 52 #[.val (.int p0), .val (.int p1), .val (.int n), .val (.int a), .val (.ref b1), .val (.int (a + (own_d n))), .val (.int (own_d n))] [(.int (own_d n)), (.int a), (.int n), (.int (0 : Int32)), (.ref b1)])) (fun _ k => XS.iload X7.here hx rfl (hb hby at_50) rfl k) ?_
    obtain ⟨_, _, ⟨T9, L9, kk9, nn9⟩, -, X9, ⟨Lc9, hQ9, l9, y9, z9⟩, st9⟩ := Jvm.LawKit.callS X7 hx (y := (⟨"com/example/recurr/recurr/WholeNumberWritePinLaw", "ok", "([CIIII)Z"⟩ : MethodName)) hown (mvT hZ (hw _ (List.mem_of_getElem? (i := 10) rfl))) (mvT hZ (hw _ (List.mem_of_getElem? (i := 11) rfl))) (mvT hZ (hw _ (List.mem_of_getElem? (i := 8) rfl))) (mvT hZ (hw _ (List.mem_of_getElem? (i := 12) rfl))) (by decide) (backOf (W := 0) (rm3 l Z aV hw [] b1 (0 : Int32) n a (own_d n) k1 (own_tab (own_X n a (own_D n)) 20) (own_X n a (own_D n) 0) h4 n0 O5 Q4_1 (⟨by decide, by decide⟩) (own_tab_get _ 20 0 (by decide) _) (own_in n a _ 0 (by decide) (by decide) hn ha.1 ha.2) (own_out n a _ 0 (by decide) (by decide) hn ha.1 ha.2)) hZ (hw _ (List.mem_of_getElem? (i := 12) rfl)) (hw _ (List.mem_of_getElem? (i := 8) rfl)) (by decide) (by decide)) (g := (mkF m 52 #[.val (.int p0), .val (.int p1), .val (.int n), .val (.int a), .val (.ref b1), .val (.int (a + (own_d n))), .val (.int (own_d n))] [(.int (own_d n)), (.int a), (.int n), (.int (0 : Int32)), (.ref b1)])) rfl (by rw [hml]; rfl) (argsL := [(.ref b1), (.int (0 : Int32)), (.int n), (.int a), (.int (own_d n))]) (rest := []) (lenOf pd__28_5bCIIII_29Z rfl) rfl (by show 2 * 0 + _ ≤ _; exact Nat.le_of_eq rfl) (hb hby at_52) (fun _ _ => ⟨rfl, Q7_0, (by decide : 1 + 0 ≤ _), (by decide : 20 + 0 ≤ _)⟩)
    dsimp only [Pt.U, Pt.locs, Pt.cells, Pt.slots] at X9 l9 y9 z9 st9 hQ9
    subst l9 y9 z9
    obtain ⟨rfl, N9q, Q9_0⟩ := hQ9
    have N9 := Fr.app N7 N9q
    refine run_fwd (T' := T9) (g' := (mkF m 55 #[.val (.int p0), .val (.int p1), .val (.int n), .val (.int a), .val (.ref b1), .val (.int (a + (own_d n))), .val (.int (own_d n))] [(.int (1 : Int32))])) (fun _ k => st9 _ k) ?_
    have hc55_10 : ¬ ((1 : Int32) = (0 : Int32)) := (by decide)
    refine run_fwd (T' := T9) (g' := (mkF m 58 #[.val (.int p0), .val (.int p1), .val (.int n), .val (.int a), .val (.ref b1), .val (.int (a + (own_d n))), .val (.int (own_d n))] [])) (fun _ k => XS.ifNo X9.here hx rfl (hb hby at_55) rfl ((if0 _ _).trans (feq hc55_10).1) k) ?_
    refine run_fwd (T' := T9) (g' := (mkF m 60 #[.val (.int p0), .val (.int p1), .val (.int n), .val (.int a), .val (.ref b1), .val (.int (a + (own_d n))), .val (.int (own_d n))] [(.ref b1)])) (fun _ k => XS.aload X9.here hx rfl (hb hby at_58) rfl rfl k) ?_
    refine run_fwd (T' := T9) (g' := (mkF m 61 #[.val (.int p0), .val (.int p1), .val (.int n), .val (.int a), .val (.ref b1), .val (.int (a + (own_d n))), .val (.int (own_d n))] [(.int (1 : Int32)), (.ref b1)])) (fun _ k => XS.iconst X9.here hx rfl (hb hby at_60) k) ?_
    refine run_fwd (T' := T9) (g' := (mkF m 62 #[.val (.int p0), .val (.int p1), .val (.int n), .val (.int a), .val (.ref b1), .val (.int (a + (own_d n))), .val (.int (own_d n))] [(.int n), (.int (1 : Int32)), (.ref b1)])) (fun _ k => XS.iloadN X9.here hx rfl (hb hby at_61) rfl k) ?_
    refine run_fwd (T' := T9) (g' := (mkF m 63 #[.val (.int p0), .val (.int p1), .val (.int n), .val (.int a), .val (.ref b1), .val (.int (a + (own_d n))), .val (.int (own_d n))] [(.int a), (.int n), (.int (1 : Int32)), (.ref b1)])) (fun _ k => XS.iloadN X9.here hx rfl (hb hby at_62) rfl k) ?_
    refine run_fwd (T' := T9) (g' := (mkF m 65 #[.val (.int p0), .val (.int p1), .val (.int n), .val (.int a), .val (.ref b1), .val (.int (a + (own_d n))), .val (.int (own_d n))] [(.int (own_d n)), (.int a), (.int n), (.int (1 : Int32)), (.ref b1)])) (fun _ k => XS.iload X9.here hx rfl (hb hby at_63) rfl k) ?_
    obtain ⟨_, _, ⟨T11, L11, kk11, nn11⟩, -, X11, ⟨Lc11, hQ11, l11, y11, z11⟩, st11⟩ := Jvm.LawKit.callS X9 hx (y := (⟨"com/example/recurr/recurr/WholeNumberWritePinLaw", "ok", "([CIIII)Z"⟩ : MethodName)) hown (mvT hZ (hw _ (List.mem_of_getElem? (i := 10) rfl))) (mvT hZ (hw _ (List.mem_of_getElem? (i := 11) rfl))) (mvT hZ (hw _ (List.mem_of_getElem? (i := 8) rfl))) (mvT hZ (hw _ (List.mem_of_getElem? (i := 12) rfl))) (by decide) (backOf (W := 0) (rm3 l Z aV hw [] b1 (1 : Int32) n a (own_d n) k1 (own_tab (own_X n a (own_D n)) 20) (own_X n a (own_D n) 1) h4 n0 O5 Q4_1 (⟨by decide, by decide⟩) (own_tab_get _ 20 1 (by decide) _) (own_in n a _ 1 (by decide) (by decide) hn ha.1 ha.2) (own_out n a _ 1 (by decide) (by decide) hn ha.1 ha.2)) hZ (hw _ (List.mem_of_getElem? (i := 12) rfl)) (hw _ (List.mem_of_getElem? (i := 8) rfl)) (by decide) (by decide)) (g := (mkF m 65 #[.val (.int p0), .val (.int p1), .val (.int n), .val (.int a), .val (.ref b1), .val (.int (a + (own_d n))), .val (.int (own_d n))] [(.int (own_d n)), (.int a), (.int n), (.int (1 : Int32)), (.ref b1)])) rfl (by rw [hml]; rfl) (argsL := [(.ref b1), (.int (1 : Int32)), (.int n), (.int a), (.int (own_d n))]) (rest := []) (lenOf pd__28_5bCIIII_29Z rfl) rfl (by show 2 * 0 + _ ≤ _; exact Nat.le_of_eq rfl) (hb hby at_65) (fun _ _ => ⟨rfl, Q9_0, (by decide : 1 + 0 ≤ _), (by decide : 20 + 0 ≤ _)⟩)
    dsimp only [Pt.U, Pt.locs, Pt.cells, Pt.slots] at X11 l11 y11 z11 st11 hQ11
    subst l11 y11 z11
    obtain ⟨rfl, N11q, Q11_0⟩ := hQ11
    have N11 := Fr.app N9 N11q
    refine run_fwd (T' := T11) (g' := (mkF m 68 #[.val (.int p0), .val (.int p1), .val (.int n), .val (.int a), .val (.ref b1), .val (.int (a + (own_d n))), .val (.int (own_d n))] [(.int (1 : Int32))])) (fun _ k => st11 _ k) ?_
    have hc68_12 : ¬ ((1 : Int32) = (0 : Int32)) := (by decide)
    refine run_fwd (T' := T11) (g' := (mkF m 71 #[.val (.int p0), .val (.int p1), .val (.int n), .val (.int a), .val (.ref b1), .val (.int (a + (own_d n))), .val (.int (own_d n))] [])) (fun _ k => XS.ifNo X11.here hx rfl (hb hby at_68) rfl ((if0 _ _).trans (feq hc68_12).1) k) ?_
    refine run_fwd (T' := T11) (g' := (mkF m 73 #[.val (.int p0), .val (.int p1), .val (.int n), .val (.int a), .val (.ref b1), .val (.int (a + (own_d n))), .val (.int (own_d n))] [(.ref b1)])) (fun _ k => XS.aload X11.here hx rfl (hb hby at_71) rfl rfl k) ?_
    refine run_fwd (T' := T11) (g' := (mkF m 74 #[.val (.int p0), .val (.int p1), .val (.int n), .val (.int a), .val (.ref b1), .val (.int (a + (own_d n))), .val (.int (own_d n))] [(.int (2 : Int32)), (.ref b1)])) (fun _ k => XS.iconst X11.here hx rfl (hb hby at_73) k) ?_
    refine run_fwd (T' := T11) (g' := (mkF m 75 #[.val (.int p0), .val (.int p1), .val (.int n), .val (.int a), .val (.ref b1), .val (.int (a + (own_d n))), .val (.int (own_d n))] [(.int n), (.int (2 : Int32)), (.ref b1)])) (fun _ k => XS.iloadN X11.here hx rfl (hb hby at_74) rfl k) ?_
    refine run_fwd (T' := T11) (g' := (mkF m 76 #[.val (.int p0), .val (.int p1), .val (.int n), .val (.int a), .val (.ref b1), .val (.int (a + (own_d n))), .val (.int (own_d n))] [(.int a), (.int n), (.int (2 : Int32)), (.ref b1)])) (fun _ k => XS.iloadN X11.here hx rfl (hb hby at_75) rfl k) ?_
    refine run_fwd (T' := T11) (g' := (mkF m 78 #[.val (.int p0), .val (.int p1), .val (.int n), .val (.int a), .val (.ref b1), .val (.int (a + (own_d n))), .val (.int (own_d n))] [(.int (own_d n)), (.int a), (.int n), (.int (2 : Int32)), (.ref b1)])) (fun _ k => XS.iload X11.here hx rfl (hb hby at_76) rfl k) ?_
    obtain ⟨_, _, ⟨T13, L13, kk13, nn13⟩, -, X13, ⟨Lc13, hQ13, l13, y13, z13⟩, st13⟩ := Jvm.LawKit.callS X11 hx (y := (⟨"com/example/recurr/recurr/WholeNumberWritePinLaw", "ok", "([CIIII)Z"⟩ : MethodName)) hown (mvT hZ (hw _ (List.mem_of_getElem? (i := 10) rfl))) (mvT hZ (hw _ (List.mem_of_getElem? (i := 11) rfl))) (mvT hZ (hw _ (List.mem_of_getElem? (i := 8) rfl))) (mvT hZ (hw _ (List.mem_of_getElem? (i := 12) rfl))) (by decide) (backOf (W := 0) (rm3 l Z aV hw [] b1 (2 : Int32) n a (own_d n) k1 (own_tab (own_X n a (own_D n)) 20) (own_X n a (own_D n) 2) h4 n0 O5 Q4_1 (⟨by decide, by decide⟩) (own_tab_get _ 20 2 (by decide) _) (own_in n a _ 2 (by decide) (by decide) hn ha.1 ha.2) (own_out n a _ 2 (by decide) (by decide) hn ha.1 ha.2)) hZ (hw _ (List.mem_of_getElem? (i := 12) rfl)) (hw _ (List.mem_of_getElem? (i := 8) rfl)) (by decide) (by decide)) (g := (mkF m 78 #[.val (.int p0), .val (.int p1), .val (.int n), .val (.int a), .val (.ref b1), .val (.int (a + (own_d n))), .val (.int (own_d n))] [(.int (own_d n)), (.int a), (.int n), (.int (2 : Int32)), (.ref b1)])) rfl (by rw [hml]; rfl) (argsL := [(.ref b1), (.int (2 : Int32)), (.int n), (.int a), (.int (own_d n))]) (rest := []) (lenOf pd__28_5bCIIII_29Z rfl) rfl (by show 2 * 0 + _ ≤ _; exact Nat.le_of_eq rfl) (hb hby at_78) (fun _ _ => ⟨rfl, Q11_0, (by decide : 1 + 0 ≤ _), (by decide : 20 + 0 ≤ _)⟩)
    dsimp only [Pt.U, Pt.locs, Pt.cells, Pt.slots] at X13 l13 y13 z13 st13 hQ13
    subst l13 y13 z13
    obtain ⟨rfl, N13q, Q13_0⟩ := hQ13
    have N13 := Fr.app N11 N13q
    refine run_fwd (T' := T13) (g' := (mkF m 81 #[.val (.int p0), .val (.int p1), .val (.int n), .val (.int a), .val (.ref b1), .val (.int (a + (own_d n))), .val (.int (own_d n))] [(.int (1 : Int32))])) (fun _ k => st13 _ k) ?_
    have hc81_14 : ¬ ((1 : Int32) = (0 : Int32)) := (by decide)
    refine run_fwd (T' := T13) (g' := (mkF m 84 #[.val (.int p0), .val (.int p1), .val (.int n), .val (.int a), .val (.ref b1), .val (.int (a + (own_d n))), .val (.int (own_d n))] [])) (fun _ k => XS.ifNo X13.here hx rfl (hb hby at_81) rfl ((if0 _ _).trans (feq hc81_14).1) k) ?_
    refine run_fwd (T' := T13) (g' := (mkF m 86 #[.val (.int p0), .val (.int p1), .val (.int n), .val (.int a), .val (.ref b1), .val (.int (a + (own_d n))), .val (.int (own_d n))] [(.ref b1)])) (fun _ k => XS.aload X13.here hx rfl (hb hby at_84) rfl rfl k) ?_
    refine run_fwd (T' := T13) (g' := (mkF m 87 #[.val (.int p0), .val (.int p1), .val (.int n), .val (.int a), .val (.ref b1), .val (.int (a + (own_d n))), .val (.int (own_d n))] [(.int (3 : Int32)), (.ref b1)])) (fun _ k => XS.iconst X13.here hx rfl (hb hby at_86) k) ?_
    refine run_fwd (T' := T13) (g' := (mkF m 88 #[.val (.int p0), .val (.int p1), .val (.int n), .val (.int a), .val (.ref b1), .val (.int (a + (own_d n))), .val (.int (own_d n))] [(.int n), (.int (3 : Int32)), (.ref b1)])) (fun _ k => XS.iloadN X13.here hx rfl (hb hby at_87) rfl k) ?_
    refine run_fwd (T' := T13) (g' := (mkF m 89 #[.val (.int p0), .val (.int p1), .val (.int n), .val (.int a), .val (.ref b1), .val (.int (a + (own_d n))), .val (.int (own_d n))] [(.int a), (.int n), (.int (3 : Int32)), (.ref b1)])) (fun _ k => XS.iloadN X13.here hx rfl (hb hby at_88) rfl k) ?_
    refine run_fwd (T' := T13) (g' := (mkF m 91 #[.val (.int p0), .val (.int p1), .val (.int n), .val (.int a), .val (.ref b1), .val (.int (a + (own_d n))), .val (.int (own_d n))] [(.int (own_d n)), (.int a), (.int n), (.int (3 : Int32)), (.ref b1)])) (fun _ k => XS.iload X13.here hx rfl (hb hby at_89) rfl k) ?_
    obtain ⟨_, _, ⟨T15, L15, kk15, nn15⟩, -, X15, ⟨Lc15, hQ15, l15, y15, z15⟩, st15⟩ := Jvm.LawKit.callS X13 hx (y := (⟨"com/example/recurr/recurr/WholeNumberWritePinLaw", "ok", "([CIIII)Z"⟩ : MethodName)) hown (mvT hZ (hw _ (List.mem_of_getElem? (i := 10) rfl))) (mvT hZ (hw _ (List.mem_of_getElem? (i := 11) rfl))) (mvT hZ (hw _ (List.mem_of_getElem? (i := 8) rfl))) (mvT hZ (hw _ (List.mem_of_getElem? (i := 12) rfl))) (by decide) (backOf (W := 0) (rm3 l Z aV hw [] b1 (3 : Int32) n a (own_d n) k1 (own_tab (own_X n a (own_D n)) 20) (own_X n a (own_D n) 3) h4 n0 O5 Q4_1 (⟨by decide, by decide⟩) (own_tab_get _ 20 3 (by decide) _) (own_in n a _ 3 (by decide) (by decide) hn ha.1 ha.2) (own_out n a _ 3 (by decide) (by decide) hn ha.1 ha.2)) hZ (hw _ (List.mem_of_getElem? (i := 12) rfl)) (hw _ (List.mem_of_getElem? (i := 8) rfl)) (by decide) (by decide)) (g := (mkF m 91 #[.val (.int p0), .val (.int p1), .val (.int n), .val (.int a), .val (.ref b1), .val (.int (a + (own_d n))), .val (.int (own_d n))] [(.int (own_d n)), (.int a), (.int n), (.int (3 : Int32)), (.ref b1)])) rfl (by rw [hml]; rfl) (argsL := [(.ref b1), (.int (3 : Int32)), (.int n), (.int a), (.int (own_d n))]) (rest := []) (lenOf pd__28_5bCIIII_29Z rfl) rfl (by show 2 * 0 + _ ≤ _; exact Nat.le_of_eq rfl) (hb hby at_91) (fun _ _ => ⟨rfl, Q13_0, (by decide : 1 + 0 ≤ _), (by decide : 20 + 0 ≤ _)⟩)
    dsimp only [Pt.U, Pt.locs, Pt.cells, Pt.slots] at X15 l15 y15 z15 st15 hQ15
    subst l15 y15 z15
    obtain ⟨rfl, N15q, Q15_0⟩ := hQ15
    have N15 := Fr.app N13 N15q
    refine run_fwd (T' := T15) (g' := (mkF m 94 #[.val (.int p0), .val (.int p1), .val (.int n), .val (.int a), .val (.ref b1), .val (.int (a + (own_d n))), .val (.int (own_d n))] [(.int (1 : Int32))])) (fun _ k => st15 _ k) ?_
    have hc94_16 : ¬ ((1 : Int32) = (0 : Int32)) := (by decide)
    refine run_fwd (T' := T15) (g' := (mkF m 97 #[.val (.int p0), .val (.int p1), .val (.int n), .val (.int a), .val (.ref b1), .val (.int (a + (own_d n))), .val (.int (own_d n))] [])) (fun _ k => XS.ifNo X15.here hx rfl (hb hby at_94) rfl ((if0 _ _).trans (feq hc94_16).1) k) ?_
    refine run_fwd (T' := T15) (g' := (mkF m 99 #[.val (.int p0), .val (.int p1), .val (.int n), .val (.int a), .val (.ref b1), .val (.int (a + (own_d n))), .val (.int (own_d n))] [(.ref b1)])) (fun _ k => XS.aload X15.here hx rfl (hb hby at_97) rfl rfl k) ?_
    refine run_fwd (T' := T15) (g' := (mkF m 100 #[.val (.int p0), .val (.int p1), .val (.int n), .val (.int a), .val (.ref b1), .val (.int (a + (own_d n))), .val (.int (own_d n))] [(.int (4 : Int32)), (.ref b1)])) (fun _ k => XS.iconst X15.here hx rfl (hb hby at_99) k) ?_
    refine run_fwd (T' := T15) (g' := (mkF m 101 #[.val (.int p0), .val (.int p1), .val (.int n), .val (.int a), .val (.ref b1), .val (.int (a + (own_d n))), .val (.int (own_d n))] [(.int n), (.int (4 : Int32)), (.ref b1)])) (fun _ k => XS.iloadN X15.here hx rfl (hb hby at_100) rfl k) ?_
    refine run_fwd (T' := T15) (g' := (mkF m 102 #[.val (.int p0), .val (.int p1), .val (.int n), .val (.int a), .val (.ref b1), .val (.int (a + (own_d n))), .val (.int (own_d n))] [(.int a), (.int n), (.int (4 : Int32)), (.ref b1)])) (fun _ k => XS.iloadN X15.here hx rfl (hb hby at_101) rfl k) ?_
    refine run_fwd (T' := T15) (g' := (mkF m 104 #[.val (.int p0), .val (.int p1), .val (.int n), .val (.int a), .val (.ref b1), .val (.int (a + (own_d n))), .val (.int (own_d n))] [(.int (own_d n)), (.int a), (.int n), (.int (4 : Int32)), (.ref b1)])) (fun _ k => XS.iload X15.here hx rfl (hb hby at_102) rfl k) ?_
    obtain ⟨_, _, ⟨T17, L17, kk17, nn17⟩, -, X17, ⟨Lc17, hQ17, l17, y17, z17⟩, st17⟩ := Jvm.LawKit.callS X15 hx (y := (⟨"com/example/recurr/recurr/WholeNumberWritePinLaw", "ok", "([CIIII)Z"⟩ : MethodName)) hown (mvT hZ (hw _ (List.mem_of_getElem? (i := 10) rfl))) (mvT hZ (hw _ (List.mem_of_getElem? (i := 11) rfl))) (mvT hZ (hw _ (List.mem_of_getElem? (i := 8) rfl))) (mvT hZ (hw _ (List.mem_of_getElem? (i := 12) rfl))) (by decide) (backOf (W := 0) (rm3 l Z aV hw [] b1 (4 : Int32) n a (own_d n) k1 (own_tab (own_X n a (own_D n)) 20) (own_X n a (own_D n) 4) h4 n0 O5 Q4_1 (⟨by decide, by decide⟩) (own_tab_get _ 20 4 (by decide) _) (own_in n a _ 4 (by decide) (by decide) hn ha.1 ha.2) (own_out n a _ 4 (by decide) (by decide) hn ha.1 ha.2)) hZ (hw _ (List.mem_of_getElem? (i := 12) rfl)) (hw _ (List.mem_of_getElem? (i := 8) rfl)) (by decide) (by decide)) (g := (mkF m 104 #[.val (.int p0), .val (.int p1), .val (.int n), .val (.int a), .val (.ref b1), .val (.int (a + (own_d n))), .val (.int (own_d n))] [(.int (own_d n)), (.int a), (.int n), (.int (4 : Int32)), (.ref b1)])) rfl (by rw [hml]; rfl) (argsL := [(.ref b1), (.int (4 : Int32)), (.int n), (.int a), (.int (own_d n))]) (rest := []) (lenOf pd__28_5bCIIII_29Z rfl) rfl (by show 2 * 0 + _ ≤ _; exact Nat.le_of_eq rfl) (hb hby at_104) (fun _ _ => ⟨rfl, Q15_0, (by decide : 1 + 0 ≤ _), (by decide : 20 + 0 ≤ _)⟩)
    dsimp only [Pt.U, Pt.locs, Pt.cells, Pt.slots] at X17 l17 y17 z17 st17 hQ17
    subst l17 y17 z17
    obtain ⟨rfl, N17q, Q17_0⟩ := hQ17
    have N17 := Fr.app N15 N17q
    refine run_fwd (T' := T17) (g' := (mkF m 107 #[.val (.int p0), .val (.int p1), .val (.int n), .val (.int a), .val (.ref b1), .val (.int (a + (own_d n))), .val (.int (own_d n))] [(.int (1 : Int32))])) (fun _ k => st17 _ k) ?_
    have hc107_18 : ¬ ((1 : Int32) = (0 : Int32)) := (by decide)
    refine run_fwd (T' := T17) (g' := (mkF m 110 #[.val (.int p0), .val (.int p1), .val (.int n), .val (.int a), .val (.ref b1), .val (.int (a + (own_d n))), .val (.int (own_d n))] [])) (fun _ k => XS.ifNo X17.here hx rfl (hb hby at_107) rfl ((if0 _ _).trans (feq hc107_18).1) k) ?_
    refine run_fwd (T' := T17) (g' := (mkF m 112 #[.val (.int p0), .val (.int p1), .val (.int n), .val (.int a), .val (.ref b1), .val (.int (a + (own_d n))), .val (.int (own_d n))] [(.ref b1)])) (fun _ k => XS.aload X17.here hx rfl (hb hby at_110) rfl rfl k) ?_
    refine run_fwd (T' := T17) (g' := (mkF m 113 #[.val (.int p0), .val (.int p1), .val (.int n), .val (.int a), .val (.ref b1), .val (.int (a + (own_d n))), .val (.int (own_d n))] [(.int (5 : Int32)), (.ref b1)])) (fun _ k => XS.iconst X17.here hx rfl (hb hby at_112) k) ?_
    refine run_fwd (T' := T17) (g' := (mkF m 114 #[.val (.int p0), .val (.int p1), .val (.int n), .val (.int a), .val (.ref b1), .val (.int (a + (own_d n))), .val (.int (own_d n))] [(.int n), (.int (5 : Int32)), (.ref b1)])) (fun _ k => XS.iloadN X17.here hx rfl (hb hby at_113) rfl k) ?_
    refine run_fwd (T' := T17) (g' := (mkF m 115 #[.val (.int p0), .val (.int p1), .val (.int n), .val (.int a), .val (.ref b1), .val (.int (a + (own_d n))), .val (.int (own_d n))] [(.int a), (.int n), (.int (5 : Int32)), (.ref b1)])) (fun _ k => XS.iloadN X17.here hx rfl (hb hby at_114) rfl k) ?_
    refine run_fwd (T' := T17) (g' := (mkF m 117 #[.val (.int p0), .val (.int p1), .val (.int n), .val (.int a), .val (.ref b1), .val (.int (a + (own_d n))), .val (.int (own_d n))] [(.int (own_d n)), (.int a), (.int n), (.int (5 : Int32)), (.ref b1)])) (fun _ k => XS.iload X17.here hx rfl (hb hby at_115) rfl k) ?_
    obtain ⟨_, _, ⟨T19, L19, kk19, nn19⟩, -, X19, ⟨Lc19, hQ19, l19, y19, z19⟩, st19⟩ := Jvm.LawKit.callS X17 hx (y := (⟨"com/example/recurr/recurr/WholeNumberWritePinLaw", "ok", "([CIIII)Z"⟩ : MethodName)) hown (mvT hZ (hw _ (List.mem_of_getElem? (i := 10) rfl))) (mvT hZ (hw _ (List.mem_of_getElem? (i := 11) rfl))) (mvT hZ (hw _ (List.mem_of_getElem? (i := 8) rfl))) (mvT hZ (hw _ (List.mem_of_getElem? (i := 12) rfl))) (by decide) (backOf (W := 0) (rm3 l Z aV hw [] b1 (5 : Int32) n a (own_d n) k1 (own_tab (own_X n a (own_D n)) 20) (own_X n a (own_D n) 5) h4 n0 O5 Q4_1 (⟨by decide, by decide⟩) (own_tab_get _ 20 5 (by decide) _) (own_in n a _ 5 (by decide) (by decide) hn ha.1 ha.2) (own_out n a _ 5 (by decide) (by decide) hn ha.1 ha.2)) hZ (hw _ (List.mem_of_getElem? (i := 12) rfl)) (hw _ (List.mem_of_getElem? (i := 8) rfl)) (by decide) (by decide)) (g := (mkF m 117 #[.val (.int p0), .val (.int p1), .val (.int n), .val (.int a), .val (.ref b1), .val (.int (a + (own_d n))), .val (.int (own_d n))] [(.int (own_d n)), (.int a), (.int n), (.int (5 : Int32)), (.ref b1)])) rfl (by rw [hml]; rfl) (argsL := [(.ref b1), (.int (5 : Int32)), (.int n), (.int a), (.int (own_d n))]) (rest := []) (lenOf pd__28_5bCIIII_29Z rfl) rfl (by show 2 * 0 + _ ≤ _; exact Nat.le_of_eq rfl) (hb hby at_117) (fun _ _ => ⟨rfl, Q17_0, (by decide : 1 + 0 ≤ _), (by decide : 20 + 0 ≤ _)⟩)
    dsimp only [Pt.U, Pt.locs, Pt.cells, Pt.slots] at X19 l19 y19 z19 st19 hQ19
    subst l19 y19 z19
    obtain ⟨rfl, N19q, Q19_0⟩ := hQ19
    have N19 := Fr.app N17 N19q
    refine run_fwd (T' := T19) (g' := (mkF m 120 #[.val (.int p0), .val (.int p1), .val (.int n), .val (.int a), .val (.ref b1), .val (.int (a + (own_d n))), .val (.int (own_d n))] [(.int (1 : Int32))])) (fun _ k => st19 _ k) ?_
    have hc120_20 : ¬ ((1 : Int32) = (0 : Int32)) := (by decide)
    refine run_fwd (T' := T19) (g' := (mkF m 123 #[.val (.int p0), .val (.int p1), .val (.int n), .val (.int a), .val (.ref b1), .val (.int (a + (own_d n))), .val (.int (own_d n))] [])) (fun _ k => XS.ifNo X19.here hx rfl (hb hby at_120) rfl ((if0 _ _).trans (feq hc120_20).1) k) ?_
    refine run_fwd (T' := T19) (g' := (mkF m 125 #[.val (.int p0), .val (.int p1), .val (.int n), .val (.int a), .val (.ref b1), .val (.int (a + (own_d n))), .val (.int (own_d n))] [(.ref b1)])) (fun _ k => XS.aload X19.here hx rfl (hb hby at_123) rfl rfl k) ?_
    refine run_fwd (T' := T19) (g' := (mkF m 127 #[.val (.int p0), .val (.int p1), .val (.int n), .val (.int a), .val (.ref b1), .val (.int (a + (own_d n))), .val (.int (own_d n))] [(.int (6 : Int32)), (.ref b1)])) (fun _ k => XS.bipush X19.here hx rfl (hb hby at_125) k) ?_
    refine run_fwd (T' := T19) (g' := (mkF m 128 #[.val (.int p0), .val (.int p1), .val (.int n), .val (.int a), .val (.ref b1), .val (.int (a + (own_d n))), .val (.int (own_d n))] [(.int n), (.int (6 : Int32)), (.ref b1)])) (fun _ k => XS.iloadN X19.here hx rfl (hb hby at_127) rfl k) ?_
    refine run_fwd (T' := T19) (g' := (mkF m 129 #[.val (.int p0), .val (.int p1), .val (.int n), .val (.int a), .val (.ref b1), .val (.int (a + (own_d n))), .val (.int (own_d n))] [(.int a), (.int n), (.int (6 : Int32)), (.ref b1)])) (fun _ k => XS.iloadN X19.here hx rfl (hb hby at_128) rfl k) ?_
    refine run_fwd (T' := T19) (g' := (mkF m 131 #[.val (.int p0), .val (.int p1), .val (.int n), .val (.int a), .val (.ref b1), .val (.int (a + (own_d n))), .val (.int (own_d n))] [(.int (own_d n)), (.int a), (.int n), (.int (6 : Int32)), (.ref b1)])) (fun _ k => XS.iload X19.here hx rfl (hb hby at_129) rfl k) ?_
    obtain ⟨_, _, ⟨T21, L21, kk21, nn21⟩, -, X21, ⟨Lc21, hQ21, l21, y21, z21⟩, st21⟩ := Jvm.LawKit.callS X19 hx (y := (⟨"com/example/recurr/recurr/WholeNumberWritePinLaw", "ok", "([CIIII)Z"⟩ : MethodName)) hown (mvT hZ (hw _ (List.mem_of_getElem? (i := 10) rfl))) (mvT hZ (hw _ (List.mem_of_getElem? (i := 11) rfl))) (mvT hZ (hw _ (List.mem_of_getElem? (i := 8) rfl))) (mvT hZ (hw _ (List.mem_of_getElem? (i := 12) rfl))) (by decide) (backOf (W := 0) (rm3 l Z aV hw [] b1 (6 : Int32) n a (own_d n) k1 (own_tab (own_X n a (own_D n)) 20) (own_X n a (own_D n) 6) h4 n0 O5 Q4_1 (⟨by decide, by decide⟩) (own_tab_get _ 20 6 (by decide) _) (own_in n a _ 6 (by decide) (by decide) hn ha.1 ha.2) (own_out n a _ 6 (by decide) (by decide) hn ha.1 ha.2)) hZ (hw _ (List.mem_of_getElem? (i := 12) rfl)) (hw _ (List.mem_of_getElem? (i := 8) rfl)) (by decide) (by decide)) (g := (mkF m 131 #[.val (.int p0), .val (.int p1), .val (.int n), .val (.int a), .val (.ref b1), .val (.int (a + (own_d n))), .val (.int (own_d n))] [(.int (own_d n)), (.int a), (.int n), (.int (6 : Int32)), (.ref b1)])) rfl (by rw [hml]; rfl) (argsL := [(.ref b1), (.int (6 : Int32)), (.int n), (.int a), (.int (own_d n))]) (rest := []) (lenOf pd__28_5bCIIII_29Z rfl) rfl (by show 2 * 0 + _ ≤ _; exact Nat.le_of_eq rfl) (hb hby at_131) (fun _ _ => ⟨rfl, Q19_0, (by decide : 1 + 0 ≤ _), (by decide : 20 + 0 ≤ _)⟩)
    dsimp only [Pt.U, Pt.locs, Pt.cells, Pt.slots] at X21 l21 y21 z21 st21 hQ21
    subst l21 y21 z21
    obtain ⟨rfl, N21q, Q21_0⟩ := hQ21
    have N21 := Fr.app N19 N21q
    refine run_fwd (T' := T21) (g' := (mkF m 134 #[.val (.int p0), .val (.int p1), .val (.int n), .val (.int a), .val (.ref b1), .val (.int (a + (own_d n))), .val (.int (own_d n))] [(.int (1 : Int32))])) (fun _ k => st21 _ k) ?_
    have hc134_22 : ¬ ((1 : Int32) = (0 : Int32)) := (by decide)
    refine run_fwd (T' := T21) (g' := (mkF m 137 #[.val (.int p0), .val (.int p1), .val (.int n), .val (.int a), .val (.ref b1), .val (.int (a + (own_d n))), .val (.int (own_d n))] [])) (fun _ k => XS.ifNo X21.here hx rfl (hb hby at_134) rfl ((if0 _ _).trans (feq hc134_22).1) k) ?_
    refine run_fwd (T' := T21) (g' := (mkF m 139 #[.val (.int p0), .val (.int p1), .val (.int n), .val (.int a), .val (.ref b1), .val (.int (a + (own_d n))), .val (.int (own_d n))] [(.ref b1)])) (fun _ k => XS.aload X21.here hx rfl (hb hby at_137) rfl rfl k) ?_
    refine run_fwd (T' := T21) (g' := (mkF m 141 #[.val (.int p0), .val (.int p1), .val (.int n), .val (.int a), .val (.ref b1), .val (.int (a + (own_d n))), .val (.int (own_d n))] [(.int (7 : Int32)), (.ref b1)])) (fun _ k => XS.bipush X21.here hx rfl (hb hby at_139) k) ?_
    refine run_fwd (T' := T21) (g' := (mkF m 142 #[.val (.int p0), .val (.int p1), .val (.int n), .val (.int a), .val (.ref b1), .val (.int (a + (own_d n))), .val (.int (own_d n))] [(.int n), (.int (7 : Int32)), (.ref b1)])) (fun _ k => XS.iloadN X21.here hx rfl (hb hby at_141) rfl k) ?_
    refine run_fwd (T' := T21) (g' := (mkF m 143 #[.val (.int p0), .val (.int p1), .val (.int n), .val (.int a), .val (.ref b1), .val (.int (a + (own_d n))), .val (.int (own_d n))] [(.int a), (.int n), (.int (7 : Int32)), (.ref b1)])) (fun _ k => XS.iloadN X21.here hx rfl (hb hby at_142) rfl k) ?_
    refine run_fwd (T' := T21) (g' := (mkF m 145 #[.val (.int p0), .val (.int p1), .val (.int n), .val (.int a), .val (.ref b1), .val (.int (a + (own_d n))), .val (.int (own_d n))] [(.int (own_d n)), (.int a), (.int n), (.int (7 : Int32)), (.ref b1)])) (fun _ k => XS.iload X21.here hx rfl (hb hby at_143) rfl k) ?_
    obtain ⟨_, _, ⟨T23, L23, kk23, nn23⟩, -, X23, ⟨Lc23, hQ23, l23, y23, z23⟩, st23⟩ := Jvm.LawKit.callS X21 hx (y := (⟨"com/example/recurr/recurr/WholeNumberWritePinLaw", "ok", "([CIIII)Z"⟩ : MethodName)) hown (mvT hZ (hw _ (List.mem_of_getElem? (i := 10) rfl))) (mvT hZ (hw _ (List.mem_of_getElem? (i := 11) rfl))) (mvT hZ (hw _ (List.mem_of_getElem? (i := 8) rfl))) (mvT hZ (hw _ (List.mem_of_getElem? (i := 12) rfl))) (by decide) (backOf (W := 0) (rm3 l Z aV hw [] b1 (7 : Int32) n a (own_d n) k1 (own_tab (own_X n a (own_D n)) 20) (own_X n a (own_D n) 7) h4 n0 O5 Q4_1 (⟨by decide, by decide⟩) (own_tab_get _ 20 7 (by decide) _) (own_in n a _ 7 (by decide) (by decide) hn ha.1 ha.2) (own_out n a _ 7 (by decide) (by decide) hn ha.1 ha.2)) hZ (hw _ (List.mem_of_getElem? (i := 12) rfl)) (hw _ (List.mem_of_getElem? (i := 8) rfl)) (by decide) (by decide)) (g := (mkF m 145 #[.val (.int p0), .val (.int p1), .val (.int n), .val (.int a), .val (.ref b1), .val (.int (a + (own_d n))), .val (.int (own_d n))] [(.int (own_d n)), (.int a), (.int n), (.int (7 : Int32)), (.ref b1)])) rfl (by rw [hml]; rfl) (argsL := [(.ref b1), (.int (7 : Int32)), (.int n), (.int a), (.int (own_d n))]) (rest := []) (lenOf pd__28_5bCIIII_29Z rfl) rfl (by show 2 * 0 + _ ≤ _; exact Nat.le_of_eq rfl) (hb hby at_145) (fun _ _ => ⟨rfl, Q21_0, (by decide : 1 + 0 ≤ _), (by decide : 20 + 0 ≤ _)⟩)
    dsimp only [Pt.U, Pt.locs, Pt.cells, Pt.slots] at X23 l23 y23 z23 st23 hQ23
    subst l23 y23 z23
    obtain ⟨rfl, N23q, Q23_0⟩ := hQ23
    have N23 := Fr.app N21 N23q
    refine run_fwd (T' := T23) (g' := (mkF m 148 #[.val (.int p0), .val (.int p1), .val (.int n), .val (.int a), .val (.ref b1), .val (.int (a + (own_d n))), .val (.int (own_d n))] [(.int (1 : Int32))])) (fun _ k => st23 _ k) ?_
    have hc148_24 : ¬ ((1 : Int32) = (0 : Int32)) := (by decide)
    refine run_fwd (T' := T23) (g' := (mkF m 151 #[.val (.int p0), .val (.int p1), .val (.int n), .val (.int a), .val (.ref b1), .val (.int (a + (own_d n))), .val (.int (own_d n))] [])) (fun _ k => XS.ifNo X23.here hx rfl (hb hby at_148) rfl ((if0 _ _).trans (feq hc148_24).1) k) ?_
    refine run_fwd (T' := T23) (g' := (mkF m 153 #[.val (.int p0), .val (.int p1), .val (.int n), .val (.int a), .val (.ref b1), .val (.int (a + (own_d n))), .val (.int (own_d n))] [(.ref b1)])) (fun _ k => XS.aload X23.here hx rfl (hb hby at_151) rfl rfl k) ?_
    refine run_fwd (T' := T23) (g' := (mkF m 155 #[.val (.int p0), .val (.int p1), .val (.int n), .val (.int a), .val (.ref b1), .val (.int (a + (own_d n))), .val (.int (own_d n))] [(.int (8 : Int32)), (.ref b1)])) (fun _ k => XS.bipush X23.here hx rfl (hb hby at_153) k) ?_
    refine run_fwd (T' := T23) (g' := (mkF m 156 #[.val (.int p0), .val (.int p1), .val (.int n), .val (.int a), .val (.ref b1), .val (.int (a + (own_d n))), .val (.int (own_d n))] [(.int n), (.int (8 : Int32)), (.ref b1)])) (fun _ k => XS.iloadN X23.here hx rfl (hb hby at_155) rfl k) ?_
    refine run_fwd (T' := T23) (g' := (mkF m 157 #[.val (.int p0), .val (.int p1), .val (.int n), .val (.int a), .val (.ref b1), .val (.int (a + (own_d n))), .val (.int (own_d n))] [(.int a), (.int n), (.int (8 : Int32)), (.ref b1)])) (fun _ k => XS.iloadN X23.here hx rfl (hb hby at_156) rfl k) ?_
    refine run_fwd (T' := T23) (g' := (mkF m 159 #[.val (.int p0), .val (.int p1), .val (.int n), .val (.int a), .val (.ref b1), .val (.int (a + (own_d n))), .val (.int (own_d n))] [(.int (own_d n)), (.int a), (.int n), (.int (8 : Int32)), (.ref b1)])) (fun _ k => XS.iload X23.here hx rfl (hb hby at_157) rfl k) ?_
    obtain ⟨_, _, ⟨T25, L25, kk25, nn25⟩, -, X25, ⟨Lc25, hQ25, l25, y25, z25⟩, st25⟩ := Jvm.LawKit.callS X23 hx (y := (⟨"com/example/recurr/recurr/WholeNumberWritePinLaw", "ok", "([CIIII)Z"⟩ : MethodName)) hown (mvT hZ (hw _ (List.mem_of_getElem? (i := 10) rfl))) (mvT hZ (hw _ (List.mem_of_getElem? (i := 11) rfl))) (mvT hZ (hw _ (List.mem_of_getElem? (i := 8) rfl))) (mvT hZ (hw _ (List.mem_of_getElem? (i := 12) rfl))) (by decide) (backOf (W := 0) (rm3 l Z aV hw [] b1 (8 : Int32) n a (own_d n) k1 (own_tab (own_X n a (own_D n)) 20) (own_X n a (own_D n) 8) h4 n0 O5 Q4_1 (⟨by decide, by decide⟩) (own_tab_get _ 20 8 (by decide) _) (own_in n a _ 8 (by decide) (by decide) hn ha.1 ha.2) (own_out n a _ 8 (by decide) (by decide) hn ha.1 ha.2)) hZ (hw _ (List.mem_of_getElem? (i := 12) rfl)) (hw _ (List.mem_of_getElem? (i := 8) rfl)) (by decide) (by decide)) (g := (mkF m 159 #[.val (.int p0), .val (.int p1), .val (.int n), .val (.int a), .val (.ref b1), .val (.int (a + (own_d n))), .val (.int (own_d n))] [(.int (own_d n)), (.int a), (.int n), (.int (8 : Int32)), (.ref b1)])) rfl (by rw [hml]; rfl) (argsL := [(.ref b1), (.int (8 : Int32)), (.int n), (.int a), (.int (own_d n))]) (rest := []) (lenOf pd__28_5bCIIII_29Z rfl) rfl (by show 2 * 0 + _ ≤ _; exact Nat.le_of_eq rfl) (hb hby at_159) (fun _ _ => ⟨rfl, Q23_0, (by decide : 1 + 0 ≤ _), (by decide : 20 + 0 ≤ _)⟩)
    dsimp only [Pt.U, Pt.locs, Pt.cells, Pt.slots] at X25 l25 y25 z25 st25 hQ25
    subst l25 y25 z25
    obtain ⟨rfl, N25q, Q25_0⟩ := hQ25
    have N25 := Fr.app N23 N25q
    refine run_fwd (T' := T25) (g' := (mkF m 162 #[.val (.int p0), .val (.int p1), .val (.int n), .val (.int a), .val (.ref b1), .val (.int (a + (own_d n))), .val (.int (own_d n))] [(.int (1 : Int32))])) (fun _ k => st25 _ k) ?_
    have hc162_26 : ¬ ((1 : Int32) = (0 : Int32)) := (by decide)
    refine run_fwd (T' := T25) (g' := (mkF m 165 #[.val (.int p0), .val (.int p1), .val (.int n), .val (.int a), .val (.ref b1), .val (.int (a + (own_d n))), .val (.int (own_d n))] [])) (fun _ k => XS.ifNo X25.here hx rfl (hb hby at_162) rfl ((if0 _ _).trans (feq hc162_26).1) k) ?_
    refine run_fwd (T' := T25) (g' := (mkF m 167 #[.val (.int p0), .val (.int p1), .val (.int n), .val (.int a), .val (.ref b1), .val (.int (a + (own_d n))), .val (.int (own_d n))] [(.ref b1)])) (fun _ k => XS.aload X25.here hx rfl (hb hby at_165) rfl rfl k) ?_
    refine run_fwd (T' := T25) (g' := (mkF m 169 #[.val (.int p0), .val (.int p1), .val (.int n), .val (.int a), .val (.ref b1), .val (.int (a + (own_d n))), .val (.int (own_d n))] [(.int (9 : Int32)), (.ref b1)])) (fun _ k => XS.bipush X25.here hx rfl (hb hby at_167) k) ?_
    refine run_fwd (T' := T25) (g' := (mkF m 170 #[.val (.int p0), .val (.int p1), .val (.int n), .val (.int a), .val (.ref b1), .val (.int (a + (own_d n))), .val (.int (own_d n))] [(.int n), (.int (9 : Int32)), (.ref b1)])) (fun _ k => XS.iloadN X25.here hx rfl (hb hby at_169) rfl k) ?_
    refine run_fwd (T' := T25) (g' := (mkF m 171 #[.val (.int p0), .val (.int p1), .val (.int n), .val (.int a), .val (.ref b1), .val (.int (a + (own_d n))), .val (.int (own_d n))] [(.int a), (.int n), (.int (9 : Int32)), (.ref b1)])) (fun _ k => XS.iloadN X25.here hx rfl (hb hby at_170) rfl k) ?_
    refine run_fwd (T' := T25) (g' := (mkF m 173 #[.val (.int p0), .val (.int p1), .val (.int n), .val (.int a), .val (.ref b1), .val (.int (a + (own_d n))), .val (.int (own_d n))] [(.int (own_d n)), (.int a), (.int n), (.int (9 : Int32)), (.ref b1)])) (fun _ k => XS.iload X25.here hx rfl (hb hby at_171) rfl k) ?_
    obtain ⟨_, _, ⟨T27, L27, kk27, nn27⟩, -, X27, ⟨Lc27, hQ27, l27, y27, z27⟩, st27⟩ := Jvm.LawKit.callS X25 hx (y := (⟨"com/example/recurr/recurr/WholeNumberWritePinLaw", "ok", "([CIIII)Z"⟩ : MethodName)) hown (mvT hZ (hw _ (List.mem_of_getElem? (i := 10) rfl))) (mvT hZ (hw _ (List.mem_of_getElem? (i := 11) rfl))) (mvT hZ (hw _ (List.mem_of_getElem? (i := 8) rfl))) (mvT hZ (hw _ (List.mem_of_getElem? (i := 12) rfl))) (by decide) (backOf (W := 0) (rm3 l Z aV hw [] b1 (9 : Int32) n a (own_d n) k1 (own_tab (own_X n a (own_D n)) 20) (own_X n a (own_D n) 9) h4 n0 O5 Q4_1 (⟨by decide, by decide⟩) (own_tab_get _ 20 9 (by decide) _) (own_in n a _ 9 (by decide) (by decide) hn ha.1 ha.2) (own_out n a _ 9 (by decide) (by decide) hn ha.1 ha.2)) hZ (hw _ (List.mem_of_getElem? (i := 12) rfl)) (hw _ (List.mem_of_getElem? (i := 8) rfl)) (by decide) (by decide)) (g := (mkF m 173 #[.val (.int p0), .val (.int p1), .val (.int n), .val (.int a), .val (.ref b1), .val (.int (a + (own_d n))), .val (.int (own_d n))] [(.int (own_d n)), (.int a), (.int n), (.int (9 : Int32)), (.ref b1)])) rfl (by rw [hml]; rfl) (argsL := [(.ref b1), (.int (9 : Int32)), (.int n), (.int a), (.int (own_d n))]) (rest := []) (lenOf pd__28_5bCIIII_29Z rfl) rfl (by show 2 * 0 + _ ≤ _; exact Nat.le_of_eq rfl) (hb hby at_173) (fun _ _ => ⟨rfl, Q25_0, (by decide : 1 + 0 ≤ _), (by decide : 20 + 0 ≤ _)⟩)
    dsimp only [Pt.U, Pt.locs, Pt.cells, Pt.slots] at X27 l27 y27 z27 st27 hQ27
    subst l27 y27 z27
    obtain ⟨rfl, N27q, Q27_0⟩ := hQ27
    have N27 := Fr.app N25 N27q
    refine run_fwd (T' := T27) (g' := (mkF m 176 #[.val (.int p0), .val (.int p1), .val (.int n), .val (.int a), .val (.ref b1), .val (.int (a + (own_d n))), .val (.int (own_d n))] [(.int (1 : Int32))])) (fun _ k => st27 _ k) ?_
    have hc176_28 : ¬ ((1 : Int32) = (0 : Int32)) := (by decide)
    refine run_fwd (T' := T27) (g' := (mkF m 179 #[.val (.int p0), .val (.int p1), .val (.int n), .val (.int a), .val (.ref b1), .val (.int (a + (own_d n))), .val (.int (own_d n))] [])) (fun _ k => XS.ifNo X27.here hx rfl (hb hby at_176) rfl ((if0 _ _).trans (feq hc176_28).1) k) ?_
    refine run_fwd (T' := T27) (g' := (mkF m 181 #[.val (.int p0), .val (.int p1), .val (.int n), .val (.int a), .val (.ref b1), .val (.int (a + (own_d n))), .val (.int (own_d n))] [(.ref b1)])) (fun _ k => XS.aload X27.here hx rfl (hb hby at_179) rfl rfl k) ?_
    refine run_fwd (T' := T27) (g' := (mkF m 183 #[.val (.int p0), .val (.int p1), .val (.int n), .val (.int a), .val (.ref b1), .val (.int (a + (own_d n))), .val (.int (own_d n))] [(.int (10 : Int32)), (.ref b1)])) (fun _ k => XS.bipush X27.here hx rfl (hb hby at_181) k) ?_
    refine run_fwd (T' := T27) (g' := (mkF m 184 #[.val (.int p0), .val (.int p1), .val (.int n), .val (.int a), .val (.ref b1), .val (.int (a + (own_d n))), .val (.int (own_d n))] [(.int n), (.int (10 : Int32)), (.ref b1)])) (fun _ k => XS.iloadN X27.here hx rfl (hb hby at_183) rfl k) ?_
    refine run_fwd (T' := T27) (g' := (mkF m 185 #[.val (.int p0), .val (.int p1), .val (.int n), .val (.int a), .val (.ref b1), .val (.int (a + (own_d n))), .val (.int (own_d n))] [(.int a), (.int n), (.int (10 : Int32)), (.ref b1)])) (fun _ k => XS.iloadN X27.here hx rfl (hb hby at_184) rfl k) ?_
    refine run_fwd (T' := T27) (g' := (mkF m 187 #[.val (.int p0), .val (.int p1), .val (.int n), .val (.int a), .val (.ref b1), .val (.int (a + (own_d n))), .val (.int (own_d n))] [(.int (own_d n)), (.int a), (.int n), (.int (10 : Int32)), (.ref b1)])) (fun _ k => XS.iload X27.here hx rfl (hb hby at_185) rfl k) ?_
    obtain ⟨_, _, ⟨T29, L29, kk29, nn29⟩, -, X29, ⟨Lc29, hQ29, l29, y29, z29⟩, st29⟩ := Jvm.LawKit.callS X27 hx (y := (⟨"com/example/recurr/recurr/WholeNumberWritePinLaw", "ok", "([CIIII)Z"⟩ : MethodName)) hown (mvT hZ (hw _ (List.mem_of_getElem? (i := 10) rfl))) (mvT hZ (hw _ (List.mem_of_getElem? (i := 11) rfl))) (mvT hZ (hw _ (List.mem_of_getElem? (i := 8) rfl))) (mvT hZ (hw _ (List.mem_of_getElem? (i := 12) rfl))) (by decide) (backOf (W := 0) (rm3 l Z aV hw [] b1 (10 : Int32) n a (own_d n) k1 (own_tab (own_X n a (own_D n)) 20) (own_X n a (own_D n) 10) h4 n0 O5 Q4_1 (⟨by decide, by decide⟩) (own_tab_get _ 20 10 (by decide) _) (own_in n a _ 10 (by decide) (by decide) hn ha.1 ha.2) (own_out n a _ 10 (by decide) (by decide) hn ha.1 ha.2)) hZ (hw _ (List.mem_of_getElem? (i := 12) rfl)) (hw _ (List.mem_of_getElem? (i := 8) rfl)) (by decide) (by decide)) (g := (mkF m 187 #[.val (.int p0), .val (.int p1), .val (.int n), .val (.int a), .val (.ref b1), .val (.int (a + (own_d n))), .val (.int (own_d n))] [(.int (own_d n)), (.int a), (.int n), (.int (10 : Int32)), (.ref b1)])) rfl (by rw [hml]; rfl) (argsL := [(.ref b1), (.int (10 : Int32)), (.int n), (.int a), (.int (own_d n))]) (rest := []) (lenOf pd__28_5bCIIII_29Z rfl) rfl (by show 2 * 0 + _ ≤ _; exact Nat.le_of_eq rfl) (hb hby at_187) (fun _ _ => ⟨rfl, Q27_0, (by decide : 1 + 0 ≤ _), (by decide : 20 + 0 ≤ _)⟩)
    dsimp only [Pt.U, Pt.locs, Pt.cells, Pt.slots] at X29 l29 y29 z29 st29 hQ29
    subst l29 y29 z29
    obtain ⟨rfl, N29q, Q29_0⟩ := hQ29
    have N29 := Fr.app N27 N29q
    refine run_fwd (T' := T29) (g' := (mkF m 190 #[.val (.int p0), .val (.int p1), .val (.int n), .val (.int a), .val (.ref b1), .val (.int (a + (own_d n))), .val (.int (own_d n))] [(.int (1 : Int32))])) (fun _ k => st29 _ k) ?_
    have hc190_30 : ¬ ((1 : Int32) = (0 : Int32)) := (by decide)
    refine run_fwd (T' := T29) (g' := (mkF m 193 #[.val (.int p0), .val (.int p1), .val (.int n), .val (.int a), .val (.ref b1), .val (.int (a + (own_d n))), .val (.int (own_d n))] [])) (fun _ k => XS.ifNo X29.here hx rfl (hb hby at_190) rfl ((if0 _ _).trans (feq hc190_30).1) k) ?_
    refine run_fwd (T' := T29) (g' := (mkF m 195 #[.val (.int p0), .val (.int p1), .val (.int n), .val (.int a), .val (.ref b1), .val (.int (a + (own_d n))), .val (.int (own_d n))] [(.ref b1)])) (fun _ k => XS.aload X29.here hx rfl (hb hby at_193) rfl rfl k) ?_
    refine run_fwd (T' := T29) (g' := (mkF m 197 #[.val (.int p0), .val (.int p1), .val (.int n), .val (.int a), .val (.ref b1), .val (.int (a + (own_d n))), .val (.int (own_d n))] [(.int (11 : Int32)), (.ref b1)])) (fun _ k => XS.bipush X29.here hx rfl (hb hby at_195) k) ?_
    refine run_fwd (T' := T29) (g' := (mkF m 198 #[.val (.int p0), .val (.int p1), .val (.int n), .val (.int a), .val (.ref b1), .val (.int (a + (own_d n))), .val (.int (own_d n))] [(.int n), (.int (11 : Int32)), (.ref b1)])) (fun _ k => XS.iloadN X29.here hx rfl (hb hby at_197) rfl k) ?_
    refine run_fwd (T' := T29) (g' := (mkF m 199 #[.val (.int p0), .val (.int p1), .val (.int n), .val (.int a), .val (.ref b1), .val (.int (a + (own_d n))), .val (.int (own_d n))] [(.int a), (.int n), (.int (11 : Int32)), (.ref b1)])) (fun _ k => XS.iloadN X29.here hx rfl (hb hby at_198) rfl k) ?_
    refine run_fwd (T' := T29) (g' := (mkF m 201 #[.val (.int p0), .val (.int p1), .val (.int n), .val (.int a), .val (.ref b1), .val (.int (a + (own_d n))), .val (.int (own_d n))] [(.int (own_d n)), (.int a), (.int n), (.int (11 : Int32)), (.ref b1)])) (fun _ k => XS.iload X29.here hx rfl (hb hby at_199) rfl k) ?_
    obtain ⟨_, _, ⟨T31, L31, kk31, nn31⟩, -, X31, ⟨Lc31, hQ31, l31, y31, z31⟩, st31⟩ := Jvm.LawKit.callS X29 hx (y := (⟨"com/example/recurr/recurr/WholeNumberWritePinLaw", "ok", "([CIIII)Z"⟩ : MethodName)) hown (mvT hZ (hw _ (List.mem_of_getElem? (i := 10) rfl))) (mvT hZ (hw _ (List.mem_of_getElem? (i := 11) rfl))) (mvT hZ (hw _ (List.mem_of_getElem? (i := 8) rfl))) (mvT hZ (hw _ (List.mem_of_getElem? (i := 12) rfl))) (by decide) (backOf (W := 0) (rm3 l Z aV hw [] b1 (11 : Int32) n a (own_d n) k1 (own_tab (own_X n a (own_D n)) 20) (own_X n a (own_D n) 11) h4 n0 O5 Q4_1 (⟨by decide, by decide⟩) (own_tab_get _ 20 11 (by decide) _) (own_in n a _ 11 (by decide) (by decide) hn ha.1 ha.2) (own_out n a _ 11 (by decide) (by decide) hn ha.1 ha.2)) hZ (hw _ (List.mem_of_getElem? (i := 12) rfl)) (hw _ (List.mem_of_getElem? (i := 8) rfl)) (by decide) (by decide)) (g := (mkF m 201 #[.val (.int p0), .val (.int p1), .val (.int n), .val (.int a), .val (.ref b1), .val (.int (a + (own_d n))), .val (.int (own_d n))] [(.int (own_d n)), (.int a), (.int n), (.int (11 : Int32)), (.ref b1)])) rfl (by rw [hml]; rfl) (argsL := [(.ref b1), (.int (11 : Int32)), (.int n), (.int a), (.int (own_d n))]) (rest := []) (lenOf pd__28_5bCIIII_29Z rfl) rfl (by show 2 * 0 + _ ≤ _; exact Nat.le_of_eq rfl) (hb hby at_201) (fun _ _ => ⟨rfl, Q29_0, (by decide : 1 + 0 ≤ _), (by decide : 20 + 0 ≤ _)⟩)
    dsimp only [Pt.U, Pt.locs, Pt.cells, Pt.slots] at X31 l31 y31 z31 st31 hQ31
    subst l31 y31 z31
    obtain ⟨rfl, N31q, Q31_0⟩ := hQ31
    have N31 := Fr.app N29 N31q
    refine run_fwd (T' := T31) (g' := (mkF m 204 #[.val (.int p0), .val (.int p1), .val (.int n), .val (.int a), .val (.ref b1), .val (.int (a + (own_d n))), .val (.int (own_d n))] [(.int (1 : Int32))])) (fun _ k => st31 _ k) ?_
    have hc204_32 : ¬ ((1 : Int32) = (0 : Int32)) := (by decide)
    refine run_fwd (T' := T31) (g' := (mkF m 207 #[.val (.int p0), .val (.int p1), .val (.int n), .val (.int a), .val (.ref b1), .val (.int (a + (own_d n))), .val (.int (own_d n))] [])) (fun _ k => XS.ifNo X31.here hx rfl (hb hby at_204) rfl ((if0 _ _).trans (feq hc204_32).1) k) ?_
    refine run_fwd (T' := T31) (g' := (mkF m 209 #[.val (.int p0), .val (.int p1), .val (.int n), .val (.int a), .val (.ref b1), .val (.int (a + (own_d n))), .val (.int (own_d n))] [(.ref b1)])) (fun _ k => XS.aload X31.here hx rfl (hb hby at_207) rfl rfl k) ?_
    refine run_fwd (T' := T31) (g' := (mkF m 211 #[.val (.int p0), .val (.int p1), .val (.int n), .val (.int a), .val (.ref b1), .val (.int (a + (own_d n))), .val (.int (own_d n))] [(.int (12 : Int32)), (.ref b1)])) (fun _ k => XS.bipush X31.here hx rfl (hb hby at_209) k) ?_
    refine run_fwd (T' := T31) (g' := (mkF m 212 #[.val (.int p0), .val (.int p1), .val (.int n), .val (.int a), .val (.ref b1), .val (.int (a + (own_d n))), .val (.int (own_d n))] [(.int n), (.int (12 : Int32)), (.ref b1)])) (fun _ k => XS.iloadN X31.here hx rfl (hb hby at_211) rfl k) ?_
    refine run_fwd (T' := T31) (g' := (mkF m 213 #[.val (.int p0), .val (.int p1), .val (.int n), .val (.int a), .val (.ref b1), .val (.int (a + (own_d n))), .val (.int (own_d n))] [(.int a), (.int n), (.int (12 : Int32)), (.ref b1)])) (fun _ k => XS.iloadN X31.here hx rfl (hb hby at_212) rfl k) ?_
    refine run_fwd (T' := T31) (g' := (mkF m 215 #[.val (.int p0), .val (.int p1), .val (.int n), .val (.int a), .val (.ref b1), .val (.int (a + (own_d n))), .val (.int (own_d n))] [(.int (own_d n)), (.int a), (.int n), (.int (12 : Int32)), (.ref b1)])) (fun _ k => XS.iload X31.here hx rfl (hb hby at_213) rfl k) ?_
    obtain ⟨_, _, ⟨T33, L33, kk33, nn33⟩, -, X33, ⟨Lc33, hQ33, l33, y33, z33⟩, st33⟩ := Jvm.LawKit.callS X31 hx (y := (⟨"com/example/recurr/recurr/WholeNumberWritePinLaw", "ok", "([CIIII)Z"⟩ : MethodName)) hown (mvT hZ (hw _ (List.mem_of_getElem? (i := 10) rfl))) (mvT hZ (hw _ (List.mem_of_getElem? (i := 11) rfl))) (mvT hZ (hw _ (List.mem_of_getElem? (i := 8) rfl))) (mvT hZ (hw _ (List.mem_of_getElem? (i := 12) rfl))) (by decide) (backOf (W := 0) (rm3 l Z aV hw [] b1 (12 : Int32) n a (own_d n) k1 (own_tab (own_X n a (own_D n)) 20) (own_X n a (own_D n) 12) h4 n0 O5 Q4_1 (⟨by decide, by decide⟩) (own_tab_get _ 20 12 (by decide) _) (own_in n a _ 12 (by decide) (by decide) hn ha.1 ha.2) (own_out n a _ 12 (by decide) (by decide) hn ha.1 ha.2)) hZ (hw _ (List.mem_of_getElem? (i := 12) rfl)) (hw _ (List.mem_of_getElem? (i := 8) rfl)) (by decide) (by decide)) (g := (mkF m 215 #[.val (.int p0), .val (.int p1), .val (.int n), .val (.int a), .val (.ref b1), .val (.int (a + (own_d n))), .val (.int (own_d n))] [(.int (own_d n)), (.int a), (.int n), (.int (12 : Int32)), (.ref b1)])) rfl (by rw [hml]; rfl) (argsL := [(.ref b1), (.int (12 : Int32)), (.int n), (.int a), (.int (own_d n))]) (rest := []) (lenOf pd__28_5bCIIII_29Z rfl) rfl (by show 2 * 0 + _ ≤ _; exact Nat.le_of_eq rfl) (hb hby at_215) (fun _ _ => ⟨rfl, Q31_0, (by decide : 1 + 0 ≤ _), (by decide : 20 + 0 ≤ _)⟩)
    dsimp only [Pt.U, Pt.locs, Pt.cells, Pt.slots] at X33 l33 y33 z33 st33 hQ33
    subst l33 y33 z33
    obtain ⟨rfl, N33q, Q33_0⟩ := hQ33
    have N33 := Fr.app N31 N33q
    refine run_fwd (T' := T33) (g' := (mkF m 218 #[.val (.int p0), .val (.int p1), .val (.int n), .val (.int a), .val (.ref b1), .val (.int (a + (own_d n))), .val (.int (own_d n))] [(.int (1 : Int32))])) (fun _ k => st33 _ k) ?_
    have hc218_34 : ¬ ((1 : Int32) = (0 : Int32)) := (by decide)
    refine run_fwd (T' := T33) (g' := (mkF m 221 #[.val (.int p0), .val (.int p1), .val (.int n), .val (.int a), .val (.ref b1), .val (.int (a + (own_d n))), .val (.int (own_d n))] [])) (fun _ k => XS.ifNo X33.here hx rfl (hb hby at_218) rfl ((if0 _ _).trans (feq hc218_34).1) k) ?_
    refine run_fwd (T' := T33) (g' := (mkF m 223 #[.val (.int p0), .val (.int p1), .val (.int n), .val (.int a), .val (.ref b1), .val (.int (a + (own_d n))), .val (.int (own_d n))] [(.ref b1)])) (fun _ k => XS.aload X33.here hx rfl (hb hby at_221) rfl rfl k) ?_
    refine run_fwd (T' := T33) (g' := (mkF m 225 #[.val (.int p0), .val (.int p1), .val (.int n), .val (.int a), .val (.ref b1), .val (.int (a + (own_d n))), .val (.int (own_d n))] [(.int (13 : Int32)), (.ref b1)])) (fun _ k => XS.bipush X33.here hx rfl (hb hby at_223) k) ?_
    refine run_fwd (T' := T33) (g' := (mkF m 226 #[.val (.int p0), .val (.int p1), .val (.int n), .val (.int a), .val (.ref b1), .val (.int (a + (own_d n))), .val (.int (own_d n))] [(.int n), (.int (13 : Int32)), (.ref b1)])) (fun _ k => XS.iloadN X33.here hx rfl (hb hby at_225) rfl k) ?_
    refine run_fwd (T' := T33) (g' := (mkF m 227 #[.val (.int p0), .val (.int p1), .val (.int n), .val (.int a), .val (.ref b1), .val (.int (a + (own_d n))), .val (.int (own_d n))] [(.int a), (.int n), (.int (13 : Int32)), (.ref b1)])) (fun _ k => XS.iloadN X33.here hx rfl (hb hby at_226) rfl k) ?_
    refine run_fwd (T' := T33) (g' := (mkF m 229 #[.val (.int p0), .val (.int p1), .val (.int n), .val (.int a), .val (.ref b1), .val (.int (a + (own_d n))), .val (.int (own_d n))] [(.int (own_d n)), (.int a), (.int n), (.int (13 : Int32)), (.ref b1)])) (fun _ k => XS.iload X33.here hx rfl (hb hby at_227) rfl k) ?_
    obtain ⟨_, _, ⟨T35, L35, kk35, nn35⟩, -, X35, ⟨Lc35, hQ35, l35, y35, z35⟩, st35⟩ := Jvm.LawKit.callS X33 hx (y := (⟨"com/example/recurr/recurr/WholeNumberWritePinLaw", "ok", "([CIIII)Z"⟩ : MethodName)) hown (mvT hZ (hw _ (List.mem_of_getElem? (i := 10) rfl))) (mvT hZ (hw _ (List.mem_of_getElem? (i := 11) rfl))) (mvT hZ (hw _ (List.mem_of_getElem? (i := 8) rfl))) (mvT hZ (hw _ (List.mem_of_getElem? (i := 12) rfl))) (by decide) (backOf (W := 0) (rm3 l Z aV hw [] b1 (13 : Int32) n a (own_d n) k1 (own_tab (own_X n a (own_D n)) 20) (own_X n a (own_D n) 13) h4 n0 O5 Q4_1 (⟨by decide, by decide⟩) (own_tab_get _ 20 13 (by decide) _) (own_in n a _ 13 (by decide) (by decide) hn ha.1 ha.2) (own_out n a _ 13 (by decide) (by decide) hn ha.1 ha.2)) hZ (hw _ (List.mem_of_getElem? (i := 12) rfl)) (hw _ (List.mem_of_getElem? (i := 8) rfl)) (by decide) (by decide)) (g := (mkF m 229 #[.val (.int p0), .val (.int p1), .val (.int n), .val (.int a), .val (.ref b1), .val (.int (a + (own_d n))), .val (.int (own_d n))] [(.int (own_d n)), (.int a), (.int n), (.int (13 : Int32)), (.ref b1)])) rfl (by rw [hml]; rfl) (argsL := [(.ref b1), (.int (13 : Int32)), (.int n), (.int a), (.int (own_d n))]) (rest := []) (lenOf pd__28_5bCIIII_29Z rfl) rfl (by show 2 * 0 + _ ≤ _; exact Nat.le_of_eq rfl) (hb hby at_229) (fun _ _ => ⟨rfl, Q33_0, (by decide : 1 + 0 ≤ _), (by decide : 20 + 0 ≤ _)⟩)
    dsimp only [Pt.U, Pt.locs, Pt.cells, Pt.slots] at X35 l35 y35 z35 st35 hQ35
    subst l35 y35 z35
    obtain ⟨rfl, N35q, Q35_0⟩ := hQ35
    have N35 := Fr.app N33 N35q
    refine run_fwd (T' := T35) (g' := (mkF m 232 #[.val (.int p0), .val (.int p1), .val (.int n), .val (.int a), .val (.ref b1), .val (.int (a + (own_d n))), .val (.int (own_d n))] [(.int (1 : Int32))])) (fun _ k => st35 _ k) ?_
    have hc232_36 : ¬ ((1 : Int32) = (0 : Int32)) := (by decide)
    refine run_fwd (T' := T35) (g' := (mkF m 235 #[.val (.int p0), .val (.int p1), .val (.int n), .val (.int a), .val (.ref b1), .val (.int (a + (own_d n))), .val (.int (own_d n))] [])) (fun _ k => XS.ifNo X35.here hx rfl (hb hby at_232) rfl ((if0 _ _).trans (feq hc232_36).1) k) ?_
    refine run_fwd (T' := T35) (g' := (mkF m 237 #[.val (.int p0), .val (.int p1), .val (.int n), .val (.int a), .val (.ref b1), .val (.int (a + (own_d n))), .val (.int (own_d n))] [(.ref b1)])) (fun _ k => XS.aload X35.here hx rfl (hb hby at_235) rfl rfl k) ?_
    refine run_fwd (T' := T35) (g' := (mkF m 239 #[.val (.int p0), .val (.int p1), .val (.int n), .val (.int a), .val (.ref b1), .val (.int (a + (own_d n))), .val (.int (own_d n))] [(.int (14 : Int32)), (.ref b1)])) (fun _ k => XS.bipush X35.here hx rfl (hb hby at_237) k) ?_
    refine run_fwd (T' := T35) (g' := (mkF m 240 #[.val (.int p0), .val (.int p1), .val (.int n), .val (.int a), .val (.ref b1), .val (.int (a + (own_d n))), .val (.int (own_d n))] [(.int n), (.int (14 : Int32)), (.ref b1)])) (fun _ k => XS.iloadN X35.here hx rfl (hb hby at_239) rfl k) ?_
    refine run_fwd (T' := T35) (g' := (mkF m 241 #[.val (.int p0), .val (.int p1), .val (.int n), .val (.int a), .val (.ref b1), .val (.int (a + (own_d n))), .val (.int (own_d n))] [(.int a), (.int n), (.int (14 : Int32)), (.ref b1)])) (fun _ k => XS.iloadN X35.here hx rfl (hb hby at_240) rfl k) ?_
    refine run_fwd (T' := T35) (g' := (mkF m 243 #[.val (.int p0), .val (.int p1), .val (.int n), .val (.int a), .val (.ref b1), .val (.int (a + (own_d n))), .val (.int (own_d n))] [(.int (own_d n)), (.int a), (.int n), (.int (14 : Int32)), (.ref b1)])) (fun _ k => XS.iload X35.here hx rfl (hb hby at_241) rfl k) ?_
    obtain ⟨_, _, ⟨T37, L37, kk37, nn37⟩, -, X37, ⟨Lc37, hQ37, l37, y37, z37⟩, st37⟩ := Jvm.LawKit.callS X35 hx (y := (⟨"com/example/recurr/recurr/WholeNumberWritePinLaw", "ok", "([CIIII)Z"⟩ : MethodName)) hown (mvT hZ (hw _ (List.mem_of_getElem? (i := 10) rfl))) (mvT hZ (hw _ (List.mem_of_getElem? (i := 11) rfl))) (mvT hZ (hw _ (List.mem_of_getElem? (i := 8) rfl))) (mvT hZ (hw _ (List.mem_of_getElem? (i := 12) rfl))) (by decide) (backOf (W := 0) (rm3 l Z aV hw [] b1 (14 : Int32) n a (own_d n) k1 (own_tab (own_X n a (own_D n)) 20) (own_X n a (own_D n) 14) h4 n0 O5 Q4_1 (⟨by decide, by decide⟩) (own_tab_get _ 20 14 (by decide) _) (own_in n a _ 14 (by decide) (by decide) hn ha.1 ha.2) (own_out n a _ 14 (by decide) (by decide) hn ha.1 ha.2)) hZ (hw _ (List.mem_of_getElem? (i := 12) rfl)) (hw _ (List.mem_of_getElem? (i := 8) rfl)) (by decide) (by decide)) (g := (mkF m 243 #[.val (.int p0), .val (.int p1), .val (.int n), .val (.int a), .val (.ref b1), .val (.int (a + (own_d n))), .val (.int (own_d n))] [(.int (own_d n)), (.int a), (.int n), (.int (14 : Int32)), (.ref b1)])) rfl (by rw [hml]; rfl) (argsL := [(.ref b1), (.int (14 : Int32)), (.int n), (.int a), (.int (own_d n))]) (rest := []) (lenOf pd__28_5bCIIII_29Z rfl) rfl (by show 2 * 0 + _ ≤ _; exact Nat.le_of_eq rfl) (hb hby at_243) (fun _ _ => ⟨rfl, Q35_0, (by decide : 1 + 0 ≤ _), (by decide : 20 + 0 ≤ _)⟩)
    dsimp only [Pt.U, Pt.locs, Pt.cells, Pt.slots] at X37 l37 y37 z37 st37 hQ37
    subst l37 y37 z37
    obtain ⟨rfl, N37q, Q37_0⟩ := hQ37
    have N37 := Fr.app N35 N37q
    refine run_fwd (T' := T37) (g' := (mkF m 246 #[.val (.int p0), .val (.int p1), .val (.int n), .val (.int a), .val (.ref b1), .val (.int (a + (own_d n))), .val (.int (own_d n))] [(.int (1 : Int32))])) (fun _ k => st37 _ k) ?_
    have hc246_38 : ¬ ((1 : Int32) = (0 : Int32)) := (by decide)
    refine run_fwd (T' := T37) (g' := (mkF m 249 #[.val (.int p0), .val (.int p1), .val (.int n), .val (.int a), .val (.ref b1), .val (.int (a + (own_d n))), .val (.int (own_d n))] [])) (fun _ k => XS.ifNo X37.here hx rfl (hb hby at_246) rfl ((if0 _ _).trans (feq hc246_38).1) k) ?_
    refine run_fwd (T' := T37) (g' := (mkF m 251 #[.val (.int p0), .val (.int p1), .val (.int n), .val (.int a), .val (.ref b1), .val (.int (a + (own_d n))), .val (.int (own_d n))] [(.ref b1)])) (fun _ k => XS.aload X37.here hx rfl (hb hby at_249) rfl rfl k) ?_
    refine run_fwd (T' := T37) (g' := (mkF m 253 #[.val (.int p0), .val (.int p1), .val (.int n), .val (.int a), .val (.ref b1), .val (.int (a + (own_d n))), .val (.int (own_d n))] [(.int (15 : Int32)), (.ref b1)])) (fun _ k => XS.bipush X37.here hx rfl (hb hby at_251) k) ?_
    refine run_fwd (T' := T37) (g' := (mkF m 254 #[.val (.int p0), .val (.int p1), .val (.int n), .val (.int a), .val (.ref b1), .val (.int (a + (own_d n))), .val (.int (own_d n))] [(.int n), (.int (15 : Int32)), (.ref b1)])) (fun _ k => XS.iloadN X37.here hx rfl (hb hby at_253) rfl k) ?_
    refine run_fwd (T' := T37) (g' := (mkF m 255 #[.val (.int p0), .val (.int p1), .val (.int n), .val (.int a), .val (.ref b1), .val (.int (a + (own_d n))), .val (.int (own_d n))] [(.int a), (.int n), (.int (15 : Int32)), (.ref b1)])) (fun _ k => XS.iloadN X37.here hx rfl (hb hby at_254) rfl k) ?_
    refine run_fwd (T' := T37) (g' := (mkF m 257 #[.val (.int p0), .val (.int p1), .val (.int n), .val (.int a), .val (.ref b1), .val (.int (a + (own_d n))), .val (.int (own_d n))] [(.int (own_d n)), (.int a), (.int n), (.int (15 : Int32)), (.ref b1)])) (fun _ k => XS.iload X37.here hx rfl (hb hby at_255) rfl k) ?_
    obtain ⟨_, _, ⟨T39, L39, kk39, nn39⟩, -, X39, ⟨Lc39, hQ39, l39, y39, z39⟩, st39⟩ := Jvm.LawKit.callS X37 hx (y := (⟨"com/example/recurr/recurr/WholeNumberWritePinLaw", "ok", "([CIIII)Z"⟩ : MethodName)) hown (mvT hZ (hw _ (List.mem_of_getElem? (i := 10) rfl))) (mvT hZ (hw _ (List.mem_of_getElem? (i := 11) rfl))) (mvT hZ (hw _ (List.mem_of_getElem? (i := 8) rfl))) (mvT hZ (hw _ (List.mem_of_getElem? (i := 12) rfl))) (by decide) (backOf (W := 0) (rm3 l Z aV hw [] b1 (15 : Int32) n a (own_d n) k1 (own_tab (own_X n a (own_D n)) 20) (own_X n a (own_D n) 15) h4 n0 O5 Q4_1 (⟨by decide, by decide⟩) (own_tab_get _ 20 15 (by decide) _) (own_in n a _ 15 (by decide) (by decide) hn ha.1 ha.2) (own_out n a _ 15 (by decide) (by decide) hn ha.1 ha.2)) hZ (hw _ (List.mem_of_getElem? (i := 12) rfl)) (hw _ (List.mem_of_getElem? (i := 8) rfl)) (by decide) (by decide)) (g := (mkF m 257 #[.val (.int p0), .val (.int p1), .val (.int n), .val (.int a), .val (.ref b1), .val (.int (a + (own_d n))), .val (.int (own_d n))] [(.int (own_d n)), (.int a), (.int n), (.int (15 : Int32)), (.ref b1)])) rfl (by rw [hml]; rfl) (argsL := [(.ref b1), (.int (15 : Int32)), (.int n), (.int a), (.int (own_d n))]) (rest := []) (lenOf pd__28_5bCIIII_29Z rfl) rfl (by show 2 * 0 + _ ≤ _; exact Nat.le_of_eq rfl) (hb hby at_257) (fun _ _ => ⟨rfl, Q37_0, (by decide : 1 + 0 ≤ _), (by decide : 20 + 0 ≤ _)⟩)
    dsimp only [Pt.U, Pt.locs, Pt.cells, Pt.slots] at X39 l39 y39 z39 st39 hQ39
    subst l39 y39 z39
    obtain ⟨rfl, N39q, Q39_0⟩ := hQ39
    have N39 := Fr.app N37 N39q
    refine run_fwd (T' := T39) (g' := (mkF m 260 #[.val (.int p0), .val (.int p1), .val (.int n), .val (.int a), .val (.ref b1), .val (.int (a + (own_d n))), .val (.int (own_d n))] [(.int (1 : Int32))])) (fun _ k => st39 _ k) ?_
    have hc260_40 : ¬ ((1 : Int32) = (0 : Int32)) := (by decide)
    refine run_fwd (T' := T39) (g' := (mkF m 263 #[.val (.int p0), .val (.int p1), .val (.int n), .val (.int a), .val (.ref b1), .val (.int (a + (own_d n))), .val (.int (own_d n))] [])) (fun _ k => XS.ifNo X39.here hx rfl (hb hby at_260) rfl ((if0 _ _).trans (feq hc260_40).1) k) ?_
    refine run_fwd (T' := T39) (g' := (mkF m 265 #[.val (.int p0), .val (.int p1), .val (.int n), .val (.int a), .val (.ref b1), .val (.int (a + (own_d n))), .val (.int (own_d n))] [(.ref b1)])) (fun _ k => XS.aload X39.here hx rfl (hb hby at_263) rfl rfl k) ?_
    refine run_fwd (T' := T39) (g' := (mkF m 267 #[.val (.int p0), .val (.int p1), .val (.int n), .val (.int a), .val (.ref b1), .val (.int (a + (own_d n))), .val (.int (own_d n))] [(.int (16 : Int32)), (.ref b1)])) (fun _ k => XS.bipush X39.here hx rfl (hb hby at_265) k) ?_
    refine run_fwd (T' := T39) (g' := (mkF m 268 #[.val (.int p0), .val (.int p1), .val (.int n), .val (.int a), .val (.ref b1), .val (.int (a + (own_d n))), .val (.int (own_d n))] [(.int n), (.int (16 : Int32)), (.ref b1)])) (fun _ k => XS.iloadN X39.here hx rfl (hb hby at_267) rfl k) ?_
    refine run_fwd (T' := T39) (g' := (mkF m 269 #[.val (.int p0), .val (.int p1), .val (.int n), .val (.int a), .val (.ref b1), .val (.int (a + (own_d n))), .val (.int (own_d n))] [(.int a), (.int n), (.int (16 : Int32)), (.ref b1)])) (fun _ k => XS.iloadN X39.here hx rfl (hb hby at_268) rfl k) ?_
    refine run_fwd (T' := T39) (g' := (mkF m 271 #[.val (.int p0), .val (.int p1), .val (.int n), .val (.int a), .val (.ref b1), .val (.int (a + (own_d n))), .val (.int (own_d n))] [(.int (own_d n)), (.int a), (.int n), (.int (16 : Int32)), (.ref b1)])) (fun _ k => XS.iload X39.here hx rfl (hb hby at_269) rfl k) ?_
    obtain ⟨_, _, ⟨T41, L41, kk41, nn41⟩, -, X41, ⟨Lc41, hQ41, l41, y41, z41⟩, st41⟩ := Jvm.LawKit.callS X39 hx (y := (⟨"com/example/recurr/recurr/WholeNumberWritePinLaw", "ok", "([CIIII)Z"⟩ : MethodName)) hown (mvT hZ (hw _ (List.mem_of_getElem? (i := 10) rfl))) (mvT hZ (hw _ (List.mem_of_getElem? (i := 11) rfl))) (mvT hZ (hw _ (List.mem_of_getElem? (i := 8) rfl))) (mvT hZ (hw _ (List.mem_of_getElem? (i := 12) rfl))) (by decide) (backOf (W := 0) (rm3 l Z aV hw [] b1 (16 : Int32) n a (own_d n) k1 (own_tab (own_X n a (own_D n)) 20) (own_X n a (own_D n) 16) h4 n0 O5 Q4_1 (⟨by decide, by decide⟩) (own_tab_get _ 20 16 (by decide) _) (own_in n a _ 16 (by decide) (by decide) hn ha.1 ha.2) (own_out n a _ 16 (by decide) (by decide) hn ha.1 ha.2)) hZ (hw _ (List.mem_of_getElem? (i := 12) rfl)) (hw _ (List.mem_of_getElem? (i := 8) rfl)) (by decide) (by decide)) (g := (mkF m 271 #[.val (.int p0), .val (.int p1), .val (.int n), .val (.int a), .val (.ref b1), .val (.int (a + (own_d n))), .val (.int (own_d n))] [(.int (own_d n)), (.int a), (.int n), (.int (16 : Int32)), (.ref b1)])) rfl (by rw [hml]; rfl) (argsL := [(.ref b1), (.int (16 : Int32)), (.int n), (.int a), (.int (own_d n))]) (rest := []) (lenOf pd__28_5bCIIII_29Z rfl) rfl (by show 2 * 0 + _ ≤ _; exact Nat.le_of_eq rfl) (hb hby at_271) (fun _ _ => ⟨rfl, Q39_0, (by decide : 1 + 0 ≤ _), (by decide : 20 + 0 ≤ _)⟩)
    dsimp only [Pt.U, Pt.locs, Pt.cells, Pt.slots] at X41 l41 y41 z41 st41 hQ41
    subst l41 y41 z41
    obtain ⟨rfl, N41q, Q41_0⟩ := hQ41
    have N41 := Fr.app N39 N41q
    refine run_fwd (T' := T41) (g' := (mkF m 274 #[.val (.int p0), .val (.int p1), .val (.int n), .val (.int a), .val (.ref b1), .val (.int (a + (own_d n))), .val (.int (own_d n))] [(.int (1 : Int32))])) (fun _ k => st41 _ k) ?_
    have hc274_42 : ¬ ((1 : Int32) = (0 : Int32)) := (by decide)
    refine run_fwd (T' := T41) (g' := (mkF m 277 #[.val (.int p0), .val (.int p1), .val (.int n), .val (.int a), .val (.ref b1), .val (.int (a + (own_d n))), .val (.int (own_d n))] [])) (fun _ k => XS.ifNo X41.here hx rfl (hb hby at_274) rfl ((if0 _ _).trans (feq hc274_42).1) k) ?_
    refine run_fwd (T' := T41) (g' := (mkF m 279 #[.val (.int p0), .val (.int p1), .val (.int n), .val (.int a), .val (.ref b1), .val (.int (a + (own_d n))), .val (.int (own_d n))] [(.ref b1)])) (fun _ k => XS.aload X41.here hx rfl (hb hby at_277) rfl rfl k) ?_
    refine run_fwd (T' := T41) (g' := (mkF m 281 #[.val (.int p0), .val (.int p1), .val (.int n), .val (.int a), .val (.ref b1), .val (.int (a + (own_d n))), .val (.int (own_d n))] [(.int (17 : Int32)), (.ref b1)])) (fun _ k => XS.bipush X41.here hx rfl (hb hby at_279) k) ?_
    refine run_fwd (T' := T41) (g' := (mkF m 282 #[.val (.int p0), .val (.int p1), .val (.int n), .val (.int a), .val (.ref b1), .val (.int (a + (own_d n))), .val (.int (own_d n))] [(.int n), (.int (17 : Int32)), (.ref b1)])) (fun _ k => XS.iloadN X41.here hx rfl (hb hby at_281) rfl k) ?_
    refine run_fwd (T' := T41) (g' := (mkF m 283 #[.val (.int p0), .val (.int p1), .val (.int n), .val (.int a), .val (.ref b1), .val (.int (a + (own_d n))), .val (.int (own_d n))] [(.int a), (.int n), (.int (17 : Int32)), (.ref b1)])) (fun _ k => XS.iloadN X41.here hx rfl (hb hby at_282) rfl k) ?_
    refine run_fwd (T' := T41) (g' := (mkF m 285 #[.val (.int p0), .val (.int p1), .val (.int n), .val (.int a), .val (.ref b1), .val (.int (a + (own_d n))), .val (.int (own_d n))] [(.int (own_d n)), (.int a), (.int n), (.int (17 : Int32)), (.ref b1)])) (fun _ k => XS.iload X41.here hx rfl (hb hby at_283) rfl k) ?_
    obtain ⟨_, _, ⟨T43, L43, kk43, nn43⟩, -, X43, ⟨Lc43, hQ43, l43, y43, z43⟩, st43⟩ := Jvm.LawKit.callS X41 hx (y := (⟨"com/example/recurr/recurr/WholeNumberWritePinLaw", "ok", "([CIIII)Z"⟩ : MethodName)) hown (mvT hZ (hw _ (List.mem_of_getElem? (i := 10) rfl))) (mvT hZ (hw _ (List.mem_of_getElem? (i := 11) rfl))) (mvT hZ (hw _ (List.mem_of_getElem? (i := 8) rfl))) (mvT hZ (hw _ (List.mem_of_getElem? (i := 12) rfl))) (by decide) (backOf (W := 0) (rm3 l Z aV hw [] b1 (17 : Int32) n a (own_d n) k1 (own_tab (own_X n a (own_D n)) 20) (own_X n a (own_D n) 17) h4 n0 O5 Q4_1 (⟨by decide, by decide⟩) (own_tab_get _ 20 17 (by decide) _) (own_in n a _ 17 (by decide) (by decide) hn ha.1 ha.2) (own_out n a _ 17 (by decide) (by decide) hn ha.1 ha.2)) hZ (hw _ (List.mem_of_getElem? (i := 12) rfl)) (hw _ (List.mem_of_getElem? (i := 8) rfl)) (by decide) (by decide)) (g := (mkF m 285 #[.val (.int p0), .val (.int p1), .val (.int n), .val (.int a), .val (.ref b1), .val (.int (a + (own_d n))), .val (.int (own_d n))] [(.int (own_d n)), (.int a), (.int n), (.int (17 : Int32)), (.ref b1)])) rfl (by rw [hml]; rfl) (argsL := [(.ref b1), (.int (17 : Int32)), (.int n), (.int a), (.int (own_d n))]) (rest := []) (lenOf pd__28_5bCIIII_29Z rfl) rfl (by show 2 * 0 + _ ≤ _; exact Nat.le_of_eq rfl) (hb hby at_285) (fun _ _ => ⟨rfl, Q41_0, (by decide : 1 + 0 ≤ _), (by decide : 20 + 0 ≤ _)⟩)
    dsimp only [Pt.U, Pt.locs, Pt.cells, Pt.slots] at X43 l43 y43 z43 st43 hQ43
    subst l43 y43 z43
    obtain ⟨rfl, N43q, Q43_0⟩ := hQ43
    have N43 := Fr.app N41 N43q
    refine run_fwd (T' := T43) (g' := (mkF m 288 #[.val (.int p0), .val (.int p1), .val (.int n), .val (.int a), .val (.ref b1), .val (.int (a + (own_d n))), .val (.int (own_d n))] [(.int (1 : Int32))])) (fun _ k => st43 _ k) ?_
    have hc288_44 : ¬ ((1 : Int32) = (0 : Int32)) := (by decide)
    refine run_fwd (T' := T43) (g' := (mkF m 291 #[.val (.int p0), .val (.int p1), .val (.int n), .val (.int a), .val (.ref b1), .val (.int (a + (own_d n))), .val (.int (own_d n))] [])) (fun _ k => XS.ifNo X43.here hx rfl (hb hby at_288) rfl ((if0 _ _).trans (feq hc288_44).1) k) ?_
    refine run_fwd (T' := T43) (g' := (mkF m 293 #[.val (.int p0), .val (.int p1), .val (.int n), .val (.int a), .val (.ref b1), .val (.int (a + (own_d n))), .val (.int (own_d n))] [(.ref b1)])) (fun _ k => XS.aload X43.here hx rfl (hb hby at_291) rfl rfl k) ?_
    refine run_fwd (T' := T43) (g' := (mkF m 295 #[.val (.int p0), .val (.int p1), .val (.int n), .val (.int a), .val (.ref b1), .val (.int (a + (own_d n))), .val (.int (own_d n))] [(.int (18 : Int32)), (.ref b1)])) (fun _ k => XS.bipush X43.here hx rfl (hb hby at_293) k) ?_
    refine run_fwd (T' := T43) (g' := (mkF m 296 #[.val (.int p0), .val (.int p1), .val (.int n), .val (.int a), .val (.ref b1), .val (.int (a + (own_d n))), .val (.int (own_d n))] [(.int n), (.int (18 : Int32)), (.ref b1)])) (fun _ k => XS.iloadN X43.here hx rfl (hb hby at_295) rfl k) ?_
    refine run_fwd (T' := T43) (g' := (mkF m 297 #[.val (.int p0), .val (.int p1), .val (.int n), .val (.int a), .val (.ref b1), .val (.int (a + (own_d n))), .val (.int (own_d n))] [(.int a), (.int n), (.int (18 : Int32)), (.ref b1)])) (fun _ k => XS.iloadN X43.here hx rfl (hb hby at_296) rfl k) ?_
    refine run_fwd (T' := T43) (g' := (mkF m 299 #[.val (.int p0), .val (.int p1), .val (.int n), .val (.int a), .val (.ref b1), .val (.int (a + (own_d n))), .val (.int (own_d n))] [(.int (own_d n)), (.int a), (.int n), (.int (18 : Int32)), (.ref b1)])) (fun _ k => XS.iload X43.here hx rfl (hb hby at_297) rfl k) ?_
    obtain ⟨_, _, ⟨T45, L45, kk45, nn45⟩, -, X45, ⟨Lc45, hQ45, l45, y45, z45⟩, st45⟩ := Jvm.LawKit.callS X43 hx (y := (⟨"com/example/recurr/recurr/WholeNumberWritePinLaw", "ok", "([CIIII)Z"⟩ : MethodName)) hown (mvT hZ (hw _ (List.mem_of_getElem? (i := 10) rfl))) (mvT hZ (hw _ (List.mem_of_getElem? (i := 11) rfl))) (mvT hZ (hw _ (List.mem_of_getElem? (i := 8) rfl))) (mvT hZ (hw _ (List.mem_of_getElem? (i := 12) rfl))) (by decide) (backOf (W := 0) (rm3 l Z aV hw [] b1 (18 : Int32) n a (own_d n) k1 (own_tab (own_X n a (own_D n)) 20) (own_X n a (own_D n) 18) h4 n0 O5 Q4_1 (⟨by decide, by decide⟩) (own_tab_get _ 20 18 (by decide) _) (own_in n a _ 18 (by decide) (by decide) hn ha.1 ha.2) (own_out n a _ 18 (by decide) (by decide) hn ha.1 ha.2)) hZ (hw _ (List.mem_of_getElem? (i := 12) rfl)) (hw _ (List.mem_of_getElem? (i := 8) rfl)) (by decide) (by decide)) (g := (mkF m 299 #[.val (.int p0), .val (.int p1), .val (.int n), .val (.int a), .val (.ref b1), .val (.int (a + (own_d n))), .val (.int (own_d n))] [(.int (own_d n)), (.int a), (.int n), (.int (18 : Int32)), (.ref b1)])) rfl (by rw [hml]; rfl) (argsL := [(.ref b1), (.int (18 : Int32)), (.int n), (.int a), (.int (own_d n))]) (rest := []) (lenOf pd__28_5bCIIII_29Z rfl) rfl (by show 2 * 0 + _ ≤ _; exact Nat.le_of_eq rfl) (hb hby at_299) (fun _ _ => ⟨rfl, Q43_0, (by decide : 1 + 0 ≤ _), (by decide : 20 + 0 ≤ _)⟩)
    dsimp only [Pt.U, Pt.locs, Pt.cells, Pt.slots] at X45 l45 y45 z45 st45 hQ45
    subst l45 y45 z45
    obtain ⟨rfl, N45q, Q45_0⟩ := hQ45
    have N45 := Fr.app N43 N45q
    refine run_fwd (T' := T45) (g' := (mkF m 302 #[.val (.int p0), .val (.int p1), .val (.int n), .val (.int a), .val (.ref b1), .val (.int (a + (own_d n))), .val (.int (own_d n))] [(.int (1 : Int32))])) (fun _ k => st45 _ k) ?_
    have hc302_46 : ¬ ((1 : Int32) = (0 : Int32)) := (by decide)
    refine run_fwd (T' := T45) (g' := (mkF m 305 #[.val (.int p0), .val (.int p1), .val (.int n), .val (.int a), .val (.ref b1), .val (.int (a + (own_d n))), .val (.int (own_d n))] [])) (fun _ k => XS.ifNo X45.here hx rfl (hb hby at_302) rfl ((if0 _ _).trans (feq hc302_46).1) k) ?_
    refine run_fwd (T' := T45) (g' := (mkF m 307 #[.val (.int p0), .val (.int p1), .val (.int n), .val (.int a), .val (.ref b1), .val (.int (a + (own_d n))), .val (.int (own_d n))] [(.ref b1)])) (fun _ k => XS.aload X45.here hx rfl (hb hby at_305) rfl rfl k) ?_
    refine run_fwd (T' := T45) (g' := (mkF m 309 #[.val (.int p0), .val (.int p1), .val (.int n), .val (.int a), .val (.ref b1), .val (.int (a + (own_d n))), .val (.int (own_d n))] [(.int (19 : Int32)), (.ref b1)])) (fun _ k => XS.bipush X45.here hx rfl (hb hby at_307) k) ?_
    refine run_fwd (T' := T45) (g' := (mkF m 310 #[.val (.int p0), .val (.int p1), .val (.int n), .val (.int a), .val (.ref b1), .val (.int (a + (own_d n))), .val (.int (own_d n))] [(.int n), (.int (19 : Int32)), (.ref b1)])) (fun _ k => XS.iloadN X45.here hx rfl (hb hby at_309) rfl k) ?_
    refine run_fwd (T' := T45) (g' := (mkF m 311 #[.val (.int p0), .val (.int p1), .val (.int n), .val (.int a), .val (.ref b1), .val (.int (a + (own_d n))), .val (.int (own_d n))] [(.int a), (.int n), (.int (19 : Int32)), (.ref b1)])) (fun _ k => XS.iloadN X45.here hx rfl (hb hby at_310) rfl k) ?_
    refine run_fwd (T' := T45) (g' := (mkF m 313 #[.val (.int p0), .val (.int p1), .val (.int n), .val (.int a), .val (.ref b1), .val (.int (a + (own_d n))), .val (.int (own_d n))] [(.int (own_d n)), (.int a), (.int n), (.int (19 : Int32)), (.ref b1)])) (fun _ k => XS.iload X45.here hx rfl (hb hby at_311) rfl k) ?_
    obtain ⟨_, _, ⟨T47, L47, kk47, nn47⟩, -, X47, ⟨Lc47, hQ47, l47, y47, z47⟩, st47⟩ := Jvm.LawKit.callS X45 hx (y := (⟨"com/example/recurr/recurr/WholeNumberWritePinLaw", "ok", "([CIIII)Z"⟩ : MethodName)) hown (mvT hZ (hw _ (List.mem_of_getElem? (i := 10) rfl))) (mvT hZ (hw _ (List.mem_of_getElem? (i := 11) rfl))) (mvT hZ (hw _ (List.mem_of_getElem? (i := 8) rfl))) (mvT hZ (hw _ (List.mem_of_getElem? (i := 12) rfl))) (by decide) (backOf (W := 0) (rm3 l Z aV hw [] b1 (19 : Int32) n a (own_d n) k1 (own_tab (own_X n a (own_D n)) 20) (own_X n a (own_D n) 19) h4 n0 O5 Q4_1 (⟨by decide, by decide⟩) (own_tab_get _ 20 19 (by decide) _) (own_in n a _ 19 (by decide) (by decide) hn ha.1 ha.2) (own_out n a _ 19 (by decide) (by decide) hn ha.1 ha.2)) hZ (hw _ (List.mem_of_getElem? (i := 12) rfl)) (hw _ (List.mem_of_getElem? (i := 8) rfl)) (by decide) (by decide)) (g := (mkF m 313 #[.val (.int p0), .val (.int p1), .val (.int n), .val (.int a), .val (.ref b1), .val (.int (a + (own_d n))), .val (.int (own_d n))] [(.int (own_d n)), (.int a), (.int n), (.int (19 : Int32)), (.ref b1)])) rfl (by rw [hml]; rfl) (argsL := [(.ref b1), (.int (19 : Int32)), (.int n), (.int a), (.int (own_d n))]) (rest := []) (lenOf pd__28_5bCIIII_29Z rfl) rfl (by show 2 * 0 + _ ≤ _; exact Nat.le_of_eq rfl) (hb hby at_313) (fun _ _ => ⟨rfl, Q45_0, (by decide : 1 + 0 ≤ _), (by decide : 20 + 0 ≤ _)⟩)
    dsimp only [Pt.U, Pt.locs, Pt.cells, Pt.slots] at X47 l47 y47 z47 st47 hQ47
    subst l47 y47 z47
    obtain ⟨rfl, N47q, Q47_0⟩ := hQ47
    have N47 := Fr.app N45 N47q
    refine run_fwd (T' := T47) (g' := (mkF m 316 #[.val (.int p0), .val (.int p1), .val (.int n), .val (.int a), .val (.ref b1), .val (.int (a + (own_d n))), .val (.int (own_d n))] [(.int (1 : Int32))])) (fun _ k => st47 _ k) ?_
    have hc316_48 : ¬ ((1 : Int32) = (0 : Int32)) := (by decide)
    refine run_fwd (T' := T47) (g' := (mkF m 319 #[.val (.int p0), .val (.int p1), .val (.int n), .val (.int a), .val (.ref b1), .val (.int (a + (own_d n))), .val (.int (own_d n))] [])) (fun _ k => XS.ifNo X47.here hx rfl (hb hby at_316) rfl ((if0 _ _).trans (feq hc316_48).1) k) ?_
    refine run_fwd (T' := T47) (g' := (mkF m 320 #[.val (.int p0), .val (.int p1), .val (.int n), .val (.int a), .val (.ref b1), .val (.int (a + (own_d n))), .val (.int (own_d n))] [(.int (1 : Int32))])) (fun _ k => XS.iconst X47.here hx rfl (hb hby at_319) k) ?_
    refine run_fwd (T' := T47) (g' := (mkF m 324 #[.val (.int p0), .val (.int p1), .val (.int n), .val (.int a), .val (.ref b1), .val (.int (a + (own_d n))), .val (.int (own_d n))] [(.int (1 : Int32))])) (fun _ k => XS.goto X47.here hx rfl (pc0 := 320) (pc' := 324) rfl (hb hby at_320) (by decide) (by decide) k) ?_
    exact run_ret X47 hx Bd.returns Bd.notSynchronized rfl (Or.inl ⟨rfl, by simp, _, rfl⟩) (hb hby at_324) (by rw [Q47_0]; exact ⟨rfl, N47⟩) (by decide) (by decide)
  exact tail _ _ (own_n0 _) (own_at _)
set_option maxRecDepth 65536 in
set_option maxHeartbeats 40000000 in
theorem comes_1 {Post : Tables → Env → Array Value → State → Outcome → State → Prop} (hpost : ∀ tb e args s v u, (limb_1_1.after args s (.returned v) u = true ∧ limb_1_2.after args s (.returned v) u = true ∧ True) → FrameEnd s (.returned v) u (Jvm.fieldLocs frame_1_writes args s ++ Jvm.arrayLocs frame_1_arrays args s ++ Jvm.staticLocs frame_1_statics s) 16 128 → Post tb e args s (.returned v) u) :
    ArmFor flags0 classFile x code maxLocals ret World_1 tables_1 room_1 Calls_1 rest_1 Pre_1 Post := by
  intro l hfl _ _ p e ha hc hk s m args below hf hA hF happ hP
  obtain ⟨hcalls, hrest, hpre⟩ := hP
  obtain ⟨-, -, -, hnamed, -, -, -, hat⟩ := (Spec.applies_iff hf).mp happ
  obtain ⟨hg, hn⟩ := and_e (Cond.before_iff.mp (show (Jvm.Cond.and given_1 narrow_1).before args s = true from hpre))
  obtain ⟨g1, g2⟩ := and_e hg
  obtain ⟨g3, g4⟩ := and_e g2
  obtain ⟨w0, w1, rfl⟩ : ∃ w0 w1 : Value, args = #[w0, w1] := by
    have hs : args.size = 2 := by simpa [Cond.value, given_1] using g1
    obtain ⟨L⟩ := args
    match L, hs with
    | [w0, w1], _ => exact ⟨w0, w1, rfl⟩
  have hw := fun d (hd : d ∈ tables_1) => atoms_spec (ws := Jvm.Cond.code x code maxLocals ret :: tables_1) hat d (List.mem_cons_of_mem _ hd)
  obtain ⟨i0, ei0⟩ := is_v g3
  obtain rfl : w0 = (.int i0) := Option.some.inj ei0
  obtain ⟨i1, ei1⟩ := is_v g4
  obtain rfl : w1 = (.int i1) := Option.some.inj ei1
  obtain ⟨n, o, h1, h2, h3, _, L, rfl, ⟨rfl, N⟩, hq⟩ := rm0 l s _ hw tables_1 i0 i1  s.heap s.heap.size (Old.start s)  p e ha hc hk s m _ below hf ((Spec.applies_iff_loose hf).mp happ).1 ⟨rfl, State.Warmed39.refl s, rfl⟩ trivial
  refine ⟨n, _, h1, h2, h3, hpost _ _ _ _ _ _ ⟨Cond.after_iff.mpr rfl, Cond.after_iff.mpr (eq_i res_at (Term.int_eval (1)) rfl), trivial⟩ ⟨hq.1, hq.2.1, (hq.2.2.sift fun y hy => Or.inr (N y hy)).mono (by decide) (by decide)⟩⟩
theorem main_1_1 : Claimed_1_1 := comes_1 fun _ _ _ _ _ _ h hF => ⟨h.1, hF⟩
theorem main_1_2 : Claimed_1_2 := comes_1 fun _ _ _ _ _ _ h hF => ⟨h.2.1, hF⟩
end Jvm.Pilot.@@N@@
namespace Jvm.Pilot.@@N@@
open Jvm Jvm.ClassFile Sem Op Lib Jvm.Free Jvm.Stand Jvm.Pilot.@@N@@.Jvm.D
/-! MADE BY PROGRAM (witnessworld.py) out of the Statement's table words and the real class files: 11 classes; the members and pool entries that the words name. The judged class is class 1, her method 1. -/
namespace start1
open Jvm.ClassFile
def u (s : String) : CpInfo := .utf8 (stringToUtf16 s)
/-- a pool by its gaps: so many unusable entries, then the entry; so many at the end -/
def gap : Nat → List CpInfo → List CpInfo
  | 0, r => r
  | n + 1, r => .unusable :: gap n r
def poolList (es : List (Nat × CpInfo)) (last : Nat) : List CpInfo := es.foldr (fun e r => gap e.1 (e.2 :: r)) (gap last [])
def pool (es : List (Nat × CpInfo)) (last : Nat) : Array CpInfo := ⟨poolList es last⟩
def fileOf (pool : Array CpInfo) (this : Nat) (attrs : Array Attribute := #[]) (ms : Array MethodInfo := #[]) (fl : Nat := 33) (sup : Nat := 0) (ifs : Array Nat := #[]) (fds : Array FieldInfo := #[]) : ClassFile where
  minorVersion := 0
  majorVersion := 65
  constantPool := pool
  accessFlags := fl
  thisClass := this
  superClass := sup
  interfaces := ifs
  fields := fds
  methods := ms
  attributes := attrs
def plain (name : String) (sup : Option ClassId) : Class where
  name := name
  kind := .ordinary
  loader := none
  accessFlags := 33
  super := sup
  interfaces := #[]
  cf := none
  fields := #[]
  methods := #[]
  instanceTypes := #[]
  staticTypes := #[]
  resolved := #[]
  callSites := []
  init := .initialized
  statics := none
  mirror := none

def pool0 : Array CpInfo := pool [(5, u "<init>"), (0, u "()V"), (1, .class_ 10), (1, u "java/lang/Object")] 113

def k0m0 : Method := { name := "<init>", desc := "()V", sig := { parameters := [], returnType := none }, accessFlags := 1, code := none }
/-- java/lang/Object -/
def k0 : Class := { plain "java/lang/Object" none with
  accessFlags := 33
  interfaces := #[]
  cf := some (fileOf pool0 8 #[] #[{ accessFlags := 1, nameIndex := 5, descriptorIndex := 6, attributes := #[] }] 33 0 #[] #[])
  fields := #[]
  methods := #[k0m0]
  instanceTypes := #[]
  staticTypes := #[]
  resolved := Array.replicate 124 none
  statics := none }

def pool1 : Array CpInfo := pool [(2, .class_ 4), (1, u "java/lang/Object"), (0, u "<init>"), (0, u "()V"), (0, .integer 2147483647), (0, .methodref 9 10), (0, .class_ 11), (0, .nameAndType 12 13), (0, u "com/example/recurr/recurr/WholeNumber"), (0, u "write"), (0, u "(I[CI)I"), (0, .methodref 15 16), (0, .class_ 17), (0, .nameAndType 18 19), (0, u "com/example/recurr/recurr/WholeNumberWritePinLaw"), (0, u "digits"), (0, u "(I)I"), (0, .methodref 15 21), (0, .nameAndType 22 23), (0, u "ok"), (0, u "([CIIII)Z"), (0, .integer 100000), (0, .integer 1000000), (0, .integer 10000000), (0, .integer 100000000), (0, .integer 1000000000), (0, .methodref 15 30), (0, .nameAndType 31 19), (0, u "pow10"), (2, u "law"), (0, u "(II)Z")] 5

def k1m0 : Method := { name := "<init>", desc := "()V", sig := { parameters := [], returnType := none }, accessFlags := 1, code := none }
def k1c1 : Code := { maxStack := 5, maxLocals := 7, code := code, exceptionTable := #[], attributes := #[] }
def k1m1 : Method := { name := "law", desc := "(II)Z", sig := { parameters := [.int, .int], returnType := some .boolean }, accessFlags := 9, code := some k1c1 }
def k1c2 : Code := { maxStack := 2, maxLocals := 1, code := method_3_code, exceptionTable := #[], attributes := #[] }
def k1m2 : Method := { name := "digits", desc := "(I)I", sig := { parameters := [.int], returnType := some .int }, accessFlags := 10, code := some k1c2 }
def k1c3 : Code := { maxStack := 2, maxLocals := 1, code := method_4_code, exceptionTable := #[], attributes := #[] }
def k1m3 : Method := { name := "pow10", desc := "(I)I", sig := { parameters := [.int], returnType := some .int }, accessFlags := 10, code := some k1c3 }
def k1c4 : Code := { maxStack := 5, maxLocals := 6, code := method_5_code, exceptionTable := #[], attributes := #[] }
def k1m4 : Method := { name := "ok", desc := "([CIIII)Z", sig := { parameters := [(.array .char), .int, .int, .int, .int], returnType := some .boolean }, accessFlags := 10, code := some k1c4 }
/-- com/example/recurr/recurr/WholeNumberWritePinLaw -/
def k1 : Class := { plain "com/example/recurr/recurr/WholeNumberWritePinLaw" (some 0) with
  accessFlags := 49
  interfaces := #[]
  cf := some (fileOf pool1 15 #[] #[{ accessFlags := 1, nameIndex := 5, descriptorIndex := 6, attributes := #[] }, { accessFlags := 9, nameIndex := 34, descriptorIndex := 35, attributes := #[] }, { accessFlags := 10, nameIndex := 18, descriptorIndex := 19, attributes := #[] }, { accessFlags := 10, nameIndex := 31, descriptorIndex := 19, attributes := #[] }, { accessFlags := 10, nameIndex := 22, descriptorIndex := 23, attributes := #[] }] 49 2 #[] #[])
  fields := #[]
  methods := #[k1m0, k1m1, k1m2, k1m3, k1m4]
  instanceTypes := #[]
  staticTypes := #[]
  resolved := Array.replicate 41 none
  statics := none }

def pool2 : Array CpInfo := pool [(2, .class_ 4), (1, u "java/lang/Object"), (0, u "<init>"), (0, u "()V"), (1, .class_ 10), (1, u "com/example/recurr/recurr/WholeNumber"), (0, u "FORM"), (0, u "Ljava/util/regex/Pattern;"), (43, u "write"), (0, u "(I[CI)I")] 20

def k2m0 : Method := { name := "<init>", desc := "()V", sig := { parameters := [], returnType := none }, accessFlags := 2, code := none }
def k2c1 : Code := { maxStack := 5, maxLocals := 7, code := prog_17_method_3_code, exceptionTable := #[], attributes := #[] }
def k2m1 : Method := { name := "write", desc := "(I[CI)I", sig := { parameters := [.int, (.array .char), .int], returnType := some .int }, accessFlags := 8, code := some k2c1 }
/-- com/example/recurr/recurr/WholeNumber -/
def k2 : Class := { plain "com/example/recurr/recurr/WholeNumber" (some 0) with
  accessFlags := 48
  interfaces := #[]
  cf := some (fileOf pool2 8 #[] #[{ accessFlags := 2, nameIndex := 5, descriptorIndex := 6, attributes := #[] }, { accessFlags := 8, nameIndex := 56, descriptorIndex := 57, attributes := #[] }] 48 2 #[] #[{ accessFlags := 26, nameIndex := 11, descriptorIndex := 12, attributes := #[] }])
  fields := #[{ name := "FORM", type := (.object "java/util/regex/Pattern"), accessFlags := 26, slot := 0, constantValue := 0 }]
  methods := #[k2m0, k2m1]
  instanceTypes := #[]
  staticTypes := #[(.object "java/util/regex/Pattern")]
  resolved := Array.replicate 78 none
  statics := none }

def pool3 : Array CpInfo := pool [(1, u "java/lang/Cloneable"), (0, .class_ 1), (0, u "java/lang/Object"), (0, .class_ 3)] 3

/-- java/lang/Cloneable -/
def k3 : Class := { plain "java/lang/Cloneable" (some 0) with
  accessFlags := 1537
  interfaces := #[]
  cf := some (fileOf pool3 2 #[] #[] 1537 4 #[] #[])
  fields := #[]
  methods := #[]
  instanceTypes := #[]
  staticTypes := #[]
  resolved := Array.replicate 8 none
  statics := none }

def pool4 : Array CpInfo := pool [(1, u "java/io/Serializable"), (0, .class_ 1), (0, u "java/lang/Object"), (0, .class_ 3)] 3

/-- java/io/Serializable -/
def k4 : Class := { plain "java/io/Serializable" (some 0) with
  accessFlags := 1537
  interfaces := #[]
  cf := some (fileOf pool4 2 #[] #[] 1537 4 #[] #[])
  fields := #[]
  methods := #[]
  instanceTypes := #[]
  staticTypes := #[]
  resolved := Array.replicate 8 none
  statics := none }

/-- the primitive byte -/
def k5 : Class := { plain "byte" none with kind := .primitive 'B', accessFlags := 0x411 }
/-- [B -/
def k6 : Class := { plain "[B" (some 0) with kind := .array 5 .byte, interfaces := #[3, 4], accessFlags := 1041 }

/-- the primitive char -/
def k7 : Class := { plain "char" none with kind := .primitive 'C', accessFlags := 0x411 }
/-- [C -/
def k8 : Class := { plain "[C" (some 0) with kind := .array 7 .char, interfaces := #[3, 4], accessFlags := 1041 }

/-- the primitive int -/
def k9 : Class := { plain "int" none with kind := .primitive 'I', accessFlags := 0x411 }
/-- [I -/
def k10 : Class := { plain "[I" (some 0) with kind := .array 9 .int, interfaces := #[3, 4], accessFlags := 1041 }

def heap : Heap := #[]
def classes : Array Class := #[k0, k1, k2, k3, k4, k5, k6, k7, k8, k9, k10]
def interned : List (Array UInt16 × Addr) := []
def slotsUsed : Nat := 0
def theMethod : MethodId := ⟨1, 1⟩
def args0 : Array Value := #[.int 5, .int 300]
def aboutOver (below : List Frame) : State where
  vm := { classes := classes, interned := interned.toArray }
  heap := heap
  slotsUsed := slotsUsed
  threads := #[{ frames := .invoking theMethod args0 :: below }]
def below0 : List Frame := [.native { method := ⟨0, 0⟩, args := #[] }]
def about1 : State := aboutOver below0
def p0 : Program := .bare "" "" ""
def e0 : Env := launch0.env 0 0 0
theorem w_frames : about1.frames = Frame.invoking theMethod args0 :: below0 := rfl
set_option maxRecDepth 65536 in
theorem w_args : argsFit about1.vm theMethod args0 = true := by decide +kernel
set_option maxRecDepth 65536 in
theorem w_heap : heapFits about1 = true := by decide +kernel
set_option maxRecDepth 65536 in
theorem w_runnable : about1.curStatus? = some .runnable := by decide +kernel
set_option maxRecDepth 65536 in
theorem w_alone : about1.alone = true := by decide +kernel
set_option maxRecDepth 65536 in
theorem w_named : about1.methodNamed? x = some theMethod := by decide +kernel
set_option maxRecDepth 65536 in
theorem w_hears : about1.hears theMethod below0 = true := by decide +kernel
set_option maxRecDepth 65536 in
theorem w_ripe : about1.ripe theMethod args0 below0 = true := by decide +kernel
theorem w_running : about1.status = .running := rfl
set_option maxRecDepth 65536 in
theorem w_room : about1.hasRoom e0.platform room_1 = true :=
  launch0.hasRoom_least _ room_1 (by decide +kernel) (by decide +kernel) (by decide +kernel) (by decide +kernel) (by decide +kernel) (by decide +kernel)
theorem allAtoms_all (ts : List Jvm.Cond) (a : Array Jvm.Value) (st : Jvm.State) : (allAtoms ts).before a st = ts.all (fun c => c.before a st) := by
  induction ts with
  | nil => rfl
  | cons c t ih =>
    show (Jvm.Cond.and c (allAtoms t)).before a st = _
    rw [Jvm.Cond.before_and, ih, List.all_cons]
def words1 : List Jvm.Cond := Jvm.Cond.code x code maxLocals ret :: tables_1
/-- a 'code' word, met by the world's own term for the bytes: nothing is compared byte by byte -/
theorem code_word {y : MethodName} {bytes : ByteArray} {mx : Nat} {rt : Option FieldType} {a : Array Value} {s : State} {m : MethodId} {meth : Method} {c : Code} (h1 : s.methodNamed? y = some m) (h2 : s.vm.method? m = some meth) (h3 : meth.code = some c) (h4 : c.code = bytes)
    (h5 : (c.maxLocals == mx && c.exceptionTable.isEmpty && decide (c.maxStack ≤ mostOperands) && decide (meth.sig.returnType = rt) && !meth.locks && decide (parseMethodDescriptor y.desc = some meth.sig)) = true) : (Jvm.Cond.code y bytes mx rt).before a s = true := by
  simp only [Bool.and_eq_true, beq_iff_eq, Bool.not_eq_true', decide_eq_true_eq] at h5
  obtain ⟨⟨⟨⟨⟨g1, g2⟩, g3⟩, g4⟩, g5⟩, g6⟩ := h5
  simp [Cond.before, Cond.holds, Cond.value, h1, h2, h3, h4, g1, g2, g3, g4, g5, g6]
def isCode : Jvm.Cond → Bool
  | .code _ _ _ _ => true
  | _ => false
theorem all_split {L : List Jvm.Cond} {P : Jvm.Cond → Bool} (h1 : L.all (fun c => isCode c || P c) = true) (h2 : ∀ c ∈ L.filter isCode, P c = true) : L.all P = true := by
  refine List.all_eq_true.mpr fun c hc => ?_
  have h := List.all_eq_true.mp h1 c hc
  rcases Bool.eq_false_or_eq_true (isCode c) with hi | hi
  · exact h2 c (List.mem_filter.mpr ⟨hc, hi⟩)
  · simpa [hi] using h
set_option maxRecDepth 65536 in
theorem w_c0 : (Jvm.Cond.code x code maxLocals ret).before args0 about1 = true := code_word (m := ⟨1, 1⟩) (meth := k1m1) (c := k1c1) (by decide +kernel) rfl rfl rfl (by decide +kernel)
set_option maxRecDepth 65536 in
theorem w_c1 : (Jvm.Cond.code ({ cls := "com/example/recurr/recurr/WholeNumber", name := "write", desc := "(I[CI)I" } : Jvm.MethodName) prog_17_method_3_code (7 : Nat) (Option.some Jvm.ClassFile.FieldType.int)).before args0 about1 = true := code_word (m := ⟨2, 1⟩) (meth := k2m1) (c := k2c1) (by decide +kernel) rfl rfl rfl (by decide +kernel)
set_option maxRecDepth 65536 in
theorem w_c2 : (Jvm.Cond.code ({ cls := "com/example/recurr/recurr/WholeNumberWritePinLaw", name := "digits", desc := "(I)I" } : Jvm.MethodName) method_3_code (1 : Nat) (Option.some Jvm.ClassFile.FieldType.int)).before args0 about1 = true := code_word (m := ⟨1, 2⟩) (meth := k1m2) (c := k1c2) (by decide +kernel) rfl rfl rfl (by decide +kernel)
set_option maxRecDepth 65536 in
theorem w_c3 : (Jvm.Cond.code ({ cls := "com/example/recurr/recurr/WholeNumberWritePinLaw", name := "ok", desc := "([CIIII)Z" } : Jvm.MethodName) method_5_code (6 : Nat) (Option.some Jvm.ClassFile.FieldType.boolean)).before args0 about1 = true := code_word (m := ⟨1, 4⟩) (meth := k1m4) (c := k1c4) (by decide +kernel) rfl rfl rfl (by decide +kernel)
set_option maxRecDepth 65536 in
theorem w_c4 : (Jvm.Cond.code ({ cls := "com/example/recurr/recurr/WholeNumberWritePinLaw", name := "pow10", desc := "(I)I" } : Jvm.MethodName) method_4_code (1 : Nat) (Option.some Jvm.ClassFile.FieldType.int)).before args0 about1 = true := code_word (m := ⟨1, 3⟩) (meth := k1m3) (c := k1c3) (by decide +kernel) rfl rfl rfl (by decide +kernel)
def codes1 : List Jvm.Cond := [Jvm.Cond.code x code maxLocals ret, Jvm.Cond.code ({ cls := "com/example/recurr/recurr/WholeNumber", name := "write", desc := "(I[CI)I" } : Jvm.MethodName) prog_17_method_3_code (7 : Nat) (Option.some Jvm.ClassFile.FieldType.int), Jvm.Cond.code ({ cls := "com/example/recurr/recurr/WholeNumberWritePinLaw", name := "digits", desc := "(I)I" } : Jvm.MethodName) method_3_code (1 : Nat) (Option.some Jvm.ClassFile.FieldType.int), Jvm.Cond.code ({ cls := "com/example/recurr/recurr/WholeNumberWritePinLaw", name := "ok", desc := "([CIIII)Z" } : Jvm.MethodName) method_5_code (6 : Nat) (Option.some Jvm.ClassFile.FieldType.boolean), Jvm.Cond.code ({ cls := "com/example/recurr/recurr/WholeNumberWritePinLaw", name := "pow10", desc := "(I)I" } : Jvm.MethodName) method_4_code (1 : Nat) (Option.some Jvm.ClassFile.FieldType.int)]
set_option maxRecDepth 65536 in
theorem codes_eq : words1.filter isCode = codes1 := rfl
theorem w_codes : ∀ c ∈ words1.filter isCode, c.before args0 about1 = true := by
  rw [codes_eq]
  intro c hc
  simp only [codes1, List.mem_cons, List.not_mem_nil, or_false] at hc
  rcases hc with rfl | rfl | rfl | rfl | rfl
  · exact w_c0
  · exact w_c1
  · exact w_c2
  · exact w_c3
  · exact w_c4
set_option maxRecDepth 65536 in
theorem w_t1 : words1.all (fun c => isCode c || c.before args0 about1) = true := by decide +kernel
theorem w_tables : (allAtoms (Jvm.Cond.code x code maxLocals ret :: tables_1)).before args0 about1 = true := by
  rw [allAtoms_all]
  show words1.all (fun c => c.before args0 about1) = true
  refine all_split ?_ w_codes
  rw [w_t1]
set_option maxRecDepth 65536 in
theorem w_case : (Jvm.Cond.and given_1 narrow_1).before args0 about1 = true := by decide +kernel
theorem w_applies : (headSpec (Jvm.Cond.code x code maxLocals ret :: tables_1) room_1).applies x e0.platform about1 = true :=
  (Spec.applies_iff w_frames).mpr ⟨w_running, w_runnable, w_alone, w_named, w_hears, w_ripe, w_room, w_tables⟩
theorem atStart : AtStart classFile x code maxLocals ret World_1 tables_1 room_1 Calls_1 rest_1 Pre_1 launch0 p0 e0 about1 theMethod args0 below0 :=
  ⟨lists_1, trivial, launch0.admits_env _ _ _, launch0.least_env, fairChoices_fair.cas, fairChoices_fair.clock, w_frames, w_args, w_heap, w_applies, trivial, trivial, w_case⟩
end start1
theorem witness_1 : WitnessClaimed_1 := ⟨start1.p0, start1.e0, start1.about1, start1.theMethod, start1.args0, start1.below0, start1.atStart⟩
end Jvm.Pilot.@@N@@
