import JvmDerived
import JvmDerived.Pilot.@@N@@Statement
import JvmDerived.Pilot.@@N@@Code
set_option linter.unusedVariables false
set_option linter.unusedSimpArgs false

namespace Jvm.Pilot.@@N@@
open Jvm Jvm.ClassFile Sem Op Lib Jvm.Free Jvm.Stand Jvm.LawKit Jvm.RoadKit Bundle Jvm.Pilot.@@N@@.Jvm.D
section OwnKit
def Run (tb : Tables) (e : Env) (below : List Frame) (W : Outcome → State → Prop) (T : State) (g : JFrame) : Prop := ∃ s₂ o, Steps tb e below (T.setTop g) s₂ ∧ s₂.status = .running ∧ Ended s₂ below o ∧ W o s₂
abbrev Wd (s : State) (Q : Option Value → Heap → List Loc → Prop) (k n : Nat) : Outcome → State → Prop := fun o U => ∃ v L, o = .returned v ∧ Q v U.heap L ∧ FrameEnd s o U L k n
theorem run_fwd {tb : Tables} {e : Env} {below : List Frame} {W : Outcome → State → Prop} {T T' : State} {g g' : JFrame} (st : ∀ t, Steps tb e below (T'.setTop g') t → Steps tb e below (T.setTop g) t) (h : Run tb e below W T' g') : Run tb e below W T g := by
  obtain ⟨t, o, h1, h2⟩ := h
  exact ⟨t, o, st t h1, h2⟩
variable {p : Program} {l : Launch} {e : Env} {R : Room} {s : State} {m : MethodId} {args : Array Value} {below : List Frame} {meth : Method} {c : Code} {T : State} {locs : List Loc} {cells slots : Nat}
theorem run_ret (X : Stand p l e R s m args below meth c T locs cells slots) (hx : p.tables.exec = Jvm.exec) {pc : Nat} {Ls : Array Slot} {w : Value} {t : FieldType} {i : Instr} {rest : List Value} {Q : Option Value → Heap → List Loc → Prop} {k n : Nat} (hret : meth.sig.returnType = some t) (hlk : meth.locks = false) (hn : narrow t w = w)
    (hi : (i = .ireturn ∧ (t = .int ∨ t = .boolean ∨ t = .byte ∨ t = .char ∨ t = .short) ∧ ∃ z, w = .int z) ∨ (i = .lreturn ∧ t = .long ∧ ∃ z, w = .long z) ∨ (i = .dreturn ∧ t = .double ∧ ∃ z, w = .double z) ∨ (i = .freturn ∧ t = .float ∧ ∃ z, w = .float z) ∨ (i = .areturn ∧ t.isReference = true ∧ w.isRef = true))
    (hd : decode c.code pc = .ok (i, 1)) (hQ : Q (some w) T.heap locs) (hk : cells ≤ k) (hs : slots ≤ n) : Run p.tables e below (Wd s Q k n) T (mkF m pc Ls (w :: rest)) := by
  obtain ⟨fs, hr, hrun, hended, hW, hsame⟩ := X.leave (v := some w) (fun h => by rw [hret] at h; cases h) hlk
  exact ⟨_, _, retOut X hx hret hn hi hd hr, hrun, hended, _, _, rfl, hQ, ⟨_, rfl⟩, hW, hsame.mono hk hs⟩
theorem run_retN (X : Stand p l e R s m args below meth c T locs cells slots) (hx : p.tables.exec = Jvm.exec) {pc : Nat} {Ls : Array Slot} {z : Int32} {t : FieldType} {rest : List Value} {Q : Option Value → Heap → List Loc → Prop} {k n : Nat} (hret : meth.sig.returnType = some t) (hlk : meth.locks = false) (ht : t = .boolean ∨ t = .byte ∨ t = .char ∨ t = .short)
    (hd : decode c.code pc = .ok (.ireturn, 1)) (hQ : Q (some (.int (nar t z))) T.heap locs) (hk : cells ≤ k) (hs : slots ≤ n) : Run p.tables e below (Wd s Q k n) T (mkF m pc Ls (.int z :: rest)) := by
  obtain ⟨fs, hr, hrun, hended, hW, hsame⟩ := X.leave (v := some (.int (nar t z))) (fun h => by rw [hret] at h; cases h) hlk
  exact ⟨_, _, retN X hx hret ht hd hr, hrun, hended, _, _, rfl, hQ, ⟨_, rfl⟩, hW, hsame.mono hk hs⟩
theorem run_ret0 (X : Stand p l e R s m args below meth c T locs cells slots) (hx : p.tables.exec = Jvm.exec) {pc : Nat} {Ls : Array Slot} {Q : Option Value → Heap → List Loc → Prop} {k n : Nat} (hret : meth.sig.returnType = none) (hlk : meth.locks = false)
    (hd : decode c.code pc = .ok (.return_, 1)) (hQ : Q none T.heap locs) (hk : cells ≤ k) (hs : slots ≤ n) : Run p.tables e below (Wd s Q k n) T (mkF m pc Ls []) := by
  obtain ⟨fs, hr, hrun, hended, hW, hsame⟩ := X.leave (v := none) (fun _ => rfl) hlk
  exact ⟨_, _, X.returnOut hx hret hd hr, hrun, hended, _, _, rfl, hQ, ⟨_, rfl⟩, hW, hsame.mono hk hs⟩
abbrev WdW (s : State) (Q : Option Value → Heap → List Loc → Prop) (k n : Nat) : Outcome → State → Prop := fun o U => ∃ v L, o = .returned v ∧ Q v U.heap L ∧ ReturnedEndW s o U L k n
theorem run_retW {vm1 : Vm} {n1 : Nat} (X : Stand p l e R (s.setVm vm1) m args below meth c T locs cells slots) (hx : p.tables.exec = Jvm.exec) (hS : s.Since vm1 n1) (hn1 : n1 ≤ T.heap.size) {pc : Nat} {Ls : Array Slot} {w : Value} {t : FieldType} {i : Instr} {rest : List Value} {Q : Option Value → Heap → List Loc → Prop} {k n : Nat} (hret : meth.sig.returnType = some t) (hlk : meth.locks = false) (hn : narrow t w = w)
    (hi : (i = .ireturn ∧ (t = .int ∨ t = .boolean ∨ t = .byte ∨ t = .char ∨ t = .short) ∧ ∃ z, w = .int z) ∨ (i = .lreturn ∧ t = .long ∧ ∃ z, w = .long z) ∨ (i = .dreturn ∧ t = .double ∧ ∃ z, w = .double z) ∨ (i = .freturn ∧ t = .float ∧ ∃ z, w = .float z) ∨ (i = .areturn ∧ t.isReference = true ∧ w.isRef = true))
    (hd : decode c.code pc = .ok (i, 1)) (hQ : Q (some w) T.heap locs) (hk : cells ≤ k) (hs : slots ≤ n) : Run p.tables e below (WdW s Q k n) T (mkF m pc Ls (w :: rest)) := by
  obtain ⟨fs, hr, hrun, hended, hE⟩ := X.leaveW hS hn1 (v := some w) (fun h => by rw [hret] at h; cases h) hlk
  exact ⟨_, _, retOut X hx hret hn hi hd hr, hrun, hended, _, _, rfl, hQ, hE.1, hE.2.1, hE.2.2.1, hE.2.2.2.mono hk hs⟩
theorem run_ret0W {vm1 : Vm} {n1 : Nat} (X : Stand p l e R (s.setVm vm1) m args below meth c T locs cells slots) (hx : p.tables.exec = Jvm.exec) (hS : s.Since vm1 n1) (hn1 : n1 ≤ T.heap.size) {pc : Nat} {Ls : Array Slot} {Q : Option Value → Heap → List Loc → Prop} {k n : Nat} (hret : meth.sig.returnType = none) (hlk : meth.locks = false)
    (hd : decode c.code pc = .ok (.return_, 1)) (hQ : Q none T.heap locs) (hk : cells ≤ k) (hs : slots ≤ n) : Run p.tables e below (WdW s Q k n) T (mkF m pc Ls []) := by
  obtain ⟨fs, hr, hrun, hended, hE⟩ := X.leaveW hS hn1 (v := none) (fun _ => rfl) hlk
  exact ⟨_, _, X.returnOut hx hret hd hr, hrun, hended, _, _, rfl, hQ, hE.1, hE.2.1, hE.2.2.1, hE.2.2.2.mono hk hs⟩
theorem own_hk {T : State} {h : Heap} {k : Nat} (e : T.heap = h) (q : k ≤ h.size) : k ≤ T.heap.size := Nat.le_trans q (Nat.le_of_eq (congrArg Array.size e.symm))
theorem own_gotS {kc ks : Nat} {Q : Option Value → Heap → List Loc → Prop} {f : Option Value → JFrame} {T0 : State} {g : JFrame} (X0 : Stand p l e R s m args below meth c T locs cells slots) (H : ∃ (v : Option Value) (vm₁ : Vm) (B : Pt), s.WarmedH vm₁ ∧ Stand p l e R s m args below meth c B.U B.locs B.cells B.slots ∧ (∃ L, Q v B.U.heap L ∧ B.locs = locs ++ L ∧ B.cells = cells + kc ∧ B.slots = slots + ks) ∧ ∀ target, Steps p.tables e below (B.U.setTop (f v)) target → Steps p.tables e below (T0.setTop g) target) :
    ∃ (T' : State) (v : Option Value) (L : List Loc), Stand p l e R s m args below meth c T' (locs ++ L) (cells + kc) (slots + ks) ∧ Q v T'.heap L ∧ ∀ target, Steps p.tables e below (T'.setTop (f v)) target → Steps p.tables e below (T0.setTop g) target := by
  obtain ⟨v, -, B, -, X, ⟨L, hQ, h1, h2, h3⟩, st⟩ := H
  exact ⟨B.U, v, L, h1 ▸ h2 ▸ h3 ▸ X, hQ, st⟩
theorem own_gotV {kc ks : Nat} {Q : Option Value → Heap → List Loc → Prop} {f : Option Value → JFrame} {S0 : State} (X0 : Stand p l e R s m args below meth c T locs cells slots) (H : ∃ (v : Option Value) (vm₁ : Vm) (B : Pt), s.WarmedH vm₁ ∧ Stand p l e R s m args below meth c B.U B.locs B.cells B.slots ∧ (∃ L, Q v B.U.heap L ∧ B.locs = locs ++ L ∧ B.cells = cells + kc ∧ B.slots = slots + ks) ∧ Steps p.tables e below S0 (B.U.setTop (f v))) :
    ∃ (T' : State) (v : Option Value) (L : List Loc), Stand p l e R s m args below meth c T' (locs ++ L) (cells + kc) (slots + ks) ∧ Q v T'.heap L ∧ Steps p.tables e below S0 (T'.setTop (f v)) := by
  obtain ⟨v, -, B, -, X, ⟨L, hQ, h1, h2, h3⟩, st⟩ := H
  exact ⟨B.U, v, L, h1 ▸ h2 ▸ h3 ▸ X, hQ, st⟩
theorem own_gotW {kc ks : Nat} {Q : Option Value → Heap → List Loc → Prop} {f : Option Value → JFrame} {S0 T0 : State} (X0 : Stand p l e R s m args below meth c T locs cells slots) (H : ∃ (v : Option Value) (vm₁ : Vm) (B : Pt), s.WarmedH vm₁ ∧ Stand p l e R (s.setVm B.U.vm) m args below meth c B.U B.locs B.cells B.slots ∧ s.Since B.U.vm B.U.heap.size ∧ T0.heap.size ≤ B.U.heap.size ∧ (∃ L, Q v B.U.heap L ∧ B.locs = locs ++ L ∧ B.cells = cells + kc ∧ B.slots = slots + ks) ∧ Steps p.tables e below S0 (B.U.setTop (f v))) :
    ∃ (T' : State) (v : Option Value) (L : List Loc), Stand p l e R (s.setVm T'.vm) m args below meth c T' (locs ++ L) (cells + kc) (slots + ks) ∧ s.Since T'.vm T'.heap.size ∧ T0.heap.size ≤ T'.heap.size ∧ Q v T'.heap L ∧ Steps p.tables e below S0 (T'.setTop (f v)) := by
  obtain ⟨v, -, B, -, X, hS, hg, ⟨L, hQ, h1, h2, h3⟩, st⟩ := H
  exact ⟨B.U, v, L, h1 ▸ h2 ▸ h3 ▸ X, hS, hg, hQ, st⟩
theorem own_le {Z : State} {n0 : Nat} {h : Heap} (O : Old Z n0 h) : n0 ≤ h.size := O.1 ▸ O.2.1
end OwnKit
theorem own_wS' {Z : State} {a0 : Array Value} (hw : ∀ d ∈ tables_1, d.before a0 Z = true) : ∀ a ∈ Bundle.stringAtoms, a.before a0 Z = true := fun d hd => by
  simp only [Bundle.stringAtoms, List.mem_cons, List.not_mem_nil, or_false] at hd
  rcases hd with rfl | rfl | rfl | rfl | rfl | rfl | rfl
  · exact hw _ (List.mem_of_getElem? (i := 6) rfl)
  · exact hw _ (List.mem_of_getElem? (i := 5) rfl)
  · exact hw _ (List.mem_of_getElem? (i := 23) rfl)
  · exact hw _ (List.mem_of_getElem? (i := 33) rfl)
  · exact hw _ (List.mem_of_getElem? (i := 31) rfl)
  · exact hw _ (List.mem_of_getElem? (i := 41) rfl)
  · exact hw _ (List.mem_of_getElem? (i := 42) rfl)
theorem own_CH {Z : State} {vm : Vm} {h : Heap} : CHv Z [] vm h := fun _ hp => by cases hp
def own_tab (F : Nat → Int32) (n : Nat) : List Value := (List.range n).map fun j => .int (F j)
def own_by (F : Nat → Int32) (j : Nat) : Int32 := (F j).toInt8.toInt32
def own_part (F : Nat → Int32) (m j : Nat) : Int32 := if j < m then own_by F j else 0
def own_leq (n : Nat) (F G : Nat → Int32) : Bool := (List.range n).all fun j => F j == G j
theorem own_tab_len (F : Nat → Int32) (n : Nat) : (own_tab F n).length = n := by simp [own_tab]
theorem own_tab_get (F : Nat → Int32) (n j : Nat) (h : j < n) (d : Value) : (own_tab F n).getD j d = .int (F j) := by simp [own_tab, List.getD_eq_getElem?_getD, h]
theorem own_tab_out (F : Nat → Int32) (n j : Nat) (h : ¬ j < n) (d : Value) : (own_tab F n).getD j d = d := by
  have q : n ≤ j := by omega
  simp [own_tab, List.getD_eq_getElem?_getD, q]
theorem own_get (F : Nat → Int32) (n : Nat) (j : Int32) (J : Nat) (hj : j.toNatClampNeg = J) (h : J < n) (d : Value) : (own_tab F n).getD j.toNatClampNeg d = .int (F J) := by
  rw [hj]; exact own_tab_get F n J h d
theorem own_tab_set (F G : Nat → Int32) (n i : Nat) (v : Int32) (h : ∀ j, j < n → G j = if j = i then v else F j) : (own_tab F n).set i (.int v) = own_tab G n := by
  apply List.ext_getElem
  · simp [own_tab]
  · intro j h1 h2
    have hj : j < n := by simpa [own_tab] using h2
    rw [List.getElem_set]
    simp only [own_tab, List.getElem_map, List.getElem_range, h j hj]
    by_cases q : i = j
    · simp [q]
    · simp [q, Ne.symm q]
theorem own_pad (F : Nat → Int32) (n i : Nat) : (own_tab (own_part F 0) n).getD i (.int (0 : Int32)) = ([] : List Value).getD i (.int (0 : Int32)) := by
  by_cases q : i < n
  · rw [own_tab_get _ _ _ q, own_part, if_neg (by omega)]; rfl
  · rw [own_tab_out _ _ _ q]; rfl
theorem own_nb (x : Int32) : nar .byte (x.toInt8.toInt32) = x.toInt8.toInt32 := by
  show (x.toInt8.toInt32).toInt8.toInt32 = x.toInt8.toInt32
  apply Int32.toInt_inj.mp
  have h1 := c_i2b x
  have h2 := c_i2b (x.toInt8.toInt32)
  omega
theorem own_turn (F : Nat → Int32) (n m : Nat) : (own_tab (own_part F m) n).set m (.int (nar .byte ((F m).toInt8.toInt32))) = own_tab (own_part F (m + 1)) n := by
  rw [own_nb]
  apply own_tab_set
  intro j hj
  unfold own_part own_by
  by_cases q : j = m
  · subst q; rw [if_pos (by omega), if_pos rfl]
  · rw [if_neg q]
    by_cases w : j < m
    · rw [if_pos w, if_pos (by omega)]
    · rw [if_neg w, if_neg (by omega)]
theorem own_all (F : Nat → Int32) (n : Nat) : own_tab (own_part F n) n = own_tab (own_by F) n := by
  unfold own_tab own_part
  apply List.map_congr_left
  intro j hj
  rw [if_pos (List.mem_range.mp hj)]
theorem own_lt0 {n : Int32} : n < (0 : Int32) ↔ n.toInt < 0 := by rw [Int32.lt_iff_toInt_lt]; rfl
theorem own_at (i n : Int32) (m N : Nat) (hi : i.toInt = m) (hn : n.toInt = N) (hm : m < N) : (¬ i < (0 : Int32) ∧ i < n) ∧ i.toNatClampNeg = m := by
  refine ⟨⟨?_, ?_⟩, ?_⟩
  · rw [own_lt0, hi]; omega
  · rw [Int32.lt_iff_toInt_lt, hi, hn]; omega
  · unfold Int32.toNatClampNeg; rw [hi]; omega
theorem own_up (i : Int32) (m : Nat) (hi : i.toInt = m) (hm : m < 2000000000) : (i + (1 : Int32)).toInt = ((m + 1 : Nat) : Int) := by
  rw [Jvm.Free.XT.add32 (by unfold Jvm.Free.XT.fits32; rw [hi, show (1 : Int32).toInt = 1 from rfl]; omega), hi, show (1 : Int32).toInt = 1 from rfl]; omega
theorem own_cod (n : Int32) : nar .byte ((((n - n).toUInt32 >>> ((31 : Int32) &&& 31).toUInt32).toInt32).toInt8.toInt32) = (0 : Int32) := by
  rw [Int32.sub_self]; decide
theorem own_shr0 (n : Int32) : (n >>> ((0 : Int32) &&& 31)) = n := by
  apply Int32.toInt_inj.mp
  rw [c_ishr n 0 0 (by decide)]; simp
theorem own_leq_step (F G : Nat → Int32) (n m : Nat) (hm : m < n) (h : ¬ F m = G m) : own_leq n F G = false := by
  rw [own_leq, List.all_eq_false]
  exact ⟨m, List.mem_range.mpr hm, by simpa using h⟩
theorem own_leq_all (F G : Nat → Int32) (n : Nat) (h : ∀ j, j < n → F j = G j) : own_leq n F G = true := by
  rw [own_leq, List.all_eq_true]
  intro j hj; simpa using h j (List.mem_range.mp hj)
theorem d6_3 : decode jdk_52_method_21_code 3 = .ok (.iload 5, 2) := by decide +kernel
theorem d6_5 : decode jdk_52_method_21_code 5 = .ok (.iload 4, 2) := by decide +kernel
theorem d6_7 : decode jdk_52_method_21_code 7 = .ok (.if_icmp .ge 37, 3) := by decide +kernel
theorem d6_44 : decode jdk_52_method_21_code 44 = .ok (.iload 4, 2) := by decide +kernel
theorem d6_46 : decode jdk_52_method_21_code 46 = .ok (.ireturn, 1) := by decide +kernel
theorem os_Cz {z0 z1 z2 z3 z4 z5 : Value} {sl : Slot} {v : Int32} (h : One sl) : storeLocals #[.val z0, .val z1, .val z2, .val z3, .val z4, .val z5, sl] 6 (.int v) = some #[.val z0, .val z1, .val z2, .val z3, .val z4, .val z5, .val (.int v)] := by
  rcases h with rfl | ⟨w, rfl, hw⟩
  · rfl
  · cases w <;> first | rfl | (simp [Value.category] at hw)
theorem d6_10 : decode jdk_52_method_21_code 10 = .ok (.aload_n 0, 1) := by decide +kernel
theorem d6_11 : decode jdk_52_method_21_code 11 = .ok (.iload_n 1, 1) := by decide +kernel
theorem d6_12 : decode jdk_52_method_21_code 12 = .ok (.caload, 1) := by decide +kernel
theorem d6_13 : decode jdk_52_method_21_code 13 = .ok (.istore 6, 2) := by decide +kernel
theorem d6_15 : decode jdk_52_method_21_code 15 = .ok (.iload 6, 2) := by decide +kernel
theorem d6_17 : decode jdk_52_method_21_code 17 = .ok (.sipush 255, 3) := by decide +kernel
theorem d6_20 : decode jdk_52_method_21_code 20 = .ok (.if_icmp .le 6, 3) := by decide +kernel
theorem d6_26 : decode jdk_52_method_21_code 26 = .ok (.aload_n 2, 1) := by decide +kernel
theorem d6_27 : decode jdk_52_method_21_code 27 = .ok (.iload_n 3, 1) := by decide +kernel
theorem d6_28 : decode jdk_52_method_21_code 28 = .ok (.iload 6, 2) := by decide +kernel
theorem d6_30 : decode jdk_52_method_21_code 30 = .ok (.i2b, 1) := by decide +kernel
theorem d6_31 : decode jdk_52_method_21_code 31 = .ok (.bastore, 1) := by decide +kernel
theorem d6_32 : decode jdk_52_method_21_code 32 = .ok (.iinc 1 1, 3) := by decide +kernel
theorem d6_35 : decode jdk_52_method_21_code 35 = .ok (.iinc 3 1, 3) := by decide +kernel
theorem d6_38 : decode jdk_52_method_21_code 38 = .ok (.iinc 5 1, 3) := by decide +kernel
theorem d6_41 : decode jdk_52_method_21_code 41 = .ok (.goto (-38), 3) := by decide +kernel
theorem d6_0 : decode jdk_52_method_21_code 0 = .ok (.iconst 0, 1) := by decide +kernel
theorem d6_1 : decode jdk_52_method_21_code 1 = .ok (.istore 5, 2) := by decide +kernel
theorem pn_java_lang_StringUTF16 : plainName "java/lang/StringUTF16" = true := by first | (simp [plainName, overriddenIn]; done) | decide +kernel
theorem ef_rmCz (m : MethodId) (x0 : Addr) (x1 : Int32) (x2 : Addr) (x3 : Int32) (x4 : Int32) : entryFrame m #[(.ref x0), (.int x1), (.ref x2), (.int x3), (.int x4)] 7 = mkF m 0 #[.val (.ref x0), .val (.int x1), .val (.ref x2), .val (.int x3), .val (.int x4), .unset, .unset] [] := by first | (simp [entryFrame, mkF, argsToLocals, Value.category]; done) | rfl
def QrmCz (Z : State) (a0 : Addr) (a2 : Addr) (p4 : Int32) (kc : ClassId) (kb : ClassId) (N : Nat) (F : Nat → Int32) (h0 : Heap) (n0 : Nat) (v : Option Value) (h : Heap) (L : List Loc) : Prop := v = some (.int p4) ∧ Fr n0 L ∧ Keep h0 h [a2] ∧ Arv Z h a2 kb .byte p4 (own_tab (own_by F) N) (.int (0 : Int32))
set_option maxRecDepth 65536 in
set_option maxHeartbeats 40000000 in
theorem rmCz (l : Launch) (Z : State) (aV : Array Value) (hw : ∀ d ∈ tables_1, d.before aV Z = true) (ws : List Jvm.Cond) (a0 : Addr) (a2 : Addr) (p4 : Int32) (kc : ClassId) (kb : ClassId) (N : Nat) (F : Nat → Int32) (h0 : Heap) (n0 : Nat) (O0 : Old Z n0 h0) (gi0 : n0 ≤ a2) (Vi1 : Arv Z h0 a0 kc .char p4 (own_tab F N) (.int (0 : Int32))) (Vi2 : Arv Z h0 a2 kb .byte p4 [] (.int (0 : Int32))) (hne : a0 ≠ a2) (hn : p4.toInt = N) (hN : N ≤ 16) (hF : ∀ j, j < N → ¬ (255 : Int32) < F j) :
    MetFree l (⟨"java/lang/StringUTF16", "compress", "([CI[BII)I"⟩ : MethodName) (head1 (Jvm.Cond.code (⟨"java/lang/StringUTF16", "compress", "([CI[BII)I"⟩ : MethodName) jdk_52_method_21_code 7 (some .int) :: ws) ({ frames := 0, cells := 0, slots := 0, locals := 0 } : Room)) (fun a U => a = #[(.ref a0), (.int (0 : Int32)), (.ref a2), (.int (0 : Int32)), (.int p4)] ∧ Z.Warmed39 U.vm ∧ U.heap = h0) (fun _ _ _ _ _ => True) (fun _ U o U' => ∃ v L, o = .returned v ∧ QrmCz Z a0 a2 p4 kc kb N F h0 n0 v U'.heap L ∧ FrameEnd U o U' L ({ frames := 0, cells := 0, slots := 0, locals := 0 } : Room).cells ({ frames := 0, cells := 0, slots := 0, locals := 0 } : Room).slots) := by
  refine MetFree.of_bodySF (plainFor_of_name pn_java_lang_StringUTF16) hisR ?_
  intro p e s m args below meth c s₁ Bd hml0 hP hK
  obtain ⟨rfl, hZ, hh⟩ := hP
  have hx := Bd.exec
  have hby := Bd.bytes
  have hml : c.maxLocals = 7 := hml0
  have hown : s.vm.findClass "java/lang/StringUTF16" = some m.cls := findClass_of_methodNamed Bd.named
  have hnm := (name_of_methodNamed Bd.named Bd.method).1
  have X0 : Stand p l e ({ frames := 0, cells := 0, slots := 0, locals := 0 } : Room) s m #[(.ref a0), (.int (0 : Int32)), (.ref a2), (.int (0 : Int32)), (.int p4)] below meth c s₁ [] 0 0 := Stand.of_body Bd
  have e0 : s₁.heap = h0 := by rw [← hh, Bd.state]; rfl
  have N0 := Fr.nil n0
  show Run p.tables e below (Wd s (QrmCz Z a0 a2 p4 kc kb N F h0 n0) ({ frames := 0, cells := 0, slots := 0, locals := 0 } : Room).cells ({ frames := 0, cells := 0, slots := 0, locals := 0 } : Room).slots) s₁ (entryFrame m #[(.ref a0), (.int (0 : Int32)), (.ref a2), (.int (0 : Int32)), (.int p4)] 7)
  rw [ef_rmCz m a0 ((0 : Int32)) a2 ((0 : Int32)) p4]
  have loop3 : ∀ (k m' : Nat) (T : State) (locs : List Loc) (h : Heap) (i i' i'' : Int32) (sl : Slot), m' + k = N → Stand p l e ({ frames := 0, cells := 0, slots := 0, locals := 0 } : Room) s m #[(.ref a0), (.int (0 : Int32)), (.ref a2), (.int (0 : Int32)), (.int p4)] below meth c T locs 0 0 → T.heap = h → Fr n0 locs → Old Z n0 h → Keep h0 h [a2] → Arv Z h a2 kb .byte p4 (own_tab (own_part F m') N) (.int (0 : Int32)) → Arv Z h a0 kc .char p4 (own_tab F N) (.int (0 : Int32)) → i.toInt = m' → i'.toInt = m' → i''.toInt = m' → One sl → Run p.tables e below (Wd s (QrmCz Z a0 a2 p4 kc kb N F h0 n0) ({ frames := 0, cells := 0, slots := 0, locals := 0 } : Room).cells ({ frames := 0, cells := 0, slots := 0, locals := 0 } : Room).slots) T (mkF m 3 #[.val (.ref a0), .val (.int i), .val (.ref a2), .val (.int i'), .val (.int p4), .val (.int i''), sl] []) := by
    intro k
    induction k with
    | zero =>
      intro m' T locs h i i' i'' sl hk X eh NN OO KK VV VC hi hi' hi'' hsl
      obtain rfl : m' = N := by omega
      rw [own_all] at VV
      refine run_fwd (T' := T) (g' := (mkF m 5 #[.val (.ref a0), .val (.int i), .val (.ref a2), .val (.int i'), .val (.int p4), .val (.int i''), sl] [(.int i'')])) (fun _ k => XS.iload X.here hx rfl (hb hby d6_3) rfl k) ?_
      refine run_fwd (T' := T) (g' := (mkF m 7 #[.val (.ref a0), .val (.int i), .val (.ref a2), .val (.int i'), .val (.int p4), .val (.int i''), sl] [(.int p4), (.int i'')])) (fun _ k => XS.iload X.here hx rfl (hb hby d6_5) rfl k) ?_
      have hc7_1 : ¬ (i'' < p4) := by rw [Int32.lt_iff_toInt_lt, hi'', hn]; omega
      refine run_fwd (T' := T) (g' := (mkF m 44 #[.val (.ref a0), .val (.int i), .val (.ref a2), .val (.int i'), .val (.int p4), .val (.int i''), sl] [])) (fun _ k => XS.icmpYes X.here hx rfl (pc0 := 7) (pc' := 44) rfl (hb hby d6_7) rfl (flt hc7_1).2.1 (by decide) (by decide) k) ?_
      refine run_fwd (T' := T) (g' := (mkF m 46 #[.val (.ref a0), .val (.int i), .val (.ref a2), .val (.int i'), .val (.int p4), .val (.int i''), sl] [(.int p4)])) (fun _ k => XS.iload X.here hx rfl (hb hby d6_44) rfl k) ?_
      exact run_ret X hx Bd.returns Bd.notSynchronized rfl (Or.inl ⟨rfl, by simp, _, rfl⟩) (hb hby d6_46) (by rw [eh]; exact ⟨rfl, NN, KK, VV⟩) (by decide) (by decide)
    | succ k ih =>
      intro m' T locs h i i' i'' sl hk X eh NN OO KK VV VC hi hi' hi'' hsl
      have hix := own_at i p4 m' N hi hn (by omega)
      have hix' := own_at i' p4 m' N hi' hn (by omega)
      refine run_fwd (T' := T) (g' := (mkF m 5 #[.val (.ref a0), .val (.int i), .val (.ref a2), .val (.int i'), .val (.int p4), .val (.int i''), sl] [(.int i'')])) (fun _ k => XS.iload X.here hx rfl (hb hby d6_3) rfl k) ?_
      refine run_fwd (T' := T) (g' := (mkF m 7 #[.val (.ref a0), .val (.int i), .val (.ref a2), .val (.int i'), .val (.int p4), .val (.int i''), sl] [(.int p4), (.int i'')])) (fun _ k => XS.iload X.here hx rfl (hb hby d6_5) rfl k) ?_
      have hc7_2 : i'' < p4 := by rw [Int32.lt_iff_toInt_lt, hi'', hn]; omega
      refine run_fwd (T' := T) (g' := (mkF m 10 #[.val (.ref a0), .val (.int i), .val (.ref a2), .val (.int i'), .val (.int p4), .val (.int i''), sl] [])) (fun _ k => XS.icmpNo X.here hx rfl (hb hby d6_7) rfl (tlt hc7_2).2.1 k) ?_
      refine run_fwd (T' := T) (g' := (mkF m 11 #[.val (.ref a0), .val (.int i), .val (.ref a2), .val (.int i'), .val (.int p4), .val (.int i''), sl] [(.ref a0)])) (fun _ k => XS.aloadN X.here hx rfl (hb hby d6_10) rfl rfl k) ?_
      refine run_fwd (T' := T) (g' := (mkF m 12 #[.val (.ref a0), .val (.int i), .val (.ref a2), .val (.int i'), .val (.int p4), .val (.int i''), sl] [(.int i), (.ref a0)])) (fun _ k => XS.iloadN X.here hx rfl (hb hby d6_11) rfl k) ?_
      obtain ⟨cl3, Ar3, -, S3, M3, Hh3, -⟩ := id (VC)
      have hin3 : ¬ (i < 0 ∨ cl3.slots.size ≤ (i).toNatClampNeg) := inb_of S3 hix.1
      have hat3 : cl3.slots[(i).toNatClampNeg]? = some (.int (F m')) := Hh3.at hin3 (own_get F N i m' hix.2 (by omega) _)
      refine run_fwd (T' := T) (g' := (mkF m 13 #[.val (.ref a0), .val (.int i), .val (.ref a2), .val (.int i'), .val (.int p4), .val (.int i''), sl] [(.int (F m'))])) (fun _ k => X.caload hx (j := i) (v := (.int (F m'))) (by rw [eh]; exact Ar3.1) (State.isArrayOf_alike hZ.alike Ar3.2.1) Ar3.2.2 hin3 hat3 (g := (mkF m 12 #[.val (.ref a0), .val (.int i), .val (.ref a2), .val (.int i'), .val (.int p4), .val (.int i''), sl] [(.int i), (.ref a0)])) rfl rfl (hb hby d6_12) _ k) ?_
      refine run_fwd (T' := T) (g' := (mkF m 15 #[.val (.ref a0), .val (.int i), .val (.ref a2), .val (.int i'), .val (.int p4), .val (.int i''), .val (.int (F m'))] [])) (fun _ k => XS.istore X.here hx rfl (hb hby d6_13) rfl (l' := #[.val (.ref a0), .val (.int i), .val (.ref a2), .val (.int i'), .val (.int p4), .val (.int i''), .val (.int (F m'))]) (os_Cz hsl) k) ?_
      refine run_fwd (T' := T) (g' := (mkF m 17 #[.val (.ref a0), .val (.int i), .val (.ref a2), .val (.int i'), .val (.int p4), .val (.int i''), .val (.int (F m'))] [(.int (F m'))])) (fun _ k => XS.iload X.here hx rfl (hb hby d6_15) rfl k) ?_
      refine run_fwd (T' := T) (g' := (mkF m 20 #[.val (.ref a0), .val (.int i), .val (.ref a2), .val (.int i'), .val (.int p4), .val (.int i''), .val (.int (F m'))] [(.int (255 : Int32)), (.int (F m'))])) (fun _ k => XS.sipush X.here hx rfl (hb hby d6_17) k) ?_
      have hc20_4 : ¬ ((255 : Int32) < (F m')) := hF m' (by omega)
      refine run_fwd (T' := T) (g' := (mkF m 26 #[.val (.ref a0), .val (.int i), .val (.ref a2), .val (.int i'), .val (.int p4), .val (.int i''), .val (.int (F m'))] [])) (fun _ k => XS.icmpYes X.here hx rfl (pc0 := 20) (pc' := 26) rfl (hb hby d6_20) rfl (flt hc20_4).2.2.2 (by decide) (by decide) k) ?_
      refine run_fwd (T' := T) (g' := (mkF m 27 #[.val (.ref a0), .val (.int i), .val (.ref a2), .val (.int i'), .val (.int p4), .val (.int i''), .val (.int (F m'))] [(.ref a2)])) (fun _ k => XS.aloadN X.here hx rfl (hb hby d6_26) rfl rfl k) ?_
      refine run_fwd (T' := T) (g' := (mkF m 28 #[.val (.ref a0), .val (.int i), .val (.ref a2), .val (.int i'), .val (.int p4), .val (.int i''), .val (.int (F m'))] [(.int i'), (.ref a2)])) (fun _ k => XS.iloadN X.here hx rfl (hb hby d6_27) rfl k) ?_
      refine run_fwd (T' := T) (g' := (mkF m 30 #[.val (.ref a0), .val (.int i), .val (.ref a2), .val (.int i'), .val (.int p4), .val (.int i''), .val (.int (F m'))] [(.int (F m')), (.int i'), (.ref a2)])) (fun _ k => XS.iload X.here hx rfl (hb hby d6_28) rfl k) ?_
      refine run_fwd (T' := T) (g' := (mkF m 31 #[.val (.ref a0), .val (.int i), .val (.ref a2), .val (.int i'), .val (.int p4), .val (.int i''), .val (.int (F m'))] [(.int ((F m').toInt8.toInt32)), (.int i'), (.ref a2)])) (fun _ k => XS.i2b X.here hx rfl (hb hby d6_30) rfl k) ?_
      obtain ⟨cl5, Ar5, qq5, S5, M5, Hh5, G5⟩ := id (VV)
      have hin5 : ¬ (i' < 0 ∨ cl5.slots.size ≤ (i').toNatClampNeg) := inb_of S5 hix'.1
      obtain ⟨T5, h5, X5, e5, W5, st5⟩ := stB X hx hZ eh Ar5 (j := i') hin5 (g := (mkF m 31 #[.val (.ref a0), .val (.int i), .val (.ref a2), .val (.int i'), .val (.int p4), .val (.int i''), .val (.int (F m'))] [(.int ((F m').toInt8.toInt32)), (.int i'), (.ref a2)])) rfl rfl (hb hby d6_31)
      have O6 : Old Z n0 h5 := OO.wr W5 gi0
      have K7 : Keep h0 h5 [a2] := KK.wr W5 (Or.inl (List.mem_of_getElem? (i := 0) rfl))
      have N5 := Fr.snoc X5 NN gi0
      have V5 : Arv Z h5 a2 kb .byte p4 (own_tab (own_part F (m' + 1)) N) (.int (0 : Int32)) := own_turn F N m' ▸ Arv.set Ar5 qq5 S5 M5 Hh5 G5 (fits_nar_byte _) W5 _ hix'.2 (by rw [own_tab_len]; omega)
      refine run_fwd (T' := T5) (g' := (mkF m 32 #[.val (.ref a0), .val (.int i), .val (.ref a2), .val (.int i'), .val (.int p4), .val (.int i''), .val (.int (F m'))] [])) (fun _ k => st5 _ k) ?_
      refine run_fwd (T' := T5) (g' := (mkF m 35 #[.val (.ref a0), .val (.int (i + (1 : Int32))), .val (.ref a2), .val (.int i'), .val (.int p4), .val (.int i''), .val (.int (F m'))] [])) (fun _ k => XS.iinc X5.here hx rfl (hb hby d6_32) rfl (l' := #[.val (.ref a0), .val (.int (i + (1 : Int32))), .val (.ref a2), .val (.int i'), .val (.int p4), .val (.int i''), .val (.int (F m'))]) rfl k) ?_
      refine run_fwd (T' := T5) (g' := (mkF m 38 #[.val (.ref a0), .val (.int (i + (1 : Int32))), .val (.ref a2), .val (.int (i' + (1 : Int32))), .val (.int p4), .val (.int i''), .val (.int (F m'))] [])) (fun _ k => XS.iinc X5.here hx rfl (hb hby d6_35) rfl (l' := #[.val (.ref a0), .val (.int (i + (1 : Int32))), .val (.ref a2), .val (.int (i' + (1 : Int32))), .val (.int p4), .val (.int i''), .val (.int (F m'))]) rfl k) ?_
      refine run_fwd (T' := T5) (g' := (mkF m 41 #[.val (.ref a0), .val (.int (i + (1 : Int32))), .val (.ref a2), .val (.int (i' + (1 : Int32))), .val (.int p4), .val (.int (i'' + (1 : Int32))), .val (.int (F m'))] [])) (fun _ k => XS.iinc X5.here hx rfl (hb hby d6_38) rfl (l' := #[.val (.ref a0), .val (.int (i + (1 : Int32))), .val (.ref a2), .val (.int (i' + (1 : Int32))), .val (.int p4), .val (.int (i'' + (1 : Int32))), .val (.int (F m'))]) rfl k) ?_
      refine run_fwd (T' := T5) (g' := (mkF m 3 #[.val (.ref a0), .val (.int (i + (1 : Int32))), .val (.ref a2), .val (.int (i' + (1 : Int32))), .val (.int p4), .val (.int (i'' + (1 : Int32))), .val (.int (F m'))] [])) (fun _ k => XS.goto X5.here hx rfl (pc0 := 41) (pc' := 3) rfl (hb hby d6_41) (by decide) (by decide) k) ?_
      have f8 : Arv Z h5 a0 kc .char p4 (own_tab F N) (.int (0 : Int32)) := (VC.other W5 hne)
      exact ih (m' + 1) _ _ _ _ _ _ _ (by omega) X5 e5 N5 O6 K7 V5 f8 (own_up i m' hi (by omega)) (own_up i' m' hi' (by omega)) (own_up i'' m' hi'' (by omega)) (One.val rfl)
  refine run_fwd (T' := s₁) (g' := (mkF m 1 #[.val (.ref a0), .val (.int (0 : Int32)), .val (.ref a2), .val (.int (0 : Int32)), .val (.int p4), .unset, .unset] [(.int (0 : Int32))])) (fun _ k => XS.iconst X0.here hx rfl (hb hby d6_0) k) ?_
  refine run_fwd (T' := s₁) (g' := (mkF m 3 #[.val (.ref a0), .val (.int (0 : Int32)), .val (.ref a2), .val (.int (0 : Int32)), .val (.int p4), .val (.int (0 : Int32)), .unset] [])) (fun _ k => XS.istore X0.here hx rfl (hb hby d6_1) rfl (l' := #[.val (.ref a0), .val (.int (0 : Int32)), .val (.ref a2), .val (.int (0 : Int32)), .val (.int p4), .val (.int (0 : Int32)), .unset]) rfl k) ?_
  exact loop3 N 0 _ _ _ _ _ _ _ (by omega) X0 e0 N0 O0 (Keep.refl h0 [a2]) (Vi2.pad (own_pad F N)) Vi1 rfl rfl rfl One.u
theorem d5_0 : decode jdk_52_method_16_code 0 = .ok (.iload_n 2, 1) := by decide +kernel
theorem d5_1 : decode jdk_52_method_16_code 1 = .ok (.newarray .byte, 2) := by decide +kernel
theorem d5_3 : decode jdk_52_method_16_code 3 = .ok (.astore_n 3, 1) := by decide +kernel
theorem d5_4 : decode jdk_52_method_16_code 4 = .ok (.aload_n 0, 1) := by decide +kernel
theorem d5_5 : decode jdk_52_method_16_code 5 = .ok (.iload_n 1, 1) := by decide +kernel
theorem d5_6 : decode jdk_52_method_16_code 6 = .ok (.aload_n 3, 1) := by decide +kernel
theorem d5_7 : decode jdk_52_method_16_code 7 = .ok (.iconst 0, 1) := by decide +kernel
theorem d5_8 : decode jdk_52_method_16_code 8 = .ok (.iload_n 2, 1) := by decide +kernel
theorem d5_9 : decode jdk_52_method_16_code 9 = .ok (.invokestatic 115, 3) := by decide +kernel
theorem pd__28_5bCI_5bBII_29I : parseMethodDescriptor "([CI[BII)I" = some ⟨[(.array .char), .int, (.array .byte), .int, .int], some .int⟩ := by decide +kernel
theorem d5_12 : decode jdk_52_method_16_code 12 = .ok (.istore 4, 2) := by decide +kernel
theorem d5_14 : decode jdk_52_method_16_code 14 = .ok (.iload 4, 2) := by decide +kernel
theorem d5_16 : decode jdk_52_method_16_code 16 = .ok (.iload_n 2, 1) := by decide +kernel
theorem d5_17 : decode jdk_52_method_16_code 17 = .ok (.if_icmp .eq 40, 3) := by decide +kernel
theorem d5_57 : decode jdk_52_method_16_code 57 = .ok (.aload_n 3, 1) := by decide +kernel
theorem d5_58 : decode jdk_52_method_16_code 58 = .ok (.areturn, 1) := by decide +kernel
theorem ef_rmCy (m : MethodId) (x0 : Addr) (x1 : Int32) (x2 : Int32) : entryFrame m #[(.ref x0), (.int x1), (.int x2)] 6 = mkF m 0 #[.val (.ref x0), .val (.int x1), .val (.int x2), .unset, .unset, .unset] [] := by first | (simp [entryFrame, mkF, argsToLocals, Value.category]; done) | rfl
def QrmCy (Z : State) (a0 : Addr) (p2 : Int32) (kc : ClassId) (N : Nat) (F : Nat → Int32) (h0 : Heap) (n0 : Nat) (v : Option Value) (h : Heap) (L : List Loc) : Prop := ∃ (b : Addr) (kb : ClassId), v = some (.ref b) ∧ Fr n0 L ∧ Keep h0 h [] ∧ h0.size ≤ b ∧ Arv Z h b kb .byte p2 (own_tab (own_by F) N) (.int (0 : Int32))
set_option maxRecDepth 65536 in
set_option maxHeartbeats 40000000 in
theorem rmCy (l : Launch) (Z : State) (aV : Array Value) (hw : ∀ d ∈ tables_1, d.before aV Z = true) (ws : List Jvm.Cond) (a0 : Addr) (p2 : Int32) (kc : ClassId) (N : Nat) (F : Nat → Int32) (h0 : Heap) (n0 : Nat) (O0 : Old Z n0 h0) (Vi0 : Arv Z h0 a0 kc .char p2 (own_tab F N) (.int (0 : Int32))) (hn : p2.toInt = N) (hN : N ≤ 16) (hF : ∀ j, j < N → ¬ (255 : Int32) < F j) :
    MetFree l (⟨"java/lang/StringUTF16", "compress", "([CII)[B"⟩ : MethodName) (head1 (Jvm.Cond.code (⟨"java/lang/StringUTF16", "compress", "([CII)[B"⟩ : MethodName) jdk_52_method_16_code 6 (some (.array .byte)) :: ws) ({ frames := 1, cells := 1, slots := 16, locals := 18 } : Room)) (fun a U => a = #[(.ref a0), (.int (0 : Int32)), (.int p2)] ∧ Z.Warmed39 U.vm ∧ U.heap = h0) (fun _ _ _ _ _ => True) (fun _ U o U' => ∃ v L, o = .returned v ∧ QrmCy Z a0 p2 kc N F h0 n0 v U'.heap L ∧ FrameEnd U o U' L ({ frames := 1, cells := 1, slots := 16, locals := 18 } : Room).cells ({ frames := 1, cells := 1, slots := 16, locals := 18 } : Room).slots) := by
  refine MetFree.of_bodySF (plainFor_of_name pn_java_lang_StringUTF16) hisR ?_
  intro p e s m args below meth c s₁ Bd hml0 hP hK
  obtain ⟨rfl, hZ, hh⟩ := hP
  have hx := Bd.exec
  have hby := Bd.bytes
  have hml : c.maxLocals = 6 := hml0
  have hown : s.vm.findClass "java/lang/StringUTF16" = some m.cls := findClass_of_methodNamed Bd.named
  have hnm := (name_of_methodNamed Bd.named Bd.method).1
  have X0 : Stand p l e ({ frames := 1, cells := 1, slots := 16, locals := 18 } : Room) s m #[(.ref a0), (.int (0 : Int32)), (.int p2)] below meth c s₁ [] 0 0 := Stand.of_body Bd
  have e0 : s₁.heap = h0 := by rw [← hh, Bd.state]; rfl
  have N0 := Fr.nil n0
  show Run p.tables e below (Wd s (QrmCy Z a0 p2 kc N F h0 n0) ({ frames := 1, cells := 1, slots := 16, locals := 18 } : Room).cells ({ frames := 1, cells := 1, slots := 16, locals := 18 } : Room).slots) s₁ (entryFrame m #[(.ref a0), (.int (0 : Int32)), (.int p2)] 6)
  rw [ef_rmCy m a0 ((0 : Int32)) p2]
  refine run_fwd (T' := s₁) (g' := (mkF m 1 #[.val (.ref a0), .val (.int (0 : Int32)), .val (.int p2), .unset, .unset, .unset] [(.int p2)])) (fun _ k => XS.iloadN X0.here hx rfl (hb hby d5_0) rfl k) ?_
  obtain ⟨T1, h1, k1, X1, e1, E1, A1, st1⟩ := newP X0 hx hZ (hw _ (List.mem_of_getElem? (i := 23) rfl)) e0 (g := (mkF m 1 #[.val (.ref a0), .val (.int (0 : Int32)), .val (.int p2), .unset, .unset, .unset] [(.int p2)])) rfl (hb hby d5_1) rfl (by rw [own_lt0, hn]; omega) (cap := 16) (by unfold Int32.toNatClampNeg; rw [hn]; omega) (by decide) (by decide) (by decide)
  obtain ⟨b1, g1⟩ : ∃ z, z = h0.size := ⟨_, rfl⟩
  rw [← g1] at A1 st1
  have gg1 : n0 ≤ b1 := Nat.le_trans (own_le O0) (Nat.le_of_eq g1.symm)
  have sz1 : h0.size ≤ b1 := Nat.le_trans (Keep.refl h0 []).1 (Nat.le_of_eq g1.symm)
  have O2 : Old Z n0 h1 := O0.ext E1
  have K3 : Keep h0 h1 [] := (Keep.refl h0 []).ext E1
  have V1 : Arv Z h1 b1 k1 .byte p2 [] (.int (0 : Int32)) := Arv.new A1 (by rw [own_lt0, hn]; omega)
  refine run_fwd (T' := T1) (g' := (mkF m 3 #[.val (.ref a0), .val (.int (0 : Int32)), .val (.int p2), .unset, .unset, .unset] [(.ref b1)])) (fun _ k => st1 _ k) ?_
  refine run_fwd (T' := T1) (g' := (mkF m 4 #[.val (.ref a0), .val (.int (0 : Int32)), .val (.int p2), .val (.ref b1), .unset, .unset] [])) (fun _ k => XS.astoreN X1.here hx rfl (hb hby d5_3) rfl rfl (l' := #[.val (.ref a0), .val (.int (0 : Int32)), .val (.int p2), .val (.ref b1), .unset, .unset]) rfl k) ?_
  refine run_fwd (T' := T1) (g' := (mkF m 5 #[.val (.ref a0), .val (.int (0 : Int32)), .val (.int p2), .val (.ref b1), .unset, .unset] [(.ref a0)])) (fun _ k => XS.aloadN X1.here hx rfl (hb hby d5_4) rfl rfl k) ?_
  refine run_fwd (T' := T1) (g' := (mkF m 6 #[.val (.ref a0), .val (.int (0 : Int32)), .val (.int p2), .val (.ref b1), .unset, .unset] [(.int (0 : Int32)), (.ref a0)])) (fun _ k => XS.iloadN X1.here hx rfl (hb hby d5_5) rfl k) ?_
  refine run_fwd (T' := T1) (g' := (mkF m 7 #[.val (.ref a0), .val (.int (0 : Int32)), .val (.int p2), .val (.ref b1), .unset, .unset] [(.ref b1), (.int (0 : Int32)), (.ref a0)])) (fun _ k => XS.aloadN X1.here hx rfl (hb hby d5_6) rfl rfl k) ?_
  refine run_fwd (T' := T1) (g' := (mkF m 8 #[.val (.ref a0), .val (.int (0 : Int32)), .val (.int p2), .val (.ref b1), .unset, .unset] [(.int (0 : Int32)), (.ref b1), (.int (0 : Int32)), (.ref a0)])) (fun _ k => XS.iconst X1.here hx rfl (hb hby d5_7) k) ?_
  refine run_fwd (T' := T1) (g' := (mkF m 9 #[.val (.ref a0), .val (.int (0 : Int32)), .val (.int p2), .val (.ref b1), .unset, .unset] [(.int p2), (.int (0 : Int32)), (.ref b1), (.int (0 : Int32)), (.ref a0)])) (fun _ k => XS.iloadN X1.here hx rfl (hb hby d5_8) rfl k) ?_
  have f5 : Arv Z h1 a0 kc .char p2 (own_tab F N) (.int (0 : Int32)) := (Vi0.ext E1)
  obtain ⟨T4, v4, L4, X4, hQ4, st4⟩ := own_gotS X1 (Jvm.LawKit.callS X1 hx (y := (⟨"java/lang/StringUTF16", "compress", "([CI[BII)I"⟩ : MethodName)) hown (mvT hZ (hw _ (List.mem_of_getElem? (i := 24) rfl))) (mvT hZ (hw _ (List.mem_of_getElem? (i := 25) rfl))) (mvT hZ (hw _ (List.mem_of_getElem? (i := 21) rfl))) (mvT hZ (hw _ (List.mem_of_getElem? (i := 26) rfl))) (by decide) (backOf (W := 0) (rmCz l Z aV hw [] a0 b1 p2 kc k1 N F h1 n0 O2 gg1 f5 V1 ((Nat.ne_of_lt (Nat.lt_of_lt_of_le Vi0.lt (Nat.le_of_eq g1.symm)))) (hn) (hN) (hF)) hZ (hw _ (List.mem_of_getElem? (i := 26) rfl)) (hw _ (List.mem_of_getElem? (i := 21) rfl)) (by decide) (by decide)) (g := (mkF m 9 #[.val (.ref a0), .val (.int (0 : Int32)), .val (.int p2), .val (.ref b1), .unset, .unset] [(.int p2), (.int (0 : Int32)), (.ref b1), (.int (0 : Int32)), (.ref a0)])) rfl (by rw [hml]; rfl) (argsL := [(.ref a0), (.int (0 : Int32)), (.ref b1), (.int (0 : Int32)), (.int p2)]) (rest := []) (lenOf pd__28_5bCI_5bBII_29I rfl) rfl (by show 2 * 0 + _ ≤ _; exact Nat.le_of_eq rfl) (hb hby d5_9) (fun _ _ => ⟨rfl, e1, (by decide : 1 + 0 ≤ _), (by decide : 16 + 0 ≤ _)⟩))
  obtain ⟨rfl, N4q, Q4_0, Q4_1⟩ := hQ4
  have N4 := Fr.app N0 N4q
  obtain ⟨h4, e4⟩ : ∃ z, T4.heap = z := ⟨_, rfl⟩
  rw [e4] at Q4_0 Q4_1
  have O6 : Old Z n0 h4 := O2.keep Q4_0 (allS gg1 all0)
  have K7 : Keep h0 h4 [] := K3.trans Q4_0 (allS (Or.inr sz1) all0)
  refine run_fwd (T' := T4) (g' := (mkF m 12 #[.val (.ref a0), .val (.int (0 : Int32)), .val (.int p2), .val (.ref b1), .unset, .unset] [(.int p2)])) (fun _ k => st4 _ k) ?_
  refine run_fwd (T' := T4) (g' := (mkF m 14 #[.val (.ref a0), .val (.int (0 : Int32)), .val (.int p2), .val (.ref b1), .val (.int p2), .unset] [])) (fun _ k => XS.istore X4.here hx rfl (hb hby d5_12) rfl (l' := #[.val (.ref a0), .val (.int (0 : Int32)), .val (.int p2), .val (.ref b1), .val (.int p2), .unset]) rfl k) ?_
  refine run_fwd (T' := T4) (g' := (mkF m 16 #[.val (.ref a0), .val (.int (0 : Int32)), .val (.int p2), .val (.ref b1), .val (.int p2), .unset] [(.int p2)])) (fun _ k => XS.iload X4.here hx rfl (hb hby d5_14) rfl k) ?_
  refine run_fwd (T' := T4) (g' := (mkF m 17 #[.val (.ref a0), .val (.int (0 : Int32)), .val (.int p2), .val (.ref b1), .val (.int p2), .unset] [(.int p2), (.int p2)])) (fun _ k => XS.iloadN X4.here hx rfl (hb hby d5_16) rfl k) ?_
  have hc17_8 : p2 = p2 := rfl
  refine run_fwd (T' := T4) (g' := (mkF m 57 #[.val (.ref a0), .val (.int (0 : Int32)), .val (.int p2), .val (.ref b1), .val (.int p2), .unset] [])) (fun _ k => XS.icmpYes X4.here hx rfl (pc0 := 17) (pc' := 57) rfl (hb hby d5_17) rfl (teq hc17_8).1 (by decide) (by decide) k) ?_
  refine run_fwd (T' := T4) (g' := (mkF m 58 #[.val (.ref a0), .val (.int (0 : Int32)), .val (.int p2), .val (.ref b1), .val (.int p2), .unset] [(.ref b1)])) (fun _ k => XS.aloadN X4.here hx rfl (hb hby d5_57) rfl rfl k) ?_
  exact run_ret X4 hx Bd.returns Bd.notSynchronized rfl (Or.inr (Or.inr (Or.inr (Or.inr ⟨rfl, rfl, rfl⟩)))) (hb hby d5_58) (by rw [e4]; exact ⟨b1, k1, rfl, N4, K7, sz1, Q4_1⟩) (by decide) (by decide)
theorem d7_0 : decode jdk_52_method_15_code 0 = .ok (.iload_n 1, 1) := by decide +kernel
theorem d7_1 : decode jdk_52_method_15_code 1 = .ok (.aload_n 0, 1) := by decide +kernel
theorem d7_2 : decode jdk_52_method_15_code 2 = .ok (.arraylength, 1) := by decide +kernel
theorem d7_3 : decode jdk_52_method_15_code 3 = .ok (.isub, 1) := by decide +kernel
theorem d7_4 : decode jdk_52_method_15_code 4 = .ok (.bipush 31, 2) := by decide +kernel
theorem d7_6 : decode jdk_52_method_15_code 6 = .ok (.iushr, 1) := by decide +kernel
theorem d7_7 : decode jdk_52_method_15_code 7 = .ok (.i2b, 1) := by decide +kernel
theorem d7_8 : decode jdk_52_method_15_code 8 = .ok (.ireturn, 1) := by decide +kernel
theorem ef_rmCl (m : MethodId) (x0 : Addr) (x1 : Int32) : entryFrame m #[(.ref x0), (.int x1)] 2 = mkF m 0 #[.val (.ref x0), .val (.int x1)] [] := by first | (simp [entryFrame, mkF, argsToLocals, Value.category]; done) | rfl
def QrmCl (Z : State) (a0 : Addr) (p1 : Int32) (kb : ClassId) (vs : List Value) (h0 : Heap) (n0 : Nat) (v : Option Value) (h : Heap) (L : List Loc) : Prop := v = some (.int (0 : Int32)) ∧ Fr n0 L ∧ h = h0
set_option maxRecDepth 65536 in
set_option maxHeartbeats 40000000 in
theorem rmCl (l : Launch) (Z : State) (aV : Array Value) (hw : ∀ d ∈ tables_1, d.before aV Z = true) (ws : List Jvm.Cond) (a0 : Addr) (p1 : Int32) (kb : ClassId) (vs : List Value) (h0 : Heap) (n0 : Nat) (O0 : Old Z n0 h0) (Vi0 : Arv Z h0 a0 kb .byte p1 vs (.int (0 : Int32))) :
    MetFree l (⟨"java/lang/StringUTF16", "coderFromArrayLen", "([BI)B"⟩ : MethodName) (head1 (Jvm.Cond.code (⟨"java/lang/StringUTF16", "coderFromArrayLen", "([BI)B"⟩ : MethodName) jdk_52_method_15_code 2 (some .byte) :: ws) ({ frames := 0, cells := 0, slots := 0, locals := 0 } : Room)) (fun a U => a = #[(.ref a0), (.int p1)] ∧ Z.Warmed39 U.vm ∧ U.heap = h0) (fun _ _ _ _ _ => True) (fun _ U o U' => ∃ v L, o = .returned v ∧ QrmCl Z a0 p1 kb vs h0 n0 v U'.heap L ∧ FrameEnd U o U' L ({ frames := 0, cells := 0, slots := 0, locals := 0 } : Room).cells ({ frames := 0, cells := 0, slots := 0, locals := 0 } : Room).slots) := by
  refine MetFree.of_bodySF (plainFor_of_name pn_java_lang_StringUTF16) hisR ?_
  intro p e s m args below meth c s₁ Bd hml0 hP hK
  obtain ⟨rfl, hZ, hh⟩ := hP
  have hx := Bd.exec
  have hby := Bd.bytes
  have hml : c.maxLocals = 2 := hml0
  have hown : s.vm.findClass "java/lang/StringUTF16" = some m.cls := findClass_of_methodNamed Bd.named
  have hnm := (name_of_methodNamed Bd.named Bd.method).1
  have X0 : Stand p l e ({ frames := 0, cells := 0, slots := 0, locals := 0 } : Room) s m #[(.ref a0), (.int p1)] below meth c s₁ [] 0 0 := Stand.of_body Bd
  have e0 : s₁.heap = h0 := by rw [← hh, Bd.state]; rfl
  have N0 := Fr.nil n0
  show Run p.tables e below (Wd s (QrmCl Z a0 p1 kb vs h0 n0) ({ frames := 0, cells := 0, slots := 0, locals := 0 } : Room).cells ({ frames := 0, cells := 0, slots := 0, locals := 0 } : Room).slots) s₁ (entryFrame m #[(.ref a0), (.int p1)] 2)
  rw [ef_rmCl m a0 p1]
  refine run_fwd (T' := s₁) (g' := (mkF m 1 #[.val (.ref a0), .val (.int p1)] [(.int p1)])) (fun _ k => XS.iloadN X0.here hx rfl (hb hby d7_0) rfl k) ?_
  refine run_fwd (T' := s₁) (g' := (mkF m 2 #[.val (.ref a0), .val (.int p1)] [(.ref a0), (.int p1)])) (fun _ k => XS.aloadN X0.here hx rfl (hb hby d7_1) rfl rfl k) ?_
  obtain ⟨cl1, Ar1, -, S1, M1, -, -⟩ := id (Vi0)
  refine run_fwd (T' := s₁) (g' := (mkF m 3 #[.val (.ref a0), .val (.int p1)] [(.int p1), (.int p1)])) (fun _ k => X0.arraylength hx (by rw [e0]; exact Ar1.1) (State.isArrayOf_alike hZ.alike Ar1.2.1) (g := (mkF m 2 #[.val (.ref a0), .val (.int p1)] [(.ref a0), (.int p1)])) rfl rfl (hb hby d7_2) _ (by rw [len_of S1 M1]; exact k)) ?_
  refine run_fwd (T' := s₁) (g' := (mkF m 4 #[.val (.ref a0), .val (.int p1)] [(.int (p1 - p1))])) (fun _ k => XS.isub X0.here hx rfl (hb hby d7_3) rfl k) ?_
  refine run_fwd (T' := s₁) (g' := (mkF m 6 #[.val (.ref a0), .val (.int p1)] [(.int (31 : Int32)), (.int (p1 - p1))])) (fun _ k => XS.bipush X0.here hx rfl (hb hby d7_4) k) ?_
  refine run_fwd (T' := s₁) (g' := (mkF m 7 #[.val (.ref a0), .val (.int p1)] [(.int (((p1 - p1).toUInt32 >>> ((31 : Int32) &&& 31).toUInt32).toInt32))])) (fun _ k => XS.iushr X0.here hx rfl (hb hby d7_6) rfl k) ?_
  refine run_fwd (T' := s₁) (g' := (mkF m 8 #[.val (.ref a0), .val (.int p1)] [(.int ((((p1 - p1).toUInt32 >>> ((31 : Int32) &&& 31).toUInt32).toInt32).toInt8.toInt32))])) (fun _ k => XS.i2b X0.here hx rfl (hb hby d7_7) rfl k) ?_
  exact run_retN X0 hx (t := .byte) Bd.returns Bd.notSynchronized (by simp) (hb hby d7_8) (by rw [e0]; exact ⟨by rw [own_cod], N0, rfl⟩) (by decide) (by decide)
theorem d3_0 : decode jdk_42_method_149_code 0 = .ok (.aload_n 0, 1) := by decide +kernel
theorem d3_1 : decode jdk_42_method_149_code 1 = .ok (.invokespecial 1, 3) := by decide +kernel
theorem d3_4 : decode jdk_42_method_149_code 4 = .ok (.iload_n 3, 1) := by decide +kernel
theorem d3_5 : decode jdk_42_method_149_code 5 = .ok (.ifCond .ne 22, 3) := by decide +kernel
theorem d3_27 : decode jdk_42_method_149_code 27 = .ok (.getstatic 38, 3) := by decide +kernel
theorem d3_30 : decode jdk_42_method_149_code 30 = .ok (.ifCond .eq 28, 3) := by decide +kernel
theorem d3_33 : decode jdk_42_method_149_code 33 = .ok (.aload_n 1, 1) := by decide +kernel
theorem d3_34 : decode jdk_42_method_149_code 34 = .ok (.iload_n 2, 1) := by decide +kernel
theorem d3_35 : decode jdk_42_method_149_code 35 = .ok (.iload_n 3, 1) := by decide +kernel
theorem d3_36 : decode jdk_42_method_149_code 36 = .ok (.invokestatic 177, 3) := by decide +kernel
theorem pd__28_5bCII_29_5bB : parseMethodDescriptor "([CII)[B" = some ⟨[(.array .char), .int, .int], some (.array .byte)⟩ := by decide +kernel
theorem d3_39 : decode jdk_42_method_149_code 39 = .ok (.astore 5, 2) := by decide +kernel
theorem d3_41 : decode jdk_42_method_149_code 41 = .ok (.aload_n 0, 1) := by decide +kernel
theorem d3_42 : decode jdk_42_method_149_code 42 = .ok (.aload 5, 2) := by decide +kernel
theorem d3_44 : decode jdk_42_method_149_code 44 = .ok (.iload_n 3, 1) := by decide +kernel
theorem d3_45 : decode jdk_42_method_149_code 45 = .ok (.invokestatic 47, 3) := by decide +kernel
theorem pd__28_5bBI_29B : parseMethodDescriptor "([BI)B" = some ⟨[(.array .byte), .int], some .byte⟩ := by decide +kernel
theorem d3_48 : decode jdk_42_method_149_code 48 = .ok (.putfield 15, 3) := by decide +kernel
theorem d3_51 : decode jdk_42_method_149_code 51 = .ok (.aload_n 0, 1) := by decide +kernel
theorem d3_52 : decode jdk_42_method_149_code 52 = .ok (.aload 5, 2) := by decide +kernel
theorem d3_54 : decode jdk_42_method_149_code 54 = .ok (.putfield 9, 3) := by decide +kernel
theorem d3_57 : decode jdk_42_method_149_code 57 = .ok (.return_, 1) := by decide +kernel
theorem pn_java_lang_String : plainName "java/lang/String" = true := by first | (simp [plainName, overriddenIn]; done) | decide +kernel
theorem ef_rmCx (m : MethodId) (x0 : Addr) (x1 : Addr) (x2 : Int32) (x3 : Int32) : entryFrame m #[(.ref x0), (.ref x1), (.int x2), (.int x3), .null] 6 = mkF m 0 #[.val (.ref x0), .val (.ref x1), .val (.int x2), .val (.int x3), .val .null, .unset] [] := by first | (simp [entryFrame, mkF, argsToLocals, Value.category]; done) | rfl
def QrmCx (Z : State) (a0 : Addr) (a1 : Addr) (p3 : Int32) (kc : ClassId) (N : Nat) (F : Nat → Int32) (cs : Int32) (h0 : Heap) (n0 : Nat) (v : Option Value) (h : Heap) (L : List Loc) : Prop := ∃ (t : Addr) (kt : ClassId), v = none ∧ Fr n0 L ∧ Keep h0 h [a0] ∧ Exa Z h a0 "java/lang/String" ∧ Fld Z h a0 "java/lang/String" "coder" "B" (.int (0 : Int32)) ∧ Fld Z h a0 "java/lang/String" "value" "[B" (.ref t) ∧ Arv Z h t kt .byte p3 (own_tab (own_by F) N) (.int (0 : Int32)) ∧ h0.size ≤ t
set_option maxRecDepth 65536 in
set_option maxHeartbeats 40000000 in
theorem rmCx (l : Launch) (Z : State) (aV : Array Value) (hw : ∀ d ∈ tables_1, d.before aV Z = true) (ws : List Jvm.Cond) (a0 : Addr) (a1 : Addr) (p3 : Int32) (kc : ClassId) (N : Nat) (F : Nat → Int32) (cs : Int32) (h0 : Heap) (n0 : Nat) (O0 : Old Z n0 h0) (gi0 : n0 ≤ a0) (Ei1 : Exa Z h0 a0 "java/lang/String") (Fi2 : Fld Z h0 a0 "java/lang/String" "value" "[B" .null) (Fi3 : Fld Z h0 a0 "java/lang/String" "coder" "B" (.int (0 : Int32))) (Vi4 : Arv Z h0 a1 kc .char p3 (own_tab F N) (.int (0 : Int32))) (Si5 : Sta Z Z.heap "java/lang/String" "COMPACT_STRINGS" "Z" (.int cs)) (hcs : ¬ cs = (0 : Int32)) (hne : a1 ≠ a0) (hn : p3.toInt = N) (hN : 1 ≤ N ∧ N ≤ 16) (hF : ∀ j, j < N → ¬ (255 : Int32) < F j) :
    MetFree l (⟨"java/lang/String", "<init>", "([CIILjava/lang/Void;)V"⟩ : MethodName) (head1 (Jvm.Cond.code (⟨"java/lang/String", "<init>", "([CIILjava/lang/Void;)V"⟩ : MethodName) jdk_42_method_149_code 6 none :: ws) ({ frames := 2, cells := 1, slots := 16, locals := 35 } : Room)) (fun a U => a = #[(.ref a0), (.ref a1), (.int (0 : Int32)), (.int p3), .null] ∧ Z.Warmed39 U.vm ∧ U.heap = h0) (fun _ _ _ _ _ => True) (fun _ U o U' => ∃ v L, o = .returned v ∧ QrmCx Z a0 a1 p3 kc N F cs h0 n0 v U'.heap L ∧ FrameEnd U o U' L ({ frames := 2, cells := 1, slots := 16, locals := 35 } : Room).cells ({ frames := 2, cells := 1, slots := 16, locals := 35 } : Room).slots) := by
  refine MetFree.of_bodySF (plainFor_of_name pn_java_lang_String) hisR ?_
  intro p e s m args below meth c s₁ Bd hml0 hP hK
  obtain ⟨rfl, hZ, hh⟩ := hP
  have hx := Bd.exec
  have hby := Bd.bytes
  have hml : c.maxLocals = 6 := hml0
  have hown : s.vm.findClass "java/lang/String" = some m.cls := findClass_of_methodNamed Bd.named
  have hnm := (name_of_methodNamed Bd.named Bd.method).1
  have X0 : Stand p l e ({ frames := 2, cells := 1, slots := 16, locals := 35 } : Room) s m #[(.ref a0), (.ref a1), (.int (0 : Int32)), (.int p3), .null] below meth c s₁ [] 0 0 := Stand.of_body Bd
  have e0 : s₁.heap = h0 := by rw [← hh, Bd.state]; rfl
  have N0 := Fr.nil n0
  show Run p.tables e below (Wd s (QrmCx Z a0 a1 p3 kc N F cs h0 n0) ({ frames := 2, cells := 1, slots := 16, locals := 35 } : Room).cells ({ frames := 2, cells := 1, slots := 16, locals := 35 } : Room).slots) s₁ (entryFrame m #[(.ref a0), (.ref a1), (.int (0 : Int32)), (.int p3), .null] 6)
  rw [ef_rmCx m a0 a1 ((0 : Int32)) p3]
  refine run_fwd (T' := s₁) (g' := (mkF m 1 #[.val (.ref a0), .val (.ref a1), .val (.int (0 : Int32)), .val (.int p3), .val .null, .unset] [(.ref a0)])) (fun _ k => XS.aloadN X0.here hx rfl (hb hby d3_0) rfl rfl k) ?_
  obtain ⟨T1, X1, e1, st1⟩ := initO X0 hx hZ hown (hw _ (List.mem_of_getElem? (i := 15) rfl)) (hw _ (List.mem_of_getElem? (i := 16) rfl)) (hw _ (List.mem_of_getElem? (i := 17) rfl)) e0 (g := (mkF m 1 #[.val (.ref a0), .val (.ref a1), .val (.int (0 : Int32)), .val (.int p3), .val .null, .unset] [(.ref a0)])) rfl (by rw [hml]; rfl) rfl (hb hby d3_1) (by decide) (W := 0) (by show 2 * 0 + _ ≤ _; exact Nat.le_of_eq rfl) (by decide)
  refine run_fwd (T' := T1) (g' := (mkF m 4 #[.val (.ref a0), .val (.ref a1), .val (.int (0 : Int32)), .val (.int p3), .val .null, .unset] [])) (fun _ k => st1 _ k) ?_
  refine run_fwd (T' := T1) (g' := (mkF m 5 #[.val (.ref a0), .val (.ref a1), .val (.int (0 : Int32)), .val (.int p3), .val .null, .unset] [(.int p3)])) (fun _ k => XS.iloadN X1.here hx rfl (hb hby d3_4) rfl k) ?_
  have hc5_2 : ¬ (p3 = (0 : Int32)) := by rw [← Int32.toInt_inj, hn]; show ¬ (N : Int) = 0; omega
  refine run_fwd (T' := T1) (g' := (mkF m 27 #[.val (.ref a0), .val (.ref a1), .val (.int (0 : Int32)), .val (.int p3), .val .null, .unset] [])) (fun _ k => XS.ifYes X1.here hx rfl (pc0 := 5) (pc' := 27) rfl (hb hby d3_5) rfl ((if0 _ _).trans (feq hc5_2).2) (by decide) (by decide) k) ?_
  obtain ⟨T3, X3, e3, st3⟩ := getS2 X1 hx hZ hown (host := "") (Or.inl (hw _ (List.mem_of_getElem? (i := 18) rfl))) Via.refl e1 (Si5.ext O0.2) (g := (mkF m 27 #[.val (.ref a0), .val (.ref a1), .val (.int (0 : Int32)), .val (.int p3), .val .null, .unset] [])) rfl (hb hby d3_27)
  refine run_fwd (T' := T3) (g' := (mkF m 30 #[.val (.ref a0), .val (.ref a1), .val (.int (0 : Int32)), .val (.int p3), .val .null, .unset] [(.int cs)])) (fun _ k => st3 _ k) ?_
  have hc30_4 : ¬ (cs = (0 : Int32)) := hcs
  refine run_fwd (T' := T3) (g' := (mkF m 33 #[.val (.ref a0), .val (.ref a1), .val (.int (0 : Int32)), .val (.int p3), .val .null, .unset] [])) (fun _ k => XS.ifNo X3.here hx rfl (hb hby d3_30) rfl ((if0 _ _).trans (feq hc30_4).1) k) ?_
  refine run_fwd (T' := T3) (g' := (mkF m 34 #[.val (.ref a0), .val (.ref a1), .val (.int (0 : Int32)), .val (.int p3), .val .null, .unset] [(.ref a1)])) (fun _ k => XS.aloadN X3.here hx rfl (hb hby d3_33) rfl rfl k) ?_
  refine run_fwd (T' := T3) (g' := (mkF m 35 #[.val (.ref a0), .val (.ref a1), .val (.int (0 : Int32)), .val (.int p3), .val .null, .unset] [(.int (0 : Int32)), (.ref a1)])) (fun _ k => XS.iloadN X3.here hx rfl (hb hby d3_34) rfl k) ?_
  refine run_fwd (T' := T3) (g' := (mkF m 36 #[.val (.ref a0), .val (.ref a1), .val (.int (0 : Int32)), .val (.int p3), .val .null, .unset] [(.int p3), (.int (0 : Int32)), (.ref a1)])) (fun _ k => XS.iloadN X3.here hx rfl (hb hby d3_35) rfl k) ?_
  obtain ⟨T5, v5, L5, X5, hQ5, st5⟩ := own_gotS X3 (Jvm.LawKit.callS X3 hx (y := (⟨"java/lang/StringUTF16", "compress", "([CII)[B"⟩ : MethodName)) hown (mvT hZ (hw _ (List.mem_of_getElem? (i := 19) rfl))) (mvT hZ (hw _ (List.mem_of_getElem? (i := 20) rfl))) (mvT hZ (hw _ (List.mem_of_getElem? (i := 21) rfl))) (mvT hZ (hw _ (List.mem_of_getElem? (i := 22) rfl))) (by decide) (backOf (W := 0) (rmCy l Z aV hw [] a1 p3 kc N F h0 n0 O0 Vi4 (hn) (hN.2) (hF)) hZ (hw _ (List.mem_of_getElem? (i := 22) rfl)) (hw _ (List.mem_of_getElem? (i := 21) rfl)) (by decide) (by decide)) (g := (mkF m 36 #[.val (.ref a0), .val (.ref a1), .val (.int (0 : Int32)), .val (.int p3), .val .null, .unset] [(.int p3), (.int (0 : Int32)), (.ref a1)])) rfl (by rw [hml]; rfl) (argsL := [(.ref a1), (.int (0 : Int32)), (.int p3)]) (rest := []) (lenOf pd__28_5bCII_29_5bB rfl) rfl (by show 2 * 0 + _ ≤ _; exact Nat.le_of_eq rfl) (hb hby d3_36) (fun _ _ => ⟨rfl, e3, (by decide : 0 + 1 ≤ _), (by decide : 0 + 16 ≤ _)⟩))
  obtain ⟨b_5, kb_5, rfl, N5q, Q5_0, Q5_1, Q5_2⟩ := hQ5
  have N5 := Fr.app N0 N5q
  obtain ⟨h5, e5⟩ : ∃ z, T5.heap = z := ⟨_, rfl⟩
  rw [e5] at Q5_0 Q5_2
  have O6 : Old Z n0 h5 := O0.keep Q5_0 all0
  have K7 : Keep h0 h5 [a0] := (Keep.refl h0 [a0]).trans Q5_0 all0
  have gg5_1 : n0 ≤ b_5 := Nat.le_trans (own_le O0) Q5_1
  have sz5_1 : h0.size ≤ b_5 := (Nat.le_trans (Keep.refl h0 [a0]).1 Q5_1)
  refine run_fwd (T' := T5) (g' := (mkF m 39 #[.val (.ref a0), .val (.ref a1), .val (.int (0 : Int32)), .val (.int p3), .val .null, .unset] [(.ref b_5)])) (fun _ k => st5 _ k) ?_
  refine run_fwd (T' := T5) (g' := (mkF m 41 #[.val (.ref a0), .val (.ref a1), .val (.int (0 : Int32)), .val (.int p3), .val .null, .val (.ref b_5)] [])) (fun _ k => XS.astore X5.here hx rfl (hb hby d3_39) rfl rfl (l' := #[.val (.ref a0), .val (.ref a1), .val (.int (0 : Int32)), .val (.int p3), .val .null, .val (.ref b_5)]) rfl k) ?_
  refine run_fwd (T' := T5) (g' := (mkF m 42 #[.val (.ref a0), .val (.ref a1), .val (.int (0 : Int32)), .val (.int p3), .val .null, .val (.ref b_5)] [(.ref a0)])) (fun _ k => XS.aloadN X5.here hx rfl (hb hby d3_41) rfl rfl k) ?_
  refine run_fwd (T' := T5) (g' := (mkF m 44 #[.val (.ref a0), .val (.ref a1), .val (.int (0 : Int32)), .val (.int p3), .val .null, .val (.ref b_5)] [(.ref b_5), (.ref a0)])) (fun _ k => XS.aload X5.here hx rfl (hb hby d3_42) rfl rfl k) ?_
  refine run_fwd (T' := T5) (g' := (mkF m 45 #[.val (.ref a0), .val (.ref a1), .val (.int (0 : Int32)), .val (.int p3), .val .null, .val (.ref b_5)] [(.int p3), (.ref b_5), (.ref a0)])) (fun _ k => XS.iloadN X5.here hx rfl (hb hby d3_44) rfl k) ?_
  obtain ⟨T8, v8, L8, X8, hQ8, st8⟩ := own_gotS X5 (Jvm.LawKit.callS X5 hx (y := (⟨"java/lang/StringUTF16", "coderFromArrayLen", "([BI)B"⟩ : MethodName)) hown (mvT hZ (hw _ (List.mem_of_getElem? (i := 27) rfl))) (mvT hZ (hw _ (List.mem_of_getElem? (i := 28) rfl))) (mvT hZ (hw _ (List.mem_of_getElem? (i := 21) rfl))) (mvT hZ (hw _ (List.mem_of_getElem? (i := 29) rfl))) (by decide) (backOf (W := 1) (rmCl l Z aV hw [] b_5 p3 kb_5 (own_tab (own_by F) N) h5 n0 O6 Q5_2) hZ (hw _ (List.mem_of_getElem? (i := 29) rfl)) (hw _ (List.mem_of_getElem? (i := 21) rfl)) (by decide) (by decide)) (g := (mkF m 45 #[.val (.ref a0), .val (.ref a1), .val (.int (0 : Int32)), .val (.int p3), .val .null, .val (.ref b_5)] [(.int p3), (.ref b_5), (.ref a0)])) rfl (by rw [hml]; rfl) (argsL := [(.ref b_5), (.int p3)]) (rest := [(.ref a0)]) (lenOf pd__28_5bBI_29B rfl) rfl (by show 2 * 0 + _ ≤ _; exact Nat.le_of_eq rfl) (hb hby d3_45) (fun _ _ => ⟨rfl, e5, (by decide : 1 + 0 ≤ _), (by decide : 16 + 0 ≤ _)⟩))
  obtain ⟨rfl, N8q, Q8_0⟩ := hQ8
  have N8 := Fr.app N5 N8q
  refine run_fwd (T' := T8) (g' := (mkF m 48 #[.val (.ref a0), .val (.ref a1), .val (.int (0 : Int32)), .val (.int p3), .val .null, .val (.ref b_5)] [(.int (0 : Int32)), (.ref a0)])) (fun _ k => st8 _ k) ?_
  have f9 : Exa Z h5 a0 "java/lang/String" := (Ei1.keep Q5_0)
  have f10 : Fld Z h5 a0 "java/lang/String" "coder" "B" (.int (0 : Int32)) := (Fi3.keep Q5_0 nin0)
  obtain ⟨T11, h11, X11, e11, W11, st11⟩ := putF X8 hx hZ hown (host := "") (Or.inl (hw _ (List.mem_of_getElem? (i := 30) rfl))) Via.refl Q8_0 f10 f9 (Or.inr ⟨(hw _ (List.mem_of_getElem? (i := 31) rfl)), rfl, hnm⟩) (hw _ (List.mem_of_getElem? (i := 5) rfl)) (ty := .byte) (by decide) (by decide) (by decide) (g := (mkF m 48 #[.val (.ref a0), .val (.ref a1), .val (.int (0 : Int32)), .val (.int p3), .val .null, .val (.ref b_5)] [(.int (0 : Int32)), (.ref a0)])) rfl rfl (hb hby d3_48)
  have O12 : Old Z n0 h11 := O6.wr W11 gi0
  have K13 : Keep h0 h11 [a0] := K7.wr W11 (Or.inl (List.mem_of_getElem? (i := 0) rfl))
  have N11 := Fr.snoc X11 N8 gi0
  have Fw11 : Fld Z h11 a0 "java/lang/String" "coder" "B" (.int (0 : Int32)) := f10.same W11
  refine run_fwd (T' := T11) (g' := (mkF m 51 #[.val (.ref a0), .val (.ref a1), .val (.int (0 : Int32)), .val (.int p3), .val .null, .val (.ref b_5)] [])) (fun _ k => st11 _ k) ?_
  refine run_fwd (T' := T11) (g' := (mkF m 52 #[.val (.ref a0), .val (.ref a1), .val (.int (0 : Int32)), .val (.int p3), .val .null, .val (.ref b_5)] [(.ref a0)])) (fun _ k => XS.aloadN X11.here hx rfl (hb hby d3_51) rfl rfl k) ?_
  refine run_fwd (T' := T11) (g' := (mkF m 54 #[.val (.ref a0), .val (.ref a1), .val (.int (0 : Int32)), .val (.int p3), .val .null, .val (.ref b_5)] [(.ref b_5), (.ref a0)])) (fun _ k => XS.aload X11.here hx rfl (hb hby d3_52) rfl rfl k) ?_
  have f14 : Exa Z h11 a0 "java/lang/String" := (f9.wr W11)
  have f15 : Fld Z h11 a0 "java/lang/String" "value" "[B" .null := ((Fi2.keep Q5_0 nin0).other W11 (Or.inr (slot_ne (Or.inr (hw _ (List.mem_of_getElem? (i := 33) rfl))) (Or.inr (hw _ (List.mem_of_getElem? (i := 31) rfl))) (by decide) (t := (.array .byte)) (t' := .byte) (by decide) (by decide))))
  obtain ⟨T16, h16, X16, e16, W16, st16⟩ := putF X11 hx hZ hown (host := "") (Or.inl (hw _ (List.mem_of_getElem? (i := 32) rfl))) Via.refl e11 f15 f14 (Or.inr ⟨(hw _ (List.mem_of_getElem? (i := 33) rfl)), rfl, hnm⟩) (hw _ (List.mem_of_getElem? (i := 5) rfl)) (ty := (.array .byte)) (by decide) rfl rfl (g := (mkF m 54 #[.val (.ref a0), .val (.ref a1), .val (.int (0 : Int32)), .val (.int p3), .val .null, .val (.ref b_5)] [(.ref b_5), (.ref a0)])) rfl rfl (hb hby d3_54)
  have O17 : Old Z n0 h16 := O12.wr W16 gi0
  have K18 : Keep h0 h16 [a0] := K13.wr W16 (Or.inl (List.mem_of_getElem? (i := 0) rfl))
  have N16 := Fr.snoc X16 N11 gi0
  have Fw16 : Fld Z h16 a0 "java/lang/String" "value" "[B" (.ref b_5) := f15.same W16
  refine run_fwd (T' := T16) (g' := (mkF m 57 #[.val (.ref a0), .val (.ref a1), .val (.int (0 : Int32)), .val (.int p3), .val .null, .val (.ref b_5)] [])) (fun _ k => st16 _ k) ?_
  exact run_ret0 X16 hx Bd.returns Bd.notSynchronized (hb hby d3_57) (by rw [e16]; exact ⟨b_5, kb_5, rfl, N16, K18, (f14.wr W16), (Fw11.other W16 (Or.inr (slot_ne (Or.inr (hw _ (List.mem_of_getElem? (i := 31) rfl))) (Or.inr (hw _ (List.mem_of_getElem? (i := 33) rfl))) (by decide) (t := .byte) (t' := (.array .byte)) (by decide) (by decide)))), Fw16, ((Q5_2.other W11 (Ne.symm (Nat.ne_of_lt (Nat.lt_of_lt_of_le Fi3.lt Q5_1)))).other W16 (Ne.symm (Nat.ne_of_lt (Nat.lt_of_lt_of_le Fi3.lt Q5_1)))), sz5_1⟩) (by decide) (by decide)
theorem d2_0 : decode jdk_42_method_3_code 0 = .ok (.aload_n 0, 1) := by decide +kernel
theorem d2_1 : decode jdk_42_method_3_code 1 = .ok (.aload_n 1, 1) := by decide +kernel
theorem d2_2 : decode jdk_42_method_3_code 2 = .ok (.iconst 0, 1) := by decide +kernel
theorem d2_3 : decode jdk_42_method_3_code 3 = .ok (.aload_n 1, 1) := by decide +kernel
theorem d2_4 : decode jdk_42_method_3_code 4 = .ok (.arraylength, 1) := by decide +kernel
theorem d2_5 : decode jdk_42_method_3_code 5 = .ok (.aconst_null, 1) := by decide +kernel
theorem d2_6 : decode jdk_42_method_3_code 6 = .ok (.invokespecial 27, 3) := by decide +kernel
theorem pd__28_5bCIILjava_2flang_2fVoid_3b_29V : parseMethodDescriptor "([CIILjava/lang/Void;)V" = some ⟨[(.array .char), .int, .int, (.object "java/lang/Void")], none⟩ := by decide +kernel
theorem d2_9 : decode jdk_42_method_3_code 9 = .ok (.return_, 1) := by decide +kernel
theorem ef_rmC (m : MethodId) (x0 : Addr) (x1 : Addr) : entryFrame m #[(.ref x0), (.ref x1)] 2 = mkF m 0 #[.val (.ref x0), .val (.ref x1)] [] := by first | (simp [entryFrame, mkF, argsToLocals, Value.category]; done) | rfl
def QrmC (Z : State) (a0 : Addr) (a1 : Addr) (n : Int32) (kc : ClassId) (N : Nat) (F : Nat → Int32) (cs : Int32) (h0 : Heap) (n0 : Nat) (v : Option Value) (h : Heap) (L : List Loc) : Prop := ∃ (t : Addr) (kt : ClassId), v = none ∧ Fr n0 L ∧ Keep h0 h [a0] ∧ Exa Z h a0 "java/lang/String" ∧ Fld Z h a0 "java/lang/String" "coder" "B" (.int (0 : Int32)) ∧ Fld Z h a0 "java/lang/String" "value" "[B" (.ref t) ∧ Arv Z h t kt .byte n (own_tab (own_by F) N) (.int (0 : Int32)) ∧ h0.size ≤ t
set_option maxRecDepth 65536 in
set_option maxHeartbeats 40000000 in
theorem rmC (l : Launch) (Z : State) (aV : Array Value) (hw : ∀ d ∈ tables_1, d.before aV Z = true) (ws : List Jvm.Cond) (a0 : Addr) (a1 : Addr) (n : Int32) (kc : ClassId) (N : Nat) (F : Nat → Int32) (cs : Int32) (h0 : Heap) (n0 : Nat) (O0 : Old Z n0 h0) (gi0 : n0 ≤ a0) (Ei1 : Exa Z h0 a0 "java/lang/String") (Fi2 : Fld Z h0 a0 "java/lang/String" "value" "[B" .null) (Fi3 : Fld Z h0 a0 "java/lang/String" "coder" "B" (.int (0 : Int32))) (Vi4 : Arv Z h0 a1 kc .char n (own_tab F N) (.int (0 : Int32))) (Si5 : Sta Z Z.heap "java/lang/String" "COMPACT_STRINGS" "Z" (.int cs)) (hcs : ¬ cs = (0 : Int32)) (hne : a1 ≠ a0) (hn : n.toInt = N) (hN : 1 ≤ N ∧ N ≤ 16) (hF : ∀ j, j < N → ¬ (255 : Int32) < F j) :
    MetFree l (⟨"java/lang/String", "<init>", "([C)V"⟩ : MethodName) (head1 (Jvm.Cond.code (⟨"java/lang/String", "<init>", "([C)V"⟩ : MethodName) jdk_42_method_3_code 2 none :: ws) ({ frames := 3, cells := 1, slots := 16, locals := 52 } : Room)) (fun a U => a = #[(.ref a0), (.ref a1)] ∧ Z.Warmed39 U.vm ∧ U.heap = h0) (fun _ _ _ _ _ => True) (fun _ U o U' => ∃ v L, o = .returned v ∧ QrmC Z a0 a1 n kc N F cs h0 n0 v U'.heap L ∧ FrameEnd U o U' L ({ frames := 3, cells := 1, slots := 16, locals := 52 } : Room).cells ({ frames := 3, cells := 1, slots := 16, locals := 52 } : Room).slots) := by
  refine MetFree.of_bodySF (plainFor_of_name pn_java_lang_String) hisR ?_
  intro p e s m args below meth c s₁ Bd hml0 hP hK
  obtain ⟨rfl, hZ, hh⟩ := hP
  have hx := Bd.exec
  have hby := Bd.bytes
  have hml : c.maxLocals = 2 := hml0
  have hown : s.vm.findClass "java/lang/String" = some m.cls := findClass_of_methodNamed Bd.named
  have hnm := (name_of_methodNamed Bd.named Bd.method).1
  have X0 : Stand p l e ({ frames := 3, cells := 1, slots := 16, locals := 52 } : Room) s m #[(.ref a0), (.ref a1)] below meth c s₁ [] 0 0 := Stand.of_body Bd
  have e0 : s₁.heap = h0 := by rw [← hh, Bd.state]; rfl
  have N0 := Fr.nil n0
  show Run p.tables e below (Wd s (QrmC Z a0 a1 n kc N F cs h0 n0) ({ frames := 3, cells := 1, slots := 16, locals := 52 } : Room).cells ({ frames := 3, cells := 1, slots := 16, locals := 52 } : Room).slots) s₁ (entryFrame m #[(.ref a0), (.ref a1)] 2)
  rw [ef_rmC m a0 a1]
  refine run_fwd (T' := s₁) (g' := (mkF m 1 #[.val (.ref a0), .val (.ref a1)] [(.ref a0)])) (fun _ k => XS.aloadN X0.here hx rfl (hb hby d2_0) rfl rfl k) ?_
  refine run_fwd (T' := s₁) (g' := (mkF m 2 #[.val (.ref a0), .val (.ref a1)] [(.ref a1), (.ref a0)])) (fun _ k => XS.aloadN X0.here hx rfl (hb hby d2_1) rfl rfl k) ?_
  refine run_fwd (T' := s₁) (g' := (mkF m 3 #[.val (.ref a0), .val (.ref a1)] [(.int (0 : Int32)), (.ref a1), (.ref a0)])) (fun _ k => XS.iconst X0.here hx rfl (hb hby d2_2) k) ?_
  refine run_fwd (T' := s₁) (g' := (mkF m 4 #[.val (.ref a0), .val (.ref a1)] [(.ref a1), (.int (0 : Int32)), (.ref a1), (.ref a0)])) (fun _ k => XS.aloadN X0.here hx rfl (hb hby d2_3) rfl rfl k) ?_
  obtain ⟨cl1, Ar1, -, S1, M1, -, -⟩ := id (Vi4)
  refine run_fwd (T' := s₁) (g' := (mkF m 5 #[.val (.ref a0), .val (.ref a1)] [(.int n), (.int (0 : Int32)), (.ref a1), (.ref a0)])) (fun _ k => X0.arraylength hx (by rw [e0]; exact Ar1.1) (State.isArrayOf_alike hZ.alike Ar1.2.1) (g := (mkF m 4 #[.val (.ref a0), .val (.ref a1)] [(.ref a1), (.int (0 : Int32)), (.ref a1), (.ref a0)])) rfl rfl (hb hby d2_4) _ (by rw [len_of S1 M1]; exact k)) ?_
  refine run_fwd (T' := s₁) (g' := (mkF m 6 #[.val (.ref a0), .val (.ref a1)] [.null, (.int n), (.int (0 : Int32)), (.ref a1), (.ref a0)])) (fun _ k => XS.aconstNull X0.here hx rfl (hb hby d2_5) k) ?_
  obtain ⟨T2, v2, L2, X2, hQ2, st2⟩ := own_gotV X0 (X0.specialBack hx (y := (⟨"java/lang/String", "<init>", "([CIILjava/lang/Void;)V"⟩ : MethodName)) rfl hown (mvT hZ (hw _ (List.mem_of_getElem? (i := 11) rfl))) (mvT hZ (hw _ (List.mem_of_getElem? (i := 12) rfl))) (mvT hZ (hw _ (List.mem_of_getElem? (i := 14) rfl))) (by decide) (backOf (W := 0) (rmCx l Z aV hw [] a0 a1 n kc N F cs h0 n0 O0 gi0 Ei1 Fi2 Fi3 Vi4 Si5 (hcs) (hne) (hn) (hN) (hF)) hZ (hw _ (List.mem_of_getElem? (i := 14) rfl)) (hw _ (List.mem_of_getElem? (i := 6) rfl)) (by decide) (by decide)) (g := (mkF m 6 #[.val (.ref a0), .val (.ref a1)] [.null, (.int n), (.int (0 : Int32)), (.ref a1), (.ref a0)])) rfl (by rw [hml]; rfl) (Steps.refl _) (a := a0) (argsL := [(.ref a1), (.int (0 : Int32)), (.int n), .null]) (rest := []) (lenOf pd__28_5bCIILjava_2flang_2fVoid_3b_29V rfl) rfl (by show 2 * 0 + _ ≤ _; exact Nat.le_of_eq rfl) (hb hby d2_6) (fun _ _ => ⟨rfl, e0, (by decide : 0 + 1 ≤ _), (by decide : 0 + 16 ≤ _)⟩))
  obtain ⟨t_2, kt_2, rfl, N2q, Q2_0, Q2_1, Q2_2, Q2_3, Q2_4, Q2_5⟩ := hQ2
  have N2 := Fr.app N0 N2q
  obtain ⟨h2, e2⟩ : ∃ z, T2.heap = z := ⟨_, rfl⟩
  rw [e2] at Q2_0 Q2_1 Q2_2 Q2_3 Q2_4
  have O3 : Old Z n0 h2 := O0.keep Q2_0 (allS gi0 all0)
  have K4 : Keep h0 h2 [a0] := (Keep.refl h0 [a0]).trans Q2_0 (allS (Or.inl (List.mem_of_getElem? (i := 0) rfl)) all0)
  have gg2_5 : n0 ≤ t_2 := Nat.le_trans (own_le O0) Q2_5
  have sz2_5 : h0.size ≤ t_2 := (Nat.le_trans (Keep.refl h0 [a0]).1 Q2_5)
  refine run_fwd (T' := T2) (g' := (mkF m 9 #[.val (.ref a0), .val (.ref a1)] [])) (fun _ k => st2.trans k) ?_
  exact run_ret0 X2 hx Bd.returns Bd.notSynchronized (hb hby d2_9) (by rw [e2]; exact ⟨t_2, kt_2, rfl, N2, K4, Q2_1, Q2_2, Q2_3, Q2_4, sz2_5⟩) (by decide) (by decide)
theorem d15_0 : decode jdk_42_method_152_code 0 = .ok (.getstatic 38, 3) := by decide +kernel
theorem d15_3 : decode jdk_42_method_152_code 3 = .ok (.ifCond .eq 10, 3) := by decide +kernel
theorem d15_6 : decode jdk_42_method_152_code 6 = .ok (.aload_n 0, 1) := by decide +kernel
theorem d15_7 : decode jdk_42_method_152_code 7 = .ok (.getfield 15, 3) := by decide +kernel
theorem d15_10 : decode jdk_42_method_152_code 10 = .ok (.goto 4, 3) := by decide +kernel
theorem d15_14 : decode jdk_42_method_152_code 14 = .ok (.ireturn, 1) := by decide +kernel
theorem ef_rmCo (m : MethodId) (x0 : Addr) : entryFrame m #[(.ref x0)] 1 = mkF m 0 #[.val (.ref x0)] [] := by first | (simp [entryFrame, mkF, argsToLocals, Value.category]; done) | rfl
def QrmCo (Z : State) (a0 : Addr) (cs : Int32) (h0 : Heap) (n0 : Nat) (v : Option Value) (h : Heap) (L : List Loc) : Prop := v = some (.int (0 : Int32)) ∧ Fr n0 L ∧ h = h0
set_option maxRecDepth 65536 in
set_option maxHeartbeats 40000000 in
theorem rmCo (l : Launch) (Z : State) (aV : Array Value) (hw : ∀ d ∈ tables_1, d.before aV Z = true) (ws : List Jvm.Cond) (a0 : Addr) (cs : Int32) (h0 : Heap) (n0 : Nat) (O0 : Old Z n0 h0) (Fi0 : Fld Z h0 a0 "java/lang/String" "coder" "B" (.int (0 : Int32))) (Si1 : Sta Z Z.heap "java/lang/String" "COMPACT_STRINGS" "Z" (.int cs)) (hcs : ¬ cs = (0 : Int32)) :
    MetFree l (⟨"java/lang/String", "coder", "()B"⟩ : MethodName) (head1 (Jvm.Cond.code (⟨"java/lang/String", "coder", "()B"⟩ : MethodName) jdk_42_method_152_code 1 (some .byte) :: ws) ({ frames := 0, cells := 0, slots := 0, locals := 0 } : Room)) (fun a U => a = #[(.ref a0)] ∧ Z.Warmed39 U.vm ∧ U.heap = h0) (fun _ _ _ _ _ => True) (fun _ U o U' => ∃ v L, o = .returned v ∧ QrmCo Z a0 cs h0 n0 v U'.heap L ∧ FrameEnd U o U' L ({ frames := 0, cells := 0, slots := 0, locals := 0 } : Room).cells ({ frames := 0, cells := 0, slots := 0, locals := 0 } : Room).slots) := by
  refine MetFree.of_bodySF (plainFor_of_name pn_java_lang_String) hisR ?_
  intro p e s m args below meth c s₁ Bd hml0 hP hK
  obtain ⟨rfl, hZ, hh⟩ := hP
  have hx := Bd.exec
  have hby := Bd.bytes
  have hml : c.maxLocals = 1 := hml0
  have hown : s.vm.findClass "java/lang/String" = some m.cls := findClass_of_methodNamed Bd.named
  have hnm := (name_of_methodNamed Bd.named Bd.method).1
  have X0 : Stand p l e ({ frames := 0, cells := 0, slots := 0, locals := 0 } : Room) s m #[(.ref a0)] below meth c s₁ [] 0 0 := Stand.of_body Bd
  have e0 : s₁.heap = h0 := by rw [← hh, Bd.state]; rfl
  have N0 := Fr.nil n0
  show Run p.tables e below (Wd s (QrmCo Z a0 cs h0 n0) ({ frames := 0, cells := 0, slots := 0, locals := 0 } : Room).cells ({ frames := 0, cells := 0, slots := 0, locals := 0 } : Room).slots) s₁ (entryFrame m #[(.ref a0)] 1)
  rw [ef_rmCo m a0]
  obtain ⟨T1, X1, e1, st1⟩ := getS2 X0 hx hZ hown (host := "") (Or.inl (hw _ (List.mem_of_getElem? (i := 18) rfl))) Via.refl e0 (Si1.ext O0.2) (g := (mkF m 0 #[.val (.ref a0)] [])) rfl (hb hby d15_0)
  refine run_fwd (T' := T1) (g' := (mkF m 3 #[.val (.ref a0)] [(.int cs)])) (fun _ k => st1 _ k) ?_
  have hc3_2 : ¬ (cs = (0 : Int32)) := hcs
  refine run_fwd (T' := T1) (g' := (mkF m 6 #[.val (.ref a0)] [])) (fun _ k => XS.ifNo X1.here hx rfl (hb hby d15_3) rfl ((if0 _ _).trans (feq hc3_2).1) k) ?_
  refine run_fwd (T' := T1) (g' := (mkF m 7 #[.val (.ref a0)] [(.ref a0)])) (fun _ k => XS.aloadN X1.here hx rfl (hb hby d15_6) rfl rfl k) ?_
  obtain ⟨T3, X3, e3, st3⟩ := getF X1 hx hZ hown (host := "") (Or.inl (hw _ (List.mem_of_getElem? (i := 30) rfl))) Via.refl e1 Fi0 (g := (mkF m 7 #[.val (.ref a0)] [(.ref a0)])) rfl rfl (hb hby d15_7)
  refine run_fwd (T' := T3) (g' := (mkF m 10 #[.val (.ref a0)] [(.int (0 : Int32))])) (fun _ k => st3 _ k) ?_
  refine run_fwd (T' := T3) (g' := (mkF m 14 #[.val (.ref a0)] [(.int (0 : Int32))])) (fun _ k => XS.goto X3.here hx rfl (pc0 := 10) (pc' := 14) rfl (hb hby d15_10) (by decide) (by decide) k) ?_
  exact run_ret X3 hx Bd.returns Bd.notSynchronized rfl (Or.inl ⟨rfl, by simp, _, rfl⟩) (hb hby d15_14) (by rw [e3]; exact ⟨rfl, N0, rfl⟩) (by decide) (by decide)
theorem d14_0 : decode jdk_42_method_54_code 0 = .ok (.aload_n 0, 1) := by decide +kernel
theorem d14_1 : decode jdk_42_method_54_code 1 = .ok (.getfield 9, 3) := by decide +kernel
theorem d14_4 : decode jdk_42_method_54_code 4 = .ok (.arraylength, 1) := by decide +kernel
theorem d14_5 : decode jdk_42_method_54_code 5 = .ok (.aload_n 0, 1) := by decide +kernel
theorem d14_6 : decode jdk_42_method_54_code 6 = .ok (.invokevirtual 335, 3) := by decide +kernel
theorem pd__28_29B : parseMethodDescriptor "()B" = some ⟨[], some .byte⟩ := by decide +kernel
theorem d14_9 : decode jdk_42_method_54_code 9 = .ok (.ishr, 1) := by decide +kernel
theorem d14_10 : decode jdk_42_method_54_code 10 = .ok (.ireturn, 1) := by decide +kernel
theorem ef_rmLen (m : MethodId) (x0 : Addr) : entryFrame m #[(.ref x0)] 1 = mkF m 0 #[.val (.ref x0)] [] := by first | (simp [entryFrame, mkF, argsToLocals, Value.category]; done) | rfl
def QrmLen (Z : State) (a0 : Addr) (t : Addr) (kt : ClassId) (n : Int32) (vs : List Value) (cs : Int32) (h0 : Heap) (n0 : Nat) (v : Option Value) (h : Heap) (L : List Loc) : Prop := v = some (.int n) ∧ Fr n0 L ∧ h = h0
set_option maxRecDepth 65536 in
set_option maxHeartbeats 40000000 in
theorem rmLen (l : Launch) (Z : State) (aV : Array Value) (hw : ∀ d ∈ tables_1, d.before aV Z = true) (ws : List Jvm.Cond) (a0 : Addr) (t : Addr) (kt : ClassId) (n : Int32) (vs : List Value) (cs : Int32) (h0 : Heap) (n0 : Nat) (O0 : Old Z n0 h0) (Ei0 : Exa Z h0 a0 "java/lang/String") (Fi1 : Fld Z h0 a0 "java/lang/String" "coder" "B" (.int (0 : Int32))) (Fi2 : Fld Z h0 a0 "java/lang/String" "value" "[B" (.ref t)) (Vi3 : Arv Z h0 t kt .byte n vs (.int (0 : Int32))) (Si4 : Sta Z Z.heap "java/lang/String" "COMPACT_STRINGS" "Z" (.int cs)) (hcs : ¬ cs = (0 : Int32)) :
    MetFree l (⟨"java/lang/String", "length", "()I"⟩ : MethodName) (head1 (Jvm.Cond.code (⟨"java/lang/String", "length", "()I"⟩ : MethodName) jdk_42_method_54_code 1 (some .int) :: ws) ({ frames := 1, cells := 0, slots := 0, locals := 13 } : Room)) (fun a U => a = #[(.ref a0)] ∧ Z.Warmed39 U.vm ∧ U.heap = h0) (fun _ _ _ _ _ => True) (fun _ U o U' => ∃ v L, o = .returned v ∧ QrmLen Z a0 t kt n vs cs h0 n0 v U'.heap L ∧ FrameEnd U o U' L ({ frames := 1, cells := 0, slots := 0, locals := 13 } : Room).cells ({ frames := 1, cells := 0, slots := 0, locals := 13 } : Room).slots) := by
  refine MetFree.of_bodySF (plainFor_of_name pn_java_lang_String) hisR ?_
  intro p e s m args below meth c s₁ Bd hml0 hP hK
  obtain ⟨rfl, hZ, hh⟩ := hP
  have hx := Bd.exec
  have hby := Bd.bytes
  have hml : c.maxLocals = 1 := hml0
  have hown : s.vm.findClass "java/lang/String" = some m.cls := findClass_of_methodNamed Bd.named
  have hnm := (name_of_methodNamed Bd.named Bd.method).1
  have X0 : Stand p l e ({ frames := 1, cells := 0, slots := 0, locals := 13 } : Room) s m #[(.ref a0)] below meth c s₁ [] 0 0 := Stand.of_body Bd
  have e0 : s₁.heap = h0 := by rw [← hh, Bd.state]; rfl
  have N0 := Fr.nil n0
  show Run p.tables e below (Wd s (QrmLen Z a0 t kt n vs cs h0 n0) ({ frames := 1, cells := 0, slots := 0, locals := 13 } : Room).cells ({ frames := 1, cells := 0, slots := 0, locals := 13 } : Room).slots) s₁ (entryFrame m #[(.ref a0)] 1)
  rw [ef_rmLen m a0]
  refine run_fwd (T' := s₁) (g' := (mkF m 1 #[.val (.ref a0)] [(.ref a0)])) (fun _ k => XS.aloadN X0.here hx rfl (hb hby d14_0) rfl rfl k) ?_
  obtain ⟨T1, X1, e1, st1⟩ := getF X0 hx hZ hown (host := "") (Or.inl (hw _ (List.mem_of_getElem? (i := 32) rfl))) Via.refl e0 Fi2 (g := (mkF m 1 #[.val (.ref a0)] [(.ref a0)])) rfl rfl (hb hby d14_1)
  refine run_fwd (T' := T1) (g' := (mkF m 4 #[.val (.ref a0)] [(.ref t)])) (fun _ k => st1 _ k) ?_
  obtain ⟨cl2, Ar2, -, S2, M2, -, -⟩ := id (Vi3)
  refine run_fwd (T' := T1) (g' := (mkF m 5 #[.val (.ref a0)] [(.int n)])) (fun _ k => X1.arraylength hx (by rw [e1]; exact Ar2.1) (State.isArrayOf_alike hZ.alike Ar2.2.1) (g := (mkF m 4 #[.val (.ref a0)] [(.ref t)])) rfl rfl (hb hby d14_4) _ (by rw [len_of S2 M2]; exact k)) ?_
  refine run_fwd (T' := T1) (g' := (mkF m 6 #[.val (.ref a0)] [(.ref a0), (.int n)])) (fun _ k => XS.aloadN X1.here hx rfl (hb hby d14_5) rfl rfl k) ?_
  obtain ⟨cq3, kq3, qr3a, qr3b, qr3c⟩ := isOf hZ e1 Ei0
  obtain ⟨T3, v3, L3, X3, hQ3, st3⟩ := own_gotV X1 (X1.virtualBack hx (y := (⟨"java/lang/String", "coder", "()B"⟩ : MethodName)) (z := (⟨"java/lang/String", "coder", "()B"⟩ : MethodName)) hown (mvT hZ (hw _ (List.mem_of_getElem? (i := 81) rfl))) (mvT hZ (hw _ (List.mem_of_getElem? (i := 82) rfl))) (notFace_of_selects (args := #[]) (mvT hZ (hw _ (List.mem_of_getElem? (i := 84) rfl)))) (mvT hZ (hw _ (List.mem_of_getElem? (i := 84) rfl))) (mvT hZ (hw _ (List.mem_of_getElem? (i := 83) rfl))) (by decide) (backOf (W := 1) (rmCo l Z aV hw [] a0 cs h0 n0 O0 Fi1 Si4 (hcs)) hZ (hw _ (List.mem_of_getElem? (i := 85) rfl)) (hw _ (List.mem_of_getElem? (i := 6) rfl)) (by decide) (by decide)) qr3a qr3c (g := (mkF m 6 #[.val (.ref a0)] [(.ref a0), (.int n)])) rfl (by rw [hml]; rfl) (Steps.refl _) (argsL := []) (rest := [(.int n)]) (lenOf pd__28_29B rfl) rfl (by show 2 * 0 + _ ≤ _; exact Nat.le_of_eq rfl) (hb hby d14_6) (fun _ _ => ⟨rfl, e1, (by decide : 0 + 0 ≤ _), (by decide : 0 + 0 ≤ _)⟩))
  obtain ⟨rfl, N3q, Q3_0⟩ := hQ3
  have N3 := Fr.app N0 N3q
  refine run_fwd (T' := T3) (g' := (mkF m 9 #[.val (.ref a0)] [(.int (0 : Int32)), (.int n)])) (fun _ k => st3.trans k) ?_
  refine run_fwd (T' := T3) (g' := (mkF m 10 #[.val (.ref a0)] [(.int (n >>> ((0 : Int32) &&& 31)))])) (fun _ k => XS.ishr X3.here hx rfl (hb hby d14_9) rfl k) ?_
  exact run_ret X3 hx Bd.returns Bd.notSynchronized rfl (Or.inl ⟨rfl, by simp, _, rfl⟩) (hb hby d14_10) (by rw [Q3_0]; exact ⟨by rw [own_shr0], N3, rfl⟩) (by decide) (by decide)
theorem d16_0 : decode jdk_42_method_66_code 0 = .ok (.aload_n 0, 1) := by decide +kernel
theorem d16_1 : decode jdk_42_method_66_code 1 = .ok (.aload_n 1, 1) := by decide +kernel
theorem d16_2 : decode jdk_42_method_66_code 2 = .ok (.if_acmp .ne 5, 3) := by decide +kernel
theorem d16_5 : decode jdk_42_method_66_code 5 = .ok (.iconst 1, 1) := by decide +kernel
theorem d16_6 : decode jdk_42_method_66_code 6 = .ok (.ireturn, 1) := by decide +kernel
theorem ef_rmEqI (m : MethodId) (x0 : Addr) (x1 : Addr) : entryFrame m #[(.ref x0), (.ref x1)] 3 = mkF m 0 #[.val (.ref x0), .val (.ref x1), .unset] [] := by first | (simp [entryFrame, mkF, argsToLocals, Value.category]; done) | rfl
def QrmEqI (Z : State) (a0 : Addr) (h0 : Heap) (n0 : Nat) (v : Option Value) (h : Heap) (L : List Loc) : Prop := v = some (.int (1 : Int32)) ∧ Fr n0 L ∧ h = h0
set_option maxRecDepth 65536 in
set_option maxHeartbeats 40000000 in
theorem rmEqI (l : Launch) (Z : State) (aV : Array Value) (hw : ∀ d ∈ tables_1, d.before aV Z = true) (ws : List Jvm.Cond) (a0 : Addr) (h0 : Heap) (n0 : Nat) (O0 : Old Z n0 h0) :
    MetFree l (⟨"java/lang/String", "equals", "(Ljava/lang/Object;)Z"⟩ : MethodName) (head1 (Jvm.Cond.code (⟨"java/lang/String", "equals", "(Ljava/lang/Object;)Z"⟩ : MethodName) jdk_42_method_66_code 3 (some .boolean) :: ws) ({ frames := 0, cells := 0, slots := 0, locals := 0 } : Room)) (fun a U => a = #[(.ref a0), (.ref a0)] ∧ Z.Warmed39 U.vm ∧ U.heap = h0) (fun _ _ _ _ _ => True) (fun _ U o U' => ∃ v L, o = .returned v ∧ QrmEqI Z a0 h0 n0 v U'.heap L ∧ FrameEnd U o U' L ({ frames := 0, cells := 0, slots := 0, locals := 0 } : Room).cells ({ frames := 0, cells := 0, slots := 0, locals := 0 } : Room).slots) := by
  refine MetFree.of_bodySF (plainFor_of_name pn_java_lang_String) hisR ?_
  intro p e s m args below meth c s₁ Bd hml0 hP hK
  obtain ⟨rfl, hZ, hh⟩ := hP
  have hx := Bd.exec
  have hby := Bd.bytes
  have hml : c.maxLocals = 3 := hml0
  have hown : s.vm.findClass "java/lang/String" = some m.cls := findClass_of_methodNamed Bd.named
  have hnm := (name_of_methodNamed Bd.named Bd.method).1
  have X0 : Stand p l e ({ frames := 0, cells := 0, slots := 0, locals := 0 } : Room) s m #[(.ref a0), (.ref a0)] below meth c s₁ [] 0 0 := Stand.of_body Bd
  have e0 : s₁.heap = h0 := by rw [← hh, Bd.state]; rfl
  have N0 := Fr.nil n0
  show Run p.tables e below (Wd s (QrmEqI Z a0 h0 n0) ({ frames := 0, cells := 0, slots := 0, locals := 0 } : Room).cells ({ frames := 0, cells := 0, slots := 0, locals := 0 } : Room).slots) s₁ (entryFrame m #[(.ref a0), (.ref a0)] 3)
  rw [ef_rmEqI m a0 a0]
  refine run_fwd (T' := s₁) (g' := (mkF m 1 #[.val (.ref a0), .val (.ref a0), .unset] [(.ref a0)])) (fun _ k => XS.aloadN X0.here hx rfl (hb hby d16_0) rfl rfl k) ?_
  refine run_fwd (T' := s₁) (g' := (mkF m 2 #[.val (.ref a0), .val (.ref a0), .unset] [(.ref a0), (.ref a0)])) (fun _ k => XS.aloadN X0.here hx rfl (hb hby d16_1) rfl rfl k) ?_
  refine run_fwd (T' := s₁) (g' := (mkF m 5 #[.val (.ref a0), .val (.ref a0), .unset] [])) (fun _ k => Jvm.RoadKit.acmp (g := (mkF m 2 #[.val (.ref a0), .val (.ref a0), .unset] [(.ref a0), (.ref a0)])) X0 hx rfl rfl rfl (pc0 := 2) (pc' := 5) (same := true) rfl (hb hby d16_2) rfl (decide_eq_true rfl) (by decide) (by decide) k) ?_
  refine run_fwd (T' := s₁) (g' := (mkF m 6 #[.val (.ref a0), .val (.ref a0), .unset] [(.int (1 : Int32))])) (fun _ k => XS.iconst X0.here hx rfl (hb hby d16_5) k) ?_
  exact run_ret X0 hx Bd.returns Bd.notSynchronized rfl (Or.inl ⟨rfl, by simp, _, rfl⟩) (hb hby d16_6) (by rw [e0]; exact ⟨rfl, N0, rfl⟩) (by decide) (by decide)
theorem own_eqint {args : Array Value} {s : State} {t : Term} {k : Int32} (h : (Jvm.Cond.eq t (Term.int k)).value args s none s [] = some true) : t.eval args s none [] s = some (.int k) := by
  simp only [Cond.value, Term.eval] at h
  cases ht : t.eval args s none [] s with
  | none => simp [ht] at h
  | some x => cases x <;> simp [ht] at h ⊢ <;> exact h
theorem own_sta {args : Array Value} {s : State} {C f d K : String} (hx : (Jvm.Cond.exactly (Term.static C f d) K).value args s none s [] = some true) (hi : (Cond.initializedFor C f d).before args s = true ∨ ((Cond.initialized C).before args s = true ∧ (Cond.laysStatic C f d).before args s = true)) : ∃ a, (Term.static C f d).eval args s none [] s = some (.ref a) ∧ Sta s s.heap C f d (.ref a) ∧ Exa s s.heap a K := by
  obtain ⟨a, ha⟩ := exa_v hx
  exact ⟨a, ha, Sta.start ha hi, Exa.start ha hx⟩
theorem own_fld {args : Array Value} {s : State} {t : Term} {C n dd : String} {a : Addr} {k : Int32} (ha : t.eval args s none [] s = some (.ref a)) (hf : (Jvm.Cond.eq (Term.field t C n dd) (Term.int k)).value args s none s [] = some true) : Fld s s.heap a C n dd (.int k) :=
  Fld.start (by have q := own_eqint hf; rw [fld_at ha] at q; exact q)
theorem own_eqref {args : Array Value} {s : State} {a b : Term} {e : Addr} (hb : b.eval args s none [] s = some (.ref e)) (h : (Jvm.Cond.eq a b).value args s none s [] = some true) : a.eval args s none [] s = some (.ref e) := by
  simp only [Cond.value] at h
  cases ha : a.eval args s none [] s with
  | none => simp [ha] at h
  | some x => cases x <;> simp [ha, hb] at h ⊢ <;> exact h
theorem own_nm {args : Array Value} {s : State} {t : Term} {C n d K : String} {a : Addr} (ht : t.eval args s none [] s = some (.ref a)) (hx : (Jvm.Cond.exactly (Term.field t C n d) K).value args s none s [] = some true) : ∃ b, (Term.field t C n d).eval args s none [] s = some (.ref b) ∧ Fld s s.heap a C n d (.ref b) ∧ Exa s s.heap b K := by
  obtain ⟨b, hb⟩ := exa_v hx
  exact ⟨b, hb, Fld.start (by rw [← fld_at ht]; exact hb), Exa.start hb hx⟩
theorem own_arr {args : Array Value} {s : State} {t : Term} {C n d : String} {ty : FieldType} {a : Addr} (ht : t.eval args s none [] s = some (.ref a)) (hx : (Jvm.Cond.arrayOf (Term.field t C n d) ty).value args s none s [] = some true) : ∃ b cl, (Term.field t C n d).eval args s none [] s = some (.ref b) ∧ Fld s s.heap a C n d (.ref b) ∧ Arr s s.heap b cl ty := by
  obtain ⟨b, hb⟩ := arr_v hx
  obtain ⟨cl, A⟩ := Arr.start hb hx
  exact ⟨b, cl, hb, Fld.start (by rw [← fld_at ht]; exact hb), A⟩
theorem own_len {args : Array Value} {s : State} {t : Term} {ty : FieldType} {a : Addr} {cl : Cell} {z : Int32} (ht : t.eval args s none [] s = some (.ref a)) (A : Arr s s.heap a cl ty) (hl : (Jvm.Cond.eq (Term.length t) (Term.int z)).value args s none s [] = some true) : cl.slots.size < 2 ^ 31 ∧ cl.slots.size.toInt32 = z := by
  have q := own_eqint hl
  have w := A.fin (Vm.Alike.refl s.vm)
  by_cases u : cl.slots.size < 2 ^ 31
  · rw [len_f ht w u] at q
    exact ⟨u, by injection q with q; injection q⟩
  · simp [Term.eval, ht, w, u] at q
theorem own_el {args : Array Value} {s : State} {t : Term} {ty : FieldType} {a : Addr} {cl : Cell} {j v : Int32} (ht : t.eval args s none [] s = some (.ref a)) (A : Arr s s.heap a cl ty) (he : (Jvm.Cond.eq (Term.elem t (Term.int j)) (Term.int v)).value args s none s [] = some true) : cl.slots[j.toNatClampNeg]? = some (.int v) := (elem_in (own_eqint he) ht (Term.int_eval j) A.1).2
theorem own_elr {args : Array Value} {s : State} {t b : Term} {ty : FieldType} {a e : Addr} {cl : Cell} {j : Int32} (ht : t.eval args s none [] s = some (.ref a)) (A : Arr s s.heap a cl ty) (hb : b.eval args s none [] s = some (.ref e)) (he : (Jvm.Cond.eq (Term.elem t (Term.int j)) b).value args s none s [] = some true) : cl.slots[j.toNatClampNeg]? = some (.ref e) := (elem_in (own_eqref hb he) ht (Term.int_eval j) A.1).2
theorem own_nei {args : Array Value} {s : State} {t : Term} {k x : Int32} (ht : t.eval args s none [] s = some (.int x)) (h : (Jvm.Cond.not (Jvm.Cond.eq t (Term.int k))).value args s none s [] = some true) : ¬ x = k := by
  have q := not_v h
  simp [Cond.value, Term.eval, ht] at q
  exact q
theorem own_fne {Z : State} {h : Heap} {a b x : Addr} {C n d : String} (F : Fld Z h a C n d .null) (G : Fld Z h b C n d (.ref x)) : a ≠ b := fun q => by
  subst q
  obtain ⟨c1, f1, k1, i1, g1, h1, h2, -, -, -, -, h3⟩ := F
  obtain ⟨c2, f2, k2, i2, g2, h1', h2', -, -, -, -, h3'⟩ := G
  cases h1.symm.trans h1'; cases h2.symm.trans h2'
  rw [h3] at h3'; cases h3'
theorem own_f0 {Z : State} {h : Heap} {a b : Addr} {C n d : String} {w dv : Value} {k : ClassId} {ty : FieldType} {vs : List Value} (F : Fld Z h a C n d w) (A : Arv Z h b k ty (0 : Int32) vs dv) : b ≠ a := fun q => by
  subst q
  obtain ⟨c1, f1, k1, i1, g1, h1, h2, -, -, -, -, h3⟩ := F
  obtain ⟨c2, ⟨h1', -⟩, -, sz, -⟩ := A
  cases h1.symm.trans h1'
  have q := (Array.getElem?_eq_some_iff.mp h3).1
  have z : (0 : Int32).toNatClampNeg = 0 := rfl
  omega
theorem own_arvn {Z : State} {h : Heap} {b : Addr} {k : ClassId} {ty : FieldType} {n n' : Int32} {vs : List Value} {dv : Value} (e : n = n') (A : Arv Z h b k ty n' vs dv) : Arv Z h b k ty n vs dv := by subst e; exact A
theorem own_ibw {Z : State} {vm0 vm1 : Vm} {Ts : List String} (I : IB Z vm0 Ts) (h : vm1.interned = vm0.interned) : IB Z vm1 Ts := by
  obtain ⟨more, e, q⟩ := I
  exact ⟨more, h.trans e, q⟩
theorem own_backOfI {p : Program} {l : Launch} {e : Env} {R : Room} {s Z : State} {below : List Frame} {args a0 : Array Value} {h : Heap} {y : MethodName} {bytes : ByteArray} {maxL : Nat} {ret : Option FieldType} {rm : Room} {len W : Nat} {as' : Array Value} {Q : Option Value → Heap → List Loc → Prop}
    (hM : MetFree l y (head1 [Cond.code y bytes maxL ret] rm) (fun a U => a = as' ∧ Z.Warmed39 U.vm ∧ U.heap = h ∧ IB Z U.vm []) (fun _ _ _ _ _ => True) (fun _ U o U' => ∃ v L, o = .returned v ∧ Q v U'.heap L ∧ ReturnedEndW U o U' L rm.cells rm.slots))
    (I : IB Z s.vm []) (hZ : Z.Warmed39 s.vm) (wc : (Cond.code y bytes maxL ret).before a0 Z = true) (wz : (Cond.initialized y.cls).before a0 Z = true) (hf : rm.frames + 1 ≤ R.frames) (hl : W + (maxL + 11) + rm.locals ≤ R.locals) :
    BackS l R p e below s args y len W (fun A a => a = as' ∧ A.U.heap = h ∧ A.cells + rm.cells ≤ R.cells ∧ A.slots + rm.slots ≤ R.slots)
      (fun A _ v B => ∃ L, Q v B.U.heap L ∧ B.locs = A.locs ++ L ∧ B.cells = A.cells + rm.cells ∧ B.slots = A.slots + rm.slots) :=
  BackS.of_freeW (bytes := bytes) (maxL := maxL) (ret := ret) (E := fun _ _ o t L k n => k = rm.cells ∧ n = rm.slots ∧ ∃ v, o = .returned v ∧ Q v t.heap L) hM hf hl
    (fun _ _ _ A a Y hp => have hU : Z.Warmed39 A.U.vm := wtrans hZ Y.warmed
      ⟨by show (Cond.and _ .tt).before a A.U = true; rw [Cond.before_and, mv hU wc]; rfl, mv hU wc, mv hU wz, hp.2.2.1, hp.2.2.2⟩)
    (fun _ _ _ _ _ _ _ Y hp => ⟨hp.1, wtrans hZ Y.warmed, hp.2.1, own_ibw I Y.warmed.interned_eq⟩) (fun _ _ _ _ _ _ _ _ _ => trivial)
    (fun _ _ _ _ ⟨v, L, h1, h2, h3⟩ => ⟨L, _, _, h3, rfl, rfl, v, h1, h2⟩)
    (fun _ _ _ _ _ _ _ _ _ L _ _ _ _ _ _ ⟨e1, e2, _, e3, e4⟩ => by cases e3; subst e1 e2; exact ⟨L, e4, rfl, rfl, rfl⟩)
def own_f (x y z : Int32) (j : Nat) : Int32 := ([x, y, z] : List Int32).getD j 0
theorem own_fb {x y z : Int32} {N : Nat} (hx : ¬ (255 : Int32) < x) (hy : ¬ (255 : Int32) < y) (hz : ¬ (255 : Int32) < z) (hN : N ≤ 3) : ∀ j, j < N → ¬ (255 : Int32) < own_f x y z j := fun j hj => by
  match j, hj with
  | 0, _ => exact hx
  | 1, _ => exact hy
  | 2, _ => exact hz
  | j + 3, hj => omega
theorem own_three {n : Int32} (h : n = 0 ∨ n = 1 ∨ n = 2 ∨ n = 3) (h0 : ¬ n = (0 : Int32)) (h1 : ¬ n = (1 : Int32)) (h2 : ¬ n = (2 : Int32)) : n = 3 := by
  rcases h with h | h | h | h
  · exact absurd h h0
  · exact absurd h h1
  · exact absurd h h2
  · exact h
theorem own_and3 (x : Int32) : (x &&& (3 : Int32)) = 0 ∨ (x &&& (3 : Int32)) = 1 ∨ (x &&& (3 : Int32)) = 2 ∨ (x &&& (3 : Int32)) = 3 := by
  have h : (x &&& (3 : Int32)).toBitVec.toNat ≤ 3 := by
    rw [Int32.toBitVec_and, BitVec.toNat_and]; exact Nat.and_le_right
  have k : ∀ y : Int32, (x &&& (3 : Int32)).toBitVec.toNat = y.toBitVec.toNat → (x &&& (3 : Int32)) = y := fun y q => Int32.toBitVec_inj.mp (BitVec.eq_of_toNat_eq q)
  rcases (by omega : (x &&& (3 : Int32)).toBitVec.toNat = 0 ∨ (x &&& (3 : Int32)).toBitVec.toNat = 1 ∨ (x &&& (3 : Int32)).toBitVec.toNat = 2 ∨ (x &&& (3 : Int32)).toBitVec.toNat = 3) with q | q | q | q
  · exact Or.inl (k 0 q)
  · exact Or.inr (Or.inl (k 1 q))
  · exact Or.inr (Or.inr (Or.inl (k 2 q)))
  · exact Or.inr (Or.inr (Or.inr (k 3 q)))
theorem own_c255 (x : Int32) : ¬ (255 : Int32) < nar .char ((x &&& (255 : Int32)).toUInt32.toUInt16.toUInt32.toInt32) := by
  show ¬ (255 : Int32) < ((x &&& (255 : Int32)).toUInt32.toUInt16.toUInt32.toInt32).toUInt32.toUInt16.toUInt32.toInt32
  rw [i2c_mask, i2c_mask, Int32.lt_iff_toInt_lt]
  have h : (x &&& (255 : Int32)).toBitVec.toNat ≤ 255 := by
    rw [Int32.toBitVec_and, BitVec.toNat_and]; exact Nat.and_le_right
  have q : (x &&& (255 : Int32)).toInt = (x &&& (255 : Int32)).toBitVec.toNat := BitVec.toInt_eq_toNat_of_lt (by omega)
  rw [q, show (255 : Int32).toInt = 255 from rfl]; omega

theorem d3_8 : decode jdk_42_method_149_code 8 = .ok (.aload_n 0, 1) := by decide +kernel
theorem d3_9 : decode jdk_42_method_149_code 9 = .ok (.ldc 7, 2) := by decide +kernel
theorem d3_11 : decode jdk_42_method_149_code 11 = .ok (.getfield 9, 3) := by decide +kernel
theorem d3_14 : decode jdk_42_method_149_code 14 = .ok (.putfield 9, 3) := by decide +kernel
theorem d3_17 : decode jdk_42_method_149_code 17 = .ok (.aload_n 0, 1) := by decide +kernel
theorem d3_18 : decode jdk_42_method_149_code 18 = .ok (.ldc 7, 2) := by decide +kernel
theorem d3_20 : decode jdk_42_method_149_code 20 = .ok (.getfield 15, 3) := by decide +kernel
theorem d3_23 : decode jdk_42_method_149_code 23 = .ok (.putfield 15, 3) := by decide +kernel
theorem d3_26 : decode jdk_42_method_149_code 26 = .ok (.return_, 1) := by decide +kernel
theorem ef_rmX0 (m : MethodId) (x0 : Addr) (x1 : Addr) (x2 : Int32) (x3 : Int32) : entryFrame m #[(.ref x0), (.ref x1), (.int x2), (.int x3), .null] 6 = mkF m 0 #[.val (.ref x0), .val (.ref x1), .val (.int x2), .val (.int x3), .val .null, .unset] [] := by first | (simp [entryFrame, mkF, argsToLocals, Value.category]; done) | rfl
def QrmX0 (Z : State) (a0 : Addr) (a1 : Addr) (h0 : Heap) (n0 : Nat) (v : Option Value) (h : Heap) (L : List Loc) : Prop := ∃ (t : Addr) (kt : ClassId), v = none ∧ Fr n0 L ∧ Keep h0 h [a0] ∧ Exa Z h a0 "java/lang/String" ∧ Fld Z h a0 "java/lang/String" "coder" "B" (.int (0 : Int32)) ∧ Fld Z h a0 "java/lang/String" "value" "[B" (.ref t) ∧ Arv Z h t kt .byte (0 : Int32) [] (.int (0 : Int32))
set_option maxRecDepth 65536 in
set_option maxHeartbeats 40000000 in
theorem rmX0 (l : Launch) (Z : State) (aV : Array Value) (hw : ∀ d ∈ tables_1, d.before aV Z = true) (ws : List Jvm.Cond) (a0 : Addr) (a1 : Addr) (h0 : Heap) (n0 : Nat) (O0 : Old Z n0 h0) (gi0 : n0 ≤ a0) (Ei1 : Exa Z h0 a0 "java/lang/String") (Fi2 : Fld Z h0 a0 "java/lang/String" "value" "[B" .null) (Fi3 : Fld Z h0 a0 "java/lang/String" "coder" "B" (.int (0 : Int32))) (hch : Jvm.Lit.constHeld Z "java/lang/String" 7) (hcw : Jvm.Lit.compactW.before aV Z = true) :
    MetFree l (⟨"java/lang/String", "<init>", "([CIILjava/lang/Void;)V"⟩ : MethodName) (head1 (Jvm.Cond.code (⟨"java/lang/String", "<init>", "([CIILjava/lang/Void;)V"⟩ : MethodName) jdk_42_method_149_code 6 none :: ws) ({ frames := 1, cells := 2, slots := 20, locals := 12 } : Room)) (fun a U => a = #[(.ref a0), (.ref a1), (.int (0 : Int32)), (.int (0 : Int32)), .null] ∧ Z.Warmed39 U.vm ∧ U.heap = h0 ∧ IB Z U.vm []) (fun _ _ _ _ _ => True) (fun _ U o U' => ∃ v L, o = .returned v ∧ QrmX0 Z a0 a1 h0 n0 v U'.heap L ∧ ReturnedEndW U o U' L ({ frames := 1, cells := 2, slots := 20, locals := 12 } : Room).cells ({ frames := 1, cells := 2, slots := 20, locals := 12 } : Room).slots) := by
  refine MetFree.of_bodySF (plainFor_of_name pn_java_lang_String) hisR ?_
  intro p e s m args below meth c s₁ Bd hml0 hP hK
  obtain ⟨rfl, hZ, hh, hI⟩ := hP
  have hx := Bd.exec
  have hby := Bd.bytes
  have hml : c.maxLocals = 6 := hml0
  have hown : s.vm.findClass "java/lang/String" = some m.cls := findClass_of_methodNamed Bd.named
  have hnm := (name_of_methodNamed Bd.named Bd.method).1
  have X0 : Stand p l e ({ frames := 1, cells := 2, slots := 20, locals := 12 } : Room) (s.setVm s.vm) m #[(.ref a0), (.ref a1), (.int (0 : Int32)), (.int (0 : Int32)), .null] below meth c s₁ [] 0 0 := Stand.of_body Bd
  have e0 : s₁.heap = h0 := by rw [← hh, Bd.state]; rfl
  have N0 := Fr.nil n0
  show Run p.tables e below (WdW s (QrmX0 Z a0 a1 h0 n0) ({ frames := 1, cells := 2, slots := 20, locals := 12 } : Room).cells ({ frames := 1, cells := 2, slots := 20, locals := 12 } : Room).slots) s₁ (entryFrame m #[(.ref a0), (.ref a1), (.int (0 : Int32)), (.int (0 : Int32)), .null] 6)
  rw [ef_rmX0 m a0 a1 ((0 : Int32)) ((0 : Int32))]
  have own_wS := own_wS' hw
  refine run_fwd (T' := s₁) (g' := (mkF m 1 #[.val (.ref a0), .val (.ref a1), .val (.int (0 : Int32)), .val (.int (0 : Int32)), .val .null, .unset] [(.ref a0)])) (fun _ k => XS.aloadN X0.here hx rfl (hb hby d3_0) rfl rfl k) ?_
  obtain ⟨T1, X1, e1, st1⟩ := initO X0 hx hZ hown (hw _ (List.mem_of_getElem? (i := 15) rfl)) (hw _ (List.mem_of_getElem? (i := 16) rfl)) (hw _ (List.mem_of_getElem? (i := 17) rfl)) e0 (g := (mkF m 1 #[.val (.ref a0), .val (.ref a1), .val (.int (0 : Int32)), .val (.int (0 : Int32)), .val .null, .unset] [(.ref a0)])) rfl (by rw [hml]; rfl) rfl (hb hby d3_1) (by decide) (W := 0) (by show 2 * 0 + _ ≤ _; exact Nat.le_of_eq rfl) (by decide)
  refine run_fwd (T' := T1) (g' := (mkF m 4 #[.val (.ref a0), .val (.ref a1), .val (.int (0 : Int32)), .val (.int (0 : Int32)), .val .null, .unset] [])) (fun _ k => st1 _ k) ?_
  refine run_fwd (T' := T1) (g' := (mkF m 5 #[.val (.ref a0), .val (.ref a1), .val (.int (0 : Int32)), .val (.int (0 : Int32)), .val .null, .unset] [(.int (0 : Int32))])) (fun _ k => XS.iloadN X1.here hx rfl (hb hby d3_4) rfl k) ?_
  have hc5_2 : (0 : Int32) = (0 : Int32) := rfl
  refine run_fwd (T' := T1) (g' := (mkF m 8 #[.val (.ref a0), .val (.ref a1), .val (.int (0 : Int32)), .val (.int (0 : Int32)), .val .null, .unset] [])) (fun _ k => XS.ifNo X1.here hx rfl (hb hby d3_5) rfl ((if0 _ _).trans (teq hc5_2).2) k) ?_
  refine run_fwd (T' := T1) (g' := (mkF m 9 #[.val (.ref a0), .val (.ref a1), .val (.int (0 : Int32)), .val (.int (0 : Int32)), .val .null, .unset] [(.ref a0)])) (fun _ k => XS.aloadN X1.here hx rfl (hb hby d3_8) rfl rfl k) ?_
  obtain ⟨b3, T3, h3, k3, d3, kd3, X3, e3, E3, hS3, hk3, hZ, hown, LE3, LC3, LV3, LA3, -, -, -, Lt3, st3⟩ := ldcSVL X1 hx hZ hown (hw _ (List.mem_of_getElem? (i := 91) rfl)) own_wS e1 ((State.WarmedH.refl s).since 0) (Nat.zero_le _) (Fr.nil _) (fun _ _ q => by rw [hh]; exact O0.2.2 _ _ q) hI (List.not_mem_nil) hch hcw (vs := []) (z := (0 : Int32)) ⟨by simp, by simp⟩ (by decide) (by decide) (g := (mkF m 9 #[.val (.ref a0), .val (.ref a1), .val (.int (0 : Int32)), .val (.int (0 : Int32)), .val .null, .unset] [(.ref a0)])) rfl (hb hby d3_9) (n := 16) (by decide) (by decide) (by decide) (by decide)
  have O4 : Old Z n0 h3 := O0.ext E3
  have K5 : Keep h0 h3 [a0] := (Keep.refl h0 [a0]).ext E3
  have f6 : Fld Z h3 a0 "java/lang/String" "value" "[B" .null := (Fi2.ext E3)
  have ap3 : a0 ≠ b3 := own_fne f6 LV3
  have aq3 : d3 ≠ a0 := own_f0 f6 LA3
  refine run_fwd (T' := T3) (g' := (mkF m 11 #[.val (.ref a0), .val (.ref a1), .val (.int (0 : Int32)), .val (.int (0 : Int32)), .val .null, .unset] [(.ref b3), (.ref a0)])) (fun _ k => st3 _ k) ?_
  obtain ⟨T7, X7, e7, st7⟩ := getF X3 hx hZ hown (host := "") (Or.inl (hw _ (List.mem_of_getElem? (i := 32) rfl))) Via.refl e3 LV3 (g := (mkF m 11 #[.val (.ref a0), .val (.ref a1), .val (.int (0 : Int32)), .val (.int (0 : Int32)), .val .null, .unset] [(.ref b3), (.ref a0)])) rfl rfl (hb hby d3_11)
  refine run_fwd (T' := T7) (g' := (mkF m 14 #[.val (.ref a0), .val (.ref a1), .val (.int (0 : Int32)), .val (.int (0 : Int32)), .val .null, .unset] [(.ref d3), (.ref a0)])) (fun _ k => st7 _ k) ?_
  have f8 : Exa Z h3 a0 "java/lang/String" := (Ei1.ext E3)
  obtain ⟨T9, h9, X9, e9, W9, st9⟩ := putF X7 hx hZ hown (host := "") (Or.inl (hw _ (List.mem_of_getElem? (i := 32) rfl))) Via.refl e7 f6 f8 (Or.inr ⟨(hw _ (List.mem_of_getElem? (i := 33) rfl)), rfl, hnm⟩) (hw _ (List.mem_of_getElem? (i := 5) rfl)) (ty := (.array .byte)) (by decide) rfl rfl (g := (mkF m 14 #[.val (.ref a0), .val (.ref a1), .val (.int (0 : Int32)), .val (.int (0 : Int32)), .val .null, .unset] [(.ref d3), (.ref a0)])) rfl rfl (hb hby d3_14)
  have O10 : Old Z n0 h9 := O4.wr W9 gi0
  have K11 : Keep h0 h9 [a0] := K5.wr W9 (Or.inl (List.mem_of_getElem? (i := 0) rfl))
  have N9 := Fr.snoc X9 N0 gi0
  have Fw9 : Fld Z h9 a0 "java/lang/String" "value" "[B" (.ref d3) := f6.same W9
  refine run_fwd (T' := T9) (g' := (mkF m 17 #[.val (.ref a0), .val (.ref a1), .val (.int (0 : Int32)), .val (.int (0 : Int32)), .val .null, .unset] [])) (fun _ k => st9 _ k) ?_
  refine run_fwd (T' := T9) (g' := (mkF m 18 #[.val (.ref a0), .val (.ref a1), .val (.int (0 : Int32)), .val (.int (0 : Int32)), .val .null, .unset] [(.ref a0)])) (fun _ k => XS.aloadN X9.here hx rfl (hb hby d3_17) rfl rfl k) ?_
  refine run_fwd (T' := T9) (g' := (mkF m 20 #[.val (.ref a0), .val (.ref a1), .val (.int (0 : Int32)), .val (.int (0 : Int32)), .val .null, .unset] [(.ref b3), (.ref a0)])) (fun _ k => ldcAgain X9 hx hZ hown (hw _ (List.mem_of_getElem? (i := 91) rfl)) Lt3 (g := (mkF m 18 #[.val (.ref a0), .val (.ref a1), .val (.int (0 : Int32)), .val (.int (0 : Int32)), .val .null, .unset] [(.ref a0)])) rfl (hb hby d3_18) _ k) ?_
  have f13 : Fld Z h9 b3 "java/lang/String" "coder" "B" (.int (0 : Int32)) := (LC3.other W9 (Or.inl (Ne.symm ap3)))
  obtain ⟨T14, X14, e14, st14⟩ := getF X9 hx hZ hown (host := "") (Or.inl (hw _ (List.mem_of_getElem? (i := 30) rfl))) Via.refl e9 f13 (g := (mkF m 20 #[.val (.ref a0), .val (.ref a1), .val (.int (0 : Int32)), .val (.int (0 : Int32)), .val .null, .unset] [(.ref b3), (.ref a0)])) rfl rfl (hb hby d3_20)
  refine run_fwd (T' := T14) (g' := (mkF m 23 #[.val (.ref a0), .val (.ref a1), .val (.int (0 : Int32)), .val (.int (0 : Int32)), .val .null, .unset] [(.int (0 : Int32)), (.ref a0)])) (fun _ k => st14 _ k) ?_
  have f15 : Exa Z h9 a0 "java/lang/String" := (f8.wr W9)
  have f16 : Fld Z h9 a0 "java/lang/String" "coder" "B" (.int (0 : Int32)) := ((Fi3.ext E3).other W9 (Or.inr (slot_ne (Or.inr (hw _ (List.mem_of_getElem? (i := 31) rfl))) (Or.inr (hw _ (List.mem_of_getElem? (i := 33) rfl))) (by decide) (t := .byte) (t' := (.array .byte)) (by decide) (by decide))))
  obtain ⟨T17, h17, X17, e17, W17, st17⟩ := putF X14 hx hZ hown (host := "") (Or.inl (hw _ (List.mem_of_getElem? (i := 30) rfl))) Via.refl e14 f16 f15 (Or.inr ⟨(hw _ (List.mem_of_getElem? (i := 31) rfl)), rfl, hnm⟩) (hw _ (List.mem_of_getElem? (i := 5) rfl)) (ty := .byte) (by decide) (by decide) (by decide) (g := (mkF m 23 #[.val (.ref a0), .val (.ref a1), .val (.int (0 : Int32)), .val (.int (0 : Int32)), .val .null, .unset] [(.int (0 : Int32)), (.ref a0)])) rfl rfl (hb hby d3_23)
  have O18 : Old Z n0 h17 := O10.wr W17 gi0
  have K19 : Keep h0 h17 [a0] := K11.wr W17 (Or.inl (List.mem_of_getElem? (i := 0) rfl))
  have N17 := Fr.snoc X17 N9 gi0
  have Fw17 : Fld Z h17 a0 "java/lang/String" "coder" "B" (.int (0 : Int32)) := f16.same W17
  refine run_fwd (T' := T17) (g' := (mkF m 26 #[.val (.ref a0), .val (.ref a1), .val (.int (0 : Int32)), .val (.int (0 : Int32)), .val .null, .unset] [])) (fun _ k => st17 _ k) ?_
  exact run_ret0W X17 hx hS3 (own_hk e17 (Nat.le_trans (Nat.le_trans hk3 (Keep.of_wr W9).1) (Keep.of_wr W17).1)) Bd.returns Bd.notSynchronized (hb hby d3_26) (by rw [e17]; exact ⟨d3, kd3, rfl, N17, K19, (f15.wr W17), Fw17, (Fw9.other W17 (Or.inr (slot_ne (Or.inr (hw _ (List.mem_of_getElem? (i := 33) rfl))) (Or.inr (hw _ (List.mem_of_getElem? (i := 31) rfl))) (by decide) (t := (.array .byte)) (t' := .byte) (by decide) (by decide)))), ((LA3.other W9 aq3).other W17 aq3)⟩) (by decide) (by decide)
theorem ef_rmC0 (m : MethodId) (x0 : Addr) (x1 : Addr) : entryFrame m #[(.ref x0), (.ref x1)] 2 = mkF m 0 #[.val (.ref x0), .val (.ref x1)] [] := by first | (simp [entryFrame, mkF, argsToLocals, Value.category]; done) | rfl
def QrmC0 (Z : State) (a0 : Addr) (a1 : Addr) (kc : ClassId) (vs : List Value) (h0 : Heap) (n0 : Nat) (v : Option Value) (h : Heap) (L : List Loc) : Prop := ∃ (t : Addr) (kt : ClassId), v = none ∧ Fr n0 L ∧ Keep h0 h [a0] ∧ Exa Z h a0 "java/lang/String" ∧ Fld Z h a0 "java/lang/String" "coder" "B" (.int (0 : Int32)) ∧ Fld Z h a0 "java/lang/String" "value" "[B" (.ref t) ∧ Arv Z h t kt .byte (0 : Int32) [] (.int (0 : Int32))
set_option maxRecDepth 65536 in
set_option maxHeartbeats 40000000 in
theorem rmC0 (l : Launch) (Z : State) (aV : Array Value) (hw : ∀ d ∈ tables_1, d.before aV Z = true) (ws : List Jvm.Cond) (a0 : Addr) (a1 : Addr) (kc : ClassId) (vs : List Value) (h0 : Heap) (n0 : Nat) (O0 : Old Z n0 h0) (gi0 : n0 ≤ a0) (Ei1 : Exa Z h0 a0 "java/lang/String") (Fi2 : Fld Z h0 a0 "java/lang/String" "value" "[B" .null) (Fi3 : Fld Z h0 a0 "java/lang/String" "coder" "B" (.int (0 : Int32))) (Vi4 : Arv Z h0 a1 kc .char (0 : Int32) vs (.int (0 : Int32))) (hch : Jvm.Lit.constHeld Z "java/lang/String" 7) (hcw : Jvm.Lit.compactW.before aV Z = true) :
    MetFree l (⟨"java/lang/String", "<init>", "([C)V"⟩ : MethodName) (head1 (Jvm.Cond.code (⟨"java/lang/String", "<init>", "([C)V"⟩ : MethodName) jdk_42_method_3_code 2 none :: ws) ({ frames := 2, cells := 2, slots := 20, locals := 29 } : Room)) (fun a U => a = #[(.ref a0), (.ref a1)] ∧ Z.Warmed39 U.vm ∧ U.heap = h0 ∧ IB Z U.vm []) (fun _ _ _ _ _ => True) (fun _ U o U' => ∃ v L, o = .returned v ∧ QrmC0 Z a0 a1 kc vs h0 n0 v U'.heap L ∧ ReturnedEndW U o U' L ({ frames := 2, cells := 2, slots := 20, locals := 29 } : Room).cells ({ frames := 2, cells := 2, slots := 20, locals := 29 } : Room).slots) := by
  refine MetFree.of_bodySF (plainFor_of_name pn_java_lang_String) hisR ?_
  intro p e s m args below meth c s₁ Bd hml0 hP hK
  obtain ⟨rfl, hZ, hh, hI⟩ := hP
  have hx := Bd.exec
  have hby := Bd.bytes
  have hml : c.maxLocals = 2 := hml0
  have hown : s.vm.findClass "java/lang/String" = some m.cls := findClass_of_methodNamed Bd.named
  have hnm := (name_of_methodNamed Bd.named Bd.method).1
  have X0 : Stand p l e ({ frames := 2, cells := 2, slots := 20, locals := 29 } : Room) (s.setVm s.vm) m #[(.ref a0), (.ref a1)] below meth c s₁ [] 0 0 := Stand.of_body Bd
  have e0 : s₁.heap = h0 := by rw [← hh, Bd.state]; rfl
  have N0 := Fr.nil n0
  show Run p.tables e below (WdW s (QrmC0 Z a0 a1 kc vs h0 n0) ({ frames := 2, cells := 2, slots := 20, locals := 29 } : Room).cells ({ frames := 2, cells := 2, slots := 20, locals := 29 } : Room).slots) s₁ (entryFrame m #[(.ref a0), (.ref a1)] 2)
  rw [ef_rmC0 m a0 a1]
  refine run_fwd (T' := s₁) (g' := (mkF m 1 #[.val (.ref a0), .val (.ref a1)] [(.ref a0)])) (fun _ k => XS.aloadN X0.here hx rfl (hb hby d2_0) rfl rfl k) ?_
  refine run_fwd (T' := s₁) (g' := (mkF m 2 #[.val (.ref a0), .val (.ref a1)] [(.ref a1), (.ref a0)])) (fun _ k => XS.aloadN X0.here hx rfl (hb hby d2_1) rfl rfl k) ?_
  refine run_fwd (T' := s₁) (g' := (mkF m 3 #[.val (.ref a0), .val (.ref a1)] [(.int (0 : Int32)), (.ref a1), (.ref a0)])) (fun _ k => XS.iconst X0.here hx rfl (hb hby d2_2) k) ?_
  refine run_fwd (T' := s₁) (g' := (mkF m 4 #[.val (.ref a0), .val (.ref a1)] [(.ref a1), (.int (0 : Int32)), (.ref a1), (.ref a0)])) (fun _ k => XS.aloadN X0.here hx rfl (hb hby d2_3) rfl rfl k) ?_
  obtain ⟨cl1, Ar1, -, S1, M1, -, -⟩ := id (Vi4)
  refine run_fwd (T' := s₁) (g' := (mkF m 5 #[.val (.ref a0), .val (.ref a1)] [(.int (0 : Int32)), (.int (0 : Int32)), (.ref a1), (.ref a0)])) (fun _ k => X0.arraylength hx (by rw [e0]; exact Ar1.1) (State.isArrayOf_alike hZ.alike Ar1.2.1) (g := (mkF m 4 #[.val (.ref a0), .val (.ref a1)] [(.ref a1), (.int (0 : Int32)), (.ref a1), (.ref a0)])) rfl rfl (hb hby d2_4) _ (by rw [len_of S1 M1]; exact k)) ?_
  refine run_fwd (T' := s₁) (g' := (mkF m 6 #[.val (.ref a0), .val (.ref a1)] [.null, (.int (0 : Int32)), (.int (0 : Int32)), (.ref a1), (.ref a0)])) (fun _ k => XS.aconstNull X0.here hx rfl (hb hby d2_5) k) ?_
  obtain ⟨T2, v2, L2, X2, hS2, hgr2, hQ2, st2⟩ := own_gotW X0 (X0.specialBackS hx (y := (⟨"java/lang/String", "<init>", "([CIILjava/lang/Void;)V"⟩ : MethodName)) rfl hown (mvT hZ (hw _ (List.mem_of_getElem? (i := 11) rfl))) (mvT hZ (hw _ (List.mem_of_getElem? (i := 12) rfl))) (mvT hZ (hw _ (List.mem_of_getElem? (i := 14) rfl))) (by decide) (own_backOfI (W := 0) (rmX0 l Z aV hw [] a0 a1 h0 n0 O0 gi0 Ei1 Fi2 Fi3 (hch) (hcw)) hI hZ (hw _ (List.mem_of_getElem? (i := 14) rfl)) (hw _ (List.mem_of_getElem? (i := 6) rfl)) (by decide) (by decide)) (g := (mkF m 6 #[.val (.ref a0), .val (.ref a1)] [.null, (.int (0 : Int32)), (.int (0 : Int32)), (.ref a1), (.ref a0)])) rfl (by rw [hml]; rfl) (Steps.refl _) (a := a0) (argsL := [(.ref a1), (.int (0 : Int32)), (.int (0 : Int32)), .null]) (rest := []) (lenOf pd__28_5bCIILjava_2flang_2fVoid_3b_29V rfl) rfl (by show 2 * 0 + _ ≤ _; exact Nat.le_of_eq rfl) (hb hby d2_6) (fun _ _ => ⟨rfl, e0, (by decide : 0 + 2 ≤ _), (by decide : 0 + 20 ≤ _)⟩))
  obtain ⟨X2, hS2, hZ, hown⟩ := rebS ((State.WarmedH.refl s).since 0) (show _ ≤ s₁.heap.size from own_hk e0 (Nat.zero_le _)) X2 hS2 hgr2 hZ hown
  obtain ⟨t_2, kt_2, rfl, N2q, Q2_0, Q2_1, Q2_2, Q2_3, Q2_4⟩ := hQ2
  have N2 := Fr.app N0 N2q
  obtain ⟨h2, e2⟩ : ∃ z, T2.heap = z := ⟨_, rfl⟩
  rw [e2] at Q2_0 Q2_1 Q2_2 Q2_3 Q2_4
  have hk2 : T2.heap.size ≤ h2.size := by rw [e2]; exact Nat.le_refl _
  have O3 : Old Z n0 h2 := O0.keep Q2_0 (allS gi0 all0)
  have K4 : Keep h0 h2 [a0] := (Keep.refl h0 [a0]).trans Q2_0 (allS (Or.inl (List.mem_of_getElem? (i := 0) rfl)) all0)
  refine run_fwd (T' := T2) (g' := (mkF m 9 #[.val (.ref a0), .val (.ref a1)] [])) (fun _ k => st2.trans k) ?_
  exact run_ret0W X2 hx hS2 (own_hk e2 hk2) Bd.returns Bd.notSynchronized (hb hby d2_9) (by rw [e2]; exact ⟨t_2, kt_2, rfl, N2, K4, Q2_1, Q2_2, Q2_3, Q2_4⟩) (by decide) (by decide)
theorem d1_0 : decode method_2_code 0 = .ok (.iload_n 0, 1) := by decide +kernel
theorem d1_1 : decode method_2_code 1 = .ok (.ifCond .ne 14, 3) := by decide +kernel
theorem d1_4 : decode method_2_code 4 = .ok (.new 7, 3) := by decide +kernel
theorem d1_7 : decode method_2_code 7 = .ok (.dup, 1) := by decide +kernel
theorem d1_8 : decode method_2_code 8 = .ok (.iconst 0, 1) := by decide +kernel
theorem d1_9 : decode method_2_code 9 = .ok (.newarray .char, 2) := by decide +kernel
theorem d1_11 : decode method_2_code 11 = .ok (.invokespecial 9, 3) := by decide +kernel
theorem pd__28_5bC_29V : parseMethodDescriptor "([C)V" = some ⟨[(.array .char)], none⟩ := by decide +kernel
theorem d1_14 : decode method_2_code 14 = .ok (.areturn, 1) := by decide +kernel
theorem d1_15 : decode method_2_code 15 = .ok (.iload_n 0, 1) := by decide +kernel
theorem d1_16 : decode method_2_code 16 = .ok (.iconst 1, 1) := by decide +kernel
theorem d1_17 : decode method_2_code 17 = .ok (.if_icmp .ne 18, 3) := by decide +kernel
theorem d1_20 : decode method_2_code 20 = .ok (.new 7, 3) := by decide +kernel
theorem d1_23 : decode method_2_code 23 = .ok (.dup, 1) := by decide +kernel
theorem d1_24 : decode method_2_code 24 = .ok (.iconst 1, 1) := by decide +kernel
theorem d1_25 : decode method_2_code 25 = .ok (.newarray .char, 2) := by decide +kernel
theorem d1_27 : decode method_2_code 27 = .ok (.dup, 1) := by decide +kernel
theorem d1_28 : decode method_2_code 28 = .ok (.iconst 0, 1) := by decide +kernel
theorem d1_29 : decode method_2_code 29 = .ok (.iload_n 1, 1) := by decide +kernel
theorem d1_30 : decode method_2_code 30 = .ok (.castore, 1) := by decide +kernel
theorem d1_31 : decode method_2_code 31 = .ok (.invokespecial 9, 3) := by decide +kernel
theorem d1_34 : decode method_2_code 34 = .ok (.areturn, 1) := by decide +kernel
theorem d1_35 : decode method_2_code 35 = .ok (.iload_n 0, 1) := by decide +kernel
theorem d1_36 : decode method_2_code 36 = .ok (.iconst 2, 1) := by decide +kernel
theorem d1_37 : decode method_2_code 37 = .ok (.if_icmp .ne 22, 3) := by decide +kernel
theorem d1_40 : decode method_2_code 40 = .ok (.new 7, 3) := by decide +kernel
theorem d1_43 : decode method_2_code 43 = .ok (.dup, 1) := by decide +kernel
theorem d1_44 : decode method_2_code 44 = .ok (.iconst 2, 1) := by decide +kernel
theorem d1_45 : decode method_2_code 45 = .ok (.newarray .char, 2) := by decide +kernel
theorem d1_47 : decode method_2_code 47 = .ok (.dup, 1) := by decide +kernel
theorem d1_48 : decode method_2_code 48 = .ok (.iconst 0, 1) := by decide +kernel
theorem d1_49 : decode method_2_code 49 = .ok (.iload_n 1, 1) := by decide +kernel
theorem d1_50 : decode method_2_code 50 = .ok (.castore, 1) := by decide +kernel
theorem d1_51 : decode method_2_code 51 = .ok (.dup, 1) := by decide +kernel
theorem d1_52 : decode method_2_code 52 = .ok (.iconst 1, 1) := by decide +kernel
theorem d1_53 : decode method_2_code 53 = .ok (.iload_n 2, 1) := by decide +kernel
theorem d1_54 : decode method_2_code 54 = .ok (.castore, 1) := by decide +kernel
theorem d1_55 : decode method_2_code 55 = .ok (.invokespecial 9, 3) := by decide +kernel
theorem d1_58 : decode method_2_code 58 = .ok (.areturn, 1) := by decide +kernel
theorem d1_59 : decode method_2_code 59 = .ok (.new 7, 3) := by decide +kernel
theorem d1_62 : decode method_2_code 62 = .ok (.dup, 1) := by decide +kernel
theorem d1_63 : decode method_2_code 63 = .ok (.iconst 3, 1) := by decide +kernel
theorem d1_64 : decode method_2_code 64 = .ok (.newarray .char, 2) := by decide +kernel
theorem d1_66 : decode method_2_code 66 = .ok (.dup, 1) := by decide +kernel
theorem d1_67 : decode method_2_code 67 = .ok (.iconst 0, 1) := by decide +kernel
theorem d1_68 : decode method_2_code 68 = .ok (.iload_n 1, 1) := by decide +kernel
theorem d1_69 : decode method_2_code 69 = .ok (.castore, 1) := by decide +kernel
theorem d1_70 : decode method_2_code 70 = .ok (.dup, 1) := by decide +kernel
theorem d1_71 : decode method_2_code 71 = .ok (.iconst 1, 1) := by decide +kernel
theorem d1_72 : decode method_2_code 72 = .ok (.iload_n 2, 1) := by decide +kernel
theorem d1_73 : decode method_2_code 73 = .ok (.castore, 1) := by decide +kernel
theorem d1_74 : decode method_2_code 74 = .ok (.dup, 1) := by decide +kernel
theorem d1_75 : decode method_2_code 75 = .ok (.iconst 2, 1) := by decide +kernel
theorem d1_76 : decode method_2_code 76 = .ok (.iload_n 3, 1) := by decide +kernel
theorem d1_77 : decode method_2_code 77 = .ok (.castore, 1) := by decide +kernel
theorem d1_78 : decode method_2_code 78 = .ok (.invokespecial 9, 3) := by decide +kernel
theorem d1_81 : decode method_2_code 81 = .ok (.areturn, 1) := by decide +kernel
theorem pn_com_example_barnacle_barnacle_redis_AcquisitionRefusedPinLaw : plainName "com/example/barnacle/barnacle/redis/AcquisitionRefusedPinLaw" = true := by first | (simp [plainName, overriddenIn]; done) | decide +kernel
theorem ef_rmD (m : MethodId) (x0 : Int32) (x1 : Int32) (x2 : Int32) (x3 : Int32) : entryFrame m #[(.int x0), (.int x1), (.int x2), (.int x3)] 4 = mkF m 0 #[.val (.int x0), .val (.int x1), .val (.int x2), .val (.int x3)] [] := by first | (simp [entryFrame, mkF, argsToLocals, Value.category]; done) | rfl
def QrmD (Z : State) (p0 : Int32) (p1 : Int32) (p2 : Int32) (p3 : Int32) (cs : Int32) (h0 : Heap) (n0 : Nat) (v : Option Value) (h : Heap) (L : List Loc) : Prop := ∃ (b : Addr) (t : Addr) (kt : ClassId) (vs : List Value), v = some (.ref b) ∧ Fr n0 L ∧ Keep h0 h [] ∧ h0.size ≤ b ∧ Exa Z h b "java/lang/String" ∧ Fld Z h b "java/lang/String" "coder" "B" (.int (0 : Int32)) ∧ Fld Z h b "java/lang/String" "value" "[B" (.ref t) ∧ Arv Z h t kt .byte p0 vs (.int (0 : Int32))
set_option maxRecDepth 65536 in
set_option maxHeartbeats 40000000 in
theorem rmD (l : Launch) (Z : State) (aV : Array Value) (hw : ∀ d ∈ tables_1, d.before aV Z = true) (ws : List Jvm.Cond) (p0 : Int32) (p1 : Int32) (p2 : Int32) (p3 : Int32) (cs : Int32) (h0 : Heap) (n0 : Nat) (O0 : Old Z n0 h0) (Si0 : Sta Z Z.heap "java/lang/String" "COMPACT_STRINGS" "Z" (.int cs)) (hcs : ¬ cs = (0 : Int32)) (hch : Jvm.Lit.constHeld Z "java/lang/String" 7) (hcw : Jvm.Lit.compactW.before aV Z = true) (hq : p0 = 0 ∨ p0 = 1 ∨ p0 = 2 ∨ p0 = 3) (hb1 : ¬ (255 : Int32) < nar .char p1) (hb2 : ¬ (255 : Int32) < nar .char p2) (hb3 : ¬ (255 : Int32) < nar .char p3) :
    MetFree l (⟨"com/example/barnacle/barnacle/redis/AcquisitionRefusedPinLaw", "draw", "(ICCC)Ljava/lang/String;"⟩ : MethodName) (head1 (Jvm.Cond.code (⟨"com/example/barnacle/barnacle/redis/AcquisitionRefusedPinLaw", "draw", "(ICCC)Ljava/lang/String;"⟩ : MethodName) method_2_code 4 (some (.object "java/lang/String")) :: ws) ({ frames := 4, cells := 4, slots := 24, locals := 66 } : Room)) (fun a U => a = #[(.int p0), (.int p1), (.int p2), (.int p3)] ∧ Z.Warmed39 U.vm ∧ U.heap = h0 ∧ IB Z U.vm []) (fun _ _ _ _ _ => True) (fun _ U o U' => ∃ v L, o = .returned v ∧ QrmD Z p0 p1 p2 p3 cs h0 n0 v U'.heap L ∧ ReturnedEndW U o U' L ({ frames := 4, cells := 4, slots := 24, locals := 66 } : Room).cells ({ frames := 4, cells := 4, slots := 24, locals := 66 } : Room).slots) := by
  refine MetFree.of_bodySF (plainFor_of_name pn_com_example_barnacle_barnacle_redis_AcquisitionRefusedPinLaw) hisR ?_
  intro p e s m args below meth c s₁ Bd hml0 hP hK
  obtain ⟨rfl, hZ, hh, hI⟩ := hP
  have hx := Bd.exec
  have hby := Bd.bytes
  have hml : c.maxLocals = 4 := hml0
  have hown : s.vm.findClass "com/example/barnacle/barnacle/redis/AcquisitionRefusedPinLaw" = some m.cls := findClass_of_methodNamed Bd.named
  have hnm := (name_of_methodNamed Bd.named Bd.method).1
  have X0 : Stand p l e ({ frames := 4, cells := 4, slots := 24, locals := 66 } : Room) (s.setVm s.vm) m #[(.int p0), (.int p1), (.int p2), (.int p3)] below meth c s₁ [] 0 0 := Stand.of_body Bd
  have e0 : s₁.heap = h0 := by rw [← hh, Bd.state]; rfl
  have N0 := Fr.nil n0
  show Run p.tables e below (WdW s (QrmD Z p0 p1 p2 p3 cs h0 n0) ({ frames := 4, cells := 4, slots := 24, locals := 66 } : Room).cells ({ frames := 4, cells := 4, slots := 24, locals := 66 } : Room).slots) s₁ (entryFrame m #[(.int p0), (.int p1), (.int p2), (.int p3)] 4)
  rw [ef_rmD m p0 p1 p2 p3]
  refine run_fwd (T' := s₁) (g' := (mkF m 1 #[.val (.int p0), .val (.int p1), .val (.int p2), .val (.int p3)] [(.int p0)])) (fun _ k => XS.iloadN X0.here hx rfl (hb hby d1_0) rfl k) ?_
  by_cases hc1_1 : p0 = (0 : Int32)
  ·
    refine run_fwd (T' := s₁) (g' := (mkF m 4 #[.val (.int p0), .val (.int p1), .val (.int p2), .val (.int p3)] [])) (fun _ k => XS.ifNo X0.here hx rfl (hb hby d1_1) rfl ((if0 _ _).trans (teq hc1_1).2) k) ?_
    obtain ⟨T2, h2, X2, e2, E2, A2, D2, U2, st2⟩ := newO X0 hx hZ hown (hw _ (List.mem_of_getElem? (i := 4) rfl)) (hw _ (List.mem_of_getElem? (i := 5) rfl)) (hw _ (List.mem_of_getElem? (i := 6) rfl)) e0 (g := (mkF m 4 #[.val (.int p0), .val (.int p1), .val (.int p2), .val (.int p3)] [])) rfl (hb hby d1_4) (by decide) (by decide)
    obtain ⟨b2, g2⟩ : ∃ z, z = h0.size := ⟨_, rfl⟩
    rw [← g2] at A2 D2 U2 st2
    have gg2 : n0 ≤ b2 := Nat.le_trans (own_le O0) (Nat.le_of_eq g2.symm)
    have sz2 : h0.size ≤ b2 := Nat.le_trans (Keep.refl h0 []).1 (Nat.le_of_eq g2.symm)
    have O3 : Old Z n0 h2 := O0.ext E2
    have K4 : Keep h0 h2 [] := (Keep.refl h0 []).ext E2
    have D2_coder : Fld Z h2 b2 "java/lang/String" "coder" "B" (.int (0 : Int32)) := D2 (Or.inr (hw _ (List.mem_of_getElem? (i := 31) rfl))) (ty := .byte) (by decide)
    have D2_value : Fld Z h2 b2 "java/lang/String" "value" "[B" .null := D2 (Or.inr (hw _ (List.mem_of_getElem? (i := 33) rfl))) (ty := (.array .byte)) (by decide)
    refine run_fwd (T' := T2) (g' := (mkF m 7 #[.val (.int p0), .val (.int p1), .val (.int p2), .val (.int p3)] [(.ref b2)])) (fun _ k => st2 _ k) ?_
    refine run_fwd (T' := T2) (g' := (mkF m 8 #[.val (.int p0), .val (.int p1), .val (.int p2), .val (.int p3)] [(.ref b2), (.ref b2)])) (fun _ k => XS.dup X2.here hx rfl (hb hby d1_7) rfl rfl k) ?_
    refine run_fwd (T' := T2) (g' := (mkF m 9 #[.val (.int p0), .val (.int p1), .val (.int p2), .val (.int p3)] [(.int (0 : Int32)), (.ref b2), (.ref b2)])) (fun _ k => XS.iconst X2.here hx rfl (hb hby d1_8) k) ?_
    obtain ⟨T5, h5, k5, X5, e5, E5, A5, st5⟩ := newP X2 hx hZ (hw _ (List.mem_of_getElem? (i := 7) rfl)) e2 (g := (mkF m 9 #[.val (.int p0), .val (.int p1), .val (.int p2), .val (.int p3)] [(.int (0 : Int32)), (.ref b2), (.ref b2)])) rfl (hb hby d1_9) rfl (by decide) (cap := 0) (by decide) (by decide) (by decide) (by decide)
    obtain ⟨b5, g5⟩ : ∃ z, z = h2.size := ⟨_, rfl⟩
    rw [← g5] at A5 st5
    have gg5 : n0 ≤ b5 := Nat.le_trans (own_le O3) (Nat.le_of_eq g5.symm)
    have sz5 : h0.size ≤ b5 := Nat.le_trans K4.1 (Nat.le_of_eq g5.symm)
    have O6 : Old Z n0 h5 := O3.ext E5
    have K7 : Keep h0 h5 [] := K4.ext E5
    have V5 : Arv Z h5 b5 k5 .char (0 : Int32) [] (.int (0 : Int32)) := (Arv.new A5 (by decide)).pad (pad_rep [] (.int (0 : Int32)) 0)
    refine run_fwd (T' := T5) (g' := (mkF m 11 #[.val (.int p0), .val (.int p1), .val (.int p2), .val (.int p3)] [(.ref b5), (.ref b2), (.ref b2)])) (fun _ k => st5 _ k) ?_
    have f9 : Exa Z h5 b2 "java/lang/String" := (A2.ext E5)
    have f10 : Fld Z h5 b2 "java/lang/String" "value" "[B" .null := (D2_value.ext E5)
    have f11 : Fld Z h5 b2 "java/lang/String" "coder" "B" (.int (0 : Int32)) := (D2_coder.ext E5)
    obtain ⟨T8, v8, L8, X8, hS8, hgr8, hQ8, st8⟩ := own_gotW X5 (X5.specialBackS hx (y := (⟨"java/lang/String", "<init>", "([C)V"⟩ : MethodName)) rfl hown (mvT hZ (hw _ (List.mem_of_getElem? (i := 8) rfl))) (mvT hZ (hw _ (List.mem_of_getElem? (i := 9) rfl))) (mvT hZ (hw _ (List.mem_of_getElem? (i := 10) rfl))) (by decide) (own_backOfI (W := 1) (rmC0 l Z aV hw [] b2 b5 k5 [] h5 n0 O6 gg2 f9 f10 f11 V5 (hch) (hcw)) hI hZ (hw _ (List.mem_of_getElem? (i := 10) rfl)) (hw _ (List.mem_of_getElem? (i := 6) rfl)) (by decide) (by decide)) (g := (mkF m 11 #[.val (.int p0), .val (.int p1), .val (.int p2), .val (.int p3)] [(.ref b5), (.ref b2), (.ref b2)])) rfl (by rw [hml]; rfl) (Steps.refl _) (a := b2) (argsL := [(.ref b5)]) (rest := [(.ref b2)]) (lenOf pd__28_5bC_29V rfl) rfl (by show 2 * 0 + _ ≤ _; exact Nat.le_of_eq rfl) (hb hby d1_11) (fun _ _ => ⟨rfl, e5, (by decide : 2 + 2 ≤ _), (by decide : 4 + 20 ≤ _)⟩))
    obtain ⟨X8, hS8, hZ, hown⟩ := rebS ((State.WarmedH.refl s).since 0) (show _ ≤ T5.heap.size from own_hk e5 (Nat.le_trans (Nat.le_trans (Nat.zero_le _) E2.1) E5.1)) X8 hS8 hgr8 hZ hown
    obtain ⟨t_8, kt_8, rfl, N8q, Q8_0, Q8_1, Q8_2, Q8_3, Q8_4⟩ := hQ8
    have N8 := Fr.app N0 N8q
    obtain ⟨h8, e8⟩ : ∃ z, T8.heap = z := ⟨_, rfl⟩
    rw [e8] at Q8_0 Q8_1 Q8_2 Q8_3 Q8_4
    have hk8 : T8.heap.size ≤ h8.size := by rw [e8]; exact Nat.le_refl _
    have O12 : Old Z n0 h8 := O6.keep Q8_0 (allS gg2 all0)
    have K13 : Keep h0 h8 [] := K7.trans Q8_0 (allS (Or.inr sz2) all0)
    refine run_fwd (T' := T8) (g' := (mkF m 14 #[.val (.int p0), .val (.int p1), .val (.int p2), .val (.int p3)] [(.ref b2)])) (fun _ k => st8.trans k) ?_
    exact run_retW X8 hx hS8 (own_hk e8 hk8) Bd.returns Bd.notSynchronized rfl (Or.inr (Or.inr (Or.inr (Or.inr ⟨rfl, rfl, rfl⟩)))) (hb hby d1_14) (by rw [e8]; exact ⟨b2, t_8, kt_8, [], rfl, N8, K13, sz2, Q8_1, Q8_2, Q8_3, own_arvn hc1_1 Q8_4⟩) (by decide) (by decide)
  ·
    refine run_fwd (T' := s₁) (g' := (mkF m 15 #[.val (.int p0), .val (.int p1), .val (.int p2), .val (.int p3)] [])) (fun _ k => XS.ifYes X0.here hx rfl (pc0 := 1) (pc' := 15) rfl (hb hby d1_1) rfl ((if0 _ _).trans (feq hc1_1).2) (by decide) (by decide) k) ?_
    refine run_fwd (T' := s₁) (g' := (mkF m 16 #[.val (.int p0), .val (.int p1), .val (.int p2), .val (.int p3)] [(.int p0)])) (fun _ k => XS.iloadN X0.here hx rfl (hb hby d1_15) rfl k) ?_
    refine run_fwd (T' := s₁) (g' := (mkF m 17 #[.val (.int p0), .val (.int p1), .val (.int p2), .val (.int p3)] [(.int (1 : Int32)), (.int p0)])) (fun _ k => XS.iconst X0.here hx rfl (hb hby d1_16) k) ?_
    by_cases hc17_14 : p0 = (1 : Int32)
    ·
      refine run_fwd (T' := s₁) (g' := (mkF m 20 #[.val (.int p0), .val (.int p1), .val (.int p2), .val (.int p3)] [])) (fun _ k => XS.icmpNo X0.here hx rfl (hb hby d1_17) rfl (teq hc17_14).2 k) ?_
      obtain ⟨T15, h15, X15, e15, E15, A15, D15, U15, st15⟩ := newO X0 hx hZ hown (hw _ (List.mem_of_getElem? (i := 4) rfl)) (hw _ (List.mem_of_getElem? (i := 5) rfl)) (hw _ (List.mem_of_getElem? (i := 6) rfl)) e0 (g := (mkF m 20 #[.val (.int p0), .val (.int p1), .val (.int p2), .val (.int p3)] [])) rfl (hb hby d1_20) (by decide) (by decide)
      obtain ⟨b15, g15⟩ : ∃ z, z = h0.size := ⟨_, rfl⟩
      rw [← g15] at A15 D15 U15 st15
      have gg15 : n0 ≤ b15 := Nat.le_trans (own_le O0) (Nat.le_of_eq g15.symm)
      have sz15 : h0.size ≤ b15 := Nat.le_trans (Keep.refl h0 []).1 (Nat.le_of_eq g15.symm)
      have O16 : Old Z n0 h15 := O0.ext E15
      have K17 : Keep h0 h15 [] := (Keep.refl h0 []).ext E15
      have D15_coder : Fld Z h15 b15 "java/lang/String" "coder" "B" (.int (0 : Int32)) := D15 (Or.inr (hw _ (List.mem_of_getElem? (i := 31) rfl))) (ty := .byte) (by decide)
      have D15_value : Fld Z h15 b15 "java/lang/String" "value" "[B" .null := D15 (Or.inr (hw _ (List.mem_of_getElem? (i := 33) rfl))) (ty := (.array .byte)) (by decide)
      refine run_fwd (T' := T15) (g' := (mkF m 23 #[.val (.int p0), .val (.int p1), .val (.int p2), .val (.int p3)] [(.ref b15)])) (fun _ k => st15 _ k) ?_
      refine run_fwd (T' := T15) (g' := (mkF m 24 #[.val (.int p0), .val (.int p1), .val (.int p2), .val (.int p3)] [(.ref b15), (.ref b15)])) (fun _ k => XS.dup X15.here hx rfl (hb hby d1_23) rfl rfl k) ?_
      refine run_fwd (T' := T15) (g' := (mkF m 25 #[.val (.int p0), .val (.int p1), .val (.int p2), .val (.int p3)] [(.int (1 : Int32)), (.ref b15), (.ref b15)])) (fun _ k => XS.iconst X15.here hx rfl (hb hby d1_24) k) ?_
      obtain ⟨T18, h18, k18, X18, e18, E18, A18, st18⟩ := newP X15 hx hZ (hw _ (List.mem_of_getElem? (i := 7) rfl)) e15 (g := (mkF m 25 #[.val (.int p0), .val (.int p1), .val (.int p2), .val (.int p3)] [(.int (1 : Int32)), (.ref b15), (.ref b15)])) rfl (hb hby d1_25) rfl (by decide) (cap := 1) (by decide) (by decide) (by decide) (by decide)
      obtain ⟨b18, g18⟩ : ∃ z, z = h15.size := ⟨_, rfl⟩
      rw [← g18] at A18 st18
      have gg18 : n0 ≤ b18 := Nat.le_trans (own_le O16) (Nat.le_of_eq g18.symm)
      have sz18 : h0.size ≤ b18 := Nat.le_trans K17.1 (Nat.le_of_eq g18.symm)
      have O19 : Old Z n0 h18 := O16.ext E18
      have K20 : Keep h0 h18 [] := K17.ext E18
      have V18 : Arv Z h18 b18 k18 .char (1 : Int32) [(.int (0 : Int32))] (.int (0 : Int32)) := (Arv.new A18 (by decide)).pad (pad_rep [] (.int (0 : Int32)) 1)
      refine run_fwd (T' := T18) (g' := (mkF m 27 #[.val (.int p0), .val (.int p1), .val (.int p2), .val (.int p3)] [(.ref b18), (.ref b15), (.ref b15)])) (fun _ k => st18 _ k) ?_
      refine run_fwd (T' := T18) (g' := (mkF m 28 #[.val (.int p0), .val (.int p1), .val (.int p2), .val (.int p3)] [(.ref b18), (.ref b18), (.ref b15), (.ref b15)])) (fun _ k => XS.dup X18.here hx rfl (hb hby d1_27) rfl rfl k) ?_
      refine run_fwd (T' := T18) (g' := (mkF m 29 #[.val (.int p0), .val (.int p1), .val (.int p2), .val (.int p3)] [(.int (0 : Int32)), (.ref b18), (.ref b18), (.ref b15), (.ref b15)])) (fun _ k => XS.iconst X18.here hx rfl (hb hby d1_28) k) ?_
      refine run_fwd (T' := T18) (g' := (mkF m 30 #[.val (.int p0), .val (.int p1), .val (.int p2), .val (.int p3)] [(.int p1), (.int (0 : Int32)), (.ref b18), (.ref b18), (.ref b15), (.ref b15)])) (fun _ k => XS.iloadN X18.here hx rfl (hb hby d1_29) rfl k) ?_
      obtain ⟨cl21, Ar21, qq21, S21, M21, Hh21, G21⟩ := id (V18)
      have hin21 : ¬ ((0 : Int32) < 0 ∨ cl21.slots.size ≤ ((0 : Int32)).toNatClampNeg) := inb_of S21 ⟨by decide, by decide⟩
      obtain ⟨T21, h21, X21, e21, W21, st21⟩ := stC X18 hx hZ e18 Ar21 (j := (0 : Int32)) hin21 (g := (mkF m 30 #[.val (.int p0), .val (.int p1), .val (.int p2), .val (.int p3)] [(.int p1), (.int (0 : Int32)), (.ref b18), (.ref b18), (.ref b15), (.ref b15)])) rfl rfl (hb hby d1_30)
      have O22 : Old Z n0 h21 := O19.wr W21 gg18
      have K23 : Keep h0 h21 [] := K20.wr W21 (Or.inr sz18)
      have N21 := Fr.snoc X21 N0 gg18
      have V21 : Arv Z h21 b18 k18 .char (1 : Int32) [(.int (nar .char p1))] (.int (0 : Int32)) := Arv.set Ar21 qq21 S21 M21 Hh21 G21 (fits_nar_char _) W21 0 rfl (Nat.le_of_ble_eq_true rfl)
      refine run_fwd (T' := T21) (g' := (mkF m 31 #[.val (.int p0), .val (.int p1), .val (.int p2), .val (.int p3)] [(.ref b18), (.ref b15), (.ref b15)])) (fun _ k => st21 _ k) ?_
      have f25 : Exa Z h21 b15 "java/lang/String" := ((A15.ext E18).wr W21)
      have f26 : Fld Z h21 b15 "java/lang/String" "value" "[B" .null := ((D15_value.ext E18).other W21 (Or.inl (Nat.ne_of_lt (Nat.lt_of_lt_of_le D15_value.lt (Nat.le_of_eq g18.symm)))))
      have f27 : Fld Z h21 b15 "java/lang/String" "coder" "B" (.int (0 : Int32)) := ((D15_coder.ext E18).other W21 (Or.inl (Nat.ne_of_lt (Nat.lt_of_lt_of_le D15_value.lt (Nat.le_of_eq g18.symm)))))
      obtain ⟨T24, v24, L24, X24, hQ24, st24⟩ := own_gotV X21 (X21.specialBack hx (y := (⟨"java/lang/String", "<init>", "([C)V"⟩ : MethodName)) rfl hown (mvT hZ (hw _ (List.mem_of_getElem? (i := 8) rfl))) (mvT hZ (hw _ (List.mem_of_getElem? (i := 9) rfl))) (mvT hZ (hw _ (List.mem_of_getElem? (i := 10) rfl))) (by decide) (backOf (W := 1) (rmC l Z aV hw [] b15 b18 (1 : Int32) k18 1 (own_f (nar .char p1) (nar .char p2) (nar .char p3)) cs h21 n0 O22 gg15 f25 f26 f27 V21 Si0 (hcs) ((Ne.symm (Nat.ne_of_lt (Nat.lt_of_lt_of_le D15_value.lt (Nat.le_of_eq g18.symm))))) (by decide) (by decide) (own_fb hb1 hb2 hb3 (by decide))) hZ (hw _ (List.mem_of_getElem? (i := 10) rfl)) (hw _ (List.mem_of_getElem? (i := 6) rfl)) (by decide) (by decide)) (g := (mkF m 31 #[.val (.int p0), .val (.int p1), .val (.int p2), .val (.int p3)] [(.ref b18), (.ref b15), (.ref b15)])) rfl (by rw [hml]; rfl) (Steps.refl _) (a := b15) (argsL := [(.ref b18)]) (rest := [(.ref b15)]) (lenOf pd__28_5bC_29V rfl) rfl (by show 2 * 0 + _ ≤ _; exact Nat.le_of_eq rfl) (hb hby d1_31) (fun _ _ => ⟨rfl, e21, (by decide : 2 + 1 ≤ _), (by decide : 5 + 16 ≤ _)⟩))
      obtain ⟨t_24, kt_24, rfl, N24q, Q24_0, Q24_1, Q24_2, Q24_3, Q24_4, Q24_5⟩ := hQ24
      have N24 := Fr.app N21 N24q
      obtain ⟨h24, e24⟩ : ∃ z, T24.heap = z := ⟨_, rfl⟩
      rw [e24] at Q24_0 Q24_1 Q24_2 Q24_3 Q24_4
      have O28 : Old Z n0 h24 := O22.keep Q24_0 (allS gg15 all0)
      have K29 : Keep h0 h24 [] := K23.trans Q24_0 (allS (Or.inr sz15) all0)
      have gg24_5 : n0 ≤ t_24 := Nat.le_trans (own_le O22) Q24_5
      have sz24_5 : h0.size ≤ t_24 := (Nat.le_trans K23.1 Q24_5)
      refine run_fwd (T' := T24) (g' := (mkF m 34 #[.val (.int p0), .val (.int p1), .val (.int p2), .val (.int p3)] [(.ref b15)])) (fun _ k => st24.trans k) ?_
      exact run_retW X24 hx ((State.WarmedH.refl s).since 0) (own_hk e24 (Nat.le_trans (Nat.le_trans (Nat.le_trans (Nat.le_trans (Nat.zero_le _) E15.1) E18.1) (Keep.of_wr W21).1) Q24_0.1)) Bd.returns Bd.notSynchronized rfl (Or.inr (Or.inr (Or.inr (Or.inr ⟨rfl, rfl, rfl⟩)))) (hb hby d1_34) (by rw [e24]; exact ⟨b15, t_24, kt_24, (own_tab (own_by (own_f (nar .char p1) (nar .char p2) (nar .char p3))) 1), rfl, N24, K29, sz15, Q24_1, Q24_2, Q24_3, own_arvn hc17_14 Q24_4⟩) (by decide) (by decide)
    ·
      refine run_fwd (T' := s₁) (g' := (mkF m 35 #[.val (.int p0), .val (.int p1), .val (.int p2), .val (.int p3)] [])) (fun _ k => XS.icmpYes X0.here hx rfl (pc0 := 17) (pc' := 35) rfl (hb hby d1_17) rfl (feq hc17_14).2 (by decide) (by decide) k) ?_
      refine run_fwd (T' := s₁) (g' := (mkF m 36 #[.val (.int p0), .val (.int p1), .val (.int p2), .val (.int p3)] [(.int p0)])) (fun _ k => XS.iloadN X0.here hx rfl (hb hby d1_35) rfl k) ?_
      refine run_fwd (T' := s₁) (g' := (mkF m 37 #[.val (.int p0), .val (.int p1), .val (.int p2), .val (.int p3)] [(.int (2 : Int32)), (.int p0)])) (fun _ k => XS.iconst X0.here hx rfl (hb hby d1_36) k) ?_
      by_cases hc37_30 : p0 = (2 : Int32)
      ·
        refine run_fwd (T' := s₁) (g' := (mkF m 40 #[.val (.int p0), .val (.int p1), .val (.int p2), .val (.int p3)] [])) (fun _ k => XS.icmpNo X0.here hx rfl (hb hby d1_37) rfl (teq hc37_30).2 k) ?_
        obtain ⟨T31, h31, X31, e31, E31, A31, D31, U31, st31⟩ := newO X0 hx hZ hown (hw _ (List.mem_of_getElem? (i := 4) rfl)) (hw _ (List.mem_of_getElem? (i := 5) rfl)) (hw _ (List.mem_of_getElem? (i := 6) rfl)) e0 (g := (mkF m 40 #[.val (.int p0), .val (.int p1), .val (.int p2), .val (.int p3)] [])) rfl (hb hby d1_40) (by decide) (by decide)
        obtain ⟨b31, g31⟩ : ∃ z, z = h0.size := ⟨_, rfl⟩
        rw [← g31] at A31 D31 U31 st31
        have gg31 : n0 ≤ b31 := Nat.le_trans (own_le O0) (Nat.le_of_eq g31.symm)
        have sz31 : h0.size ≤ b31 := Nat.le_trans (Keep.refl h0 []).1 (Nat.le_of_eq g31.symm)
        have O32 : Old Z n0 h31 := O0.ext E31
        have K33 : Keep h0 h31 [] := (Keep.refl h0 []).ext E31
        have D31_coder : Fld Z h31 b31 "java/lang/String" "coder" "B" (.int (0 : Int32)) := D31 (Or.inr (hw _ (List.mem_of_getElem? (i := 31) rfl))) (ty := .byte) (by decide)
        have D31_value : Fld Z h31 b31 "java/lang/String" "value" "[B" .null := D31 (Or.inr (hw _ (List.mem_of_getElem? (i := 33) rfl))) (ty := (.array .byte)) (by decide)
        refine run_fwd (T' := T31) (g' := (mkF m 43 #[.val (.int p0), .val (.int p1), .val (.int p2), .val (.int p3)] [(.ref b31)])) (fun _ k => st31 _ k) ?_
        refine run_fwd (T' := T31) (g' := (mkF m 44 #[.val (.int p0), .val (.int p1), .val (.int p2), .val (.int p3)] [(.ref b31), (.ref b31)])) (fun _ k => XS.dup X31.here hx rfl (hb hby d1_43) rfl rfl k) ?_
        refine run_fwd (T' := T31) (g' := (mkF m 45 #[.val (.int p0), .val (.int p1), .val (.int p2), .val (.int p3)] [(.int (2 : Int32)), (.ref b31), (.ref b31)])) (fun _ k => XS.iconst X31.here hx rfl (hb hby d1_44) k) ?_
        obtain ⟨T34, h34, k34, X34, e34, E34, A34, st34⟩ := newP X31 hx hZ (hw _ (List.mem_of_getElem? (i := 7) rfl)) e31 (g := (mkF m 45 #[.val (.int p0), .val (.int p1), .val (.int p2), .val (.int p3)] [(.int (2 : Int32)), (.ref b31), (.ref b31)])) rfl (hb hby d1_45) rfl (by decide) (cap := 2) (by decide) (by decide) (by decide) (by decide)
        obtain ⟨b34, g34⟩ : ∃ z, z = h31.size := ⟨_, rfl⟩
        rw [← g34] at A34 st34
        have gg34 : n0 ≤ b34 := Nat.le_trans (own_le O32) (Nat.le_of_eq g34.symm)
        have sz34 : h0.size ≤ b34 := Nat.le_trans K33.1 (Nat.le_of_eq g34.symm)
        have O35 : Old Z n0 h34 := O32.ext E34
        have K36 : Keep h0 h34 [] := K33.ext E34
        have V34 : Arv Z h34 b34 k34 .char (2 : Int32) [(.int (0 : Int32)), (.int (0 : Int32))] (.int (0 : Int32)) := (Arv.new A34 (by decide)).pad (pad_rep [] (.int (0 : Int32)) 2)
        refine run_fwd (T' := T34) (g' := (mkF m 47 #[.val (.int p0), .val (.int p1), .val (.int p2), .val (.int p3)] [(.ref b34), (.ref b31), (.ref b31)])) (fun _ k => st34 _ k) ?_
        refine run_fwd (T' := T34) (g' := (mkF m 48 #[.val (.int p0), .val (.int p1), .val (.int p2), .val (.int p3)] [(.ref b34), (.ref b34), (.ref b31), (.ref b31)])) (fun _ k => XS.dup X34.here hx rfl (hb hby d1_47) rfl rfl k) ?_
        refine run_fwd (T' := T34) (g' := (mkF m 49 #[.val (.int p0), .val (.int p1), .val (.int p2), .val (.int p3)] [(.int (0 : Int32)), (.ref b34), (.ref b34), (.ref b31), (.ref b31)])) (fun _ k => XS.iconst X34.here hx rfl (hb hby d1_48) k) ?_
        refine run_fwd (T' := T34) (g' := (mkF m 50 #[.val (.int p0), .val (.int p1), .val (.int p2), .val (.int p3)] [(.int p1), (.int (0 : Int32)), (.ref b34), (.ref b34), (.ref b31), (.ref b31)])) (fun _ k => XS.iloadN X34.here hx rfl (hb hby d1_49) rfl k) ?_
        obtain ⟨cl37, Ar37, qq37, S37, M37, Hh37, G37⟩ := id (V34)
        have hin37 : ¬ ((0 : Int32) < 0 ∨ cl37.slots.size ≤ ((0 : Int32)).toNatClampNeg) := inb_of S37 ⟨by decide, by decide⟩
        obtain ⟨T37, h37, X37, e37, W37, st37⟩ := stC X34 hx hZ e34 Ar37 (j := (0 : Int32)) hin37 (g := (mkF m 50 #[.val (.int p0), .val (.int p1), .val (.int p2), .val (.int p3)] [(.int p1), (.int (0 : Int32)), (.ref b34), (.ref b34), (.ref b31), (.ref b31)])) rfl rfl (hb hby d1_50)
        have O38 : Old Z n0 h37 := O35.wr W37 gg34
        have K39 : Keep h0 h37 [] := K36.wr W37 (Or.inr sz34)
        have N37 := Fr.snoc X37 N0 gg34
        have V37 : Arv Z h37 b34 k34 .char (2 : Int32) [(.int (nar .char p1)), (.int (0 : Int32))] (.int (0 : Int32)) := Arv.set Ar37 qq37 S37 M37 Hh37 G37 (fits_nar_char _) W37 0 rfl (Nat.le_of_ble_eq_true rfl)
        refine run_fwd (T' := T37) (g' := (mkF m 51 #[.val (.int p0), .val (.int p1), .val (.int p2), .val (.int p3)] [(.ref b34), (.ref b31), (.ref b31)])) (fun _ k => st37 _ k) ?_
        refine run_fwd (T' := T37) (g' := (mkF m 52 #[.val (.int p0), .val (.int p1), .val (.int p2), .val (.int p3)] [(.ref b34), (.ref b34), (.ref b31), (.ref b31)])) (fun _ k => XS.dup X37.here hx rfl (hb hby d1_51) rfl rfl k) ?_
        refine run_fwd (T' := T37) (g' := (mkF m 53 #[.val (.int p0), .val (.int p1), .val (.int p2), .val (.int p3)] [(.int (1 : Int32)), (.ref b34), (.ref b34), (.ref b31), (.ref b31)])) (fun _ k => XS.iconst X37.here hx rfl (hb hby d1_52) k) ?_
        refine run_fwd (T' := T37) (g' := (mkF m 54 #[.val (.int p0), .val (.int p1), .val (.int p2), .val (.int p3)] [(.int p2), (.int (1 : Int32)), (.ref b34), (.ref b34), (.ref b31), (.ref b31)])) (fun _ k => XS.iloadN X37.here hx rfl (hb hby d1_53) rfl k) ?_
        obtain ⟨cl40, Ar40, qq40, S40, M40, Hh40, G40⟩ := id (V37)
        have hin40 : ¬ ((1 : Int32) < 0 ∨ cl40.slots.size ≤ ((1 : Int32)).toNatClampNeg) := inb_of S40 ⟨by decide, by decide⟩
        obtain ⟨T40, h40, X40, e40, W40, st40⟩ := stC X37 hx hZ e37 Ar40 (j := (1 : Int32)) hin40 (g := (mkF m 54 #[.val (.int p0), .val (.int p1), .val (.int p2), .val (.int p3)] [(.int p2), (.int (1 : Int32)), (.ref b34), (.ref b34), (.ref b31), (.ref b31)])) rfl rfl (hb hby d1_54)
        have O41 : Old Z n0 h40 := O38.wr W40 gg34
        have K42 : Keep h0 h40 [] := K39.wr W40 (Or.inr sz34)
        have N40 := Fr.snoc X40 N37 gg34
        have V40 : Arv Z h40 b34 k34 .char (2 : Int32) [(.int (nar .char p1)), (.int (nar .char p2))] (.int (0 : Int32)) := Arv.set Ar40 qq40 S40 M40 Hh40 G40 (fits_nar_char _) W40 1 rfl (Nat.le_of_ble_eq_true rfl)
        refine run_fwd (T' := T40) (g' := (mkF m 55 #[.val (.int p0), .val (.int p1), .val (.int p2), .val (.int p3)] [(.ref b34), (.ref b31), (.ref b31)])) (fun _ k => st40 _ k) ?_
        have f44 : Exa Z h40 b31 "java/lang/String" := (((A31.ext E34).wr W37).wr W40)
        have f45 : Fld Z h40 b31 "java/lang/String" "value" "[B" .null := (((D31_value.ext E34).other W37 (Or.inl (Nat.ne_of_lt (Nat.lt_of_lt_of_le D31_value.lt (Nat.le_of_eq g34.symm))))).other W40 (Or.inl (Nat.ne_of_lt (Nat.lt_of_lt_of_le D31_value.lt (Nat.le_of_eq g34.symm)))))
        have f46 : Fld Z h40 b31 "java/lang/String" "coder" "B" (.int (0 : Int32)) := (((D31_coder.ext E34).other W37 (Or.inl (Nat.ne_of_lt (Nat.lt_of_lt_of_le D31_value.lt (Nat.le_of_eq g34.symm))))).other W40 (Or.inl (Nat.ne_of_lt (Nat.lt_of_lt_of_le D31_value.lt (Nat.le_of_eq g34.symm)))))
        obtain ⟨T43, v43, L43, X43, hQ43, st43⟩ := own_gotV X40 (X40.specialBack hx (y := (⟨"java/lang/String", "<init>", "([C)V"⟩ : MethodName)) rfl hown (mvT hZ (hw _ (List.mem_of_getElem? (i := 8) rfl))) (mvT hZ (hw _ (List.mem_of_getElem? (i := 9) rfl))) (mvT hZ (hw _ (List.mem_of_getElem? (i := 10) rfl))) (by decide) (backOf (W := 1) (rmC l Z aV hw [] b31 b34 (2 : Int32) k34 2 (own_f (nar .char p1) (nar .char p2) (nar .char p3)) cs h40 n0 O41 gg31 f44 f45 f46 V40 Si0 (hcs) ((Ne.symm (Nat.ne_of_lt (Nat.lt_of_lt_of_le D31_value.lt (Nat.le_of_eq g34.symm))))) (by decide) (by decide) (own_fb hb1 hb2 hb3 (by decide))) hZ (hw _ (List.mem_of_getElem? (i := 10) rfl)) (hw _ (List.mem_of_getElem? (i := 6) rfl)) (by decide) (by decide)) (g := (mkF m 55 #[.val (.int p0), .val (.int p1), .val (.int p2), .val (.int p3)] [(.ref b34), (.ref b31), (.ref b31)])) rfl (by rw [hml]; rfl) (Steps.refl _) (a := b31) (argsL := [(.ref b34)]) (rest := [(.ref b31)]) (lenOf pd__28_5bC_29V rfl) rfl (by show 2 * 0 + _ ≤ _; exact Nat.le_of_eq rfl) (hb hby d1_55) (fun _ _ => ⟨rfl, e40, (by decide : 2 + 1 ≤ _), (by decide : 6 + 16 ≤ _)⟩))
        obtain ⟨t_43, kt_43, rfl, N43q, Q43_0, Q43_1, Q43_2, Q43_3, Q43_4, Q43_5⟩ := hQ43
        have N43 := Fr.app N40 N43q
        obtain ⟨h43, e43⟩ : ∃ z, T43.heap = z := ⟨_, rfl⟩
        rw [e43] at Q43_0 Q43_1 Q43_2 Q43_3 Q43_4
        have O47 : Old Z n0 h43 := O41.keep Q43_0 (allS gg31 all0)
        have K48 : Keep h0 h43 [] := K42.trans Q43_0 (allS (Or.inr sz31) all0)
        have gg43_5 : n0 ≤ t_43 := Nat.le_trans (own_le O41) Q43_5
        have sz43_5 : h0.size ≤ t_43 := (Nat.le_trans K42.1 Q43_5)
        refine run_fwd (T' := T43) (g' := (mkF m 58 #[.val (.int p0), .val (.int p1), .val (.int p2), .val (.int p3)] [(.ref b31)])) (fun _ k => st43.trans k) ?_
        exact run_retW X43 hx ((State.WarmedH.refl s).since 0) (own_hk e43 (Nat.le_trans (Nat.le_trans (Nat.le_trans (Nat.le_trans (Nat.le_trans (Nat.zero_le _) E31.1) E34.1) (Keep.of_wr W37).1) (Keep.of_wr W40).1) Q43_0.1)) Bd.returns Bd.notSynchronized rfl (Or.inr (Or.inr (Or.inr (Or.inr ⟨rfl, rfl, rfl⟩)))) (hb hby d1_58) (by rw [e43]; exact ⟨b31, t_43, kt_43, (own_tab (own_by (own_f (nar .char p1) (nar .char p2) (nar .char p3))) 2), rfl, N43, K48, sz31, Q43_1, Q43_2, Q43_3, own_arvn hc37_30 Q43_4⟩) (by decide) (by decide)
      ·
        refine run_fwd (T' := s₁) (g' := (mkF m 59 #[.val (.int p0), .val (.int p1), .val (.int p2), .val (.int p3)] [])) (fun _ k => XS.icmpYes X0.here hx rfl (pc0 := 37) (pc' := 59) rfl (hb hby d1_37) rfl (feq hc37_30).2 (by decide) (by decide) k) ?_
        obtain ⟨T49, h49, X49, e49, E49, A49, D49, U49, st49⟩ := newO X0 hx hZ hown (hw _ (List.mem_of_getElem? (i := 4) rfl)) (hw _ (List.mem_of_getElem? (i := 5) rfl)) (hw _ (List.mem_of_getElem? (i := 6) rfl)) e0 (g := (mkF m 59 #[.val (.int p0), .val (.int p1), .val (.int p2), .val (.int p3)] [])) rfl (hb hby d1_59) (by decide) (by decide)
        obtain ⟨b49, g49⟩ : ∃ z, z = h0.size := ⟨_, rfl⟩
        rw [← g49] at A49 D49 U49 st49
        have gg49 : n0 ≤ b49 := Nat.le_trans (own_le O0) (Nat.le_of_eq g49.symm)
        have sz49 : h0.size ≤ b49 := Nat.le_trans (Keep.refl h0 []).1 (Nat.le_of_eq g49.symm)
        have O50 : Old Z n0 h49 := O0.ext E49
        have K51 : Keep h0 h49 [] := (Keep.refl h0 []).ext E49
        have D49_coder : Fld Z h49 b49 "java/lang/String" "coder" "B" (.int (0 : Int32)) := D49 (Or.inr (hw _ (List.mem_of_getElem? (i := 31) rfl))) (ty := .byte) (by decide)
        have D49_value : Fld Z h49 b49 "java/lang/String" "value" "[B" .null := D49 (Or.inr (hw _ (List.mem_of_getElem? (i := 33) rfl))) (ty := (.array .byte)) (by decide)
        refine run_fwd (T' := T49) (g' := (mkF m 62 #[.val (.int p0), .val (.int p1), .val (.int p2), .val (.int p3)] [(.ref b49)])) (fun _ k => st49 _ k) ?_
        refine run_fwd (T' := T49) (g' := (mkF m 63 #[.val (.int p0), .val (.int p1), .val (.int p2), .val (.int p3)] [(.ref b49), (.ref b49)])) (fun _ k => XS.dup X49.here hx rfl (hb hby d1_62) rfl rfl k) ?_
        refine run_fwd (T' := T49) (g' := (mkF m 64 #[.val (.int p0), .val (.int p1), .val (.int p2), .val (.int p3)] [(.int (3 : Int32)), (.ref b49), (.ref b49)])) (fun _ k => XS.iconst X49.here hx rfl (hb hby d1_63) k) ?_
        obtain ⟨T52, h52, k52, X52, e52, E52, A52, st52⟩ := newP X49 hx hZ (hw _ (List.mem_of_getElem? (i := 7) rfl)) e49 (g := (mkF m 64 #[.val (.int p0), .val (.int p1), .val (.int p2), .val (.int p3)] [(.int (3 : Int32)), (.ref b49), (.ref b49)])) rfl (hb hby d1_64) rfl (by decide) (cap := 3) (by decide) (by decide) (by decide) (by decide)
        obtain ⟨b52, g52⟩ : ∃ z, z = h49.size := ⟨_, rfl⟩
        rw [← g52] at A52 st52
        have gg52 : n0 ≤ b52 := Nat.le_trans (own_le O50) (Nat.le_of_eq g52.symm)
        have sz52 : h0.size ≤ b52 := Nat.le_trans K51.1 (Nat.le_of_eq g52.symm)
        have O53 : Old Z n0 h52 := O50.ext E52
        have K54 : Keep h0 h52 [] := K51.ext E52
        have V52 : Arv Z h52 b52 k52 .char (3 : Int32) [(.int (0 : Int32)), (.int (0 : Int32)), (.int (0 : Int32))] (.int (0 : Int32)) := (Arv.new A52 (by decide)).pad (pad_rep [] (.int (0 : Int32)) 3)
        refine run_fwd (T' := T52) (g' := (mkF m 66 #[.val (.int p0), .val (.int p1), .val (.int p2), .val (.int p3)] [(.ref b52), (.ref b49), (.ref b49)])) (fun _ k => st52 _ k) ?_
        refine run_fwd (T' := T52) (g' := (mkF m 67 #[.val (.int p0), .val (.int p1), .val (.int p2), .val (.int p3)] [(.ref b52), (.ref b52), (.ref b49), (.ref b49)])) (fun _ k => XS.dup X52.here hx rfl (hb hby d1_66) rfl rfl k) ?_
        refine run_fwd (T' := T52) (g' := (mkF m 68 #[.val (.int p0), .val (.int p1), .val (.int p2), .val (.int p3)] [(.int (0 : Int32)), (.ref b52), (.ref b52), (.ref b49), (.ref b49)])) (fun _ k => XS.iconst X52.here hx rfl (hb hby d1_67) k) ?_
        refine run_fwd (T' := T52) (g' := (mkF m 69 #[.val (.int p0), .val (.int p1), .val (.int p2), .val (.int p3)] [(.int p1), (.int (0 : Int32)), (.ref b52), (.ref b52), (.ref b49), (.ref b49)])) (fun _ k => XS.iloadN X52.here hx rfl (hb hby d1_68) rfl k) ?_
        obtain ⟨cl55, Ar55, qq55, S55, M55, Hh55, G55⟩ := id (V52)
        have hin55 : ¬ ((0 : Int32) < 0 ∨ cl55.slots.size ≤ ((0 : Int32)).toNatClampNeg) := inb_of S55 ⟨by decide, by decide⟩
        obtain ⟨T55, h55, X55, e55, W55, st55⟩ := stC X52 hx hZ e52 Ar55 (j := (0 : Int32)) hin55 (g := (mkF m 69 #[.val (.int p0), .val (.int p1), .val (.int p2), .val (.int p3)] [(.int p1), (.int (0 : Int32)), (.ref b52), (.ref b52), (.ref b49), (.ref b49)])) rfl rfl (hb hby d1_69)
        have O56 : Old Z n0 h55 := O53.wr W55 gg52
        have K57 : Keep h0 h55 [] := K54.wr W55 (Or.inr sz52)
        have N55 := Fr.snoc X55 N0 gg52
        have V55 : Arv Z h55 b52 k52 .char (3 : Int32) [(.int (nar .char p1)), (.int (0 : Int32)), (.int (0 : Int32))] (.int (0 : Int32)) := Arv.set Ar55 qq55 S55 M55 Hh55 G55 (fits_nar_char _) W55 0 rfl (Nat.le_of_ble_eq_true rfl)
        refine run_fwd (T' := T55) (g' := (mkF m 70 #[.val (.int p0), .val (.int p1), .val (.int p2), .val (.int p3)] [(.ref b52), (.ref b49), (.ref b49)])) (fun _ k => st55 _ k) ?_
        refine run_fwd (T' := T55) (g' := (mkF m 71 #[.val (.int p0), .val (.int p1), .val (.int p2), .val (.int p3)] [(.ref b52), (.ref b52), (.ref b49), (.ref b49)])) (fun _ k => XS.dup X55.here hx rfl (hb hby d1_70) rfl rfl k) ?_
        refine run_fwd (T' := T55) (g' := (mkF m 72 #[.val (.int p0), .val (.int p1), .val (.int p2), .val (.int p3)] [(.int (1 : Int32)), (.ref b52), (.ref b52), (.ref b49), (.ref b49)])) (fun _ k => XS.iconst X55.here hx rfl (hb hby d1_71) k) ?_
        refine run_fwd (T' := T55) (g' := (mkF m 73 #[.val (.int p0), .val (.int p1), .val (.int p2), .val (.int p3)] [(.int p2), (.int (1 : Int32)), (.ref b52), (.ref b52), (.ref b49), (.ref b49)])) (fun _ k => XS.iloadN X55.here hx rfl (hb hby d1_72) rfl k) ?_
        obtain ⟨cl58, Ar58, qq58, S58, M58, Hh58, G58⟩ := id (V55)
        have hin58 : ¬ ((1 : Int32) < 0 ∨ cl58.slots.size ≤ ((1 : Int32)).toNatClampNeg) := inb_of S58 ⟨by decide, by decide⟩
        obtain ⟨T58, h58, X58, e58, W58, st58⟩ := stC X55 hx hZ e55 Ar58 (j := (1 : Int32)) hin58 (g := (mkF m 73 #[.val (.int p0), .val (.int p1), .val (.int p2), .val (.int p3)] [(.int p2), (.int (1 : Int32)), (.ref b52), (.ref b52), (.ref b49), (.ref b49)])) rfl rfl (hb hby d1_73)
        have O59 : Old Z n0 h58 := O56.wr W58 gg52
        have K60 : Keep h0 h58 [] := K57.wr W58 (Or.inr sz52)
        have N58 := Fr.snoc X58 N55 gg52
        have V58 : Arv Z h58 b52 k52 .char (3 : Int32) [(.int (nar .char p1)), (.int (nar .char p2)), (.int (0 : Int32))] (.int (0 : Int32)) := Arv.set Ar58 qq58 S58 M58 Hh58 G58 (fits_nar_char _) W58 1 rfl (Nat.le_of_ble_eq_true rfl)
        refine run_fwd (T' := T58) (g' := (mkF m 74 #[.val (.int p0), .val (.int p1), .val (.int p2), .val (.int p3)] [(.ref b52), (.ref b49), (.ref b49)])) (fun _ k => st58 _ k) ?_
        refine run_fwd (T' := T58) (g' := (mkF m 75 #[.val (.int p0), .val (.int p1), .val (.int p2), .val (.int p3)] [(.ref b52), (.ref b52), (.ref b49), (.ref b49)])) (fun _ k => XS.dup X58.here hx rfl (hb hby d1_74) rfl rfl k) ?_
        refine run_fwd (T' := T58) (g' := (mkF m 76 #[.val (.int p0), .val (.int p1), .val (.int p2), .val (.int p3)] [(.int (2 : Int32)), (.ref b52), (.ref b52), (.ref b49), (.ref b49)])) (fun _ k => XS.iconst X58.here hx rfl (hb hby d1_75) k) ?_
        refine run_fwd (T' := T58) (g' := (mkF m 77 #[.val (.int p0), .val (.int p1), .val (.int p2), .val (.int p3)] [(.int p3), (.int (2 : Int32)), (.ref b52), (.ref b52), (.ref b49), (.ref b49)])) (fun _ k => XS.iloadN X58.here hx rfl (hb hby d1_76) rfl k) ?_
        obtain ⟨cl61, Ar61, qq61, S61, M61, Hh61, G61⟩ := id (V58)
        have hin61 : ¬ ((2 : Int32) < 0 ∨ cl61.slots.size ≤ ((2 : Int32)).toNatClampNeg) := inb_of S61 ⟨by decide, by decide⟩
        obtain ⟨T61, h61, X61, e61, W61, st61⟩ := stC X58 hx hZ e58 Ar61 (j := (2 : Int32)) hin61 (g := (mkF m 77 #[.val (.int p0), .val (.int p1), .val (.int p2), .val (.int p3)] [(.int p3), (.int (2 : Int32)), (.ref b52), (.ref b52), (.ref b49), (.ref b49)])) rfl rfl (hb hby d1_77)
        have O62 : Old Z n0 h61 := O59.wr W61 gg52
        have K63 : Keep h0 h61 [] := K60.wr W61 (Or.inr sz52)
        have N61 := Fr.snoc X61 N58 gg52
        have V61 : Arv Z h61 b52 k52 .char (3 : Int32) [(.int (nar .char p1)), (.int (nar .char p2)), (.int (nar .char p3))] (.int (0 : Int32)) := Arv.set Ar61 qq61 S61 M61 Hh61 G61 (fits_nar_char _) W61 2 rfl (Nat.le_of_ble_eq_true rfl)
        refine run_fwd (T' := T61) (g' := (mkF m 78 #[.val (.int p0), .val (.int p1), .val (.int p2), .val (.int p3)] [(.ref b52), (.ref b49), (.ref b49)])) (fun _ k => st61 _ k) ?_
        have f65 : Exa Z h61 b49 "java/lang/String" := ((((A49.ext E52).wr W55).wr W58).wr W61)
        have f66 : Fld Z h61 b49 "java/lang/String" "value" "[B" .null := ((((D49_value.ext E52).other W55 (Or.inl (Nat.ne_of_lt (Nat.lt_of_lt_of_le D49_value.lt (Nat.le_of_eq g52.symm))))).other W58 (Or.inl (Nat.ne_of_lt (Nat.lt_of_lt_of_le D49_value.lt (Nat.le_of_eq g52.symm))))).other W61 (Or.inl (Nat.ne_of_lt (Nat.lt_of_lt_of_le D49_value.lt (Nat.le_of_eq g52.symm)))))
        have f67 : Fld Z h61 b49 "java/lang/String" "coder" "B" (.int (0 : Int32)) := ((((D49_coder.ext E52).other W55 (Or.inl (Nat.ne_of_lt (Nat.lt_of_lt_of_le D49_value.lt (Nat.le_of_eq g52.symm))))).other W58 (Or.inl (Nat.ne_of_lt (Nat.lt_of_lt_of_le D49_value.lt (Nat.le_of_eq g52.symm))))).other W61 (Or.inl (Nat.ne_of_lt (Nat.lt_of_lt_of_le D49_value.lt (Nat.le_of_eq g52.symm)))))
        obtain ⟨T64, v64, L64, X64, hQ64, st64⟩ := own_gotV X61 (X61.specialBack hx (y := (⟨"java/lang/String", "<init>", "([C)V"⟩ : MethodName)) rfl hown (mvT hZ (hw _ (List.mem_of_getElem? (i := 8) rfl))) (mvT hZ (hw _ (List.mem_of_getElem? (i := 9) rfl))) (mvT hZ (hw _ (List.mem_of_getElem? (i := 10) rfl))) (by decide) (backOf (W := 1) (rmC l Z aV hw [] b49 b52 (3 : Int32) k52 3 (own_f (nar .char p1) (nar .char p2) (nar .char p3)) cs h61 n0 O62 gg49 f65 f66 f67 V61 Si0 (hcs) ((Ne.symm (Nat.ne_of_lt (Nat.lt_of_lt_of_le D49_value.lt (Nat.le_of_eq g52.symm))))) (by decide) (by decide) (own_fb hb1 hb2 hb3 (by decide))) hZ (hw _ (List.mem_of_getElem? (i := 10) rfl)) (hw _ (List.mem_of_getElem? (i := 6) rfl)) (by decide) (by decide)) (g := (mkF m 78 #[.val (.int p0), .val (.int p1), .val (.int p2), .val (.int p3)] [(.ref b52), (.ref b49), (.ref b49)])) rfl (by rw [hml]; rfl) (Steps.refl _) (a := b49) (argsL := [(.ref b52)]) (rest := [(.ref b49)]) (lenOf pd__28_5bC_29V rfl) rfl (by show 2 * 0 + _ ≤ _; exact Nat.le_of_eq rfl) (hb hby d1_78) (fun _ _ => ⟨rfl, e61, (by decide : 2 + 1 ≤ _), (by decide : 7 + 16 ≤ _)⟩))
        obtain ⟨t_64, kt_64, rfl, N64q, Q64_0, Q64_1, Q64_2, Q64_3, Q64_4, Q64_5⟩ := hQ64
        have N64 := Fr.app N61 N64q
        obtain ⟨h64, e64⟩ : ∃ z, T64.heap = z := ⟨_, rfl⟩
        rw [e64] at Q64_0 Q64_1 Q64_2 Q64_3 Q64_4
        have O68 : Old Z n0 h64 := O62.keep Q64_0 (allS gg49 all0)
        have K69 : Keep h0 h64 [] := K63.trans Q64_0 (allS (Or.inr sz49) all0)
        have gg64_5 : n0 ≤ t_64 := Nat.le_trans (own_le O62) Q64_5
        have sz64_5 : h0.size ≤ t_64 := (Nat.le_trans K63.1 Q64_5)
        refine run_fwd (T' := T64) (g' := (mkF m 81 #[.val (.int p0), .val (.int p1), .val (.int p2), .val (.int p3)] [(.ref b49)])) (fun _ k => st64.trans k) ?_
        exact run_retW X64 hx ((State.WarmedH.refl s).since 0) (own_hk e64 (Nat.le_trans (Nat.le_trans (Nat.le_trans (Nat.le_trans (Nat.le_trans (Nat.le_trans (Nat.zero_le _) E49.1) E52.1) (Keep.of_wr W55).1) (Keep.of_wr W58).1) (Keep.of_wr W61).1) Q64_0.1)) Bd.returns Bd.notSynchronized rfl (Or.inr (Or.inr (Or.inr (Or.inr ⟨rfl, rfl, rfl⟩)))) (hb hby d1_81) (by rw [e64]; exact ⟨b49, t_64, kt_64, (own_tab (own_by (own_f (nar .char p1) (nar .char p2) (nar .char p3))) 3), rfl, N64, K69, sz49, Q64_1, Q64_2, Q64_3, own_arvn (own_three hq hc1_1 hc17_14 hc37_30) Q64_4⟩) (by decide) (by decide)
theorem d10_0 : decode prog_1_method_1_code 0 = .ok (.aload_n 0, 1) := by decide +kernel
theorem d10_1 : decode prog_1_method_1_code 1 = .ok (.invokespecial 1, 3) := by decide +kernel
theorem d10_4 : decode prog_1_method_1_code 4 = .ok (.aload_n 0, 1) := by decide +kernel
theorem d10_5 : decode prog_1_method_1_code 5 = .ok (.iload_n 1, 1) := by decide +kernel
theorem d10_6 : decode prog_1_method_1_code 6 = .ok (.putfield 7, 3) := by decide +kernel
theorem d10_9 : decode prog_1_method_1_code 9 = .ok (.aload_n 0, 1) := by decide +kernel
theorem d10_10 : decode prog_1_method_1_code 10 = .ok (.lload_n 2, 1) := by decide +kernel
theorem d10_11 : decode prog_1_method_1_code 11 = .ok (.putfield 13, 3) := by decide +kernel
theorem d10_14 : decode prog_1_method_1_code 14 = .ok (.aload_n 0, 1) := by decide +kernel
theorem d10_15 : decode prog_1_method_1_code 15 = .ok (.lload 4, 2) := by decide +kernel
theorem d10_17 : decode prog_1_method_1_code 17 = .ok (.putfield 17, 3) := by decide +kernel
theorem d10_20 : decode prog_1_method_1_code 20 = .ok (.aload_n 0, 1) := by decide +kernel
theorem d10_21 : decode prog_1_method_1_code 21 = .ok (.aload 6, 2) := by decide +kernel
theorem d10_23 : decode prog_1_method_1_code 23 = .ok (.putfield 20, 3) := by decide +kernel
theorem d10_26 : decode prog_1_method_1_code 26 = .ok (.return_, 1) := by decide +kernel
theorem pn_com_example_barnacle_barnacle_redis_Acquisition : plainName "com/example/barnacle/barnacle/redis/Acquisition" = true := by first | (simp [plainName, overriddenIn]; done) | decide +kernel
theorem ef_rm10 (m : MethodId) (x0 : Addr) (x1 : Int32) (x2 : Int64) (x3 : Int64) (x4 : Addr) : entryFrame m #[(.ref x0), (.int x1), (.long x2), (.long x3), (.ref x4)] 7 = mkF m 0 #[.val (.ref x0), .val (.int x1), .val (.long x2), .second, .val (.long x3), .second, .val (.ref x4)] [] := by first | (simp [entryFrame, mkF, argsToLocals, Value.category]; done) | rfl
def Qrm10 (Z : State) (a0 : Addr) (q2 : Int64) (q3 : Int64) (a4 : Addr) (h0 : Heap) (n0 : Nat) (v : Option Value) (h : Heap) (L : List Loc) : Prop := v = none ∧ Fr n0 L ∧ Keep h0 h [a0] ∧ Exa Z h a0 "com/example/barnacle/barnacle/redis/Acquisition" ∧ Fld Z h a0 "com/example/barnacle/barnacle/redis/Acquisition" "taken" "Z" (.int (0 : Int32)) ∧ Fld Z h a0 "com/example/barnacle/barnacle/redis/Acquisition" "holderLeaseLeftMillis" "J" (.long q3) ∧ Fld Z h a0 "com/example/barnacle/barnacle/redis/Acquisition" "holderToken" "Ljava/lang/String;" (.ref a4)
set_option maxRecDepth 65536 in
set_option maxHeartbeats 40000000 in
theorem rm10 (l : Launch) (Z : State) (aV : Array Value) (hw : ∀ d ∈ tables_1, d.before aV Z = true) (ws : List Jvm.Cond) (a0 : Addr) (q2 : Int64) (q3 : Int64) (a4 : Addr) (h0 : Heap) (n0 : Nat) (O0 : Old Z n0 h0) (gi0 : n0 ≤ a0) (Ei1 : Exa Z h0 a0 "com/example/barnacle/barnacle/redis/Acquisition") (Fi2 : Fld Z h0 a0 "com/example/barnacle/barnacle/redis/Acquisition" "taken" "Z" (.int (0 : Int32))) (Fi3 : Fld Z h0 a0 "com/example/barnacle/barnacle/redis/Acquisition" "fencingToken" "J" (.long (0 : Int64))) (Fi4 : Fld Z h0 a0 "com/example/barnacle/barnacle/redis/Acquisition" "holderLeaseLeftMillis" "J" (.long (0 : Int64))) (Fi5 : Fld Z h0 a0 "com/example/barnacle/barnacle/redis/Acquisition" "holderToken" "Ljava/lang/String;" .null) :
    MetFree l (⟨"com/example/barnacle/barnacle/redis/Acquisition", "<init>", "(ZJJLjava/lang/String;)V"⟩ : MethodName) (head1 (Jvm.Cond.code (⟨"com/example/barnacle/barnacle/redis/Acquisition", "<init>", "(ZJJLjava/lang/String;)V"⟩ : MethodName) prog_1_method_1_code 7 none :: ws) ({ frames := 1, cells := 0, slots := 0, locals := 12 } : Room)) (fun a U => a = #[(.ref a0), (.int (0 : Int32)), (.long q2), (.long q3), (.ref a4)] ∧ Z.Warmed39 U.vm ∧ U.heap = h0) (fun _ _ _ _ _ => True) (fun _ U o U' => ∃ v L, o = .returned v ∧ Qrm10 Z a0 q2 q3 a4 h0 n0 v U'.heap L ∧ FrameEnd U o U' L ({ frames := 1, cells := 0, slots := 0, locals := 12 } : Room).cells ({ frames := 1, cells := 0, slots := 0, locals := 12 } : Room).slots) := by
  refine MetFree.of_bodySF (plainFor_of_name pn_com_example_barnacle_barnacle_redis_Acquisition) hisR ?_
  intro p e s m args below meth c s₁ Bd hml0 hP hK
  obtain ⟨rfl, hZ, hh⟩ := hP
  have hx := Bd.exec
  have hby := Bd.bytes
  have hml : c.maxLocals = 7 := hml0
  have hown : s.vm.findClass "com/example/barnacle/barnacle/redis/Acquisition" = some m.cls := findClass_of_methodNamed Bd.named
  have hnm := (name_of_methodNamed Bd.named Bd.method).1
  have X0 : Stand p l e ({ frames := 1, cells := 0, slots := 0, locals := 12 } : Room) s m #[(.ref a0), (.int (0 : Int32)), (.long q2), (.long q3), (.ref a4)] below meth c s₁ [] 0 0 := Stand.of_body Bd
  have e0 : s₁.heap = h0 := by rw [← hh, Bd.state]; rfl
  have N0 := Fr.nil n0
  show Run p.tables e below (Wd s (Qrm10 Z a0 q2 q3 a4 h0 n0) ({ frames := 1, cells := 0, slots := 0, locals := 12 } : Room).cells ({ frames := 1, cells := 0, slots := 0, locals := 12 } : Room).slots) s₁ (entryFrame m #[(.ref a0), (.int (0 : Int32)), (.long q2), (.long q3), (.ref a4)] 7)
  rw [ef_rm10 m a0 ((0 : Int32)) q2 q3 a4]
  refine run_fwd (T' := s₁) (g' := (mkF m 1 #[.val (.ref a0), .val (.int (0 : Int32)), .val (.long q2), .second, .val (.long q3), .second, .val (.ref a4)] [(.ref a0)])) (fun _ k => XS.aloadN X0.here hx rfl (hb hby d10_0) rfl rfl k) ?_
  obtain ⟨T1, X1, e1, st1⟩ := initO X0 hx hZ hown (hw _ (List.mem_of_getElem? (i := 51) rfl)) (hw _ (List.mem_of_getElem? (i := 16) rfl)) (hw _ (List.mem_of_getElem? (i := 17) rfl)) e0 (g := (mkF m 1 #[.val (.ref a0), .val (.int (0 : Int32)), .val (.long q2), .second, .val (.long q3), .second, .val (.ref a4)] [(.ref a0)])) rfl (by rw [hml]; rfl) rfl (hb hby d10_1) (by decide) (W := 0) (by show 2 * 0 + _ ≤ _; exact Nat.le_of_eq rfl) (by decide)
  refine run_fwd (T' := T1) (g' := (mkF m 4 #[.val (.ref a0), .val (.int (0 : Int32)), .val (.long q2), .second, .val (.long q3), .second, .val (.ref a4)] [])) (fun _ k => st1 _ k) ?_
  refine run_fwd (T' := T1) (g' := (mkF m 5 #[.val (.ref a0), .val (.int (0 : Int32)), .val (.long q2), .second, .val (.long q3), .second, .val (.ref a4)] [(.ref a0)])) (fun _ k => XS.aloadN X1.here hx rfl (hb hby d10_4) rfl rfl k) ?_
  refine run_fwd (T' := T1) (g' := (mkF m 6 #[.val (.ref a0), .val (.int (0 : Int32)), .val (.long q2), .second, .val (.long q3), .second, .val (.ref a4)] [(.int (0 : Int32)), (.ref a0)])) (fun _ k => XS.iloadN X1.here hx rfl (hb hby d10_5) rfl k) ?_
  obtain ⟨T2, h2, X2, e2, W2, st2⟩ := putF X1 hx hZ hown (host := "") (Or.inl (hw _ (List.mem_of_getElem? (i := 52) rfl))) Via.refl e1 Fi2 Ei1 (Or.inr ⟨(hw _ (List.mem_of_getElem? (i := 53) rfl)), rfl, hnm⟩) (hw _ (List.mem_of_getElem? (i := 39) rfl)) (ty := .boolean) (by decide) (by decide) (by decide) (g := (mkF m 6 #[.val (.ref a0), .val (.int (0 : Int32)), .val (.long q2), .second, .val (.long q3), .second, .val (.ref a4)] [(.int (0 : Int32)), (.ref a0)])) rfl rfl (hb hby d10_6)
  have O3 : Old Z n0 h2 := O0.wr W2 gi0
  have K4 : Keep h0 h2 [a0] := (Keep.refl h0 [a0]).wr W2 (Or.inl (List.mem_of_getElem? (i := 0) rfl))
  have N2 := Fr.snoc X2 N0 gi0
  have Fw2 : Fld Z h2 a0 "com/example/barnacle/barnacle/redis/Acquisition" "taken" "Z" (.int (0 : Int32)) := Fi2.same W2
  refine run_fwd (T' := T2) (g' := (mkF m 9 #[.val (.ref a0), .val (.int (0 : Int32)), .val (.long q2), .second, .val (.long q3), .second, .val (.ref a4)] [])) (fun _ k => st2 _ k) ?_
  refine run_fwd (T' := T2) (g' := (mkF m 10 #[.val (.ref a0), .val (.int (0 : Int32)), .val (.long q2), .second, .val (.long q3), .second, .val (.ref a4)] [(.ref a0)])) (fun _ k => XS.aloadN X2.here hx rfl (hb hby d10_9) rfl rfl k) ?_
  refine run_fwd (T' := T2) (g' := (mkF m 11 #[.val (.ref a0), .val (.int (0 : Int32)), .val (.long q2), .second, .val (.long q3), .second, .val (.ref a4)] [(.long q2), (.ref a0)])) (fun _ k => XS.lloadN X2.here hx rfl (hb hby d10_10) rfl k) ?_
  have f5 : Exa Z h2 a0 "com/example/barnacle/barnacle/redis/Acquisition" := (Ei1.wr W2)
  have f6 : Fld Z h2 a0 "com/example/barnacle/barnacle/redis/Acquisition" "fencingToken" "J" (.long (0 : Int64)) := (Fi3.other W2 (Or.inr (slot_ne (Or.inr (hw _ (List.mem_of_getElem? (i := 55) rfl))) (Or.inr (hw _ (List.mem_of_getElem? (i := 53) rfl))) (by decide) (t := .long) (t' := .boolean) (by decide) (by decide))))
  obtain ⟨T7, h7, X7, e7, W7, st7⟩ := putF X2 hx hZ hown (host := "") (Or.inl (hw _ (List.mem_of_getElem? (i := 54) rfl))) Via.refl e2 f6 f5 (Or.inr ⟨(hw _ (List.mem_of_getElem? (i := 55) rfl)), rfl, hnm⟩) (hw _ (List.mem_of_getElem? (i := 39) rfl)) (ty := .long) (by decide) rfl rfl (g := (mkF m 11 #[.val (.ref a0), .val (.int (0 : Int32)), .val (.long q2), .second, .val (.long q3), .second, .val (.ref a4)] [(.long q2), (.ref a0)])) rfl rfl (hb hby d10_11)
  have O8 : Old Z n0 h7 := O3.wr W7 gi0
  have K9 : Keep h0 h7 [a0] := K4.wr W7 (Or.inl (List.mem_of_getElem? (i := 0) rfl))
  have N7 := Fr.snoc X7 N2 gi0
  have Fw7 : Fld Z h7 a0 "com/example/barnacle/barnacle/redis/Acquisition" "fencingToken" "J" (.long q2) := f6.same W7
  refine run_fwd (T' := T7) (g' := (mkF m 14 #[.val (.ref a0), .val (.int (0 : Int32)), .val (.long q2), .second, .val (.long q3), .second, .val (.ref a4)] [])) (fun _ k => st7 _ k) ?_
  refine run_fwd (T' := T7) (g' := (mkF m 15 #[.val (.ref a0), .val (.int (0 : Int32)), .val (.long q2), .second, .val (.long q3), .second, .val (.ref a4)] [(.ref a0)])) (fun _ k => XS.aloadN X7.here hx rfl (hb hby d10_14) rfl rfl k) ?_
  refine run_fwd (T' := T7) (g' := (mkF m 17 #[.val (.ref a0), .val (.int (0 : Int32)), .val (.long q2), .second, .val (.long q3), .second, .val (.ref a4)] [(.long q3), (.ref a0)])) (fun _ k => XS.lload X7.here hx rfl (hb hby d10_15) rfl k) ?_
  have f10 : Exa Z h7 a0 "com/example/barnacle/barnacle/redis/Acquisition" := (f5.wr W7)
  have f11 : Fld Z h7 a0 "com/example/barnacle/barnacle/redis/Acquisition" "holderLeaseLeftMillis" "J" (.long (0 : Int64)) := ((Fi4.other W2 (Or.inr (slot_ne (Or.inr (hw _ (List.mem_of_getElem? (i := 57) rfl))) (Or.inr (hw _ (List.mem_of_getElem? (i := 53) rfl))) (by decide) (t := .long) (t' := .boolean) (by decide) (by decide)))).other W7 (Or.inr (slot_ne (Or.inr (hw _ (List.mem_of_getElem? (i := 57) rfl))) (Or.inr (hw _ (List.mem_of_getElem? (i := 55) rfl))) (by decide) (t := .long) (t' := .long) (by decide) (by decide))))
  obtain ⟨T12, h12, X12, e12, W12, st12⟩ := putF X7 hx hZ hown (host := "") (Or.inl (hw _ (List.mem_of_getElem? (i := 56) rfl))) Via.refl e7 f11 f10 (Or.inr ⟨(hw _ (List.mem_of_getElem? (i := 57) rfl)), rfl, hnm⟩) (hw _ (List.mem_of_getElem? (i := 39) rfl)) (ty := .long) (by decide) rfl rfl (g := (mkF m 17 #[.val (.ref a0), .val (.int (0 : Int32)), .val (.long q2), .second, .val (.long q3), .second, .val (.ref a4)] [(.long q3), (.ref a0)])) rfl rfl (hb hby d10_17)
  have O13 : Old Z n0 h12 := O8.wr W12 gi0
  have K14 : Keep h0 h12 [a0] := K9.wr W12 (Or.inl (List.mem_of_getElem? (i := 0) rfl))
  have N12 := Fr.snoc X12 N7 gi0
  have Fw12 : Fld Z h12 a0 "com/example/barnacle/barnacle/redis/Acquisition" "holderLeaseLeftMillis" "J" (.long q3) := f11.same W12
  refine run_fwd (T' := T12) (g' := (mkF m 20 #[.val (.ref a0), .val (.int (0 : Int32)), .val (.long q2), .second, .val (.long q3), .second, .val (.ref a4)] [])) (fun _ k => st12 _ k) ?_
  refine run_fwd (T' := T12) (g' := (mkF m 21 #[.val (.ref a0), .val (.int (0 : Int32)), .val (.long q2), .second, .val (.long q3), .second, .val (.ref a4)] [(.ref a0)])) (fun _ k => XS.aloadN X12.here hx rfl (hb hby d10_20) rfl rfl k) ?_
  refine run_fwd (T' := T12) (g' := (mkF m 23 #[.val (.ref a0), .val (.int (0 : Int32)), .val (.long q2), .second, .val (.long q3), .second, .val (.ref a4)] [(.ref a4), (.ref a0)])) (fun _ k => XS.aload X12.here hx rfl (hb hby d10_21) rfl rfl k) ?_
  have f15 : Exa Z h12 a0 "com/example/barnacle/barnacle/redis/Acquisition" := (f10.wr W12)
  have f16 : Fld Z h12 a0 "com/example/barnacle/barnacle/redis/Acquisition" "holderToken" "Ljava/lang/String;" .null := (((Fi5.other W2 (Or.inr (slot_ne (Or.inr (hw _ (List.mem_of_getElem? (i := 59) rfl))) (Or.inr (hw _ (List.mem_of_getElem? (i := 53) rfl))) (by decide) (t := (.object "java/lang/String")) (t' := .boolean) (by decide) (by decide)))).other W7 (Or.inr (slot_ne (Or.inr (hw _ (List.mem_of_getElem? (i := 59) rfl))) (Or.inr (hw _ (List.mem_of_getElem? (i := 55) rfl))) (by decide) (t := (.object "java/lang/String")) (t' := .long) (by decide) (by decide)))).other W12 (Or.inr (slot_ne (Or.inr (hw _ (List.mem_of_getElem? (i := 59) rfl))) (Or.inr (hw _ (List.mem_of_getElem? (i := 57) rfl))) (by decide) (t := (.object "java/lang/String")) (t' := .long) (by decide) (by decide))))
  obtain ⟨T17, h17, X17, e17, W17, st17⟩ := putF X12 hx hZ hown (host := "") (Or.inl (hw _ (List.mem_of_getElem? (i := 58) rfl))) Via.refl e12 f16 f15 (Or.inr ⟨(hw _ (List.mem_of_getElem? (i := 59) rfl)), rfl, hnm⟩) (hw _ (List.mem_of_getElem? (i := 39) rfl)) (ty := (.object "java/lang/String")) (by decide) rfl rfl (g := (mkF m 23 #[.val (.ref a0), .val (.int (0 : Int32)), .val (.long q2), .second, .val (.long q3), .second, .val (.ref a4)] [(.ref a4), (.ref a0)])) rfl rfl (hb hby d10_23)
  have O18 : Old Z n0 h17 := O13.wr W17 gi0
  have K19 : Keep h0 h17 [a0] := K14.wr W17 (Or.inl (List.mem_of_getElem? (i := 0) rfl))
  have N17 := Fr.snoc X17 N12 gi0
  have Fw17 : Fld Z h17 a0 "com/example/barnacle/barnacle/redis/Acquisition" "holderToken" "Ljava/lang/String;" (.ref a4) := f16.same W17
  refine run_fwd (T' := T17) (g' := (mkF m 26 #[.val (.ref a0), .val (.int (0 : Int32)), .val (.long q2), .second, .val (.long q3), .second, .val (.ref a4)] [])) (fun _ k => st17 _ k) ?_
  exact run_ret0 X17 hx Bd.returns Bd.notSynchronized (hb hby d10_26) (by rw [e17]; exact ⟨rfl, N17, K19, (f15.wr W17), (((Fw2.other W7 (Or.inr (slot_ne (Or.inr (hw _ (List.mem_of_getElem? (i := 53) rfl))) (Or.inr (hw _ (List.mem_of_getElem? (i := 55) rfl))) (by decide) (t := .boolean) (t' := .long) (by decide) (by decide)))).other W12 (Or.inr (slot_ne (Or.inr (hw _ (List.mem_of_getElem? (i := 53) rfl))) (Or.inr (hw _ (List.mem_of_getElem? (i := 57) rfl))) (by decide) (t := .boolean) (t' := .long) (by decide) (by decide)))).other W17 (Or.inr (slot_ne (Or.inr (hw _ (List.mem_of_getElem? (i := 53) rfl))) (Or.inr (hw _ (List.mem_of_getElem? (i := 59) rfl))) (by decide) (t := .boolean) (t' := (.object "java/lang/String")) (by decide) (by decide)))), (Fw12.other W17 (Or.inr (slot_ne (Or.inr (hw _ (List.mem_of_getElem? (i := 57) rfl))) (Or.inr (hw _ (List.mem_of_getElem? (i := 59) rfl))) (by decide) (t := .long) (t' := (.object "java/lang/String")) (by decide) (by decide)))), Fw17⟩) (by decide) (by decide)
theorem d9_0 : decode jdk_31_method_11_code 0 = .ok (.aload_n 0, 1) := by decide +kernel
theorem d9_1 : decode jdk_31_method_11_code 1 = .ok (.ifnonnull 12, 3) := by decide +kernel
theorem d9_13 : decode jdk_31_method_11_code 13 = .ok (.aload_n 0, 1) := by decide +kernel
theorem d9_14 : decode jdk_31_method_11_code 14 = .ok (.areturn, 1) := by decide +kernel
theorem pn_java_util_Objects : plainName "java/util/Objects" = true := by first | (simp [plainName, overriddenIn]; done) | decide +kernel
theorem ef_rm9 (m : MethodId) (x0 : Addr) (x1 : Addr) : entryFrame m #[(.ref x0), (.ref x1)] 2 = mkF m 0 #[.val (.ref x0), .val (.ref x1)] [] := by first | (simp [entryFrame, mkF, argsToLocals, Value.category]; done) | rfl
def Qrm9 (Z : State) (a0 : Addr) (a1 : Addr) (h0 : Heap) (n0 : Nat) (v : Option Value) (h : Heap) (L : List Loc) : Prop := v = some (.ref a0) ∧ Fr n0 L ∧ h = h0
set_option maxRecDepth 65536 in
set_option maxHeartbeats 40000000 in
theorem rm9 (l : Launch) (Z : State) (aV : Array Value) (hw : ∀ d ∈ tables_1, d.before aV Z = true) (ws : List Jvm.Cond) (a0 : Addr) (a1 : Addr) (h0 : Heap) (n0 : Nat) (O0 : Old Z n0 h0) :
    MetFree l (⟨"java/util/Objects", "requireNonNull", "(Ljava/lang/Object;Ljava/lang/String;)Ljava/lang/Object;"⟩ : MethodName) (head1 (Jvm.Cond.code (⟨"java/util/Objects", "requireNonNull", "(Ljava/lang/Object;Ljava/lang/String;)Ljava/lang/Object;"⟩ : MethodName) jdk_31_method_11_code 2 (some (.object "java/lang/Object")) :: ws) ({ frames := 0, cells := 0, slots := 0, locals := 0 } : Room)) (fun a U => a = #[(.ref a0), (.ref a1)] ∧ Z.Warmed39 U.vm ∧ U.heap = h0) (fun _ _ _ _ _ => True) (fun _ U o U' => ∃ v L, o = .returned v ∧ Qrm9 Z a0 a1 h0 n0 v U'.heap L ∧ FrameEnd U o U' L ({ frames := 0, cells := 0, slots := 0, locals := 0 } : Room).cells ({ frames := 0, cells := 0, slots := 0, locals := 0 } : Room).slots) := by
  refine MetFree.of_bodySF (plainFor_of_name pn_java_util_Objects) hisR ?_
  intro p e s m args below meth c s₁ Bd hml0 hP hK
  obtain ⟨rfl, hZ, hh⟩ := hP
  have hx := Bd.exec
  have hby := Bd.bytes
  have hml : c.maxLocals = 2 := hml0
  have hown : s.vm.findClass "java/util/Objects" = some m.cls := findClass_of_methodNamed Bd.named
  have hnm := (name_of_methodNamed Bd.named Bd.method).1
  have X0 : Stand p l e ({ frames := 0, cells := 0, slots := 0, locals := 0 } : Room) s m #[(.ref a0), (.ref a1)] below meth c s₁ [] 0 0 := Stand.of_body Bd
  have e0 : s₁.heap = h0 := by rw [← hh, Bd.state]; rfl
  have N0 := Fr.nil n0
  show Run p.tables e below (Wd s (Qrm9 Z a0 a1 h0 n0) ({ frames := 0, cells := 0, slots := 0, locals := 0 } : Room).cells ({ frames := 0, cells := 0, slots := 0, locals := 0 } : Room).slots) s₁ (entryFrame m #[(.ref a0), (.ref a1)] 2)
  rw [ef_rm9 m a0 a1]
  refine run_fwd (T' := s₁) (g' := (mkF m 1 #[.val (.ref a0), .val (.ref a1)] [(.ref a0)])) (fun _ k => XS.aloadN X0.here hx rfl (hb hby d9_0) rfl rfl k) ?_
  refine run_fwd (T' := s₁) (g' := (mkF m 13 #[.val (.ref a0), .val (.ref a1)] [])) (fun _ k => XS.ifnonnullYes X0.here hx rfl (pc0 := 1) (pc' := 13) rfl (hb hby d9_1) rfl (by decide) (by decide) k) ?_
  refine run_fwd (T' := s₁) (g' := (mkF m 14 #[.val (.ref a0), .val (.ref a1)] [(.ref a0)])) (fun _ k => XS.aloadN X0.here hx rfl (hb hby d9_13) rfl rfl k) ?_
  exact run_ret X0 hx Bd.returns Bd.notSynchronized rfl (Or.inr (Or.inr (Or.inr (Or.inr ⟨rfl, rfl, rfl⟩)))) (hb hby d9_14) (by rw [e0]; exact ⟨rfl, N0, rfl⟩) (by decide) (by decide)
theorem d8_0 : decode prog_1_method_3_code 0 = .ok (.new 8, 3) := by decide +kernel
theorem d8_3 : decode prog_1_method_3_code 3 = .ok (.dup, 1) := by decide +kernel
theorem d8_4 : decode prog_1_method_3_code 4 = .ok (.iconst 0, 1) := by decide +kernel
theorem d8_5 : decode prog_1_method_3_code 5 = .ok (.lconst 0, 1) := by decide +kernel
theorem d8_6 : decode prog_1_method_3_code 6 = .ok (.lload_n 0, 1) := by decide +kernel
theorem d8_7 : decode prog_1_method_3_code 7 = .ok (.aload_n 2, 1) := by decide +kernel
theorem d8_8 : decode prog_1_method_3_code 8 = .ok (.ldc 29, 2) := by decide +kernel
theorem d8_10 : decode prog_1_method_3_code 10 = .ok (.invokestatic 30, 3) := by decide +kernel
theorem pd__28Ljava_2flang_2fObject_3bLjava_2flang_2fString_3b_29Ljava_2flang_2fObject_3b : parseMethodDescriptor "(Ljava/lang/Object;Ljava/lang/String;)Ljava/lang/Object;" = some ⟨[(.object "java/lang/Object"), (.object "java/lang/String")], some (.object "java/lang/Object")⟩ := by decide +kernel
theorem d8_13 : decode prog_1_method_3_code 13 = .ok (.checkcast 36, 3) := by decide +kernel
theorem d8_16 : decode prog_1_method_3_code 16 = .ok (.invokespecial 26, 3) := by decide +kernel
theorem pd__28ZJJLjava_2flang_2fString_3b_29V : parseMethodDescriptor "(ZJJLjava/lang/String;)V" = some ⟨[.boolean, .long, .long, (.object "java/lang/String")], none⟩ := by decide +kernel
theorem d8_19 : decode prog_1_method_3_code 19 = .ok (.areturn, 1) := by decide +kernel
theorem ef_rm8 (m : MethodId) (x0 : Int64) (x1 : Addr) : entryFrame m #[(.long x0), (.ref x1)] 3 = mkF m 0 #[.val (.long x0), .second, .val (.ref x1)] [] := by first | (simp [entryFrame, mkF, argsToLocals, Value.category]; done) | rfl
def Qrm8 (Z : State) (q0 : Int64) (a1 : Addr) (h0 : Heap) (n0 : Nat) (v : Option Value) (h : Heap) (L : List Loc) : Prop := ∃ (b : Addr), v = some (.ref b) ∧ Fr n0 L ∧ Keep h0 h [] ∧ h0.size ≤ b ∧ Exa Z h b "com/example/barnacle/barnacle/redis/Acquisition" ∧ Fld Z h b "com/example/barnacle/barnacle/redis/Acquisition" "taken" "Z" (.int (0 : Int32)) ∧ Fld Z h b "com/example/barnacle/barnacle/redis/Acquisition" "holderLeaseLeftMillis" "J" (.long q0) ∧ Fld Z h b "com/example/barnacle/barnacle/redis/Acquisition" "holderToken" "Ljava/lang/String;" (.ref a1)
set_option maxRecDepth 65536 in
set_option maxHeartbeats 40000000 in
theorem rm8 (l : Launch) (Z : State) (aV : Array Value) (hw : ∀ d ∈ tables_1, d.before aV Z = true) (ws : List Jvm.Cond) (q0 : Int64) (a1 : Addr) (h0 : Heap) (n0 : Nat) (O0 : Old Z n0 h0) (Ei0 : Exa Z h0 a1 "java/lang/String") :
    MetFree l (⟨"com/example/barnacle/barnacle/redis/Acquisition", "refused", "(JLjava/lang/String;)Lcom/example/barnacle/barnacle/redis/Acquisition;"⟩ : MethodName) (head1 (Jvm.Cond.code (⟨"com/example/barnacle/barnacle/redis/Acquisition", "refused", "(JLjava/lang/String;)Lcom/example/barnacle/barnacle/redis/Acquisition;"⟩ : MethodName) prog_1_method_3_code 3 (some (.object "com/example/barnacle/barnacle/redis/Acquisition")) :: ws) ({ frames := 2, cells := 3, slots := 72, locals := 31 } : Room)) (fun a U => a = #[(.long q0), (.ref a1)] ∧ Z.Warmed39 U.vm ∧ U.heap = h0) (fun _ _ _ _ _ => True) (fun _ U o U' => ∃ v L, o = .returned v ∧ Qrm8 Z q0 a1 h0 n0 v U'.heap L ∧ ReturnedEndW U o U' L ({ frames := 2, cells := 3, slots := 72, locals := 31 } : Room).cells ({ frames := 2, cells := 3, slots := 72, locals := 31 } : Room).slots) := by
  refine MetFree.of_bodySF (plainFor_of_name pn_com_example_barnacle_barnacle_redis_Acquisition) hisR ?_
  intro p e s m args below meth c s₁ Bd hml0 hP hK
  obtain ⟨rfl, hZ, hh⟩ := hP
  have hx := Bd.exec
  have hby := Bd.bytes
  have hml : c.maxLocals = 3 := hml0
  have hown : s.vm.findClass "com/example/barnacle/barnacle/redis/Acquisition" = some m.cls := findClass_of_methodNamed Bd.named
  have hnm := (name_of_methodNamed Bd.named Bd.method).1
  have X0 : Stand p l e ({ frames := 2, cells := 3, slots := 72, locals := 31 } : Room) (s.setVm s.vm) m #[(.long q0), (.ref a1)] below meth c s₁ [] 0 0 := Stand.of_body Bd
  have e0 : s₁.heap = h0 := by rw [← hh, Bd.state]; rfl
  have N0 := Fr.nil n0
  show Run p.tables e below (WdW s (Qrm8 Z q0 a1 h0 n0) ({ frames := 2, cells := 3, slots := 72, locals := 31 } : Room).cells ({ frames := 2, cells := 3, slots := 72, locals := 31 } : Room).slots) s₁ (entryFrame m #[(.long q0), (.ref a1)] 3)
  rw [ef_rm8 m q0 a1]
  have own_wS := own_wS' hw
  obtain ⟨T1, h1, X1, e1, E1, A1, D1, U1, st1⟩ := newO X0 hx hZ hown (hw _ (List.mem_of_getElem? (i := 38) rfl)) (hw _ (List.mem_of_getElem? (i := 39) rfl)) (hw _ (List.mem_of_getElem? (i := 36) rfl)) e0 (g := (mkF m 0 #[.val (.long q0), .second, .val (.ref a1)] [])) rfl (hb hby d8_0) (by decide) (by decide)
  obtain ⟨b1, g1⟩ : ∃ z, z = h0.size := ⟨_, rfl⟩
  rw [← g1] at A1 D1 U1 st1
  have gg1 : n0 ≤ b1 := Nat.le_trans (own_le O0) (Nat.le_of_eq g1.symm)
  have sz1 : h0.size ≤ b1 := Nat.le_trans (Keep.refl h0 []).1 (Nat.le_of_eq g1.symm)
  have O2 : Old Z n0 h1 := O0.ext E1
  have K3 : Keep h0 h1 [] := (Keep.refl h0 []).ext E1
  have D1_taken : Fld Z h1 b1 "com/example/barnacle/barnacle/redis/Acquisition" "taken" "Z" (.int (0 : Int32)) := D1 (Or.inr (hw _ (List.mem_of_getElem? (i := 53) rfl))) (ty := .boolean) (by decide)
  have D1_fencingToken : Fld Z h1 b1 "com/example/barnacle/barnacle/redis/Acquisition" "fencingToken" "J" (.long (0 : Int64)) := D1 (Or.inr (hw _ (List.mem_of_getElem? (i := 55) rfl))) (ty := .long) (by decide)
  have D1_holderLeaseLeftMillis : Fld Z h1 b1 "com/example/barnacle/barnacle/redis/Acquisition" "holderLeaseLeftMillis" "J" (.long (0 : Int64)) := D1 (Or.inr (hw _ (List.mem_of_getElem? (i := 57) rfl))) (ty := .long) (by decide)
  have D1_holderToken : Fld Z h1 b1 "com/example/barnacle/barnacle/redis/Acquisition" "holderToken" "Ljava/lang/String;" .null := D1 (Or.inr (hw _ (List.mem_of_getElem? (i := 59) rfl))) (ty := (.object "java/lang/String")) (by decide)
  refine run_fwd (T' := T1) (g' := (mkF m 3 #[.val (.long q0), .second, .val (.ref a1)] [(.ref b1)])) (fun _ k => st1 _ k) ?_
  refine run_fwd (T' := T1) (g' := (mkF m 4 #[.val (.long q0), .second, .val (.ref a1)] [(.ref b1), (.ref b1)])) (fun _ k => XS.dup X1.here hx rfl (hb hby d8_3) rfl rfl k) ?_
  refine run_fwd (T' := T1) (g' := (mkF m 5 #[.val (.long q0), .second, .val (.ref a1)] [(.int (0 : Int32)), (.ref b1), (.ref b1)])) (fun _ k => XS.iconst X1.here hx rfl (hb hby d8_4) k) ?_
  refine run_fwd (T' := T1) (g' := (mkF m 6 #[.val (.long q0), .second, .val (.ref a1)] [(.long (0 : Int64)), (.int (0 : Int32)), (.ref b1), (.ref b1)])) (fun _ k => XS.lconst X1.here hx rfl (hb hby d8_5) k) ?_
  refine run_fwd (T' := T1) (g' := (mkF m 7 #[.val (.long q0), .second, .val (.ref a1)] [(.long q0), (.long (0 : Int64)), (.int (0 : Int32)), (.ref b1), (.ref b1)])) (fun _ k => XS.lloadN X1.here hx rfl (hb hby d8_6) rfl k) ?_
  refine run_fwd (T' := T1) (g' := (mkF m 8 #[.val (.long q0), .second, .val (.ref a1)] [(.ref a1), (.long q0), (.long (0 : Int64)), (.int (0 : Int32)), (.ref b1), (.ref b1)])) (fun _ k => XS.aloadN X1.here hx rfl (hb hby d8_7) rfl rfl k) ?_
  obtain ⟨b4, T4, h4, k4, X4, e4, E4, hS4, hk4, hZ, hown, CH4, Lt4, st4⟩ := ldcOH (EL := []) X1 hx hZ hown (hw _ (List.mem_of_getElem? (i := 40) rfl)) own_wS e1 ((State.WarmedH.refl s).since 0) (Nat.le_trans (Nat.zero_le _) E1.1) EW.nil own_CH (g := (mkF m 8 #[.val (.long q0), .second, .val (.ref a1)] [(.ref a1), (.long q0), (.long (0 : Int64)), (.int (0 : Int32)), (.ref b1), (.ref b1)])) rfl (hb hby d8_8) (n := 64) (by decide) (by decide) (by decide) (by decide)
  have O5 : Old Z n0 h4 := O2.ext E4
  have K6 : Keep h0 h4 [] := K3.ext E4
  refine run_fwd (T' := T4) (g' := (mkF m 10 #[.val (.long q0), .second, .val (.ref a1)] [(.ref b4), (.ref a1), (.long q0), (.long (0 : Int64)), (.int (0 : Int32)), (.ref b1), (.ref b1)])) (fun _ k => st4 _ k) ?_
  obtain ⟨T7, v7, L7, X7, hQ7, st7⟩ := own_gotS X4 (Jvm.LawKit.callS X4 hx (y := (⟨"java/util/Objects", "requireNonNull", "(Ljava/lang/Object;Ljava/lang/String;)Ljava/lang/Object;"⟩ : MethodName)) hown (mvT hZ (hw _ (List.mem_of_getElem? (i := 43) rfl))) (mvT hZ (hw _ (List.mem_of_getElem? (i := 44) rfl))) (mvT hZ (hw _ (List.mem_of_getElem? (i := 45) rfl))) (mvT hZ (hw _ (List.mem_of_getElem? (i := 46) rfl))) (by decide) (backOf (W := 7) (rm9 l Z aV hw [] a1 b4 h4 n0 O5 ) hZ (hw _ (List.mem_of_getElem? (i := 46) rfl)) (hw _ (List.mem_of_getElem? (i := 45) rfl)) (by decide) (by decide)) (g := (mkF m 10 #[.val (.long q0), .second, .val (.ref a1)] [(.ref b4), (.ref a1), (.long q0), (.long (0 : Int64)), (.int (0 : Int32)), (.ref b1), (.ref b1)])) rfl (by rw [hml]; rfl) (argsL := [(.ref a1), (.ref b4)]) (rest := [(.long q0), (.long (0 : Int64)), (.int (0 : Int32)), (.ref b1), (.ref b1)]) (lenOf pd__28Ljava_2flang_2fObject_3bLjava_2flang_2fString_3b_29Ljava_2flang_2fObject_3b rfl) rfl (by show 2 * 0 + _ ≤ _; exact Nat.le_of_eq rfl) (hb hby d8_10) (fun _ _ => ⟨rfl, e4, (by decide : 3 + 0 ≤ _), (by decide : 72 + 0 ≤ _)⟩))
  obtain ⟨rfl, N7q, Q7_0⟩ := hQ7
  have N7 := Fr.app N0 N7q
  refine run_fwd (T' := T7) (g' := (mkF m 13 #[.val (.long q0), .second, .val (.ref a1)] [(.ref a1), (.long q0), (.long (0 : Int64)), (.int (0 : Int32)), (.ref b1), (.ref b1)])) (fun _ k => st7 _ k) ?_
  have f8 : Exa Z h4 a1 "java/lang/String" := ((Ei0.ext E1).ext E4)
  obtain ⟨T9, X9, e9, st9⟩ := castY X7 hx hZ hown (hw _ (List.mem_of_getElem? (i := 47) rfl)) Q7_0 (Ins.self f8) (g := (mkF m 13 #[.val (.long q0), .second, .val (.ref a1)] [(.ref a1), (.long q0), (.long (0 : Int64)), (.int (0 : Int32)), (.ref b1), (.ref b1)])) rfl rfl (hb hby d8_13)
  refine run_fwd (T' := T9) (g' := (mkF m 16 #[.val (.long q0), .second, .val (.ref a1)] [(.ref a1), (.long q0), (.long (0 : Int64)), (.int (0 : Int32)), (.ref b1), (.ref b1)])) (fun _ k => st9 _ k) ?_
  have f11 : Exa Z h4 b1 "com/example/barnacle/barnacle/redis/Acquisition" := (A1.ext E4)
  have f12 : Fld Z h4 b1 "com/example/barnacle/barnacle/redis/Acquisition" "taken" "Z" (.int (0 : Int32)) := (D1_taken.ext E4)
  have f13 : Fld Z h4 b1 "com/example/barnacle/barnacle/redis/Acquisition" "fencingToken" "J" (.long (0 : Int64)) := (D1_fencingToken.ext E4)
  have f14 : Fld Z h4 b1 "com/example/barnacle/barnacle/redis/Acquisition" "holderLeaseLeftMillis" "J" (.long (0 : Int64)) := (D1_holderLeaseLeftMillis.ext E4)
  have f15 : Fld Z h4 b1 "com/example/barnacle/barnacle/redis/Acquisition" "holderToken" "Ljava/lang/String;" .null := (D1_holderToken.ext E4)
  obtain ⟨T10, v10, L10, X10, hQ10, st10⟩ := own_gotV X9 (X9.specialBack hx (y := (⟨"com/example/barnacle/barnacle/redis/Acquisition", "<init>", "(ZJJLjava/lang/String;)V"⟩ : MethodName)) rfl hown (mvT hZ (hw _ (List.mem_of_getElem? (i := 48) rfl))) (mvT hZ (hw _ (List.mem_of_getElem? (i := 49) rfl))) (mvT hZ (hw _ (List.mem_of_getElem? (i := 50) rfl))) (by decide) (backOf (W := 1) (rm10 l Z aV hw [] b1 (0 : Int64) q0 a1 h4 n0 O5 gg1 f11 f12 f13 f14 f15) hZ (hw _ (List.mem_of_getElem? (i := 50) rfl)) (hw _ (List.mem_of_getElem? (i := 36) rfl)) (by decide) (by decide)) (g := (mkF m 16 #[.val (.long q0), .second, .val (.ref a1)] [(.ref a1), (.long q0), (.long (0 : Int64)), (.int (0 : Int32)), (.ref b1), (.ref b1)])) rfl (by rw [hml]; rfl) (Steps.refl _) (a := b1) (argsL := [(.int (0 : Int32)), (.long (0 : Int64)), (.long q0), (.ref a1)]) (rest := [(.ref b1)]) (lenOf pd__28ZJJLjava_2flang_2fString_3b_29V rfl) rfl (by show 2 * 0 + _ ≤ _; exact Nat.le_of_eq rfl) (hb hby d8_16) (fun _ _ => ⟨rfl, e9, (by decide : 3 + 0 ≤ _), (by decide : 72 + 0 ≤ _)⟩))
  obtain ⟨rfl, N10q, Q10_0, Q10_1, Q10_2, Q10_3, Q10_4⟩ := hQ10
  have N10 := Fr.app N7 N10q
  obtain ⟨h10, e10⟩ : ∃ z, T10.heap = z := ⟨_, rfl⟩
  rw [e10] at Q10_0 Q10_1 Q10_2 Q10_3 Q10_4
  have O16 : Old Z n0 h10 := O5.keep Q10_0 (allS gg1 all0)
  have K17 : Keep h0 h10 [] := K6.trans Q10_0 (allS (Or.inr sz1) all0)
  refine run_fwd (T' := T10) (g' := (mkF m 19 #[.val (.long q0), .second, .val (.ref a1)] [(.ref b1)])) (fun _ k => st10.trans k) ?_
  exact run_retW X10 hx hS4 (own_hk e10 (Nat.le_trans hk4 Q10_0.1)) Bd.returns Bd.notSynchronized rfl (Or.inr (Or.inr (Or.inr (Or.inr ⟨rfl, rfl, rfl⟩)))) (hb hby d8_19) (by rw [e10]; exact ⟨b1, rfl, N10, K17, sz1, Q10_1, Q10_2, Q10_3, Q10_4⟩) (by decide) (by decide)
theorem d11_0 : decode prog_1_method_4_code 0 = .ok (.aload_n 0, 1) := by decide +kernel
theorem d11_1 : decode prog_1_method_4_code 1 = .ok (.getfield 7, 3) := by decide +kernel
theorem d11_4 : decode prog_1_method_4_code 4 = .ok (.ireturn, 1) := by decide +kernel
theorem ef_rm11 (m : MethodId) (x0 : Addr) : entryFrame m #[(.ref x0)] 1 = mkF m 0 #[.val (.ref x0)] [] := by first | (simp [entryFrame, mkF, argsToLocals, Value.category]; done) | rfl
def Qrm11 (Z : State) (a0 : Addr) (h0 : Heap) (n0 : Nat) (v : Option Value) (h : Heap) (L : List Loc) : Prop := v = some (.int (0 : Int32)) ∧ Fr n0 L ∧ h = h0
set_option maxRecDepth 65536 in
set_option maxHeartbeats 40000000 in
theorem rm11 (l : Launch) (Z : State) (aV : Array Value) (hw : ∀ d ∈ tables_1, d.before aV Z = true) (ws : List Jvm.Cond) (a0 : Addr) (h0 : Heap) (n0 : Nat) (O0 : Old Z n0 h0) (Fi0 : Fld Z h0 a0 "com/example/barnacle/barnacle/redis/Acquisition" "taken" "Z" (.int (0 : Int32))) :
    MetFree l (⟨"com/example/barnacle/barnacle/redis/Acquisition", "isTaken", "()Z"⟩ : MethodName) (head1 (Jvm.Cond.code (⟨"com/example/barnacle/barnacle/redis/Acquisition", "isTaken", "()Z"⟩ : MethodName) prog_1_method_4_code 1 (some .boolean) :: ws) ({ frames := 0, cells := 0, slots := 0, locals := 0 } : Room)) (fun a U => a = #[(.ref a0)] ∧ Z.Warmed39 U.vm ∧ U.heap = h0) (fun _ _ _ _ _ => True) (fun _ U o U' => ∃ v L, o = .returned v ∧ Qrm11 Z a0 h0 n0 v U'.heap L ∧ FrameEnd U o U' L ({ frames := 0, cells := 0, slots := 0, locals := 0 } : Room).cells ({ frames := 0, cells := 0, slots := 0, locals := 0 } : Room).slots) := by
  refine MetFree.of_bodySF (plainFor_of_name pn_com_example_barnacle_barnacle_redis_Acquisition) hisR ?_
  intro p e s m args below meth c s₁ Bd hml0 hP hK
  obtain ⟨rfl, hZ, hh⟩ := hP
  have hx := Bd.exec
  have hby := Bd.bytes
  have hml : c.maxLocals = 1 := hml0
  have hown : s.vm.findClass "com/example/barnacle/barnacle/redis/Acquisition" = some m.cls := findClass_of_methodNamed Bd.named
  have hnm := (name_of_methodNamed Bd.named Bd.method).1
  have X0 : Stand p l e ({ frames := 0, cells := 0, slots := 0, locals := 0 } : Room) s m #[(.ref a0)] below meth c s₁ [] 0 0 := Stand.of_body Bd
  have e0 : s₁.heap = h0 := by rw [← hh, Bd.state]; rfl
  have N0 := Fr.nil n0
  show Run p.tables e below (Wd s (Qrm11 Z a0 h0 n0) ({ frames := 0, cells := 0, slots := 0, locals := 0 } : Room).cells ({ frames := 0, cells := 0, slots := 0, locals := 0 } : Room).slots) s₁ (entryFrame m #[(.ref a0)] 1)
  rw [ef_rm11 m a0]
  refine run_fwd (T' := s₁) (g' := (mkF m 1 #[.val (.ref a0)] [(.ref a0)])) (fun _ k => XS.aloadN X0.here hx rfl (hb hby d11_0) rfl rfl k) ?_
  obtain ⟨T1, X1, e1, st1⟩ := getF X0 hx hZ hown (host := "") (Or.inl (hw _ (List.mem_of_getElem? (i := 52) rfl))) Via.refl e0 Fi0 (g := (mkF m 1 #[.val (.ref a0)] [(.ref a0)])) rfl rfl (hb hby d11_1)
  refine run_fwd (T' := T1) (g' := (mkF m 4 #[.val (.ref a0)] [(.int (0 : Int32))])) (fun _ k => st1 _ k) ?_
  exact run_ret X1 hx Bd.returns Bd.notSynchronized rfl (Or.inl ⟨rfl, by simp, _, rfl⟩) (hb hby d11_4) (by rw [e1]; exact ⟨rfl, N0, rfl⟩) (by decide) (by decide)
theorem d12_0 : decode prog_1_method_6_code 0 = .ok (.aload_n 0, 1) := by decide +kernel
theorem d12_1 : decode prog_1_method_6_code 1 = .ok (.invokevirtual 38, 3) := by decide +kernel
theorem pd__28_29Z : parseMethodDescriptor "()Z" = some ⟨[], some .boolean⟩ := by decide +kernel
theorem d12_4 : decode prog_1_method_6_code 4 = .ok (.ifCond .eq 13, 3) := by decide +kernel
theorem d12_17 : decode prog_1_method_6_code 17 = .ok (.aload_n 0, 1) := by decide +kernel
theorem d12_18 : decode prog_1_method_6_code 18 = .ok (.getfield 17, 3) := by decide +kernel
theorem d12_21 : decode prog_1_method_6_code 21 = .ok (.lreturn, 1) := by decide +kernel
theorem ef_rm12 (m : MethodId) (x0 : Addr) : entryFrame m #[(.ref x0)] 1 = mkF m 0 #[.val (.ref x0)] [] := by first | (simp [entryFrame, mkF, argsToLocals, Value.category]; done) | rfl
def Qrm12 (Z : State) (a0 : Addr) (w : Int64) (h0 : Heap) (n0 : Nat) (v : Option Value) (h : Heap) (L : List Loc) : Prop := v = some (.long w) ∧ Fr n0 L ∧ h = h0
set_option maxRecDepth 65536 in
set_option maxHeartbeats 40000000 in
theorem rm12 (l : Launch) (Z : State) (aV : Array Value) (hw : ∀ d ∈ tables_1, d.before aV Z = true) (ws : List Jvm.Cond) (a0 : Addr) (w : Int64) (h0 : Heap) (n0 : Nat) (O0 : Old Z n0 h0) (Ei0 : Exa Z h0 a0 "com/example/barnacle/barnacle/redis/Acquisition") (Fi1 : Fld Z h0 a0 "com/example/barnacle/barnacle/redis/Acquisition" "taken" "Z" (.int (0 : Int32))) (Fi2 : Fld Z h0 a0 "com/example/barnacle/barnacle/redis/Acquisition" "holderLeaseLeftMillis" "J" (.long w)) :
    MetFree l (⟨"com/example/barnacle/barnacle/redis/Acquisition", "holderLeaseLeftMillis", "()J"⟩ : MethodName) (head1 (Jvm.Cond.code (⟨"com/example/barnacle/barnacle/redis/Acquisition", "holderLeaseLeftMillis", "()J"⟩ : MethodName) prog_1_method_6_code 1 (some .long) :: ws) ({ frames := 1, cells := 0, slots := 0, locals := 12 } : Room)) (fun a U => a = #[(.ref a0)] ∧ Z.Warmed39 U.vm ∧ U.heap = h0) (fun _ _ _ _ _ => True) (fun _ U o U' => ∃ v L, o = .returned v ∧ Qrm12 Z a0 w h0 n0 v U'.heap L ∧ FrameEnd U o U' L ({ frames := 1, cells := 0, slots := 0, locals := 12 } : Room).cells ({ frames := 1, cells := 0, slots := 0, locals := 12 } : Room).slots) := by
  refine MetFree.of_bodySF (plainFor_of_name pn_com_example_barnacle_barnacle_redis_Acquisition) hisR ?_
  intro p e s m args below meth c s₁ Bd hml0 hP hK
  obtain ⟨rfl, hZ, hh⟩ := hP
  have hx := Bd.exec
  have hby := Bd.bytes
  have hml : c.maxLocals = 1 := hml0
  have hown : s.vm.findClass "com/example/barnacle/barnacle/redis/Acquisition" = some m.cls := findClass_of_methodNamed Bd.named
  have hnm := (name_of_methodNamed Bd.named Bd.method).1
  have X0 : Stand p l e ({ frames := 1, cells := 0, slots := 0, locals := 12 } : Room) s m #[(.ref a0)] below meth c s₁ [] 0 0 := Stand.of_body Bd
  have e0 : s₁.heap = h0 := by rw [← hh, Bd.state]; rfl
  have N0 := Fr.nil n0
  show Run p.tables e below (Wd s (Qrm12 Z a0 w h0 n0) ({ frames := 1, cells := 0, slots := 0, locals := 12 } : Room).cells ({ frames := 1, cells := 0, slots := 0, locals := 12 } : Room).slots) s₁ (entryFrame m #[(.ref a0)] 1)
  rw [ef_rm12 m a0]
  refine run_fwd (T' := s₁) (g' := (mkF m 1 #[.val (.ref a0)] [(.ref a0)])) (fun _ k => XS.aloadN X0.here hx rfl (hb hby d12_0) rfl rfl k) ?_
  obtain ⟨cq1, kq1, qr1a, qr1b, qr1c⟩ := isOf hZ e0 Ei0
  obtain ⟨T1, v1, L1, X1, hQ1, st1⟩ := own_gotV X0 (X0.virtualBack hx (y := (⟨"com/example/barnacle/barnacle/redis/Acquisition", "isTaken", "()Z"⟩ : MethodName)) (z := (⟨"com/example/barnacle/barnacle/redis/Acquisition", "isTaken", "()Z"⟩ : MethodName)) hown (mvT hZ (hw _ (List.mem_of_getElem? (i := 70) rfl))) (mvT hZ (hw _ (List.mem_of_getElem? (i := 61) rfl))) (notFace_of_selects (args := #[]) (mvT hZ (hw _ (List.mem_of_getElem? (i := 63) rfl)))) (mvT hZ (hw _ (List.mem_of_getElem? (i := 63) rfl))) (mvT hZ (hw _ (List.mem_of_getElem? (i := 62) rfl))) (by decide) (backOf (W := 0) (rm11 l Z aV hw [] a0 h0 n0 O0 Fi1) hZ (hw _ (List.mem_of_getElem? (i := 64) rfl)) (hw _ (List.mem_of_getElem? (i := 36) rfl)) (by decide) (by decide)) qr1a qr1c (g := (mkF m 1 #[.val (.ref a0)] [(.ref a0)])) rfl (by rw [hml]; rfl) (Steps.refl _) (argsL := []) (rest := []) (lenOf pd__28_29Z rfl) rfl (by show 2 * 0 + _ ≤ _; exact Nat.le_of_eq rfl) (hb hby d12_1) (fun _ _ => ⟨rfl, e0, (by decide : 0 + 0 ≤ _), (by decide : 0 + 0 ≤ _)⟩))
  obtain ⟨rfl, N1q, Q1_0⟩ := hQ1
  have N1 := Fr.app N0 N1q
  refine run_fwd (T' := T1) (g' := (mkF m 4 #[.val (.ref a0)] [(.int (0 : Int32))])) (fun _ k => st1.trans k) ?_
  have hc4_2 : (0 : Int32) = (0 : Int32) := (by decide)
  refine run_fwd (T' := T1) (g' := (mkF m 17 #[.val (.ref a0)] [])) (fun _ k => XS.ifYes X1.here hx rfl (pc0 := 4) (pc' := 17) rfl (hb hby d12_4) rfl ((if0 _ _).trans (teq hc4_2).1) (by decide) (by decide) k) ?_
  refine run_fwd (T' := T1) (g' := (mkF m 18 #[.val (.ref a0)] [(.ref a0)])) (fun _ k => XS.aloadN X1.here hx rfl (hb hby d12_17) rfl rfl k) ?_
  obtain ⟨T3, X3, e3, st3⟩ := getF X1 hx hZ hown (host := "") (Or.inl (hw _ (List.mem_of_getElem? (i := 56) rfl))) Via.refl Q1_0 Fi2 (g := (mkF m 18 #[.val (.ref a0)] [(.ref a0)])) rfl rfl (hb hby d12_18)
  refine run_fwd (T' := T3) (g' := (mkF m 21 #[.val (.ref a0)] [(.long w)])) (fun _ k => st3 _ k) ?_
  exact run_ret X3 hx Bd.returns Bd.notSynchronized rfl (Or.inr (Or.inl ⟨rfl, rfl, _, rfl⟩)) (hb hby d12_21) (by rw [e3]; exact ⟨rfl, N1, rfl⟩) (by decide) (by decide)
theorem d13_0 : decode prog_1_method_7_code 0 = .ok (.aload_n 0, 1) := by decide +kernel
theorem d13_1 : decode prog_1_method_7_code 1 = .ok (.invokevirtual 38, 3) := by decide +kernel
theorem d13_4 : decode prog_1_method_7_code 4 = .ok (.ifCond .eq 13, 3) := by decide +kernel
theorem d13_17 : decode prog_1_method_7_code 17 = .ok (.aload_n 0, 1) := by decide +kernel
theorem d13_18 : decode prog_1_method_7_code 18 = .ok (.getfield 20, 3) := by decide +kernel
theorem d13_21 : decode prog_1_method_7_code 21 = .ok (.areturn, 1) := by decide +kernel
theorem ef_rm13 (m : MethodId) (x0 : Addr) : entryFrame m #[(.ref x0)] 1 = mkF m 0 #[.val (.ref x0)] [] := by first | (simp [entryFrame, mkF, argsToLocals, Value.category]; done) | rfl
def Qrm13 (Z : State) (a0 : Addr) (w : Addr) (h0 : Heap) (n0 : Nat) (v : Option Value) (h : Heap) (L : List Loc) : Prop := v = some (.ref w) ∧ Fr n0 L ∧ h = h0
set_option maxRecDepth 65536 in
set_option maxHeartbeats 40000000 in
theorem rm13 (l : Launch) (Z : State) (aV : Array Value) (hw : ∀ d ∈ tables_1, d.before aV Z = true) (ws : List Jvm.Cond) (a0 : Addr) (w : Addr) (h0 : Heap) (n0 : Nat) (O0 : Old Z n0 h0) (Ei0 : Exa Z h0 a0 "com/example/barnacle/barnacle/redis/Acquisition") (Fi1 : Fld Z h0 a0 "com/example/barnacle/barnacle/redis/Acquisition" "taken" "Z" (.int (0 : Int32))) (Fi2 : Fld Z h0 a0 "com/example/barnacle/barnacle/redis/Acquisition" "holderToken" "Ljava/lang/String;" (.ref w)) :
    MetFree l (⟨"com/example/barnacle/barnacle/redis/Acquisition", "holderToken", "()Ljava/lang/String;"⟩ : MethodName) (head1 (Jvm.Cond.code (⟨"com/example/barnacle/barnacle/redis/Acquisition", "holderToken", "()Ljava/lang/String;"⟩ : MethodName) prog_1_method_7_code 1 (some (.object "java/lang/String")) :: ws) ({ frames := 1, cells := 0, slots := 0, locals := 12 } : Room)) (fun a U => a = #[(.ref a0)] ∧ Z.Warmed39 U.vm ∧ U.heap = h0) (fun _ _ _ _ _ => True) (fun _ U o U' => ∃ v L, o = .returned v ∧ Qrm13 Z a0 w h0 n0 v U'.heap L ∧ FrameEnd U o U' L ({ frames := 1, cells := 0, slots := 0, locals := 12 } : Room).cells ({ frames := 1, cells := 0, slots := 0, locals := 12 } : Room).slots) := by
  refine MetFree.of_bodySF (plainFor_of_name pn_com_example_barnacle_barnacle_redis_Acquisition) hisR ?_
  intro p e s m args below meth c s₁ Bd hml0 hP hK
  obtain ⟨rfl, hZ, hh⟩ := hP
  have hx := Bd.exec
  have hby := Bd.bytes
  have hml : c.maxLocals = 1 := hml0
  have hown : s.vm.findClass "com/example/barnacle/barnacle/redis/Acquisition" = some m.cls := findClass_of_methodNamed Bd.named
  have hnm := (name_of_methodNamed Bd.named Bd.method).1
  have X0 : Stand p l e ({ frames := 1, cells := 0, slots := 0, locals := 12 } : Room) s m #[(.ref a0)] below meth c s₁ [] 0 0 := Stand.of_body Bd
  have e0 : s₁.heap = h0 := by rw [← hh, Bd.state]; rfl
  have N0 := Fr.nil n0
  show Run p.tables e below (Wd s (Qrm13 Z a0 w h0 n0) ({ frames := 1, cells := 0, slots := 0, locals := 12 } : Room).cells ({ frames := 1, cells := 0, slots := 0, locals := 12 } : Room).slots) s₁ (entryFrame m #[(.ref a0)] 1)
  rw [ef_rm13 m a0]
  refine run_fwd (T' := s₁) (g' := (mkF m 1 #[.val (.ref a0)] [(.ref a0)])) (fun _ k => XS.aloadN X0.here hx rfl (hb hby d13_0) rfl rfl k) ?_
  obtain ⟨cq1, kq1, qr1a, qr1b, qr1c⟩ := isOf hZ e0 Ei0
  obtain ⟨T1, v1, L1, X1, hQ1, st1⟩ := own_gotV X0 (X0.virtualBack hx (y := (⟨"com/example/barnacle/barnacle/redis/Acquisition", "isTaken", "()Z"⟩ : MethodName)) (z := (⟨"com/example/barnacle/barnacle/redis/Acquisition", "isTaken", "()Z"⟩ : MethodName)) hown (mvT hZ (hw _ (List.mem_of_getElem? (i := 70) rfl))) (mvT hZ (hw _ (List.mem_of_getElem? (i := 61) rfl))) (notFace_of_selects (args := #[]) (mvT hZ (hw _ (List.mem_of_getElem? (i := 63) rfl)))) (mvT hZ (hw _ (List.mem_of_getElem? (i := 63) rfl))) (mvT hZ (hw _ (List.mem_of_getElem? (i := 62) rfl))) (by decide) (backOf (W := 0) (rm11 l Z aV hw [] a0 h0 n0 O0 Fi1) hZ (hw _ (List.mem_of_getElem? (i := 64) rfl)) (hw _ (List.mem_of_getElem? (i := 36) rfl)) (by decide) (by decide)) qr1a qr1c (g := (mkF m 1 #[.val (.ref a0)] [(.ref a0)])) rfl (by rw [hml]; rfl) (Steps.refl _) (argsL := []) (rest := []) (lenOf pd__28_29Z rfl) rfl (by show 2 * 0 + _ ≤ _; exact Nat.le_of_eq rfl) (hb hby d13_1) (fun _ _ => ⟨rfl, e0, (by decide : 0 + 0 ≤ _), (by decide : 0 + 0 ≤ _)⟩))
  obtain ⟨rfl, N1q, Q1_0⟩ := hQ1
  have N1 := Fr.app N0 N1q
  refine run_fwd (T' := T1) (g' := (mkF m 4 #[.val (.ref a0)] [(.int (0 : Int32))])) (fun _ k => st1.trans k) ?_
  have hc4_2 : (0 : Int32) = (0 : Int32) := (by decide)
  refine run_fwd (T' := T1) (g' := (mkF m 17 #[.val (.ref a0)] [])) (fun _ k => XS.ifYes X1.here hx rfl (pc0 := 4) (pc' := 17) rfl (hb hby d13_4) rfl ((if0 _ _).trans (teq hc4_2).1) (by decide) (by decide) k) ?_
  refine run_fwd (T' := T1) (g' := (mkF m 18 #[.val (.ref a0)] [(.ref a0)])) (fun _ k => XS.aloadN X1.here hx rfl (hb hby d13_17) rfl rfl k) ?_
  obtain ⟨T3, X3, e3, st3⟩ := getF X1 hx hZ hown (host := "") (Or.inl (hw _ (List.mem_of_getElem? (i := 58) rfl))) Via.refl Q1_0 Fi2 (g := (mkF m 18 #[.val (.ref a0)] [(.ref a0)])) rfl rfl (hb hby d13_18)
  refine run_fwd (T' := T3) (g' := (mkF m 21 #[.val (.ref a0)] [(.ref w)])) (fun _ k => st3 _ k) ?_
  exact run_ret X3 hx Bd.returns Bd.notSynchronized rfl (Or.inr (Or.inr (Or.inr (Or.inr ⟨rfl, rfl, rfl⟩)))) (hb hby d13_21) (by rw [e3]; exact ⟨rfl, N1, rfl⟩) (by decide) (by decide)
theorem pd__28ICCC_29Ljava_2flang_2fString_3b : parseMethodDescriptor "(ICCC)Ljava/lang/String;" = some ⟨[.int, .char, .char, .char], some (.object "java/lang/String")⟩ := by decide +kernel
theorem pd__28JLjava_2flang_2fString_3b_29Lcom_2fexample_2fbarnacle_2fbarnacle_2fredis_2fAcquisition_3b : parseMethodDescriptor "(JLjava/lang/String;)Lcom/example/barnacle/barnacle/redis/Acquisition;" = some ⟨[.long, (.object "java/lang/String")], some (.object "com/example/barnacle/barnacle/redis/Acquisition")⟩ := by decide +kernel
theorem pd__28_29J : parseMethodDescriptor "()J" = some ⟨[], some .long⟩ := by decide +kernel
theorem pd__28_29Ljava_2flang_2fString_3b : parseMethodDescriptor "()Ljava/lang/String;" = some ⟨[], some (.object "java/lang/String")⟩ := by decide +kernel
theorem pd__28_29I : parseMethodDescriptor "()I" = some ⟨[], some .int⟩ := by decide +kernel
theorem pd__28Ljava_2flang_2fObject_3b_29Z : parseMethodDescriptor "(Ljava/lang/Object;)Z" = some ⟨[(.object "java/lang/Object")], some .boolean⟩ := by decide +kernel
theorem ef_rm0 (m : MethodId) (x0 : Int64) (x1 : Int32) (x2 : Int32) (x3 : Int32) (x4 : Int32) : entryFrame m #[(.long x0), (.int x1), (.int x2), (.int x3), (.int x4)] maxLocals = mkF m 0 #[.val (.long x0), .second, .val (.int x1), .val (.int x2), .val (.int x3), .val (.int x4), .unset, .unset, .unset, .unset, .unset, .unset, .unset] [] := by first | (simp [entryFrame, mkF, argsToLocals, Value.category, maxLocals]; done) | rfl
def Qrm0 (Z : State) (q0 : Int64) (p1 : Int32) (p2 : Int32) (p3 : Int32) (p4 : Int32) (cs : Int32) (h0 : Heap) (n0 : Nat) (v : Option Value) (h : Heap) (L : List Loc) : Prop := v = some (.int (1 : Int32)) ∧ Fr n0 L
set_option maxRecDepth 65536 in
set_option maxHeartbeats 40000000 in
theorem rm0 (l : Launch) (Z : State) (aV : Array Value) (hw : ∀ d ∈ tables_1, d.before aV Z = true) (ws : List Jvm.Cond) (q0 : Int64) (p1 : Int32) (p2 : Int32) (p3 : Int32) (p4 : Int32) (cs : Int32) (h0 : Heap) (n0 : Nat) (O0 : Old Z n0 h0) (Si0 : Sta Z Z.heap "java/lang/String" "COMPACT_STRINGS" "Z" (.int cs)) (hcs : ¬ cs = (0 : Int32)) (hch : Jvm.Lit.constHeld Z "java/lang/String" 7) (hcw : Jvm.Lit.compactW.before aV Z = true) :
    MetFree l x (head1 (Jvm.Cond.code x code maxLocals ret :: ws) room_1) (fun a U => a = #[(.long q0), (.int p1), (.int p2), (.int p3), (.int p4)] ∧ Z.Warmed39 U.vm ∧ U.heap = h0 ∧ IB Z U.vm []) (fun _ _ _ _ _ => True) (fun _ U o U' => ∃ v L, o = .returned v ∧ Qrm0 Z q0 p1 p2 p3 p4 cs h0 n0 v U'.heap L ∧ ReturnedEndW U o U' L room_1.cells room_1.slots) := by
  refine MetFree.of_bodySF (plainFor_of_name pn_com_example_barnacle_barnacle_redis_AcquisitionRefusedPinLaw) hisR ?_
  intro p e s m args below meth c s₁ Bd hml0 hP hK
  obtain ⟨rfl, hZ, hh, hI⟩ := hP
  have hx := Bd.exec
  have hby := Bd.bytes
  have hml : c.maxLocals = 13 := hml0
  have hown : s.vm.findClass "com/example/barnacle/barnacle/redis/AcquisitionRefusedPinLaw" = some m.cls := findClass_of_methodNamed Bd.named
  have hnm := (name_of_methodNamed Bd.named Bd.method).1
  have X0 : Stand p l e room_1 (s.setVm s.vm) m #[(.long q0), (.int p1), (.int p2), (.int p3), (.int p4)] below meth c s₁ [] 0 0 := Stand.of_body Bd
  have e0 : s₁.heap = h0 := by rw [← hh, Bd.state]; rfl
  have N0 := Fr.nil n0
  show Run p.tables e below (WdW s (Qrm0 Z q0 p1 p2 p3 p4 cs h0 n0) room_1.cells room_1.slots) s₁ (entryFrame m #[(.long q0), (.int p1), (.int p2), (.int p3), (.int p4)] maxLocals)
  rw [ef_rm0 m q0 p1 p2 p3 p4]
  refine run_fwd (T' := s₁) (g' := (mkF m 1 #[.val (.long q0), .second, .val (.int p1), .val (.int p2), .val (.int p3), .val (.int p4), .unset, .unset, .unset, .unset, .unset, .unset, .unset] [(.int p1)])) (fun _ k => XS.iloadN X0.here hx rfl (hb hby at_0) rfl k) ?_
  refine run_fwd (T' := s₁) (g' := (mkF m 2 #[.val (.long q0), .second, .val (.int p1), .val (.int p2), .val (.int p3), .val (.int p4), .unset, .unset, .unset, .unset, .unset, .unset, .unset] [(.int (3 : Int32)), (.int p1)])) (fun _ k => XS.iconst X0.here hx rfl (hb hby at_1) k) ?_
  refine run_fwd (T' := s₁) (g' := (mkF m 3 #[.val (.long q0), .second, .val (.int p1), .val (.int p2), .val (.int p3), .val (.int p4), .unset, .unset, .unset, .unset, .unset, .unset, .unset] [(.int (p1 &&& (3 : Int32)))])) (fun _ k => XS.iand X0.here hx rfl (hb hby at_2) rfl k) ?_
  refine run_fwd (T' := s₁) (g' := (mkF m 5 #[.val (.long q0), .second, .val (.int p1), .val (.int p2), .val (.int p3), .val (.int p4), .val (.int (p1 &&& (3 : Int32))), .unset, .unset, .unset, .unset, .unset, .unset] [])) (fun _ k => XS.istore X0.here hx rfl (hb hby at_3) rfl (l' := #[.val (.long q0), .second, .val (.int p1), .val (.int p2), .val (.int p3), .val (.int p4), .val (.int (p1 &&& (3 : Int32))), .unset, .unset, .unset, .unset, .unset, .unset]) rfl k) ?_
  refine run_fwd (T' := s₁) (g' := (mkF m 6 #[.val (.long q0), .second, .val (.int p1), .val (.int p2), .val (.int p3), .val (.int p4), .val (.int (p1 &&& (3 : Int32))), .unset, .unset, .unset, .unset, .unset, .unset] [(.int p2)])) (fun _ k => XS.iloadN X0.here hx rfl (hb hby at_5) rfl k) ?_
  refine run_fwd (T' := s₁) (g' := (mkF m 9 #[.val (.long q0), .second, .val (.int p1), .val (.int p2), .val (.int p3), .val (.int p4), .val (.int (p1 &&& (3 : Int32))), .unset, .unset, .unset, .unset, .unset, .unset] [(.int (255 : Int32)), (.int p2)])) (fun _ k => XS.sipush X0.here hx rfl (hb hby at_6) k) ?_
  refine run_fwd (T' := s₁) (g' := (mkF m 10 #[.val (.long q0), .second, .val (.int p1), .val (.int p2), .val (.int p3), .val (.int p4), .val (.int (p1 &&& (3 : Int32))), .unset, .unset, .unset, .unset, .unset, .unset] [(.int (p2 &&& (255 : Int32)))])) (fun _ k => XS.iand X0.here hx rfl (hb hby at_9) rfl k) ?_
  refine run_fwd (T' := s₁) (g' := (mkF m 11 #[.val (.long q0), .second, .val (.int p1), .val (.int p2), .val (.int p3), .val (.int p4), .val (.int (p1 &&& (3 : Int32))), .unset, .unset, .unset, .unset, .unset, .unset] [(.int ((p2 &&& (255 : Int32)).toUInt32.toUInt16.toUInt32.toInt32))])) (fun _ k => XS.i2c X0.here hx rfl (hb hby at_10) rfl k) ?_
  refine run_fwd (T' := s₁) (g' := (mkF m 13 #[.val (.long q0), .second, .val (.int p1), .val (.int p2), .val (.int p3), .val (.int p4), .val (.int (p1 &&& (3 : Int32))), .val (.int ((p2 &&& (255 : Int32)).toUInt32.toUInt16.toUInt32.toInt32)), .unset, .unset, .unset, .unset, .unset] [])) (fun _ k => XS.istore X0.here hx rfl (hb hby at_11) rfl (l' := #[.val (.long q0), .second, .val (.int p1), .val (.int p2), .val (.int p3), .val (.int p4), .val (.int (p1 &&& (3 : Int32))), .val (.int ((p2 &&& (255 : Int32)).toUInt32.toUInt16.toUInt32.toInt32)), .unset, .unset, .unset, .unset, .unset]) rfl k) ?_
  refine run_fwd (T' := s₁) (g' := (mkF m 15 #[.val (.long q0), .second, .val (.int p1), .val (.int p2), .val (.int p3), .val (.int p4), .val (.int (p1 &&& (3 : Int32))), .val (.int ((p2 &&& (255 : Int32)).toUInt32.toUInt16.toUInt32.toInt32)), .unset, .unset, .unset, .unset, .unset] [(.int p3)])) (fun _ k => XS.iload X0.here hx rfl (hb hby at_13) rfl k) ?_
  refine run_fwd (T' := s₁) (g' := (mkF m 18 #[.val (.long q0), .second, .val (.int p1), .val (.int p2), .val (.int p3), .val (.int p4), .val (.int (p1 &&& (3 : Int32))), .val (.int ((p2 &&& (255 : Int32)).toUInt32.toUInt16.toUInt32.toInt32)), .unset, .unset, .unset, .unset, .unset] [(.int (255 : Int32)), (.int p3)])) (fun _ k => XS.sipush X0.here hx rfl (hb hby at_15) k) ?_
  refine run_fwd (T' := s₁) (g' := (mkF m 19 #[.val (.long q0), .second, .val (.int p1), .val (.int p2), .val (.int p3), .val (.int p4), .val (.int (p1 &&& (3 : Int32))), .val (.int ((p2 &&& (255 : Int32)).toUInt32.toUInt16.toUInt32.toInt32)), .unset, .unset, .unset, .unset, .unset] [(.int (p3 &&& (255 : Int32)))])) (fun _ k => XS.iand X0.here hx rfl (hb hby at_18) rfl k) ?_
  refine run_fwd (T' := s₁) (g' := (mkF m 20 #[.val (.long q0), .second, .val (.int p1), .val (.int p2), .val (.int p3), .val (.int p4), .val (.int (p1 &&& (3 : Int32))), .val (.int ((p2 &&& (255 : Int32)).toUInt32.toUInt16.toUInt32.toInt32)), .unset, .unset, .unset, .unset, .unset] [(.int ((p3 &&& (255 : Int32)).toUInt32.toUInt16.toUInt32.toInt32))])) (fun _ k => XS.i2c X0.here hx rfl (hb hby at_19) rfl k) ?_
  refine run_fwd (T' := s₁) (g' := (mkF m 22 #[.val (.long q0), .second, .val (.int p1), .val (.int p2), .val (.int p3), .val (.int p4), .val (.int (p1 &&& (3 : Int32))), .val (.int ((p2 &&& (255 : Int32)).toUInt32.toUInt16.toUInt32.toInt32)), .val (.int ((p3 &&& (255 : Int32)).toUInt32.toUInt16.toUInt32.toInt32)), .unset, .unset, .unset, .unset] [])) (fun _ k => XS.istore X0.here hx rfl (hb hby at_20) rfl (l' := #[.val (.long q0), .second, .val (.int p1), .val (.int p2), .val (.int p3), .val (.int p4), .val (.int (p1 &&& (3 : Int32))), .val (.int ((p2 &&& (255 : Int32)).toUInt32.toUInt16.toUInt32.toInt32)), .val (.int ((p3 &&& (255 : Int32)).toUInt32.toUInt16.toUInt32.toInt32)), .unset, .unset, .unset, .unset]) rfl k) ?_
  refine run_fwd (T' := s₁) (g' := (mkF m 24 #[.val (.long q0), .second, .val (.int p1), .val (.int p2), .val (.int p3), .val (.int p4), .val (.int (p1 &&& (3 : Int32))), .val (.int ((p2 &&& (255 : Int32)).toUInt32.toUInt16.toUInt32.toInt32)), .val (.int ((p3 &&& (255 : Int32)).toUInt32.toUInt16.toUInt32.toInt32)), .unset, .unset, .unset, .unset] [(.int p4)])) (fun _ k => XS.iload X0.here hx rfl (hb hby at_22) rfl k) ?_
  refine run_fwd (T' := s₁) (g' := (mkF m 27 #[.val (.long q0), .second, .val (.int p1), .val (.int p2), .val (.int p3), .val (.int p4), .val (.int (p1 &&& (3 : Int32))), .val (.int ((p2 &&& (255 : Int32)).toUInt32.toUInt16.toUInt32.toInt32)), .val (.int ((p3 &&& (255 : Int32)).toUInt32.toUInt16.toUInt32.toInt32)), .unset, .unset, .unset, .unset] [(.int (255 : Int32)), (.int p4)])) (fun _ k => XS.sipush X0.here hx rfl (hb hby at_24) k) ?_
  refine run_fwd (T' := s₁) (g' := (mkF m 28 #[.val (.long q0), .second, .val (.int p1), .val (.int p2), .val (.int p3), .val (.int p4), .val (.int (p1 &&& (3 : Int32))), .val (.int ((p2 &&& (255 : Int32)).toUInt32.toUInt16.toUInt32.toInt32)), .val (.int ((p3 &&& (255 : Int32)).toUInt32.toUInt16.toUInt32.toInt32)), .unset, .unset, .unset, .unset] [(.int (p4 &&& (255 : Int32)))])) (fun _ k => XS.iand X0.here hx rfl (hb hby at_27) rfl k) ?_
  refine run_fwd (T' := s₁) (g' := (mkF m 29 #[.val (.long q0), .second, .val (.int p1), .val (.int p2), .val (.int p3), .val (.int p4), .val (.int (p1 &&& (3 : Int32))), .val (.int ((p2 &&& (255 : Int32)).toUInt32.toUInt16.toUInt32.toInt32)), .val (.int ((p3 &&& (255 : Int32)).toUInt32.toUInt16.toUInt32.toInt32)), .unset, .unset, .unset, .unset] [(.int ((p4 &&& (255 : Int32)).toUInt32.toUInt16.toUInt32.toInt32))])) (fun _ k => XS.i2c X0.here hx rfl (hb hby at_28) rfl k) ?_
  refine run_fwd (T' := s₁) (g' := (mkF m 31 #[.val (.long q0), .second, .val (.int p1), .val (.int p2), .val (.int p3), .val (.int p4), .val (.int (p1 &&& (3 : Int32))), .val (.int ((p2 &&& (255 : Int32)).toUInt32.toUInt16.toUInt32.toInt32)), .val (.int ((p3 &&& (255 : Int32)).toUInt32.toUInt16.toUInt32.toInt32)), .val (.int ((p4 &&& (255 : Int32)).toUInt32.toUInt16.toUInt32.toInt32)), .unset, .unset, .unset] [])) (fun _ k => XS.istore X0.here hx rfl (hb hby at_29) rfl (l' := #[.val (.long q0), .second, .val (.int p1), .val (.int p2), .val (.int p3), .val (.int p4), .val (.int (p1 &&& (3 : Int32))), .val (.int ((p2 &&& (255 : Int32)).toUInt32.toUInt16.toUInt32.toInt32)), .val (.int ((p3 &&& (255 : Int32)).toUInt32.toUInt16.toUInt32.toInt32)), .val (.int ((p4 &&& (255 : Int32)).toUInt32.toUInt16.toUInt32.toInt32)), .unset, .unset, .unset]) rfl k) ?_
  refine run_fwd (T' := s₁) (g' := (mkF m 33 #[.val (.long q0), .second, .val (.int p1), .val (.int p2), .val (.int p3), .val (.int p4), .val (.int (p1 &&& (3 : Int32))), .val (.int ((p2 &&& (255 : Int32)).toUInt32.toUInt16.toUInt32.toInt32)), .val (.int ((p3 &&& (255 : Int32)).toUInt32.toUInt16.toUInt32.toInt32)), .val (.int ((p4 &&& (255 : Int32)).toUInt32.toUInt16.toUInt32.toInt32)), .unset, .unset, .unset] [(.int (p1 &&& (3 : Int32)))])) (fun _ k => XS.iload X0.here hx rfl (hb hby at_31) rfl k) ?_
  refine run_fwd (T' := s₁) (g' := (mkF m 35 #[.val (.long q0), .second, .val (.int p1), .val (.int p2), .val (.int p3), .val (.int p4), .val (.int (p1 &&& (3 : Int32))), .val (.int ((p2 &&& (255 : Int32)).toUInt32.toUInt16.toUInt32.toInt32)), .val (.int ((p3 &&& (255 : Int32)).toUInt32.toUInt16.toUInt32.toInt32)), .val (.int ((p4 &&& (255 : Int32)).toUInt32.toUInt16.toUInt32.toInt32)), .unset, .unset, .unset] [(.int ((p2 &&& (255 : Int32)).toUInt32.toUInt16.toUInt32.toInt32)), (.int (p1 &&& (3 : Int32)))])) (fun _ k => XS.iload X0.here hx rfl (hb hby at_33) rfl k) ?_
  refine run_fwd (T' := s₁) (g' := (mkF m 37 #[.val (.long q0), .second, .val (.int p1), .val (.int p2), .val (.int p3), .val (.int p4), .val (.int (p1 &&& (3 : Int32))), .val (.int ((p2 &&& (255 : Int32)).toUInt32.toUInt16.toUInt32.toInt32)), .val (.int ((p3 &&& (255 : Int32)).toUInt32.toUInt16.toUInt32.toInt32)), .val (.int ((p4 &&& (255 : Int32)).toUInt32.toUInt16.toUInt32.toInt32)), .unset, .unset, .unset] [(.int ((p3 &&& (255 : Int32)).toUInt32.toUInt16.toUInt32.toInt32)), (.int ((p2 &&& (255 : Int32)).toUInt32.toUInt16.toUInt32.toInt32)), (.int (p1 &&& (3 : Int32)))])) (fun _ k => XS.iload X0.here hx rfl (hb hby at_35) rfl k) ?_
  refine run_fwd (T' := s₁) (g' := (mkF m 39 #[.val (.long q0), .second, .val (.int p1), .val (.int p2), .val (.int p3), .val (.int p4), .val (.int (p1 &&& (3 : Int32))), .val (.int ((p2 &&& (255 : Int32)).toUInt32.toUInt16.toUInt32.toInt32)), .val (.int ((p3 &&& (255 : Int32)).toUInt32.toUInt16.toUInt32.toInt32)), .val (.int ((p4 &&& (255 : Int32)).toUInt32.toUInt16.toUInt32.toInt32)), .unset, .unset, .unset] [(.int ((p4 &&& (255 : Int32)).toUInt32.toUInt16.toUInt32.toInt32)), (.int ((p3 &&& (255 : Int32)).toUInt32.toUInt16.toUInt32.toInt32)), (.int ((p2 &&& (255 : Int32)).toUInt32.toUInt16.toUInt32.toInt32)), (.int (p1 &&& (3 : Int32)))])) (fun _ k => XS.iload X0.here hx rfl (hb hby at_37) rfl k) ?_
  obtain ⟨T1, v1, L1, X1, hS1, hgr1, hQ1, st1⟩ := own_gotW X0 (callSS X0 hx (y := (⟨"com/example/barnacle/barnacle/redis/AcquisitionRefusedPinLaw", "draw", "(ICCC)Ljava/lang/String;"⟩ : MethodName)) hown (mvT hZ (hw _ (List.mem_of_getElem? (i := 0) rfl))) (mvT hZ (hw _ (List.mem_of_getElem? (i := 1) rfl))) (mvT hZ (hw _ (List.mem_of_getElem? (i := 2) rfl))) (mvT hZ (hw _ (List.mem_of_getElem? (i := 3) rfl))) (by decide) (own_backOfI (W := 0) (rmD l Z aV hw [] (p1 &&& (3 : Int32)) ((p2 &&& (255 : Int32)).toUInt32.toUInt16.toUInt32.toInt32) ((p3 &&& (255 : Int32)).toUInt32.toUInt16.toUInt32.toInt32) ((p4 &&& (255 : Int32)).toUInt32.toUInt16.toUInt32.toInt32) cs h0 n0 O0 Si0 (hcs) (hch) (hcw) (own_and3 _) (own_c255 _) (own_c255 _) (own_c255 _)) hI hZ (hw _ (List.mem_of_getElem? (i := 3) rfl)) (hw _ (List.mem_of_getElem? (i := 2) rfl)) (by decide) (by decide)) (g := (mkF m 39 #[.val (.long q0), .second, .val (.int p1), .val (.int p2), .val (.int p3), .val (.int p4), .val (.int (p1 &&& (3 : Int32))), .val (.int ((p2 &&& (255 : Int32)).toUInt32.toUInt16.toUInt32.toInt32)), .val (.int ((p3 &&& (255 : Int32)).toUInt32.toUInt16.toUInt32.toInt32)), .val (.int ((p4 &&& (255 : Int32)).toUInt32.toUInt16.toUInt32.toInt32)), .unset, .unset, .unset] [(.int ((p4 &&& (255 : Int32)).toUInt32.toUInt16.toUInt32.toInt32)), (.int ((p3 &&& (255 : Int32)).toUInt32.toUInt16.toUInt32.toInt32)), (.int ((p2 &&& (255 : Int32)).toUInt32.toUInt16.toUInt32.toInt32)), (.int (p1 &&& (3 : Int32)))])) rfl (by rw [hml]; rfl) (argsL := [(.int (p1 &&& (3 : Int32))), (.int ((p2 &&& (255 : Int32)).toUInt32.toUInt16.toUInt32.toInt32)), (.int ((p3 &&& (255 : Int32)).toUInt32.toUInt16.toUInt32.toInt32)), (.int ((p4 &&& (255 : Int32)).toUInt32.toUInt16.toUInt32.toInt32))]) (rest := []) (lenOf pd__28ICCC_29Ljava_2flang_2fString_3b rfl) rfl (by show 2 * 0 + _ ≤ _; exact Nat.le_of_eq rfl) (hb hby at_39) (fun _ _ => ⟨rfl, e0, (by decide : 0 + 4 ≤ _), (by decide : 0 + 24 ≤ _)⟩))
  obtain ⟨X1, hS1, hZ, hown⟩ := rebS ((State.WarmedH.refl s).since 0) (show _ ≤ s₁.heap.size from own_hk e0 (Nat.zero_le _)) X1 hS1 hgr1 hZ hown
  obtain ⟨b_1, t_1, kt_1, vs_1, rfl, N1q, Q1_0, Q1_1, Q1_2, Q1_3, Q1_4, Q1_5⟩ := hQ1
  have N1 := Fr.app N0 N1q
  obtain ⟨h1, e1⟩ : ∃ z, T1.heap = z := ⟨_, rfl⟩
  rw [e1] at Q1_0 Q1_2 Q1_3 Q1_4 Q1_5
  have hk1 : T1.heap.size ≤ h1.size := by rw [e1]; exact Nat.le_refl _
  have O2 : Old Z n0 h1 := O0.keep Q1_0 all0
  have K3 : Keep h0 h1 [] := (Keep.refl h0 []).trans Q1_0 all0
  have gg1_1 : n0 ≤ b_1 := Nat.le_trans (own_le O0) Q1_1
  have sz1_1 : h0.size ≤ b_1 := (Nat.le_trans (Keep.refl h0 []).1 Q1_1)
  refine run_fwd (T' := T1) (g' := (mkF m 42 #[.val (.long q0), .second, .val (.int p1), .val (.int p2), .val (.int p3), .val (.int p4), .val (.int (p1 &&& (3 : Int32))), .val (.int ((p2 &&& (255 : Int32)).toUInt32.toUInt16.toUInt32.toInt32)), .val (.int ((p3 &&& (255 : Int32)).toUInt32.toUInt16.toUInt32.toInt32)), .val (.int ((p4 &&& (255 : Int32)).toUInt32.toUInt16.toUInt32.toInt32)), .unset, .unset, .unset] [(.ref b_1)])) (fun _ k => st1.trans k) ?_
  refine run_fwd (T' := T1) (g' := (mkF m 44 #[.val (.long q0), .second, .val (.int p1), .val (.int p2), .val (.int p3), .val (.int p4), .val (.int (p1 &&& (3 : Int32))), .val (.int ((p2 &&& (255 : Int32)).toUInt32.toUInt16.toUInt32.toInt32)), .val (.int ((p3 &&& (255 : Int32)).toUInt32.toUInt16.toUInt32.toInt32)), .val (.int ((p4 &&& (255 : Int32)).toUInt32.toUInt16.toUInt32.toInt32)), .val (.ref b_1), .unset, .unset] [])) (fun _ k => XS.astore X1.here hx rfl (hb hby at_42) rfl rfl (l' := #[.val (.long q0), .second, .val (.int p1), .val (.int p2), .val (.int p3), .val (.int p4), .val (.int (p1 &&& (3 : Int32))), .val (.int ((p2 &&& (255 : Int32)).toUInt32.toUInt16.toUInt32.toInt32)), .val (.int ((p3 &&& (255 : Int32)).toUInt32.toUInt16.toUInt32.toInt32)), .val (.int ((p4 &&& (255 : Int32)).toUInt32.toUInt16.toUInt32.toInt32)), .val (.ref b_1), .unset, .unset]) rfl k) ?_
  refine run_fwd (T' := T1) (g' := (mkF m 45 #[.val (.long q0), .second, .val (.int p1), .val (.int p2), .val (.int p3), .val (.int p4), .val (.int (p1 &&& (3 : Int32))), .val (.int ((p2 &&& (255 : Int32)).toUInt32.toUInt16.toUInt32.toInt32)), .val (.int ((p3 &&& (255 : Int32)).toUInt32.toUInt16.toUInt32.toInt32)), .val (.int ((p4 &&& (255 : Int32)).toUInt32.toUInt16.toUInt32.toInt32)), .val (.ref b_1), .unset, .unset] [(.long q0)])) (fun _ k => XS.lloadN X1.here hx rfl (hb hby at_44) rfl k) ?_
  refine run_fwd (T' := T1) (g' := (mkF m 47 #[.val (.long q0), .second, .val (.int p1), .val (.int p2), .val (.int p3), .val (.int p4), .val (.int (p1 &&& (3 : Int32))), .val (.int ((p2 &&& (255 : Int32)).toUInt32.toUInt16.toUInt32.toInt32)), .val (.int ((p3 &&& (255 : Int32)).toUInt32.toUInt16.toUInt32.toInt32)), .val (.int ((p4 &&& (255 : Int32)).toUInt32.toUInt16.toUInt32.toInt32)), .val (.ref b_1), .unset, .unset] [(.ref b_1), (.long q0)])) (fun _ k => XS.aload X1.here hx rfl (hb hby at_45) rfl rfl k) ?_
  obtain ⟨T4, v4, L4, X4, hS4, hgr4, hQ4, st4⟩ := own_gotW X1 (callSS X1 hx (y := (⟨"com/example/barnacle/barnacle/redis/Acquisition", "refused", "(JLjava/lang/String;)Lcom/example/barnacle/barnacle/redis/Acquisition;"⟩ : MethodName)) hown (mvT hZ (hw _ (List.mem_of_getElem? (i := 34) rfl))) (mvT hZ (hw _ (List.mem_of_getElem? (i := 35) rfl))) (mvT hZ (hw _ (List.mem_of_getElem? (i := 36) rfl))) (mvT hZ (hw _ (List.mem_of_getElem? (i := 37) rfl))) (by decide) (backOfS (W := 0) (rm8 l Z aV hw [] q0 b_1 h1 n0 O2 Q1_2) hZ (hw _ (List.mem_of_getElem? (i := 37) rfl)) (hw _ (List.mem_of_getElem? (i := 36) rfl)) (by decide) (by decide)) (g := (mkF m 47 #[.val (.long q0), .second, .val (.int p1), .val (.int p2), .val (.int p3), .val (.int p4), .val (.int (p1 &&& (3 : Int32))), .val (.int ((p2 &&& (255 : Int32)).toUInt32.toUInt16.toUInt32.toInt32)), .val (.int ((p3 &&& (255 : Int32)).toUInt32.toUInt16.toUInt32.toInt32)), .val (.int ((p4 &&& (255 : Int32)).toUInt32.toUInt16.toUInt32.toInt32)), .val (.ref b_1), .unset, .unset] [(.ref b_1), (.long q0)])) rfl (by rw [hml]; rfl) (argsL := [(.long q0), (.ref b_1)]) (rest := []) (lenOf pd__28JLjava_2flang_2fString_3b_29Lcom_2fexample_2fbarnacle_2fbarnacle_2fredis_2fAcquisition_3b rfl) rfl (by show 2 * 0 + _ ≤ _; exact Nat.le_of_eq rfl) (hb hby at_47) (fun _ _ => ⟨rfl, e1, (by decide : 4 + 3 ≤ _), (by decide : 24 + 72 ≤ _)⟩))
  obtain ⟨X4, hS4, hZ, hown⟩ := rebS hS1 (show _ ≤ T1.heap.size from own_hk e1 hk1) X4 hS4 hgr4 hZ hown
  obtain ⟨b_4, rfl, N4q, Q4_0, Q4_1, Q4_2, Q4_3, Q4_4, Q4_5⟩ := hQ4
  have N4 := Fr.app N1 N4q
  obtain ⟨h4, e4⟩ : ∃ z, T4.heap = z := ⟨_, rfl⟩
  rw [e4] at Q4_0 Q4_2 Q4_3 Q4_4 Q4_5
  have hk4 : T4.heap.size ≤ h4.size := by rw [e4]; exact Nat.le_refl _
  have O5 : Old Z n0 h4 := O2.keep Q4_0 all0
  have K6 : Keep h0 h4 [] := K3.trans Q4_0 all0
  have gg4_1 : n0 ≤ b_4 := Nat.le_trans (own_le O2) Q4_1
  have sz4_1 : h0.size ≤ b_4 := (Nat.le_trans K3.1 Q4_1)
  refine run_fwd (T' := T4) (g' := (mkF m 50 #[.val (.long q0), .second, .val (.int p1), .val (.int p2), .val (.int p3), .val (.int p4), .val (.int (p1 &&& (3 : Int32))), .val (.int ((p2 &&& (255 : Int32)).toUInt32.toUInt16.toUInt32.toInt32)), .val (.int ((p3 &&& (255 : Int32)).toUInt32.toUInt16.toUInt32.toInt32)), .val (.int ((p4 &&& (255 : Int32)).toUInt32.toUInt16.toUInt32.toInt32)), .val (.ref b_1), .unset, .unset] [(.ref b_4)])) (fun _ k => st4.trans k) ?_
  refine run_fwd (T' := T4) (g' := (mkF m 52 #[.val (.long q0), .second, .val (.int p1), .val (.int p2), .val (.int p3), .val (.int p4), .val (.int (p1 &&& (3 : Int32))), .val (.int ((p2 &&& (255 : Int32)).toUInt32.toUInt16.toUInt32.toInt32)), .val (.int ((p3 &&& (255 : Int32)).toUInt32.toUInt16.toUInt32.toInt32)), .val (.int ((p4 &&& (255 : Int32)).toUInt32.toUInt16.toUInt32.toInt32)), .val (.ref b_1), .val (.ref b_4), .unset] [])) (fun _ k => XS.astore X4.here hx rfl (hb hby at_50) rfl rfl (l' := #[.val (.long q0), .second, .val (.int p1), .val (.int p2), .val (.int p3), .val (.int p4), .val (.int (p1 &&& (3 : Int32))), .val (.int ((p2 &&& (255 : Int32)).toUInt32.toUInt16.toUInt32.toInt32)), .val (.int ((p3 &&& (255 : Int32)).toUInt32.toUInt16.toUInt32.toInt32)), .val (.int ((p4 &&& (255 : Int32)).toUInt32.toUInt16.toUInt32.toInt32)), .val (.ref b_1), .val (.ref b_4), .unset]) rfl k) ?_
  refine run_fwd (T' := T4) (g' := (mkF m 54 #[.val (.long q0), .second, .val (.int p1), .val (.int p2), .val (.int p3), .val (.int p4), .val (.int (p1 &&& (3 : Int32))), .val (.int ((p2 &&& (255 : Int32)).toUInt32.toUInt16.toUInt32.toInt32)), .val (.int ((p3 &&& (255 : Int32)).toUInt32.toUInt16.toUInt32.toInt32)), .val (.int ((p4 &&& (255 : Int32)).toUInt32.toUInt16.toUInt32.toInt32)), .val (.ref b_1), .val (.ref b_4), .unset] [(.ref b_4)])) (fun _ k => XS.aload X4.here hx rfl (hb hby at_52) rfl rfl k) ?_
  obtain ⟨cq7, kq7, qr7a, qr7b, qr7c⟩ := isOf hZ e4 Q4_2
  obtain ⟨T7, v7, L7, X7, hQ7, st7⟩ := own_gotV X4 (X4.virtualBack hx (y := (⟨"com/example/barnacle/barnacle/redis/Acquisition", "isTaken", "()Z"⟩ : MethodName)) (z := (⟨"com/example/barnacle/barnacle/redis/Acquisition", "isTaken", "()Z"⟩ : MethodName)) hown (mvT hZ (hw _ (List.mem_of_getElem? (i := 60) rfl))) (mvT hZ (hw _ (List.mem_of_getElem? (i := 61) rfl))) (notFace_of_selects (args := #[]) (mvT hZ (hw _ (List.mem_of_getElem? (i := 63) rfl)))) (mvT hZ (hw _ (List.mem_of_getElem? (i := 63) rfl))) (mvT hZ (hw _ (List.mem_of_getElem? (i := 62) rfl))) (by decide) (backOf (W := 0) (rm11 l Z aV hw [] b_4 h4 n0 O5 Q4_3) hZ (hw _ (List.mem_of_getElem? (i := 64) rfl)) (hw _ (List.mem_of_getElem? (i := 36) rfl)) (by decide) (by decide)) qr7a qr7c (g := (mkF m 54 #[.val (.long q0), .second, .val (.int p1), .val (.int p2), .val (.int p3), .val (.int p4), .val (.int (p1 &&& (3 : Int32))), .val (.int ((p2 &&& (255 : Int32)).toUInt32.toUInt16.toUInt32.toInt32)), .val (.int ((p3 &&& (255 : Int32)).toUInt32.toUInt16.toUInt32.toInt32)), .val (.int ((p4 &&& (255 : Int32)).toUInt32.toUInt16.toUInt32.toInt32)), .val (.ref b_1), .val (.ref b_4), .unset] [(.ref b_4)])) rfl (by rw [hml]; rfl) (Steps.refl _) (argsL := []) (rest := []) (lenOf pd__28_29Z rfl) rfl (by show 2 * 0 + _ ≤ _; exact Nat.le_of_eq rfl) (hb hby at_54) (fun _ _ => ⟨rfl, e4, (by decide : 7 + 0 ≤ _), (by decide : 96 + 0 ≤ _)⟩))
  obtain ⟨rfl, N7q, Q7_0⟩ := hQ7
  have N7 := Fr.app N4 N7q
  refine run_fwd (T' := T7) (g' := (mkF m 57 #[.val (.long q0), .second, .val (.int p1), .val (.int p2), .val (.int p3), .val (.int p4), .val (.int (p1 &&& (3 : Int32))), .val (.int ((p2 &&& (255 : Int32)).toUInt32.toUInt16.toUInt32.toInt32)), .val (.int ((p3 &&& (255 : Int32)).toUInt32.toUInt16.toUInt32.toInt32)), .val (.int ((p4 &&& (255 : Int32)).toUInt32.toUInt16.toUInt32.toInt32)), .val (.ref b_1), .val (.ref b_4), .unset] [(.int (0 : Int32))])) (fun _ k => st7.trans k) ?_
  have hc57_8 : (0 : Int32) = (0 : Int32) := (by decide)
  refine run_fwd (T' := T7) (g' := (mkF m 62 #[.val (.long q0), .second, .val (.int p1), .val (.int p2), .val (.int p3), .val (.int p4), .val (.int (p1 &&& (3 : Int32))), .val (.int ((p2 &&& (255 : Int32)).toUInt32.toUInt16.toUInt32.toInt32)), .val (.int ((p3 &&& (255 : Int32)).toUInt32.toUInt16.toUInt32.toInt32)), .val (.int ((p4 &&& (255 : Int32)).toUInt32.toUInt16.toUInt32.toInt32)), .val (.ref b_1), .val (.ref b_4), .unset] [])) (fun _ k => XS.ifYes X7.here hx rfl (pc0 := 57) (pc' := 62) rfl (hb hby at_57) rfl ((if0 _ _).trans (teq hc57_8).1) (by decide) (by decide) k) ?_
  refine run_fwd (T' := T7) (g' := (mkF m 64 #[.val (.long q0), .second, .val (.int p1), .val (.int p2), .val (.int p3), .val (.int p4), .val (.int (p1 &&& (3 : Int32))), .val (.int ((p2 &&& (255 : Int32)).toUInt32.toUInt16.toUInt32.toInt32)), .val (.int ((p3 &&& (255 : Int32)).toUInt32.toUInt16.toUInt32.toInt32)), .val (.int ((p4 &&& (255 : Int32)).toUInt32.toUInt16.toUInt32.toInt32)), .val (.ref b_1), .val (.ref b_4), .unset] [(.ref b_4)])) (fun _ k => XS.aload X7.here hx rfl (hb hby at_62) rfl rfl k) ?_
  obtain ⟨cq9, kq9, qr9a, qr9b, qr9c⟩ := isOf hZ Q7_0 Q4_2
  obtain ⟨T9, v9, L9, X9, hQ9, st9⟩ := own_gotV X7 (X7.virtualBack hx (y := (⟨"com/example/barnacle/barnacle/redis/Acquisition", "holderLeaseLeftMillis", "()J"⟩ : MethodName)) (z := (⟨"com/example/barnacle/barnacle/redis/Acquisition", "holderLeaseLeftMillis", "()J"⟩ : MethodName)) hown (mvT hZ (hw _ (List.mem_of_getElem? (i := 65) rfl))) (mvT hZ (hw _ (List.mem_of_getElem? (i := 66) rfl))) (notFace_of_selects (args := #[]) (mvT hZ (hw _ (List.mem_of_getElem? (i := 68) rfl)))) (mvT hZ (hw _ (List.mem_of_getElem? (i := 68) rfl))) (mvT hZ (hw _ (List.mem_of_getElem? (i := 67) rfl))) (by decide) (backOf (W := 0) (rm12 l Z aV hw [] b_4 q0 h4 n0 O5 Q4_2 Q4_3 Q4_4) hZ (hw _ (List.mem_of_getElem? (i := 69) rfl)) (hw _ (List.mem_of_getElem? (i := 36) rfl)) (by decide) (by decide)) qr9a qr9c (g := (mkF m 64 #[.val (.long q0), .second, .val (.int p1), .val (.int p2), .val (.int p3), .val (.int p4), .val (.int (p1 &&& (3 : Int32))), .val (.int ((p2 &&& (255 : Int32)).toUInt32.toUInt16.toUInt32.toInt32)), .val (.int ((p3 &&& (255 : Int32)).toUInt32.toUInt16.toUInt32.toInt32)), .val (.int ((p4 &&& (255 : Int32)).toUInt32.toUInt16.toUInt32.toInt32)), .val (.ref b_1), .val (.ref b_4), .unset] [(.ref b_4)])) rfl (by rw [hml]; rfl) (Steps.refl _) (argsL := []) (rest := []) (lenOf pd__28_29J rfl) rfl (by show 2 * 0 + _ ≤ _; exact Nat.le_of_eq rfl) (hb hby at_64) (fun _ _ => ⟨rfl, Q7_0, (by decide : 7 + 0 ≤ _), (by decide : 96 + 0 ≤ _)⟩))
  obtain ⟨rfl, N9q, Q9_0⟩ := hQ9
  have N9 := Fr.app N7 N9q
  refine run_fwd (T' := T9) (g' := (mkF m 67 #[.val (.long q0), .second, .val (.int p1), .val (.int p2), .val (.int p3), .val (.int p4), .val (.int (p1 &&& (3 : Int32))), .val (.int ((p2 &&& (255 : Int32)).toUInt32.toUInt16.toUInt32.toInt32)), .val (.int ((p3 &&& (255 : Int32)).toUInt32.toUInt16.toUInt32.toInt32)), .val (.int ((p4 &&& (255 : Int32)).toUInt32.toUInt16.toUInt32.toInt32)), .val (.ref b_1), .val (.ref b_4), .unset] [(.long q0)])) (fun _ k => st9.trans k) ?_
  refine run_fwd (T' := T9) (g' := (mkF m 68 #[.val (.long q0), .second, .val (.int p1), .val (.int p2), .val (.int p3), .val (.int p4), .val (.int (p1 &&& (3 : Int32))), .val (.int ((p2 &&& (255 : Int32)).toUInt32.toUInt16.toUInt32.toInt32)), .val (.int ((p3 &&& (255 : Int32)).toUInt32.toUInt16.toUInt32.toInt32)), .val (.int ((p4 &&& (255 : Int32)).toUInt32.toUInt16.toUInt32.toInt32)), .val (.ref b_1), .val (.ref b_4), .unset] [(.long q0), (.long q0)])) (fun _ k => XS.lloadN X9.here hx rfl (hb hby at_67) rfl k) ?_
  refine run_fwd (T' := T9) (g' := (mkF m 69 #[.val (.long q0), .second, .val (.int p1), .val (.int p2), .val (.int p3), .val (.int p4), .val (.int (p1 &&& (3 : Int32))), .val (.int ((p2 &&& (255 : Int32)).toUInt32.toUInt16.toUInt32.toInt32)), .val (.int ((p3 &&& (255 : Int32)).toUInt32.toUInt16.toUInt32.toInt32)), .val (.int ((p4 &&& (255 : Int32)).toUInt32.toUInt16.toUInt32.toInt32)), .val (.ref b_1), .val (.ref b_4), .unset] [(.int (lcmpW q0 q0))])) (fun _ k => XS.lcmp X9.here hx rfl (hb hby at_68) rfl k) ?_
  have hc69_10 : q0 = q0 := rfl
  refine run_fwd (T' := T9) (g' := (mkF m 74 #[.val (.long q0), .second, .val (.int p1), .val (.int p2), .val (.int p3), .val (.int p4), .val (.int (p1 &&& (3 : Int32))), .val (.int ((p2 &&& (255 : Int32)).toUInt32.toUInt16.toUInt32.toInt32)), .val (.int ((p3 &&& (255 : Int32)).toUInt32.toUInt16.toUInt32.toInt32)), .val (.int ((p4 &&& (255 : Int32)).toUInt32.toUInt16.toUInt32.toInt32)), .val (.ref b_1), .val (.ref b_4), .unset] [])) (fun _ k => XS.ifYes X9.here hx rfl (pc0 := 69) (pc' := 74) rfl (hb hby at_69) rfl ((if0 _ _).trans (teq ((lw_eq q0 q0).mpr hc69_10)).1) (by decide) (by decide) k) ?_
  refine run_fwd (T' := T9) (g' := (mkF m 76 #[.val (.long q0), .second, .val (.int p1), .val (.int p2), .val (.int p3), .val (.int p4), .val (.int (p1 &&& (3 : Int32))), .val (.int ((p2 &&& (255 : Int32)).toUInt32.toUInt16.toUInt32.toInt32)), .val (.int ((p3 &&& (255 : Int32)).toUInt32.toUInt16.toUInt32.toInt32)), .val (.int ((p4 &&& (255 : Int32)).toUInt32.toUInt16.toUInt32.toInt32)), .val (.ref b_1), .val (.ref b_4), .unset] [(.ref b_4)])) (fun _ k => XS.aload X9.here hx rfl (hb hby at_74) rfl rfl k) ?_
  obtain ⟨cq11, kq11, qr11a, qr11b, qr11c⟩ := isOf hZ Q9_0 Q4_2
  obtain ⟨T11, v11, L11, X11, hQ11, st11⟩ := own_gotV X9 (X9.virtualBack hx (y := (⟨"com/example/barnacle/barnacle/redis/Acquisition", "holderToken", "()Ljava/lang/String;"⟩ : MethodName)) (z := (⟨"com/example/barnacle/barnacle/redis/Acquisition", "holderToken", "()Ljava/lang/String;"⟩ : MethodName)) hown (mvT hZ (hw _ (List.mem_of_getElem? (i := 71) rfl))) (mvT hZ (hw _ (List.mem_of_getElem? (i := 72) rfl))) (notFace_of_selects (args := #[]) (mvT hZ (hw _ (List.mem_of_getElem? (i := 74) rfl)))) (mvT hZ (hw _ (List.mem_of_getElem? (i := 74) rfl))) (mvT hZ (hw _ (List.mem_of_getElem? (i := 73) rfl))) (by decide) (backOf (W := 0) (rm13 l Z aV hw [] b_4 b_1 h4 n0 O5 Q4_2 Q4_3 Q4_5) hZ (hw _ (List.mem_of_getElem? (i := 75) rfl)) (hw _ (List.mem_of_getElem? (i := 36) rfl)) (by decide) (by decide)) qr11a qr11c (g := (mkF m 76 #[.val (.long q0), .second, .val (.int p1), .val (.int p2), .val (.int p3), .val (.int p4), .val (.int (p1 &&& (3 : Int32))), .val (.int ((p2 &&& (255 : Int32)).toUInt32.toUInt16.toUInt32.toInt32)), .val (.int ((p3 &&& (255 : Int32)).toUInt32.toUInt16.toUInt32.toInt32)), .val (.int ((p4 &&& (255 : Int32)).toUInt32.toUInt16.toUInt32.toInt32)), .val (.ref b_1), .val (.ref b_4), .unset] [(.ref b_4)])) rfl (by rw [hml]; rfl) (Steps.refl _) (argsL := []) (rest := []) (lenOf pd__28_29Ljava_2flang_2fString_3b rfl) rfl (by show 2 * 0 + _ ≤ _; exact Nat.le_of_eq rfl) (hb hby at_76) (fun _ _ => ⟨rfl, Q9_0, (by decide : 7 + 0 ≤ _), (by decide : 96 + 0 ≤ _)⟩))
  obtain ⟨rfl, N11q, Q11_0⟩ := hQ11
  have N11 := Fr.app N9 N11q
  refine run_fwd (T' := T11) (g' := (mkF m 79 #[.val (.long q0), .second, .val (.int p1), .val (.int p2), .val (.int p3), .val (.int p4), .val (.int (p1 &&& (3 : Int32))), .val (.int ((p2 &&& (255 : Int32)).toUInt32.toUInt16.toUInt32.toInt32)), .val (.int ((p3 &&& (255 : Int32)).toUInt32.toUInt16.toUInt32.toInt32)), .val (.int ((p4 &&& (255 : Int32)).toUInt32.toUInt16.toUInt32.toInt32)), .val (.ref b_1), .val (.ref b_4), .unset] [(.ref b_1)])) (fun _ k => st11.trans k) ?_
  refine run_fwd (T' := T11) (g' := (mkF m 81 #[.val (.long q0), .second, .val (.int p1), .val (.int p2), .val (.int p3), .val (.int p4), .val (.int (p1 &&& (3 : Int32))), .val (.int ((p2 &&& (255 : Int32)).toUInt32.toUInt16.toUInt32.toInt32)), .val (.int ((p3 &&& (255 : Int32)).toUInt32.toUInt16.toUInt32.toInt32)), .val (.int ((p4 &&& (255 : Int32)).toUInt32.toUInt16.toUInt32.toInt32)), .val (.ref b_1), .val (.ref b_4), .val (.ref b_1)] [])) (fun _ k => XS.astore X11.here hx rfl (hb hby at_79) rfl rfl (l' := #[.val (.long q0), .second, .val (.int p1), .val (.int p2), .val (.int p3), .val (.int p4), .val (.int (p1 &&& (3 : Int32))), .val (.int ((p2 &&& (255 : Int32)).toUInt32.toUInt16.toUInt32.toInt32)), .val (.int ((p3 &&& (255 : Int32)).toUInt32.toUInt16.toUInt32.toInt32)), .val (.int ((p4 &&& (255 : Int32)).toUInt32.toUInt16.toUInt32.toInt32)), .val (.ref b_1), .val (.ref b_4), .val (.ref b_1)]) rfl k) ?_
  refine run_fwd (T' := T11) (g' := (mkF m 83 #[.val (.long q0), .second, .val (.int p1), .val (.int p2), .val (.int p3), .val (.int p4), .val (.int (p1 &&& (3 : Int32))), .val (.int ((p2 &&& (255 : Int32)).toUInt32.toUInt16.toUInt32.toInt32)), .val (.int ((p3 &&& (255 : Int32)).toUInt32.toUInt16.toUInt32.toInt32)), .val (.int ((p4 &&& (255 : Int32)).toUInt32.toUInt16.toUInt32.toInt32)), .val (.ref b_1), .val (.ref b_4), .val (.ref b_1)] [(.ref b_1)])) (fun _ k => XS.aload X11.here hx rfl (hb hby at_81) rfl rfl k) ?_
  refine run_fwd (T' := T11) (g' := (mkF m 86 #[.val (.long q0), .second, .val (.int p1), .val (.int p2), .val (.int p3), .val (.int p4), .val (.int (p1 &&& (3 : Int32))), .val (.int ((p2 &&& (255 : Int32)).toUInt32.toUInt16.toUInt32.toInt32)), .val (.int ((p3 &&& (255 : Int32)).toUInt32.toUInt16.toUInt32.toInt32)), .val (.int ((p4 &&& (255 : Int32)).toUInt32.toUInt16.toUInt32.toInt32)), .val (.ref b_1), .val (.ref b_4), .val (.ref b_1)] [])) (fun _ k => XS.ifnullNo X11.here hx rfl (hb hby at_83) rfl k) ?_
  refine run_fwd (T' := T11) (g' := (mkF m 88 #[.val (.long q0), .second, .val (.int p1), .val (.int p2), .val (.int p3), .val (.int p4), .val (.int (p1 &&& (3 : Int32))), .val (.int ((p2 &&& (255 : Int32)).toUInt32.toUInt16.toUInt32.toInt32)), .val (.int ((p3 &&& (255 : Int32)).toUInt32.toUInt16.toUInt32.toInt32)), .val (.int ((p4 &&& (255 : Int32)).toUInt32.toUInt16.toUInt32.toInt32)), .val (.ref b_1), .val (.ref b_4), .val (.ref b_1)] [(.ref b_1)])) (fun _ k => XS.aload X11.here hx rfl (hb hby at_86) rfl rfl k) ?_
  have f13 : Exa Z h4 b_1 "java/lang/String" := (Q1_2.keep Q4_0)
  have f14 : Fld Z h4 b_1 "java/lang/String" "coder" "B" (.int (0 : Int32)) := (Q1_3.keep Q4_0 nin0)
  have f15 : Fld Z h4 b_1 "java/lang/String" "value" "[B" (.ref t_1) := (Q1_4.keep Q4_0 nin0)
  have f16 : Arv Z h4 t_1 kt_1 .byte (p1 &&& (3 : Int32)) vs_1 (.int (0 : Int32)) := (Q1_5.keep Q4_0 nin0)
  obtain ⟨cq12, kq12, qr12a, qr12b, qr12c⟩ := isOf hZ Q11_0 f13
  obtain ⟨T12, v12, L12, X12, hQ12, st12⟩ := own_gotV X11 (X11.virtualBack hx (y := (⟨"java/lang/String", "length", "()I"⟩ : MethodName)) (z := (⟨"java/lang/String", "length", "()I"⟩ : MethodName)) hown (mvT hZ (hw _ (List.mem_of_getElem? (i := 76) rfl))) (mvT hZ (hw _ (List.mem_of_getElem? (i := 77) rfl))) (notFace_of_selects (args := #[]) (mvT hZ (hw _ (List.mem_of_getElem? (i := 79) rfl)))) (mvT hZ (hw _ (List.mem_of_getElem? (i := 79) rfl))) (mvT hZ (hw _ (List.mem_of_getElem? (i := 78) rfl))) (by decide) (backOf (W := 0) (rmLen l Z aV hw [] b_1 t_1 kt_1 (p1 &&& (3 : Int32)) vs_1 cs h4 n0 O5 f13 f14 f15 f16 Si0 (hcs)) hZ (hw _ (List.mem_of_getElem? (i := 80) rfl)) (hw _ (List.mem_of_getElem? (i := 6) rfl)) (by decide) (by decide)) qr12a qr12c (g := (mkF m 88 #[.val (.long q0), .second, .val (.int p1), .val (.int p2), .val (.int p3), .val (.int p4), .val (.int (p1 &&& (3 : Int32))), .val (.int ((p2 &&& (255 : Int32)).toUInt32.toUInt16.toUInt32.toInt32)), .val (.int ((p3 &&& (255 : Int32)).toUInt32.toUInt16.toUInt32.toInt32)), .val (.int ((p4 &&& (255 : Int32)).toUInt32.toUInt16.toUInt32.toInt32)), .val (.ref b_1), .val (.ref b_4), .val (.ref b_1)] [(.ref b_1)])) rfl (by rw [hml]; rfl) (Steps.refl _) (argsL := []) (rest := []) (lenOf pd__28_29I rfl) rfl (by show 2 * 0 + _ ≤ _; exact Nat.le_of_eq rfl) (hb hby at_88) (fun _ _ => ⟨rfl, Q11_0, (by decide : 7 + 0 ≤ _), (by decide : 96 + 0 ≤ _)⟩))
  obtain ⟨rfl, N12q, Q12_0⟩ := hQ12
  have N12 := Fr.app N11 N12q
  refine run_fwd (T' := T12) (g' := (mkF m 91 #[.val (.long q0), .second, .val (.int p1), .val (.int p2), .val (.int p3), .val (.int p4), .val (.int (p1 &&& (3 : Int32))), .val (.int ((p2 &&& (255 : Int32)).toUInt32.toUInt16.toUInt32.toInt32)), .val (.int ((p3 &&& (255 : Int32)).toUInt32.toUInt16.toUInt32.toInt32)), .val (.int ((p4 &&& (255 : Int32)).toUInt32.toUInt16.toUInt32.toInt32)), .val (.ref b_1), .val (.ref b_4), .val (.ref b_1)] [(.int (p1 &&& (3 : Int32)))])) (fun _ k => st12.trans k) ?_
  refine run_fwd (T' := T12) (g' := (mkF m 93 #[.val (.long q0), .second, .val (.int p1), .val (.int p2), .val (.int p3), .val (.int p4), .val (.int (p1 &&& (3 : Int32))), .val (.int ((p2 &&& (255 : Int32)).toUInt32.toUInt16.toUInt32.toInt32)), .val (.int ((p3 &&& (255 : Int32)).toUInt32.toUInt16.toUInt32.toInt32)), .val (.int ((p4 &&& (255 : Int32)).toUInt32.toUInt16.toUInt32.toInt32)), .val (.ref b_1), .val (.ref b_4), .val (.ref b_1)] [(.int (p1 &&& (3 : Int32))), (.int (p1 &&& (3 : Int32)))])) (fun _ k => XS.iload X12.here hx rfl (hb hby at_91) rfl k) ?_
  have hc93_17 : (p1 &&& (3 : Int32)) = (p1 &&& (3 : Int32)) := rfl
  refine run_fwd (T' := T12) (g' := (mkF m 96 #[.val (.long q0), .second, .val (.int p1), .val (.int p2), .val (.int p3), .val (.int p4), .val (.int (p1 &&& (3 : Int32))), .val (.int ((p2 &&& (255 : Int32)).toUInt32.toUInt16.toUInt32.toInt32)), .val (.int ((p3 &&& (255 : Int32)).toUInt32.toUInt16.toUInt32.toInt32)), .val (.int ((p4 &&& (255 : Int32)).toUInt32.toUInt16.toUInt32.toInt32)), .val (.ref b_1), .val (.ref b_4), .val (.ref b_1)] [])) (fun _ k => XS.icmpNo X12.here hx rfl (hb hby at_93) rfl (teq hc93_17).2 k) ?_
  refine run_fwd (T' := T12) (g' := (mkF m 98 #[.val (.long q0), .second, .val (.int p1), .val (.int p2), .val (.int p3), .val (.int p4), .val (.int (p1 &&& (3 : Int32))), .val (.int ((p2 &&& (255 : Int32)).toUInt32.toUInt16.toUInt32.toInt32)), .val (.int ((p3 &&& (255 : Int32)).toUInt32.toUInt16.toUInt32.toInt32)), .val (.int ((p4 &&& (255 : Int32)).toUInt32.toUInt16.toUInt32.toInt32)), .val (.ref b_1), .val (.ref b_4), .val (.ref b_1)] [(.ref b_1)])) (fun _ k => XS.aload X12.here hx rfl (hb hby at_96) rfl rfl k) ?_
  refine run_fwd (T' := T12) (g' := (mkF m 100 #[.val (.long q0), .second, .val (.int p1), .val (.int p2), .val (.int p3), .val (.int p4), .val (.int (p1 &&& (3 : Int32))), .val (.int ((p2 &&& (255 : Int32)).toUInt32.toUInt16.toUInt32.toInt32)), .val (.int ((p3 &&& (255 : Int32)).toUInt32.toUInt16.toUInt32.toInt32)), .val (.int ((p4 &&& (255 : Int32)).toUInt32.toUInt16.toUInt32.toInt32)), .val (.ref b_1), .val (.ref b_4), .val (.ref b_1)] [(.ref b_1), (.ref b_1)])) (fun _ k => XS.aload X12.here hx rfl (hb hby at_98) rfl rfl k) ?_
  obtain ⟨cq18, kq18, qr18a, qr18b, qr18c⟩ := isOf hZ Q12_0 f13
  obtain ⟨T18, v18, L18, X18, hQ18, st18⟩ := own_gotV X12 (X12.virtualBack hx (y := (⟨"java/lang/String", "equals", "(Ljava/lang/Object;)Z"⟩ : MethodName)) (z := (⟨"java/lang/String", "equals", "(Ljava/lang/Object;)Z"⟩ : MethodName)) hown (mvT hZ (hw _ (List.mem_of_getElem? (i := 86) rfl))) (mvT hZ (hw _ (List.mem_of_getElem? (i := 87) rfl))) (notFace_of_selects (args := #[]) (mvT hZ (hw _ (List.mem_of_getElem? (i := 89) rfl)))) (mvT hZ (hw _ (List.mem_of_getElem? (i := 89) rfl))) (mvT hZ (hw _ (List.mem_of_getElem? (i := 88) rfl))) (by decide) (backOf (W := 0) (rmEqI l Z aV hw [] b_1 h4 n0 O5 ) hZ (hw _ (List.mem_of_getElem? (i := 90) rfl)) (hw _ (List.mem_of_getElem? (i := 6) rfl)) (by decide) (by decide)) qr18a qr18c (g := (mkF m 100 #[.val (.long q0), .second, .val (.int p1), .val (.int p2), .val (.int p3), .val (.int p4), .val (.int (p1 &&& (3 : Int32))), .val (.int ((p2 &&& (255 : Int32)).toUInt32.toUInt16.toUInt32.toInt32)), .val (.int ((p3 &&& (255 : Int32)).toUInt32.toUInt16.toUInt32.toInt32)), .val (.int ((p4 &&& (255 : Int32)).toUInt32.toUInt16.toUInt32.toInt32)), .val (.ref b_1), .val (.ref b_4), .val (.ref b_1)] [(.ref b_1), (.ref b_1)])) rfl (by rw [hml]; rfl) (Steps.refl _) (argsL := [(.ref b_1)]) (rest := []) (lenOf pd__28Ljava_2flang_2fObject_3b_29Z rfl) rfl (by show 2 * 0 + _ ≤ _; exact Nat.le_of_eq rfl) (hb hby at_100) (fun _ _ => ⟨rfl, Q12_0, (by decide : 7 + 0 ≤ _), (by decide : 96 + 0 ≤ _)⟩))
  obtain ⟨rfl, N18q, Q18_0⟩ := hQ18
  have N18 := Fr.app N12 N18q
  refine run_fwd (T' := T18) (g' := (mkF m 103 #[.val (.long q0), .second, .val (.int p1), .val (.int p2), .val (.int p3), .val (.int p4), .val (.int (p1 &&& (3 : Int32))), .val (.int ((p2 &&& (255 : Int32)).toUInt32.toUInt16.toUInt32.toInt32)), .val (.int ((p3 &&& (255 : Int32)).toUInt32.toUInt16.toUInt32.toInt32)), .val (.int ((p4 &&& (255 : Int32)).toUInt32.toUInt16.toUInt32.toInt32)), .val (.ref b_1), .val (.ref b_4), .val (.ref b_1)] [(.int (1 : Int32))])) (fun _ k => st18.trans k) ?_
  have hc103_19 : ¬ ((1 : Int32) = (0 : Int32)) := (by decide)
  refine run_fwd (T' := T18) (g' := (mkF m 106 #[.val (.long q0), .second, .val (.int p1), .val (.int p2), .val (.int p3), .val (.int p4), .val (.int (p1 &&& (3 : Int32))), .val (.int ((p2 &&& (255 : Int32)).toUInt32.toUInt16.toUInt32.toInt32)), .val (.int ((p3 &&& (255 : Int32)).toUInt32.toUInt16.toUInt32.toInt32)), .val (.int ((p4 &&& (255 : Int32)).toUInt32.toUInt16.toUInt32.toInt32)), .val (.ref b_1), .val (.ref b_4), .val (.ref b_1)] [])) (fun _ k => XS.ifNo X18.here hx rfl (hb hby at_103) rfl ((if0 _ _).trans (feq hc103_19).1) k) ?_
  refine run_fwd (T' := T18) (g' := (mkF m 107 #[.val (.long q0), .second, .val (.int p1), .val (.int p2), .val (.int p3), .val (.int p4), .val (.int (p1 &&& (3 : Int32))), .val (.int ((p2 &&& (255 : Int32)).toUInt32.toUInt16.toUInt32.toInt32)), .val (.int ((p3 &&& (255 : Int32)).toUInt32.toUInt16.toUInt32.toInt32)), .val (.int ((p4 &&& (255 : Int32)).toUInt32.toUInt16.toUInt32.toInt32)), .val (.ref b_1), .val (.ref b_4), .val (.ref b_1)] [(.int (1 : Int32))])) (fun _ k => XS.iconst X18.here hx rfl (hb hby at_106) k) ?_
  refine run_fwd (T' := T18) (g' := (mkF m 111 #[.val (.long q0), .second, .val (.int p1), .val (.int p2), .val (.int p3), .val (.int p4), .val (.int (p1 &&& (3 : Int32))), .val (.int ((p2 &&& (255 : Int32)).toUInt32.toUInt16.toUInt32.toInt32)), .val (.int ((p3 &&& (255 : Int32)).toUInt32.toUInt16.toUInt32.toInt32)), .val (.int ((p4 &&& (255 : Int32)).toUInt32.toUInt16.toUInt32.toInt32)), .val (.ref b_1), .val (.ref b_4), .val (.ref b_1)] [(.int (1 : Int32))])) (fun _ k => XS.goto X18.here hx rfl (pc0 := 107) (pc' := 111) rfl (hb hby at_107) (by decide) (by decide) k) ?_
  exact run_retW X18 hx hS4 (own_hk Q18_0 hk4) Bd.returns Bd.notSynchronized rfl (Or.inl ⟨rfl, by simp, _, rfl⟩) (hb hby at_111) (by rw [Q18_0]; exact ⟨rfl, N18⟩) (by decide) (by decide)
set_option maxRecDepth 65536 in
set_option maxHeartbeats 40000000 in
theorem comes_1 {Post : Tables → Env → Array Value → State → Outcome → State → Prop} (hpost : ∀ tb e args s v u, (limb_1_1.after args s (.returned v) u = true ∧ limb_1_2.after args s (.returned v) u = true ∧ True) → Jvm.Pilot.@@N@@.Jvm.D.FramedW s (.returned v) u (Jvm.fieldLocs frame_1_writes args s ++ Jvm.arrayLocs frame_1_arrays args s ++ Jvm.staticLocs frame_1_statics s) 24 2176 → Post tb e args s (.returned v) u) :
    ArmFor flags0 classFile x code maxLocals ret World_1 tables_1 room_1 Calls_1 rest_1 Pre_1 Post := by
  intro l hfl _ _ p e ha hc hk s m args below hf hA hF happ hP
  obtain ⟨hcalls, hrest, hpre⟩ := hP
  obtain ⟨-, -, -, hnamed, -, -, -, hat⟩ := (Spec.applies_iff hf).mp happ
  obtain ⟨hg, hn⟩ := and_e (Cond.before_iff.mp (show (Jvm.Cond.and given_1 narrow_1).before args s = true from hpre))
  obtain ⟨g1, g2⟩ := and_e hg
  obtain ⟨g3, g4⟩ := and_e g2
  obtain ⟨g5, g6⟩ := and_e g4
  obtain ⟨g7, g8⟩ := and_e g6
  obtain ⟨g9, g10⟩ := and_e g8
  obtain ⟨w0, w1, w2, w3, w4, rfl⟩ : ∃ w0 w1 w2 w3 w4 : Value, args = #[w0, w1, w2, w3, w4] := by
    have hs : args.size = 5 := by simpa [Cond.value, given_1] using g1
    obtain ⟨L⟩ := args
    match L, hs with
    | [w0, w1, w2, w3, w4], _ => exact ⟨w0, w1, w2, w3, w4, rfl⟩
  have hw := fun d (hd : d ∈ tables_1) => atoms_spec (ws := Jvm.Cond.code x code maxLocals ret :: tables_1) hat d (List.mem_cons_of_mem _ hd)
  obtain ⟨hsets, hown0⟩ := atoms_of _ (rest_1_c_eq ▸ (show rest_1_c.before _ s = true from hrest))
  obtain ⟨i0, ei0⟩ := isL_v g3
  obtain rfl : w0 = (.long i0) := Option.some.inj ei0
  obtain ⟨i1, ei1⟩ := is_v g5
  obtain rfl : w1 = (.int i1) := Option.some.inj ei1
  obtain ⟨i2, ei2⟩ := is_v g7
  obtain rfl : w2 = (.int i2) := Option.some.inj ei2
  obtain ⟨i3, ei3⟩ := is_v g9
  obtain rfl : w3 = (.int i3) := Option.some.inj ei3
  obtain ⟨i4, ei4⟩ := is_v g10
  obtain rfl : w4 = (.int i4) := Option.some.inj ei4
  have hfit : Fit s := fun {y c} hc i hi => by
    obtain ⟨ha, rfl⟩ := Array.getElem?_eq_some_iff.mp hc
    have q := List.all_eq_true.mp ((Array.all_eq_true_iff_forall_mem.mp hF) _ (Array.getElem_mem ha)) i (List.mem_range.mpr hi)
    simpa [Array.getElem?_eq_getElem hi] using q
  obtain ⟨cs, ecs⟩ := is_v (Cond.before_iff.mp (hsets _ (List.mem_of_getElem? (i := 1) rfl)))
  have SC := Sta.start ecs (Or.inl (hsets _ (List.mem_of_getElem? (i := 0) rfl)))
  have hcs := own_nei ecs (Cond.before_iff.mp (hsets _ (List.mem_of_getElem? (i := 2) rfl)))
  have hch : Jvm.Lit.constHeld s "java/lang/String" 7 := hcalls.1 ("java/lang/String", 7) (by simp [consts_1])
  have hcw := (hsets _ (List.mem_of_getElem? (i := 2) rfl))
  obtain ⟨n, o, h1, h2, h3, _, L, rfl, ⟨rfl, N⟩, hq⟩ := rm0 l s _ hw tables_1 i0 i1 i2 i3 i4 cs s.heap s.heap.size (Old.start s) SC hcs hch hcw p e ha hc hk s m _ below hf ((Spec.applies_iff_loose hf).mp happ).1 ⟨rfl, State.Warmed39.refl s, rfl, IB.start⟩ trivial
  refine ⟨n, _, h1, h2, h3, hpost _ _ _ _ _ _ ⟨Cond.after_iff.mpr rfl, Cond.after_iff.mpr (eq_i res_at (Term.int_eval (1)) rfl), trivial⟩ ⟨hq.1, hq.2.1, hq.2.2.1, (hq.2.2.2.sift fun y hy => Or.inr (N y hy)).mono (by decide) (by decide)⟩⟩
theorem main_1_1 : Claimed_1_1 := comes_1 fun _ _ _ _ _ _ h hF => ⟨h.1, hF⟩
theorem main_1_2 : Claimed_1_2 := comes_1 fun _ _ _ _ _ _ h hF => ⟨h.2.1, hF⟩
end Jvm.Pilot.@@N@@
namespace Jvm.Pilot.@@N@@
open Jvm Jvm.ClassFile Sem Op Lib Jvm.Free Jvm.Stand Jvm.Pilot.@@N@@.Jvm.D
/-! MADE BY PROGRAM (witnessworld.py) out of the Statement's table words and the real class files: 21 classes; the members and pool entries that the words name. The judged class is class 1, her method 2. -/
namespace start1
open Jvm.ClassFile
def u (s : String) : CpInfo := .utf8 (stringToUtf16 s)
/-- a pool by its gaps: so many unusable entries, then the entry; so many at the end -/
def gap : Nat → List CpInfo → List CpInfo
  | 0, r => r
  | n + 1, r => .unusable :: gap n r
def poolList (es : List (Nat × CpInfo)) (last : Nat) : List CpInfo := es.foldr (fun e r => gap e.1 (e.2 :: r)) (gap last [])
def pool (es : List (Nat × CpInfo)) (last : Nat) : Array CpInfo := ⟨poolList es last⟩
def fileOf (pool : Array CpInfo) (this : Nat) (attrs : Array Attribute := #[]) (ms : Array MethodInfo := #[]) (fl : Nat := 33) (sup : Nat := 0) (ifs : Array Nat := #[]) (fds : Array FieldInfo := #[]) : ClassFile where
  minorVersion := 0
  majorVersion := 65
  constantPool := pool
  accessFlags := fl
  thisClass := this
  superClass := sup
  interfaces := ifs
  fields := fds
  methods := ms
  attributes := attrs
def plain (name : String) (sup : Option ClassId) : Class where
  name := name
  kind := .ordinary
  loader := none
  accessFlags := 33
  super := sup
  interfaces := #[]
  cf := none
  fields := #[]
  methods := #[]
  instanceTypes := #[]
  staticTypes := #[]
  resolved := #[]
  callSites := []
  init := .initialized
  statics := none
  mirror := none

def pool0 : Array CpInfo := pool [(5, u "<init>"), (0, u "()V"), (1, .class_ 10), (1, u "java/lang/Object")] 113

def k0c0 : Code := { maxStack := 0, maxLocals := 1, code := object_method_1_code, exceptionTable := #[], attributes := #[] }
def k0m0 : Method := { name := "<init>", desc := "()V", sig := { parameters := [], returnType := none }, accessFlags := 1, code := some k0c0 }
/-- java/lang/Object -/
def k0 : Class := { plain "java/lang/Object" none with
  accessFlags := 33
  interfaces := #[]
  cf := some (fileOf pool0 8 #[] #[{ accessFlags := 1, nameIndex := 5, descriptorIndex := 6, attributes := #[] }] 33 0 #[] #[])
  fields := #[]
  methods := #[k0m0]
  instanceTypes := #[]
  staticTypes := #[]
  resolved := Array.replicate 124 none
  statics := none }

def pool1 : Array CpInfo := pool [(2, .class_ 4), (1, u "java/lang/Object"), (0, u "<init>"), (0, u "()V"), (0, .class_ 8), (0, u "java/lang/String"), (0, .methodref 7 10), (0, .nameAndType 5 11), (0, u "([C)V"), (0, .methodref 13 14), (0, .class_ 15), (0, .nameAndType 16 17), (0, u "com/example/barnacle/barnacle/redis/AcquisitionRefusedPinLaw"), (0, u "draw"), (0, u "(ICCC)Ljava/lang/String;"), (0, .methodref 19 20), (0, .class_ 21), (0, .nameAndType 22 23), (0, u "com/example/barnacle/barnacle/redis/Acquisition"), (0, u "refused"), (0, u "(JLjava/lang/String;)Lcom/example/barnacle/barnacle/redis/Acquisition;"), (0, .methodref 19 25), (0, .nameAndType 26 27), (0, u "isTaken"), (0, u "()Z"), (0, .methodref 19 29), (0, .nameAndType 30 31), (0, u "holderLeaseLeftMillis"), (0, u "()J"), (0, .methodref 19 33), (0, .nameAndType 34 35), (0, u "holderToken"), (0, u "()Ljava/lang/String;"), (0, .methodref 7 37), (0, .nameAndType 38 39), (0, u "length"), (0, u "()I"), (0, .methodref 7 41), (0, .nameAndType 42 43), (0, u "equals"), (0, u "(Ljava/lang/Object;)Z"), (3, u "law"), (0, u "(JIIII)Z")] 2

def k1m0 : Method := { name := "<init>", desc := "()V", sig := { parameters := [], returnType := none }, accessFlags := 1, code := none }
def k1c1 : Code := { maxStack := 6, maxLocals := 4, code := method_2_code, exceptionTable := #[], attributes := #[] }
def k1m1 : Method := { name := "draw", desc := "(ICCC)Ljava/lang/String;", sig := { parameters := [.int, .char, .char, .char], returnType := some (.object "java/lang/String") }, accessFlags := 10, code := some k1c1 }
def k1c2 : Code := { maxStack := 4, maxLocals := 13, code := code, exceptionTable := #[], attributes := #[] }
def k1m2 : Method := { name := "law", desc := "(JIIII)Z", sig := { parameters := [.long, .int, .int, .int, .int], returnType := some .boolean }, accessFlags := 9, code := some k1c2 }
/-- com/example/barnacle/barnacle/redis/AcquisitionRefusedPinLaw -/
def k1 : Class := { plain "com/example/barnacle/barnacle/redis/AcquisitionRefusedPinLaw" (some 0) with
  accessFlags := 49
  interfaces := #[]
  cf := some (fileOf pool1 13 #[] #[{ accessFlags := 1, nameIndex := 5, descriptorIndex := 6, attributes := #[] }, { accessFlags := 10, nameIndex := 16, descriptorIndex := 17, attributes := #[] }, { accessFlags := 9, nameIndex := 47, descriptorIndex := 48, attributes := #[] }] 49 2 #[] #[])
  fields := #[]
  methods := #[k1m0, k1m1, k1m2]
  instanceTypes := #[]
  staticTypes := #[]
  resolved := Array.replicate 51 none
  statics := none }

def pool2 : Array CpInfo := pool [(1, .class_ 2), (0, u "java/io/Serializable"), (0, .class_ 4), (0, u "java/lang/Object")] 2

/-- java/io/Serializable -/
def k2 : Class := { plain "java/io/Serializable" (some 0) with
  accessFlags := 1537
  interfaces := #[]
  cf := some (fileOf pool2 1 #[] #[] 1537 3 #[] #[])
  fields := #[]
  methods := #[]
  instanceTypes := #[]
  staticTypes := #[]
  resolved := Array.replicate 7 none
  statics := none }

def pool3 : Array CpInfo := pool [(1, .class_ 2), (0, u "java/lang/Comparable"), (0, .class_ 4), (0, u "java/lang/Object")] 7

/-- java/lang/Comparable -/
def k3 : Class := { plain "java/lang/Comparable" (some 0) with
  accessFlags := 1537
  interfaces := #[]
  cf := some (fileOf pool3 1 #[] #[] 1537 3 #[] #[])
  fields := #[]
  methods := #[]
  instanceTypes := #[]
  staticTypes := #[]
  resolved := Array.replicate 12 none
  statics := none }

def pool4 : Array CpInfo := pool [(2, .class_ 4), (1, u "java/lang/CharSequence"), (42, .class_ 48), (0, u "java/lang/CharSequence$1CodePointIterator"), (10, .class_ 60), (0, u "java/lang/CharSequence$1CharIterator"), (5, .class_ 67), (0, u "java/lang/Object")] 63

/-- java/lang/CharSequence -/
def k4 : Class := { plain "java/lang/CharSequence" (some 0) with
  accessFlags := 1537
  interfaces := #[]
  cf := some (fileOf pool4 2 #[.nestMembers #[47, 59]] #[] 1537 66 #[] #[])
  fields := #[]
  methods := #[]
  instanceTypes := #[]
  staticTypes := #[]
  resolved := Array.replicate 131 none
  statics := none }

def pool5 : Array CpInfo := pool [(1, .class_ 2), (0, u "java/lang/constant/Constable"), (0, .class_ 4), (0, u "java/lang/Object")] 6

/-- java/lang/constant/Constable -/
def k5 : Class := { plain "java/lang/constant/Constable" (some 0) with
  accessFlags := 1537
  interfaces := #[]
  cf := some (fileOf pool5 1 #[] #[] 1537 3 #[] #[])
  fields := #[]
  methods := #[]
  instanceTypes := #[]
  staticTypes := #[]
  resolved := Array.replicate 11 none
  statics := none }

def pool6 : Array CpInfo := pool [(1, .class_ 2), (0, u "java/lang/constant/ConstantDesc"), (0, .class_ 4), (0, u "java/lang/Object")] 32

/-- java/lang/constant/ConstantDesc -/
def k6 : Class := { plain "java/lang/constant/ConstantDesc" (some 0) with
  accessFlags := 1537
  interfaces := #[]
  cf := some (fileOf pool6 1 #[] #[] 1537 3 #[] #[])
  fields := #[]
  methods := #[]
  instanceTypes := #[]
  staticTypes := #[]
  resolved := Array.replicate 37 none
  statics := none }

def pool7 : Array CpInfo := pool [(1, .methodref 2 3), (0, .class_ 4), (0, .nameAndType 5 6), (0, u "java/lang/Object"), (0, u "<init>"), (0, u "()V"), (0, .string 8), (0, u ""), (0, .fieldref 10 11), (0, .class_ 12), (0, .nameAndType 13 14), (0, u "java/lang/String"), (0, u "value"), (0, u "[B"), (0, .fieldref 10 16), (0, .nameAndType 17 18), (0, u "coder"), (0, u "B"), (2, u "hash"), (0, u "I"), (2, u "hashIsZero"), (0, u "Z"), (0, .methodref 10 28), (0, .nameAndType 5 29), (0, u "([CIILjava/lang/Void;)V"), (8, .fieldref 10 39), (0, .nameAndType 40 26), (0, u "COMPACT_STRINGS"), (1, .class_ 44), (1, u "java/lang/StringUTF16"), (0, u "compress"), (1, .methodref 42 48), (0, .nameAndType 49 50), (0, u "coderFromArrayLen"), (0, u "([BI)B"), (126, .methodref 42 178), (0, .nameAndType 45 179), (0, u "([CII)[B"), (154, u "()I"), (0, .methodref 10 336), (0, .nameAndType 17 337), (0, u "()B"), (169, u "length"), (35, u "equals"), (29, u "(Ljava/lang/Object;)Z"), (1, .class_ 576), (0, u "java/lang/CharSequence"), (22, u "CASE_INSENSITIVE_ORDER"), (0, u "Ljava/util/Comparator;"), (409, u "([C)V"), (90, u "serialPersistentFields"), (0, u "[Ljava/io/ObjectStreamField;"), (0, .class_ 1104), (0, u "java/lang/String$CaseInsensitiveComparator"), (1, .class_ 1107), (0, u "java/io/Serializable"), (0, .class_ 1109), (0, u "java/lang/Comparable"), (0, .class_ 1111), (0, u "java/lang/constant/Constable"), (0, .class_ 1113), (0, u "java/lang/constant/ConstantDesc"), (2, u "serialVersionUID"), (0, u "J"), (3, u "REPL"), (0, u "C"), (2, u "LATIN1"), (1, u "UTF16")] 323

def k7m0 : Method := { name := "<init>", desc := "()V", sig := { parameters := [], returnType := none }, accessFlags := 1, code := none }
def k7c1 : Code := { maxStack := 5, maxLocals := 2, code := jdk_42_method_3_code, exceptionTable := #[], attributes := #[] }
def k7m1 : Method := { name := "<init>", desc := "([C)V", sig := { parameters := [(.array .char)], returnType := none }, accessFlags := 1, code := some k7c1 }
def k7c2 : Code := { maxStack := 2, maxLocals := 1, code := jdk_42_method_54_code, exceptionTable := #[], attributes := #[] }
def k7m2 : Method := { name := "length", desc := "()I", sig := { parameters := [], returnType := some .int }, accessFlags := 1, code := some k7c2 }
def k7c3 : Code := { maxStack := 2, maxLocals := 3, code := jdk_42_method_66_code, exceptionTable := #[], attributes := #[] }
def k7m3 : Method := { name := "equals", desc := "(Ljava/lang/Object;)Z", sig := { parameters := [(.object "java/lang/Object")], returnType := some .boolean }, accessFlags := 1, code := some k7c3 }
def k7c4 : Code := { maxStack := 4, maxLocals := 6, code := jdk_42_method_149_code, exceptionTable := #[], attributes := #[] }
def k7m4 : Method := { name := "<init>", desc := "([CIILjava/lang/Void;)V", sig := { parameters := [(.array .char), .int, .int, (.object "java/lang/Void")], returnType := none }, accessFlags := 2, code := some k7c4 }
def k7c5 : Code := { maxStack := 1, maxLocals := 1, code := jdk_42_method_152_code, exceptionTable := #[], attributes := #[] }
def k7m5 : Method := { name := "coder", desc := "()B", sig := { parameters := [], returnType := some .byte }, accessFlags := 0, code := some k7c5 }
/-- java/lang/String -/
def k7 : Class := { plain "java/lang/String" (some 0) with
  accessFlags := 49
  interfaces := #[2, 3, 4, 5, 6]
  cf := some (fileOf pool7 10 #[.nestMembers #[1103]] #[{ accessFlags := 1, nameIndex := 5, descriptorIndex := 6, attributes := #[] }, { accessFlags := 1, nameIndex := 5, descriptorIndex := 1010, attributes := #[] }, { accessFlags := 1, nameIndex := 507, descriptorIndex := 334, attributes := #[] }, { accessFlags := 1, nameIndex := 543, descriptorIndex := 573, attributes := #[] }, { accessFlags := 2, nameIndex := 5, descriptorIndex := 29, attributes := #[] }, { accessFlags := 0, nameIndex := 17, descriptorIndex := 337, attributes := #[] }] 49 2 #[1106, 1108, 575, 1110, 1112] #[{ accessFlags := 18, nameIndex := 13, descriptorIndex := 14, attributes := #[] }, { accessFlags := 18, nameIndex := 17, descriptorIndex := 18, attributes := #[] }, { accessFlags := 2, nameIndex := 21, descriptorIndex := 22, attributes := #[] }, { accessFlags := 2, nameIndex := 25, descriptorIndex := 26, attributes := #[] }, { accessFlags := 26, nameIndex := 1116, descriptorIndex := 1117, attributes := #[] }, { accessFlags := 24, nameIndex := 40, descriptorIndex := 26, attributes := #[] }, { accessFlags := 26, nameIndex := 1101, descriptorIndex := 1102, attributes := #[] }, { accessFlags := 26, nameIndex := 1121, descriptorIndex := 1122, attributes := #[] }, { accessFlags := 25, nameIndex := 599, descriptorIndex := 600, attributes := #[] }, { accessFlags := 24, nameIndex := 1125, descriptorIndex := 18, attributes := #[] }, { accessFlags := 24, nameIndex := 1127, descriptorIndex := 18, attributes := #[] }])
  fields := #[{ name := "value", type := (.array .byte), accessFlags := 18, slot := 0, constantValue := 0 }, { name := "coder", type := .byte, accessFlags := 18, slot := 1, constantValue := 0 }, { name := "hash", type := .int, accessFlags := 2, slot := 2, constantValue := 0 }, { name := "hashIsZero", type := .boolean, accessFlags := 2, slot := 3, constantValue := 0 }, { name := "serialVersionUID", type := .long, accessFlags := 26, slot := 0, constantValue := 0 }, { name := "COMPACT_STRINGS", type := .boolean, accessFlags := 24, slot := 1, constantValue := 0 }, { name := "serialPersistentFields", type := (.array (.object "java/io/ObjectStreamField")), accessFlags := 26, slot := 2, constantValue := 0 }, { name := "REPL", type := .char, accessFlags := 26, slot := 3, constantValue := 0 }, { name := "CASE_INSENSITIVE_ORDER", type := (.object "java/util/Comparator"), accessFlags := 25, slot := 4, constantValue := 0 }, { name := "LATIN1", type := .byte, accessFlags := 24, slot := 5, constantValue := 0 }, { name := "UTF16", type := .byte, accessFlags := 24, slot := 6, constantValue := 0 }]
  methods := #[k7m0, k7m1, k7m2, k7m3, k7m4, k7m5]
  instanceTypes := #[(.array .byte), .byte, .int, .boolean]
  staticTypes := #[.long, .boolean, (.array (.object "java/io/ObjectStreamField")), .char, (.object "java/util/Comparator"), .byte, .byte]
  resolved := Array.replicate 1451 none
  statics := some 0 }

def pool8 : Array CpInfo := pool [(6, .class_ 8), (1, u "java/lang/Object"), (0, u "<init>"), (0, u "()V"), (1, .class_ 14), (1, u "java/lang/StringUTF16"), (31, u "$assertionsDisabled"), (0, u "Z"), (13, u "HI_BYTE_SHIFT"), (0, u "I"), (2, u "LO_BYTE_SHIFT"), (49, .methodref 12 116), (0, .nameAndType 117 118), (0, u "compress"), (0, u "([CI[BII)I"), (3, u "([CII)[B"), (138, u "coderFromArrayLen"), (0, u "([BI)B"), (106, .class_ 371), (1, u "java/lang/StringUTF16$LinesSpliterator"), (58, u "MAX_LENGTH"), (196, .class_ 628), (0, u "java/lang/StringUTF16$CodePointsSpliterator"), (0, .class_ 630), (0, u "java/lang/StringUTF16$CharsSpliterator")] 4

def k8m0 : Method := { name := "<init>", desc := "()V", sig := { parameters := [], returnType := none }, accessFlags := 0, code := none }
def k8c1 : Code := { maxStack := 2, maxLocals := 2, code := jdk_52_method_15_code, exceptionTable := #[], attributes := #[] }
def k8m1 : Method := { name := "coderFromArrayLen", desc := "([BI)B", sig := { parameters := [(.array .byte), .int], returnType := some .byte }, accessFlags := 8, code := some k8c1 }
def k8c2 : Code := { maxStack := 5, maxLocals := 6, code := jdk_52_method_16_code, exceptionTable := #[], attributes := #[] }
def k8m2 : Method := { name := "compress", desc := "([CII)[B", sig := { parameters := [(.array .char), .int, .int], returnType := some (.array .byte) }, accessFlags := 9, code := some k8c2 }
def k8c3 : Code := { maxStack := 3, maxLocals := 7, code := jdk_52_method_21_code, exceptionTable := #[], attributes := #[] }
def k8m3 : Method := { name := "compress", desc := "([CI[BII)I", sig := { parameters := [(.array .char), .int, (.array .byte), .int, .int], returnType := some .int }, accessFlags := 9, code := some k8c3 }
/-- java/lang/StringUTF16 -/
def k8 : Class := { plain "java/lang/StringUTF16" (some 0) with
  accessFlags := 48
  interfaces := #[]
  cf := some (fileOf pool8 12 #[.nestMembers #[627, 629, 369]] #[{ accessFlags := 0, nameIndex := 9, descriptorIndex := 10, attributes := #[] }, { accessFlags := 8, nameIndex := 261, descriptorIndex := 262, attributes := #[] }, { accessFlags := 9, nameIndex := 117, descriptorIndex := 122, attributes := #[] }, { accessFlags := 9, nameIndex := 117, descriptorIndex := 118, attributes := #[] }] 48 6 #[] #[{ accessFlags := 26, nameIndex := 61, descriptorIndex := 62, attributes := #[] }, { accessFlags := 26, nameIndex := 65, descriptorIndex := 62, attributes := #[] }, { accessFlags := 24, nameIndex := 430, descriptorIndex := 62, attributes := #[] }, { accessFlags := 4120, nameIndex := 46, descriptorIndex := 47, attributes := #[] }])
  fields := #[{ name := "HI_BYTE_SHIFT", type := .int, accessFlags := 26, slot := 0, constantValue := 0 }, { name := "LO_BYTE_SHIFT", type := .int, accessFlags := 26, slot := 1, constantValue := 0 }, { name := "MAX_LENGTH", type := .int, accessFlags := 24, slot := 2, constantValue := 0 }, { name := "$assertionsDisabled", type := .boolean, accessFlags := 4120, slot := 3, constantValue := 0 }]
  methods := #[k8m0, k8m1, k8m2, k8m3]
  instanceTypes := #[]
  staticTypes := #[.int, .int, .int, .boolean]
  resolved := Array.replicate 635 none
  statics := none }

def pool9 : Array CpInfo := pool [(1, .methodref 2 3), (0, .class_ 4), (0, .nameAndType 5 6), (0, u "java/lang/Object"), (0, u "<init>"), (0, u "()V"), (0, .fieldref 8 9), (0, .class_ 10), (0, .nameAndType 11 12), (0, u "com/example/barnacle/barnacle/redis/Acquisition"), (0, u "taken"), (0, u "Z"), (0, .fieldref 8 14), (0, .nameAndType 15 16), (0, u "fencingToken"), (0, u "J"), (0, .fieldref 8 18), (0, .nameAndType 19 16), (0, u "holderLeaseLeftMillis"), (0, .fieldref 8 21), (0, .nameAndType 22 23), (0, u "holderToken"), (0, u "Ljava/lang/String;"), (2, .methodref 8 27), (0, .nameAndType 5 28), (0, u "(ZJJLjava/lang/String;)V"), (0, .string 22), (0, .methodref 31 32), (0, .class_ 33), (0, .nameAndType 34 35), (0, u "java/util/Objects"), (0, u "requireNonNull"), (0, u "(Ljava/lang/Object;Ljava/lang/String;)Ljava/lang/Object;"), (0, .class_ 37), (0, u "java/lang/String"), (0, .methodref 8 39), (0, .nameAndType 40 41), (0, u "isTaken"), (0, u "()Z"), (14, u "refused"), (0, u "(JLjava/lang/String;)Lcom/example/barnacle/barnacle/redis/Acquisition;"), (0, u "()J"), (1, u "()Ljava/lang/String;")] 2

def k9c0 : Code := { maxStack := 3, maxLocals := 7, code := prog_1_method_1_code, exceptionTable := #[], attributes := #[] }
def k9m0 : Method := { name := "<init>", desc := "(ZJJLjava/lang/String;)V", sig := { parameters := [.boolean, .long, .long, (.object "java/lang/String")], returnType := none }, accessFlags := 2, code := some k9c0 }
def k9c1 : Code := { maxStack := 9, maxLocals := 3, code := prog_1_method_3_code, exceptionTable := #[], attributes := #[] }
def k9m1 : Method := { name := "refused", desc := "(JLjava/lang/String;)Lcom/example/barnacle/barnacle/redis/Acquisition;", sig := { parameters := [.long, (.object "java/lang/String")], returnType := some (.object "com/example/barnacle/barnacle/redis/Acquisition") }, accessFlags := 8, code := some k9c1 }
def k9c2 : Code := { maxStack := 1, maxLocals := 1, code := prog_1_method_4_code, exceptionTable := #[], attributes := #[] }
def k9m2 : Method := { name := "isTaken", desc := "()Z", sig := { parameters := [], returnType := some .boolean }, accessFlags := 1, code := some k9c2 }
def k9c3 : Code := { maxStack := 3, maxLocals := 1, code := prog_1_method_6_code, exceptionTable := #[], attributes := #[] }
def k9m3 : Method := { name := "holderLeaseLeftMillis", desc := "()J", sig := { parameters := [], returnType := some .long }, accessFlags := 1, code := some k9c3 }
def k9c4 : Code := { maxStack := 3, maxLocals := 1, code := prog_1_method_7_code, exceptionTable := #[], attributes := #[] }
def k9m4 : Method := { name := "holderToken", desc := "()Ljava/lang/String;", sig := { parameters := [], returnType := some (.object "java/lang/String") }, accessFlags := 0, code := some k9c4 }
/-- com/example/barnacle/barnacle/redis/Acquisition -/
def k9 : Class := { plain "com/example/barnacle/barnacle/redis/Acquisition" (some 0) with
  accessFlags := 49
  interfaces := #[]
  cf := some (fileOf pool9 8 #[] #[{ accessFlags := 2, nameIndex := 5, descriptorIndex := 28, attributes := #[] }, { accessFlags := 8, nameIndex := 56, descriptorIndex := 57, attributes := #[] }, { accessFlags := 1, nameIndex := 40, descriptorIndex := 41, attributes := #[] }, { accessFlags := 1, nameIndex := 19, descriptorIndex := 58, attributes := #[] }, { accessFlags := 0, nameIndex := 22, descriptorIndex := 60, attributes := #[] }] 49 2 #[] #[{ accessFlags := 18, nameIndex := 11, descriptorIndex := 12, attributes := #[] }, { accessFlags := 18, nameIndex := 15, descriptorIndex := 16, attributes := #[] }, { accessFlags := 18, nameIndex := 19, descriptorIndex := 16, attributes := #[] }, { accessFlags := 18, nameIndex := 22, descriptorIndex := 23, attributes := #[] }])
  fields := #[{ name := "taken", type := .boolean, accessFlags := 18, slot := 0, constantValue := 0 }, { name := "fencingToken", type := .long, accessFlags := 18, slot := 1, constantValue := 0 }, { name := "holderLeaseLeftMillis", type := .long, accessFlags := 18, slot := 2, constantValue := 0 }, { name := "holderToken", type := (.object "java/lang/String"), accessFlags := 18, slot := 3, constantValue := 0 }]
  methods := #[k9m0, k9m1, k9m2, k9m3, k9m4]
  instanceTypes := #[.boolean, .long, .long, (.object "java/lang/String")]
  staticTypes := #[]
  resolved := Array.replicate 63 none
  statics := none }

def pool10 : Array CpInfo := pool [(2, .class_ 4), (1, u "java/lang/Object"), (0, u "<init>"), (0, u "()V"), (35, .class_ 44), (1, u "java/util/Objects"), (0, u "requireNonNull"), (48, u "(Ljava/lang/Object;Ljava/lang/String;)Ljava/lang/Object;")] 89

def k10m0 : Method := { name := "<init>", desc := "()V", sig := { parameters := [], returnType := none }, accessFlags := 2, code := none }
def k10c1 : Code := { maxStack := 3, maxLocals := 2, code := jdk_31_method_11_code, exceptionTable := #[], attributes := #[] }
def k10m1 : Method := { name := "requireNonNull", desc := "(Ljava/lang/Object;Ljava/lang/String;)Ljava/lang/Object;", sig := { parameters := [(.object "java/lang/Object"), (.object "java/lang/String")], returnType := some (.object "java/lang/Object") }, accessFlags := 9, code := some k10c1 }
/-- java/util/Objects -/
def k10 : Class := { plain "java/util/Objects" (some 0) with
  accessFlags := 49
  interfaces := #[]
  cf := some (fileOf pool10 42 #[] #[{ accessFlags := 2, nameIndex := 5, descriptorIndex := 6, attributes := #[] }, { accessFlags := 9, nameIndex := 45, descriptorIndex := 94, attributes := #[] }] 49 2 #[] #[])
  fields := #[]
  methods := #[k10m0, k10m1]
  instanceTypes := #[]
  staticTypes := #[]
  resolved := Array.replicate 184 none
  statics := none }

def pool11 : Array CpInfo := pool [(4, .class_ 6), (1, u "java/lang/Object"), (0, u "<init>"), (0, u "()V"), (5, .class_ 16), (1, u "java/lang/StringLatin1"), (104, u "$assertionsDisabled"), (0, u "Z"), (98, .class_ 223), (1, u "java/lang/StringLatin1$LinesSpliterator"), (166, .class_ 391), (0, u "java/lang/StringLatin1$CharsSpliterator")] 3

def k11m0 : Method := { name := "<init>", desc := "()V", sig := { parameters := [], returnType := none }, accessFlags := 0, code := none }
/-- java/lang/StringLatin1 -/
def k11 : Class := { plain "java/lang/StringLatin1" (some 0) with
  accessFlags := 48
  interfaces := #[]
  cf := some (fileOf pool11 14 #[.nestMembers #[390, 221]] #[{ accessFlags := 0, nameIndex := 7, descriptorIndex := 8, attributes := #[] }] 48 4 #[] #[{ accessFlags := 4120, nameIndex := 121, descriptorIndex := 122, attributes := #[] }])
  fields := #[{ name := "$assertionsDisabled", type := .boolean, accessFlags := 4120, slot := 0, constantValue := 0 }]
  methods := #[k11m0]
  instanceTypes := #[]
  staticTypes := #[.boolean]
  resolved := Array.replicate 395 none
  statics := none }

def pool12 : Array CpInfo := pool [(2, .class_ 4), (1, u "java/lang/Object"), (0, u "<init>"), (0, u "()V"), (17, .class_ 26), (1, u "jdk/internal/util/Preconditions"), (28, .class_ 56), (0, u "jdk/internal/util/Preconditions$4"), (57, .class_ 115), (0, u "jdk/internal/util/Preconditions$1"), (7, u "SIOOBE_FORMATTER"), (0, u "Ljava/util/function/BiFunction;"), (0, .class_ 126), (0, u "jdk/internal/util/Preconditions$2"), (3, u "AIOOBE_FORMATTER"), (0, .class_ 132), (0, u "jdk/internal/util/Preconditions$3"), (3, u "IOOBE_FORMATTER")] 57

def k12m0 : Method := { name := "<init>", desc := "()V", sig := { parameters := [], returnType := none }, accessFlags := 1, code := none }
/-- jdk/internal/util/Preconditions -/
def k12 : Class := { plain "jdk/internal/util/Preconditions" (some 0) with
  accessFlags := 33
  interfaces := #[]
  cf := some (fileOf pool12 24 #[.nestMembers #[55, 131, 125, 114]] #[{ accessFlags := 1, nameIndex := 5, descriptorIndex := 6, attributes := #[] }] 33 2 #[] #[{ accessFlags := 25, nameIndex := 123, descriptorIndex := 124, attributes := #[] }, { accessFlags := 25, nameIndex := 130, descriptorIndex := 124, attributes := #[] }, { accessFlags := 25, nameIndex := 136, descriptorIndex := 124, attributes := #[] }])
  fields := #[{ name := "SIOOBE_FORMATTER", type := (.object "java/util/function/BiFunction"), accessFlags := 25, slot := 0, constantValue := 0 }, { name := "AIOOBE_FORMATTER", type := (.object "java/util/function/BiFunction"), accessFlags := 25, slot := 1, constantValue := 0 }, { name := "IOOBE_FORMATTER", type := (.object "java/util/function/BiFunction"), accessFlags := 25, slot := 2, constantValue := 0 }]
  methods := #[k12m0]
  instanceTypes := #[]
  staticTypes := #[(.object "java/util/function/BiFunction"), (.object "java/util/function/BiFunction"), (.object "java/util/function/BiFunction")]
  resolved := Array.replicate 194 none
  statics := some 1 }

def pool13 : Array CpInfo := pool [(9, u "<init>"), (6, .class_ 18), (1, u "java/lang/Object"), (0, u "()V"), (1, .class_ 23), (1, u "jdk/internal/util/ArraysSupport"), (0, u "LOG2_ARRAY_LONG_INDEX_SCALE"), (0, u "I"), (2, u "U"), (0, u "Ljdk/internal/misc/Unsafe;"), (8, u "BIG_ENDIAN"), (0, u "Z"), (8, u "LOG2_BYTE_BIT_SIZE"), (4, u "LOG2_ARRAY_INT_INDEX_SCALE"), (54, u "JLA"), (0, u "Ljdk/internal/access/JavaLangAccess;"), (11, u "LOG2_ARRAY_BOOLEAN_INDEX_SCALE"), (9, u "LOG2_ARRAY_BYTE_INDEX_SCALE"), (5, u "LOG2_ARRAY_CHAR_INDEX_SCALE"), (5, u "LOG2_ARRAY_SHORT_INDEX_SCALE"), (18, u "LOG2_ARRAY_FLOAT_INDEX_SCALE"), (24, u "LOG2_ARRAY_DOUBLE_INDEX_SCALE"), (89, u "T_BOOLEAN"), (2, u "T_CHAR"), (1, u "T_FLOAT"), (1, u "T_DOUBLE"), (1, u "T_BYTE"), (1, u "T_SHORT"), (1, u "T_INT"), (1, u "T_LONG"), (1, u "SOFT_MAX_ARRAY_LENGTH")] 83

def k13m0 : Method := { name := "<init>", desc := "()V", sig := { parameters := [], returnType := none }, accessFlags := 2, code := none }
/-- jdk/internal/util/ArraysSupport -/
def k13 : Class := { plain "jdk/internal/util/ArraysSupport" (some 0) with
  accessFlags := 33
  interfaces := #[]
  cf := some (fileOf pool13 21 #[] #[{ accessFlags := 2, nameIndex := 9, descriptorIndex := 19, attributes := #[] }] 33 16 #[] #[{ accessFlags := 24, nameIndex := 28, descriptorIndex := 29, attributes := #[] }, { accessFlags := 26, nameIndex := 38, descriptorIndex := 39, attributes := #[] }, { accessFlags := 25, nameIndex := 121, descriptorIndex := 25, attributes := #[] }, { accessFlags := 25, nameIndex := 131, descriptorIndex := 25, attributes := #[] }, { accessFlags := 25, nameIndex := 137, descriptorIndex := 25, attributes := #[] }, { accessFlags := 25, nameIndex := 143, descriptorIndex := 25, attributes := #[] }, { accessFlags := 25, nameIndex := 53, descriptorIndex := 25, attributes := #[] }, { accessFlags := 25, nameIndex := 24, descriptorIndex := 25, attributes := #[] }, { accessFlags := 25, nameIndex := 162, descriptorIndex := 25, attributes := #[] }, { accessFlags := 25, nameIndex := 187, descriptorIndex := 25, attributes := #[] }, { accessFlags := 26, nameIndex := 48, descriptorIndex := 25, attributes := #[] }, { accessFlags := 25, nameIndex := 277, descriptorIndex := 25, attributes := #[] }, { accessFlags := 25, nameIndex := 280, descriptorIndex := 25, attributes := #[] }, { accessFlags := 25, nameIndex := 282, descriptorIndex := 25, attributes := #[] }, { accessFlags := 25, nameIndex := 284, descriptorIndex := 25, attributes := #[] }, { accessFlags := 25, nameIndex := 286, descriptorIndex := 25, attributes := #[] }, { accessFlags := 25, nameIndex := 288, descriptorIndex := 25, attributes := #[] }, { accessFlags := 25, nameIndex := 290, descriptorIndex := 25, attributes := #[] }, { accessFlags := 25, nameIndex := 292, descriptorIndex := 25, attributes := #[] }, { accessFlags := 26, nameIndex := 108, descriptorIndex := 109, attributes := #[] }, { accessFlags := 25, nameIndex := 294, descriptorIndex := 25, attributes := #[] }])
  fields := #[{ name := "U", type := (.object "jdk/internal/misc/Unsafe"), accessFlags := 24, slot := 0, constantValue := 0 }, { name := "BIG_ENDIAN", type := .boolean, accessFlags := 26, slot := 1, constantValue := 0 }, { name := "LOG2_ARRAY_BOOLEAN_INDEX_SCALE", type := .int, accessFlags := 25, slot := 2, constantValue := 0 }, { name := "LOG2_ARRAY_BYTE_INDEX_SCALE", type := .int, accessFlags := 25, slot := 3, constantValue := 0 }, { name := "LOG2_ARRAY_CHAR_INDEX_SCALE", type := .int, accessFlags := 25, slot := 4, constantValue := 0 }, { name := "LOG2_ARRAY_SHORT_INDEX_SCALE", type := .int, accessFlags := 25, slot := 5, constantValue := 0 }, { name := "LOG2_ARRAY_INT_INDEX_SCALE", type := .int, accessFlags := 25, slot := 6, constantValue := 0 }, { name := "LOG2_ARRAY_LONG_INDEX_SCALE", type := .int, accessFlags := 25, slot := 7, constantValue := 0 }, { name := "LOG2_ARRAY_FLOAT_INDEX_SCALE", type := .int, accessFlags := 25, slot := 8, constantValue := 0 }, { name := "LOG2_ARRAY_DOUBLE_INDEX_SCALE", type := .int, accessFlags := 25, slot := 9, constantValue := 0 }, { name := "LOG2_BYTE_BIT_SIZE", type := .int, accessFlags := 26, slot := 10, constantValue := 0 }, { name := "T_BOOLEAN", type := .int, accessFlags := 25, slot := 11, constantValue := 0 }, { name := "T_CHAR", type := .int, accessFlags := 25, slot := 12, constantValue := 0 }, { name := "T_FLOAT", type := .int, accessFlags := 25, slot := 13, constantValue := 0 }, { name := "T_DOUBLE", type := .int, accessFlags := 25, slot := 14, constantValue := 0 }, { name := "T_BYTE", type := .int, accessFlags := 25, slot := 15, constantValue := 0 }, { name := "T_SHORT", type := .int, accessFlags := 25, slot := 16, constantValue := 0 }, { name := "T_INT", type := .int, accessFlags := 25, slot := 17, constantValue := 0 }, { name := "T_LONG", type := .int, accessFlags := 25, slot := 18, constantValue := 0 }, { name := "JLA", type := (.object "jdk/internal/access/JavaLangAccess"), accessFlags := 26, slot := 19, constantValue := 0 }, { name := "SOFT_MAX_ARRAY_LENGTH", type := .int, accessFlags := 25, slot := 20, constantValue := 0 }]
  methods := #[k13m0]
  instanceTypes := #[]
  staticTypes := #[(.object "jdk/internal/misc/Unsafe"), .boolean, .int, .int, .int, .int, .int, .int, .int, .int, .int, .int, .int, .int, .int, .int, .int, .int, .int, (.object "jdk/internal/access/JavaLangAccess"), .int]
  resolved := Array.replicate 378 none
  statics := none }

def pool14 : Array CpInfo := pool [(1, u "java/lang/Cloneable"), (0, .class_ 1), (0, u "java/lang/Object"), (0, .class_ 3)] 3

/-- java/lang/Cloneable -/
def k14 : Class := { plain "java/lang/Cloneable" (some 0) with
  accessFlags := 1537
  interfaces := #[]
  cf := some (fileOf pool14 2 #[] #[] 1537 4 #[] #[])
  fields := #[]
  methods := #[]
  instanceTypes := #[]
  staticTypes := #[]
  resolved := Array.replicate 8 none
  statics := none }

/-- the primitive byte -/
def k15 : Class := { plain "byte" none with kind := .primitive 'B', accessFlags := 0x411 }
/-- [B -/
def k16 : Class := { plain "[B" (some 0) with kind := .array 15 .byte, interfaces := #[14, 2], accessFlags := 1041 }

/-- the primitive char -/
def k17 : Class := { plain "char" none with kind := .primitive 'C', accessFlags := 0x411 }
/-- [C -/
def k18 : Class := { plain "[C" (some 0) with kind := .array 17 .char, interfaces := #[14, 2], accessFlags := 1041 }

/-- the primitive int -/
def k19 : Class := { plain "int" none with kind := .primitive 'I', accessFlags := 0x411 }
/-- [I -/
def k20 : Class := { plain "[I" (some 0) with kind := .array 19 .int, interfaces := #[14, 2], accessFlags := 1041 }

def heap : Heap := #[{ cls := 7, slots := #[.long 0, .int 1, .null, .int 0, .null, .int 0, .int 0], vm := .statics 7 },
  { cls := 12, slots := #[.null, .null, .null], vm := .statics 12 }]
def classes : Array Class := #[k0, k1, k2, k3, k4, k5, k6, k7, k8, k9, k10, k11, k12, k13, k14, k15, k16, k17, k18, k19, k20]
def interned : List (Array UInt16 × Addr) := []
def slotsUsed : Nat := 10
def theMethod : MethodId := ⟨1, 2⟩
def args0 : Array Value := #[.long 5, .int 0, .int 65, .int 66, .int 67]
def aboutOver (below : List Frame) : State where
  vm := { classes := classes, interned := interned.toArray }
  heap := heap
  slotsUsed := slotsUsed
  threads := #[{ frames := .invoking theMethod args0 :: below }]
def below0 : List Frame := [.native { method := ⟨0, 0⟩, args := #[] }]
def about1 : State := aboutOver below0
def p0 : Program := .bare "" "" ""
def e0 : Env := launch0.env 0 0 0
theorem w_frames : about1.frames = Frame.invoking theMethod args0 :: below0 := rfl
set_option maxRecDepth 65536 in
theorem w_args : argsFit about1.vm theMethod args0 = true := by decide +kernel
set_option maxRecDepth 65536 in
theorem w_heap : heapFits about1 = true := by decide +kernel
set_option maxRecDepth 65536 in
theorem w_runnable : about1.curStatus? = some .runnable := by decide +kernel
set_option maxRecDepth 65536 in
theorem w_alone : about1.alone = true := by decide +kernel
set_option maxRecDepth 65536 in
theorem w_named : about1.methodNamed? x = some theMethod := by decide +kernel
set_option maxRecDepth 65536 in
theorem w_hears : about1.hears theMethod below0 = true := by decide +kernel
set_option maxRecDepth 65536 in
theorem w_ripe : about1.ripe theMethod args0 below0 = true := by decide +kernel
theorem w_running : about1.status = .running := rfl
set_option maxRecDepth 65536 in
theorem w_room : about1.hasRoom e0.platform room_1 = true :=
  launch0.hasRoom_least _ room_1 (by decide +kernel) (by decide +kernel) (by decide +kernel) (by decide +kernel) (by decide +kernel) (by decide +kernel)
theorem allAtoms_all (ts : List Jvm.Cond) (a : Array Jvm.Value) (st : Jvm.State) : (allAtoms ts).before a st = ts.all (fun c => c.before a st) := by
  induction ts with
  | nil => rfl
  | cons c t ih =>
    show (Jvm.Cond.and c (allAtoms t)).before a st = _
    rw [Jvm.Cond.before_and, ih, List.all_cons]
def words1 : List Jvm.Cond := Jvm.Cond.code x code maxLocals ret :: tables_1
/-- a 'code' word, met by the world's own term for the bytes: nothing is compared byte by byte -/
theorem code_word {y : MethodName} {bytes : ByteArray} {mx : Nat} {rt : Option FieldType} {a : Array Value} {s : State} {m : MethodId} {meth : Method} {c : Code} (h1 : s.methodNamed? y = some m) (h2 : s.vm.method? m = some meth) (h3 : meth.code = some c) (h4 : c.code = bytes)
    (h5 : (c.maxLocals == mx && c.exceptionTable.isEmpty && decide (c.maxStack ≤ mostOperands) && decide (meth.sig.returnType = rt) && !meth.locks && decide (parseMethodDescriptor y.desc = some meth.sig)) = true) : (Jvm.Cond.code y bytes mx rt).before a s = true := by
  simp only [Bool.and_eq_true, beq_iff_eq, Bool.not_eq_true', decide_eq_true_eq] at h5
  obtain ⟨⟨⟨⟨⟨g1, g2⟩, g3⟩, g4⟩, g5⟩, g6⟩ := h5
  simp [Cond.before, Cond.holds, Cond.value, h1, h2, h3, h4, g1, g2, g3, g4, g5, g6]
def isCode : Jvm.Cond → Bool
  | .code _ _ _ _ => true
  | _ => false
theorem all_split {L : List Jvm.Cond} {P : Jvm.Cond → Bool} (h1 : L.all (fun c => isCode c || P c) = true) (h2 : ∀ c ∈ L.filter isCode, P c = true) : L.all P = true := by
  refine List.all_eq_true.mpr fun c hc => ?_
  have h := List.all_eq_true.mp h1 c hc
  rcases Bool.eq_false_or_eq_true (isCode c) with hi | hi
  · exact h2 c (List.mem_filter.mpr ⟨hc, hi⟩)
  · simpa [hi] using h
set_option maxRecDepth 65536 in
theorem w_c0 : (Jvm.Cond.code x code maxLocals ret).before args0 about1 = true := code_word (m := ⟨1, 2⟩) (meth := k1m2) (c := k1c2) (by decide +kernel) rfl rfl rfl (by decide +kernel)
set_option maxRecDepth 65536 in
theorem w_c1 : (Jvm.Cond.code ({ cls := "com/example/barnacle/barnacle/redis/AcquisitionRefusedPinLaw", name := "draw", desc := "(ICCC)Ljava/lang/String;" } : Jvm.MethodName) method_2_code (4 : Nat) (Option.some (Jvm.ClassFile.FieldType.object "java/lang/String"))).before args0 about1 = true := code_word (m := ⟨1, 1⟩) (meth := k1m1) (c := k1c1) (by decide +kernel) rfl rfl rfl (by decide +kernel)
set_option maxRecDepth 65536 in
theorem w_c2 : (Jvm.Cond.code ({ cls := "java/lang/String", name := "<init>", desc := "([C)V" } : Jvm.MethodName) jdk_42_method_3_code (2 : Nat) (Option.none : Option Jvm.ClassFile.FieldType)).before args0 about1 = true := code_word (m := ⟨7, 1⟩) (meth := k7m1) (c := k7c1) (by decide +kernel) rfl rfl rfl (by decide +kernel)
set_option maxRecDepth 65536 in
theorem w_c3 : (Jvm.Cond.code ({ cls := "java/lang/String", name := "<init>", desc := "([CIILjava/lang/Void;)V" } : Jvm.MethodName) jdk_42_method_149_code (6 : Nat) (Option.none : Option Jvm.ClassFile.FieldType)).before args0 about1 = true := code_word (m := ⟨7, 4⟩) (meth := k7m4) (c := k7c4) (by decide +kernel) rfl rfl rfl (by decide +kernel)
set_option maxRecDepth 65536 in
theorem w_c4 : (Jvm.Cond.code ({ cls := "java/lang/Object", name := "<init>", desc := "()V" } : Jvm.MethodName) object_method_1_code (1 : Nat) (Option.none : Option Jvm.ClassFile.FieldType)).before args0 about1 = true := code_word (m := ⟨0, 0⟩) (meth := k0m0) (c := k0c0) (by decide +kernel) rfl rfl rfl (by decide +kernel)
set_option maxRecDepth 65536 in
theorem w_c5 : (Jvm.Cond.code ({ cls := "java/lang/StringUTF16", name := "compress", desc := "([CII)[B" } : Jvm.MethodName) jdk_52_method_16_code (6 : Nat) (Option.some (Jvm.ClassFile.FieldType.array Jvm.ClassFile.FieldType.byte))).before args0 about1 = true := code_word (m := ⟨8, 2⟩) (meth := k8m2) (c := k8c2) (by decide +kernel) rfl rfl rfl (by decide +kernel)
set_option maxRecDepth 65536 in
theorem w_c6 : (Jvm.Cond.code ({ cls := "java/lang/StringUTF16", name := "compress", desc := "([CI[BII)I" } : Jvm.MethodName) jdk_52_method_21_code (7 : Nat) (Option.some Jvm.ClassFile.FieldType.int)).before args0 about1 = true := code_word (m := ⟨8, 3⟩) (meth := k8m3) (c := k8c3) (by decide +kernel) rfl rfl rfl (by decide +kernel)
set_option maxRecDepth 65536 in
theorem w_c7 : (Jvm.Cond.code ({ cls := "java/lang/StringUTF16", name := "coderFromArrayLen", desc := "([BI)B" } : Jvm.MethodName) jdk_52_method_15_code (2 : Nat) (Option.some Jvm.ClassFile.FieldType.byte)).before args0 about1 = true := code_word (m := ⟨8, 1⟩) (meth := k8m1) (c := k8c1) (by decide +kernel) rfl rfl rfl (by decide +kernel)
set_option maxRecDepth 65536 in
theorem w_c8 : (Jvm.Cond.code ({ cls := "com/example/barnacle/barnacle/redis/Acquisition", name := "refused", desc := "(JLjava/lang/String;)Lcom/example/barnacle/barnacle/redis/Acquisition;" } : Jvm.MethodName) prog_1_method_3_code (3 : Nat) (Option.some (Jvm.ClassFile.FieldType.object "com/example/barnacle/barnacle/redis/Acquisition"))).before args0 about1 = true := code_word (m := ⟨9, 1⟩) (meth := k9m1) (c := k9c1) (by decide +kernel) rfl rfl rfl (by decide +kernel)
set_option maxRecDepth 65536 in
theorem w_c9 : (Jvm.Cond.code ({ cls := "java/util/Objects", name := "requireNonNull", desc := "(Ljava/lang/Object;Ljava/lang/String;)Ljava/lang/Object;" } : Jvm.MethodName) jdk_31_method_11_code (2 : Nat) (Option.some (Jvm.ClassFile.FieldType.object "java/lang/Object"))).before args0 about1 = true := code_word (m := ⟨10, 1⟩) (meth := k10m1) (c := k10c1) (by decide +kernel) rfl rfl rfl (by decide +kernel)
set_option maxRecDepth 65536 in
theorem w_c10 : (Jvm.Cond.code ({ cls := "com/example/barnacle/barnacle/redis/Acquisition", name := "<init>", desc := "(ZJJLjava/lang/String;)V" } : Jvm.MethodName) prog_1_method_1_code (7 : Nat) (Option.none : Option Jvm.ClassFile.FieldType)).before args0 about1 = true := code_word (m := ⟨9, 0⟩) (meth := k9m0) (c := k9c0) (by decide +kernel) rfl rfl rfl (by decide +kernel)
set_option maxRecDepth 65536 in
theorem w_c11 : (Jvm.Cond.code ({ cls := "com/example/barnacle/barnacle/redis/Acquisition", name := "isTaken", desc := "()Z" } : Jvm.MethodName) prog_1_method_4_code (1 : Nat) (Option.some Jvm.ClassFile.FieldType.boolean)).before args0 about1 = true := code_word (m := ⟨9, 2⟩) (meth := k9m2) (c := k9c2) (by decide +kernel) rfl rfl rfl (by decide +kernel)
set_option maxRecDepth 65536 in
theorem w_c12 : (Jvm.Cond.code ({ cls := "com/example/barnacle/barnacle/redis/Acquisition", name := "holderLeaseLeftMillis", desc := "()J" } : Jvm.MethodName) prog_1_method_6_code (1 : Nat) (Option.some Jvm.ClassFile.FieldType.long)).before args0 about1 = true := code_word (m := ⟨9, 3⟩) (meth := k9m3) (c := k9c3) (by decide +kernel) rfl rfl rfl (by decide +kernel)
set_option maxRecDepth 65536 in
theorem w_c13 : (Jvm.Cond.code ({ cls := "com/example/barnacle/barnacle/redis/Acquisition", name := "holderToken", desc := "()Ljava/lang/String;" } : Jvm.MethodName) prog_1_method_7_code (1 : Nat) (Option.some (Jvm.ClassFile.FieldType.object "java/lang/String"))).before args0 about1 = true := code_word (m := ⟨9, 4⟩) (meth := k9m4) (c := k9c4) (by decide +kernel) rfl rfl rfl (by decide +kernel)
set_option maxRecDepth 65536 in
theorem w_c14 : (Jvm.Cond.code ({ cls := "java/lang/String", name := "length", desc := "()I" } : Jvm.MethodName) jdk_42_method_54_code (1 : Nat) (Option.some Jvm.ClassFile.FieldType.int)).before args0 about1 = true := code_word (m := ⟨7, 2⟩) (meth := k7m2) (c := k7c2) (by decide +kernel) rfl rfl rfl (by decide +kernel)
set_option maxRecDepth 65536 in
theorem w_c15 : (Jvm.Cond.code ({ cls := "java/lang/String", name := "coder", desc := "()B" } : Jvm.MethodName) jdk_42_method_152_code (1 : Nat) (Option.some Jvm.ClassFile.FieldType.byte)).before args0 about1 = true := code_word (m := ⟨7, 5⟩) (meth := k7m5) (c := k7c5) (by decide +kernel) rfl rfl rfl (by decide +kernel)
set_option maxRecDepth 65536 in
theorem w_c16 : (Jvm.Cond.code ({ cls := "java/lang/String", name := "equals", desc := "(Ljava/lang/Object;)Z" } : Jvm.MethodName) jdk_42_method_66_code (3 : Nat) (Option.some Jvm.ClassFile.FieldType.boolean)).before args0 about1 = true := code_word (m := ⟨7, 3⟩) (meth := k7m3) (c := k7c3) (by decide +kernel) rfl rfl rfl (by decide +kernel)
def codes1 : List Jvm.Cond := [Jvm.Cond.code x code maxLocals ret, Jvm.Cond.code ({ cls := "com/example/barnacle/barnacle/redis/AcquisitionRefusedPinLaw", name := "draw", desc := "(ICCC)Ljava/lang/String;" } : Jvm.MethodName) method_2_code (4 : Nat) (Option.some (Jvm.ClassFile.FieldType.object "java/lang/String")), Jvm.Cond.code ({ cls := "java/lang/String", name := "<init>", desc := "([C)V" } : Jvm.MethodName) jdk_42_method_3_code (2 : Nat) (Option.none : Option Jvm.ClassFile.FieldType), Jvm.Cond.code ({ cls := "java/lang/String", name := "<init>", desc := "([CIILjava/lang/Void;)V" } : Jvm.MethodName) jdk_42_method_149_code (6 : Nat) (Option.none : Option Jvm.ClassFile.FieldType), Jvm.Cond.code ({ cls := "java/lang/Object", name := "<init>", desc := "()V" } : Jvm.MethodName) object_method_1_code (1 : Nat) (Option.none : Option Jvm.ClassFile.FieldType), Jvm.Cond.code ({ cls := "java/lang/StringUTF16", name := "compress", desc := "([CII)[B" } : Jvm.MethodName) jdk_52_method_16_code (6 : Nat) (Option.some (Jvm.ClassFile.FieldType.array Jvm.ClassFile.FieldType.byte)), Jvm.Cond.code ({ cls := "java/lang/StringUTF16", name := "compress", desc := "([CI[BII)I" } : Jvm.MethodName) jdk_52_method_21_code (7 : Nat) (Option.some Jvm.ClassFile.FieldType.int), Jvm.Cond.code ({ cls := "java/lang/StringUTF16", name := "coderFromArrayLen", desc := "([BI)B" } : Jvm.MethodName) jdk_52_method_15_code (2 : Nat) (Option.some Jvm.ClassFile.FieldType.byte), Jvm.Cond.code ({ cls := "com/example/barnacle/barnacle/redis/Acquisition", name := "refused", desc := "(JLjava/lang/String;)Lcom/example/barnacle/barnacle/redis/Acquisition;" } : Jvm.MethodName) prog_1_method_3_code (3 : Nat) (Option.some (Jvm.ClassFile.FieldType.object "com/example/barnacle/barnacle/redis/Acquisition")), Jvm.Cond.code ({ cls := "java/util/Objects", name := "requireNonNull", desc := "(Ljava/lang/Object;Ljava/lang/String;)Ljava/lang/Object;" } : Jvm.MethodName) jdk_31_method_11_code (2 : Nat) (Option.some (Jvm.ClassFile.FieldType.object "java/lang/Object")), Jvm.Cond.code ({ cls := "com/example/barnacle/barnacle/redis/Acquisition", name := "<init>", desc := "(ZJJLjava/lang/String;)V" } : Jvm.MethodName) prog_1_method_1_code (7 : Nat) (Option.none : Option Jvm.ClassFile.FieldType), Jvm.Cond.code ({ cls := "com/example/barnacle/barnacle/redis/Acquisition", name := "isTaken", desc := "()Z" } : Jvm.MethodName) prog_1_method_4_code (1 : Nat) (Option.some Jvm.ClassFile.FieldType.boolean), Jvm.Cond.code ({ cls := "com/example/barnacle/barnacle/redis/Acquisition", name := "holderLeaseLeftMillis", desc := "()J" } : Jvm.MethodName) prog_1_method_6_code (1 : Nat) (Option.some Jvm.ClassFile.FieldType.long), Jvm.Cond.code ({ cls := "com/example/barnacle/barnacle/redis/Acquisition", name := "holderToken", desc := "()Ljava/lang/String;" } : Jvm.MethodName) prog_1_method_7_code (1 : Nat) (Option.some (Jvm.ClassFile.FieldType.object "java/lang/String")), Jvm.Cond.code ({ cls := "java/lang/String", name := "length", desc := "()I" } : Jvm.MethodName) jdk_42_method_54_code (1 : Nat) (Option.some Jvm.ClassFile.FieldType.int), Jvm.Cond.code ({ cls := "java/lang/String", name := "coder", desc := "()B" } : Jvm.MethodName) jdk_42_method_152_code (1 : Nat) (Option.some Jvm.ClassFile.FieldType.byte), Jvm.Cond.code ({ cls := "java/lang/String", name := "equals", desc := "(Ljava/lang/Object;)Z" } : Jvm.MethodName) jdk_42_method_66_code (3 : Nat) (Option.some Jvm.ClassFile.FieldType.boolean)]
set_option maxRecDepth 65536 in
theorem codes_eq : words1.filter isCode = codes1 := rfl
theorem w_codes : ∀ c ∈ words1.filter isCode, c.before args0 about1 = true := by
  rw [codes_eq]
  intro c hc
  simp only [codes1, List.mem_cons, List.not_mem_nil, or_false] at hc
  rcases hc with rfl | rfl | rfl | rfl | rfl | rfl | rfl | rfl | rfl | rfl | rfl | rfl | rfl | rfl | rfl | rfl | rfl
  · exact w_c0
  · exact w_c1
  · exact w_c2
  · exact w_c3
  · exact w_c4
  · exact w_c5
  · exact w_c6
  · exact w_c7
  · exact w_c8
  · exact w_c9
  · exact w_c10
  · exact w_c11
  · exact w_c12
  · exact w_c13
  · exact w_c14
  · exact w_c15
  · exact w_c16
set_option maxRecDepth 65536 in
theorem w_t1 : (words1.take 24).all (fun c => isCode c || c.before args0 about1) = true := by decide +kernel
set_option maxRecDepth 65536 in
theorem w_t2 : ((words1.drop 24).take 24).all (fun c => isCode c || c.before args0 about1) = true := by decide +kernel
set_option maxRecDepth 65536 in
theorem w_t3 : (((words1.drop 24).drop 24).take 24).all (fun c => isCode c || c.before args0 about1) = true := by decide +kernel
set_option maxRecDepth 65536 in
theorem w_t4 : (((words1.drop 24).drop 24).drop 24).all (fun c => isCode c || c.before args0 about1) = true := by decide +kernel
theorem w_tables : (allAtoms (Jvm.Cond.code x code maxLocals ret :: tables_1)).before args0 about1 = true := by
  rw [allAtoms_all]
  show words1.all (fun c => c.before args0 about1) = true
  refine all_split ?_ w_codes
  rw [← List.take_append_drop 24 words1, List.all_append, w_t1, ← List.take_append_drop 24 (words1.drop 24), List.all_append, w_t2, ← List.take_append_drop 24 ((words1.drop 24).drop 24), List.all_append, w_t3, w_t4]
  rfl
set_option maxRecDepth 65536 in
theorem w_rest : rest_1_c.before args0 about1 = true := by decide +kernel
set_option maxRecDepth 65536 in
theorem w_case : (Jvm.Cond.and given_1 narrow_1).before args0 about1 = true := by decide +kernel
set_option maxRecDepth 65536 in
theorem w_consts : constsHeld consts_1 about1 := Jvm.Lit.constsHeldB_iff.mp (by decide +kernel)
theorem w_applies : (headSpec (Jvm.Cond.code x code maxLocals ret :: tables_1) room_1).applies x e0.platform about1 = true :=
  (Spec.applies_iff w_frames).mpr ⟨w_running, w_runnable, w_alone, w_named, w_hears, w_ripe, w_room, w_tables⟩
theorem atStart : AtStart classFile x code maxLocals ret World_1 tables_1 room_1 Calls_1 rest_1 Pre_1 launch0 p0 e0 about1 theMethod args0 below0 :=
  ⟨lists_1, trivial, launch0.admits_env _ _ _, launch0.least_env, fairChoices_fair.cas, fairChoices_fair.clock, w_frames, w_args, w_heap, w_applies, ⟨w_consts, trivial⟩, w_rest, w_case⟩
end start1
theorem witness_1 : WitnessClaimed_1 := ⟨start1.p0, start1.e0, start1.about1, start1.theMethod, start1.args0, start1.below0, start1.atStart⟩
end Jvm.Pilot.@@N@@
