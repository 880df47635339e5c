import JvmDerived
import JvmDerived.Pilot.@@N@@Statement
import JvmDerived.Pilot.@@N@@Code
set_option linter.unusedVariables false
set_option linter.unusedSimpArgs false

namespace Jvm.Pilot.@@N@@
open Jvm Jvm.ClassFile Sem Op Lib Jvm.Free Jvm.Stand Jvm.LawKit Jvm.RoadKit Bundle Jvm.Pilot.@@N@@.Jvm.D
section OwnKit
def Run (tb : Tables) (e : Env) (below : List Frame) (W : Outcome → State → Prop) (T : State) (g : JFrame) : Prop := ∃ s₂ o, Steps tb e below (T.setTop g) s₂ ∧ s₂.status = .running ∧ Ended s₂ below o ∧ W o s₂
abbrev Wd (s : State) (Q : Option Value → Heap → List Loc → Prop) (k n : Nat) : Outcome → State → Prop := fun o U => ∃ v L, o = .returned v ∧ Q v U.heap L ∧ FrameEnd s o U L k n
theorem run_fwd {tb : Tables} {e : Env} {below : List Frame} {W : Outcome → State → Prop} {T T' : State} {g g' : JFrame} (st : ∀ t, Steps tb e below (T'.setTop g') t → Steps tb e below (T.setTop g) t) (h : Run tb e below W T' g') : Run tb e below W T g := by
  obtain ⟨t, o, h1, h2⟩ := h
  exact ⟨t, o, st t h1, h2⟩
variable {p : Program} {l : Launch} {e : Env} {R : Room} {s : State} {m : MethodId} {args : Array Value} {below : List Frame} {meth : Method} {c : Code} {T : State} {locs : List Loc} {cells slots : Nat}
theorem run_ret (X : Stand p l e R s m args below meth c T locs cells slots) (hx : p.tables.exec = Jvm.exec) {pc : Nat} {Ls : Array Slot} {w : Value} {t : FieldType} {i : Instr} {rest : List Value} {Q : Option Value → Heap → List Loc → Prop} {k n : Nat} (hret : meth.sig.returnType = some t) (hlk : meth.locks = false) (hn : narrow t w = w)
    (hi : (i = .ireturn ∧ (t = .int ∨ t = .boolean ∨ t = .byte ∨ t = .char ∨ t = .short) ∧ ∃ z, w = .int z) ∨ (i = .lreturn ∧ t = .long ∧ ∃ z, w = .long z) ∨ (i = .dreturn ∧ t = .double ∧ ∃ z, w = .double z) ∨ (i = .freturn ∧ t = .float ∧ ∃ z, w = .float z) ∨ (i = .areturn ∧ t.isReference = true ∧ w.isRef = true))
    (hd : decode c.code pc = .ok (i, 1)) (hQ : Q (some w) T.heap locs) (hk : cells ≤ k) (hs : slots ≤ n) : Run p.tables e below (Wd s Q k n) T (mkF m pc Ls (w :: rest)) := by
  obtain ⟨fs, hr, hrun, hended, hW, hsame⟩ := X.leave (v := some w) (fun h => by rw [hret] at h; cases h) hlk
  exact ⟨_, _, retOut X hx hret hn hi hd hr, hrun, hended, _, _, rfl, hQ, ⟨_, rfl⟩, hW, hsame.mono hk hs⟩
theorem run_retN (X : Stand p l e R s m args below meth c T locs cells slots) (hx : p.tables.exec = Jvm.exec) {pc : Nat} {Ls : Array Slot} {z : Int32} {t : FieldType} {rest : List Value} {Q : Option Value → Heap → List Loc → Prop} {k n : Nat} (hret : meth.sig.returnType = some t) (hlk : meth.locks = false) (ht : t = .boolean ∨ t = .byte ∨ t = .char ∨ t = .short)
    (hd : decode c.code pc = .ok (.ireturn, 1)) (hQ : Q (some (.int (nar t z))) T.heap locs) (hk : cells ≤ k) (hs : slots ≤ n) : Run p.tables e below (Wd s Q k n) T (mkF m pc Ls (.int z :: rest)) := by
  obtain ⟨fs, hr, hrun, hended, hW, hsame⟩ := X.leave (v := some (.int (nar t z))) (fun h => by rw [hret] at h; cases h) hlk
  exact ⟨_, _, retN X hx hret ht hd hr, hrun, hended, _, _, rfl, hQ, ⟨_, rfl⟩, hW, hsame.mono hk hs⟩
theorem run_ret0 (X : Stand p l e R s m args below meth c T locs cells slots) (hx : p.tables.exec = Jvm.exec) {pc : Nat} {Ls : Array Slot} {Q : Option Value → Heap → List Loc → Prop} {k n : Nat} (hret : meth.sig.returnType = none) (hlk : meth.locks = false)
    (hd : decode c.code pc = .ok (.return_, 1)) (hQ : Q none T.heap locs) (hk : cells ≤ k) (hs : slots ≤ n) : Run p.tables e below (Wd s Q k n) T (mkF m pc Ls []) := by
  obtain ⟨fs, hr, hrun, hended, hW, hsame⟩ := X.leave (v := none) (fun _ => rfl) hlk
  exact ⟨_, _, X.returnOut hx hret hd hr, hrun, hended, _, _, rfl, hQ, ⟨_, rfl⟩, hW, hsame.mono hk hs⟩
abbrev WdW (s : State) (Q : Option Value → Heap → List Loc → Prop) (k n : Nat) : Outcome → State → Prop := fun o U => ∃ v L, o = .returned v ∧ Q v U.heap L ∧ ReturnedEndW s o U L k n
theorem run_retW {vm1 : Vm} {n1 : Nat} (X : Stand p l e R (s.setVm vm1) m args below meth c T locs cells slots) (hx : p.tables.exec = Jvm.exec) (hS : s.Since vm1 n1) (hn1 : n1 ≤ T.heap.size) {pc : Nat} {Ls : Array Slot} {w : Value} {t : FieldType} {i : Instr} {rest : List Value} {Q : Option Value → Heap → List Loc → Prop} {k n : Nat} (hret : meth.sig.returnType = some t) (hlk : meth.locks = false) (hn : narrow t w = w)
    (hi : (i = .ireturn ∧ (t = .int ∨ t = .boolean ∨ t = .byte ∨ t = .char ∨ t = .short) ∧ ∃ z, w = .int z) ∨ (i = .lreturn ∧ t = .long ∧ ∃ z, w = .long z) ∨ (i = .dreturn ∧ t = .double ∧ ∃ z, w = .double z) ∨ (i = .freturn ∧ t = .float ∧ ∃ z, w = .float z) ∨ (i = .areturn ∧ t.isReference = true ∧ w.isRef = true))
    (hd : decode c.code pc = .ok (i, 1)) (hQ : Q (some w) T.heap locs) (hk : cells ≤ k) (hs : slots ≤ n) : Run p.tables e below (WdW s Q k n) T (mkF m pc Ls (w :: rest)) := by
  obtain ⟨fs, hr, hrun, hended, hE⟩ := X.leaveW hS hn1 (v := some w) (fun h => by rw [hret] at h; cases h) hlk
  exact ⟨_, _, retOut X hx hret hn hi hd hr, hrun, hended, _, _, rfl, hQ, hE.1, hE.2.1, hE.2.2.1, hE.2.2.2.mono hk hs⟩
theorem own_gotS {kc ks : Nat} {Q : Option Value → Heap → List Loc → Prop} {f : Option Value → JFrame} {T0 : State} {g : JFrame} (X0 : Stand p l e R s m args below meth c T locs cells slots) (H : ∃ (v : Option Value) (vm₁ : Vm) (B : Pt), s.WarmedH vm₁ ∧ Stand p l e R s m args below meth c B.U B.locs B.cells B.slots ∧ (∃ L, Q v B.U.heap L ∧ B.locs = locs ++ L ∧ B.cells = cells + kc ∧ B.slots = slots + ks) ∧ ∀ target, Steps p.tables e below (B.U.setTop (f v)) target → Steps p.tables e below (T0.setTop g) target) :
    ∃ (T' : State) (v : Option Value) (L : List Loc), Stand p l e R s m args below meth c T' (locs ++ L) (cells + kc) (slots + ks) ∧ Q v T'.heap L ∧ ∀ target, Steps p.tables e below (T'.setTop (f v)) target → Steps p.tables e below (T0.setTop g) target := by
  obtain ⟨v, -, B, -, X, ⟨L, hQ, h1, h2, h3⟩, st⟩ := H
  exact ⟨B.U, v, L, h1 ▸ h2 ▸ h3 ▸ X, hQ, st⟩
theorem own_gotV {kc ks : Nat} {Q : Option Value → Heap → List Loc → Prop} {f : Option Value → JFrame} {S0 : State} (X0 : Stand p l e R s m args below meth c T locs cells slots) (H : ∃ (v : Option Value) (vm₁ : Vm) (B : Pt), s.WarmedH vm₁ ∧ Stand p l e R s m args below meth c B.U B.locs B.cells B.slots ∧ (∃ L, Q v B.U.heap L ∧ B.locs = locs ++ L ∧ B.cells = cells + kc ∧ B.slots = slots + ks) ∧ Steps p.tables e below S0 (B.U.setTop (f v))) :
    ∃ (T' : State) (v : Option Value) (L : List Loc), Stand p l e R s m args below meth c T' (locs ++ L) (cells + kc) (slots + ks) ∧ Q v T'.heap L ∧ Steps p.tables e below S0 (T'.setTop (f v)) := by
  obtain ⟨v, -, B, -, X, ⟨L, hQ, h1, h2, h3⟩, st⟩ := H
  exact ⟨B.U, v, L, h1 ▸ h2 ▸ h3 ▸ X, hQ, st⟩
theorem own_gotW {kc ks : Nat} {Q : Option Value → Heap → List Loc → Prop} {f : Option Value → JFrame} {S0 T0 : State} (X0 : Stand p l e R s m args below meth c T locs cells slots) (H : ∃ (v : Option Value) (vm₁ : Vm) (B : Pt), s.WarmedH vm₁ ∧ Stand p l e R (s.setVm B.U.vm) m args below meth c B.U B.locs B.cells B.slots ∧ s.Since B.U.vm B.U.heap.size ∧ T0.heap.size ≤ B.U.heap.size ∧ (∃ L, Q v B.U.heap L ∧ B.locs = locs ++ L ∧ B.cells = cells + kc ∧ B.slots = slots + ks) ∧ Steps p.tables e below S0 (B.U.setTop (f v))) :
    ∃ (T' : State) (v : Option Value) (L : List Loc), Stand p l e R (s.setVm T'.vm) m args below meth c T' (locs ++ L) (cells + kc) (slots + ks) ∧ s.Since T'.vm T'.heap.size ∧ T0.heap.size ≤ T'.heap.size ∧ Q v T'.heap L ∧ Steps p.tables e below S0 (T'.setTop (f v)) := by
  obtain ⟨v, -, B, -, X, hS, hg, ⟨L, hQ, h1, h2, h3⟩, st⟩ := H
  exact ⟨B.U, v, L, h1 ▸ h2 ▸ h3 ▸ X, hS, hg, hQ, st⟩
theorem own_le {Z : State} {n0 : Nat} {h : Heap} (O : Old Z n0 h) : n0 ≤ h.size := O.1 ▸ O.2.1
end OwnKit
def own_tab (F : Nat → Int32) (n : Nat) : List Value := (List.range n).map fun j => .int (F j)
def own_by (F : Nat → Int32) (j : Nat) : Int32 := (F j).toInt8.toInt32
def own_part (F : Nat → Int32) (m j : Nat) : Int32 := if j < m then own_by F j else 0
def own_leq (n : Nat) (F G : Nat → Int32) : Bool := (List.range n).all fun j => F j == G j
theorem own_tab_len (F : Nat → Int32) (n : Nat) : (own_tab F n).length = n := by simp [own_tab]
theorem own_tab_get (F : Nat → Int32) (n j : Nat) (h : j < n) (d : Value) : (own_tab F n).getD j d = .int (F j) := by simp [own_tab, List.getD_eq_getElem?_getD, h]
theorem own_tab_out (F : Nat → Int32) (n j : Nat) (h : ¬ j < n) (d : Value) : (own_tab F n).getD j d = d := by
  have q : n ≤ j := by omega
  simp [own_tab, List.getD_eq_getElem?_getD, q]
theorem own_get (F : Nat → Int32) (n : Nat) (j : Int32) (J : Nat) (hj : j.toNatClampNeg = J) (h : J < n) (d : Value) : (own_tab F n).getD j.toNatClampNeg d = .int (F J) := by
  rw [hj]; exact own_tab_get F n J h d
theorem own_tab_set (F G : Nat → Int32) (n i : Nat) (v : Int32) (h : ∀ j, j < n → G j = if j = i then v else F j) : (own_tab F n).set i (.int v) = own_tab G n := by
  apply List.ext_getElem
  · simp [own_tab]
  · intro j h1 h2
    have hj : j < n := by simpa [own_tab] using h2
    rw [List.getElem_set]
    simp only [own_tab, List.getElem_map, List.getElem_range, h j hj]
    by_cases q : i = j
    · simp [q]
    · simp [q, Ne.symm q]
theorem own_pad (F : Nat → Int32) (n i : Nat) : (own_tab (own_part F 0) n).getD i (.int (0 : Int32)) = ([] : List Value).getD i (.int (0 : Int32)) := by
  by_cases q : i < n
  · rw [own_tab_get _ _ _ q, own_part, if_neg (by omega)]; rfl
  · rw [own_tab_out _ _ _ q]; rfl
theorem own_nb (x : Int32) : nar .byte (x.toInt8.toInt32) = x.toInt8.toInt32 := by
  show (x.toInt8.toInt32).toInt8.toInt32 = x.toInt8.toInt32
  apply Int32.toInt_inj.mp
  have h1 := c_i2b x
  have h2 := c_i2b (x.toInt8.toInt32)
  omega
theorem own_turn (F : Nat → Int32) (n m : Nat) : (own_tab (own_part F m) n).set m (.int (nar .byte ((F m).toInt8.toInt32))) = own_tab (own_part F (m + 1)) n := by
  rw [own_nb]
  apply own_tab_set
  intro j hj
  unfold own_part own_by
  by_cases q : j = m
  · subst q; rw [if_pos (by omega), if_pos rfl]
  · rw [if_neg q]
    by_cases w : j < m
    · rw [if_pos w, if_pos (by omega)]
    · rw [if_neg w, if_neg (by omega)]
theorem own_all (F : Nat → Int32) (n : Nat) : own_tab (own_part F n) n = own_tab (own_by F) n := by
  unfold own_tab own_part
  apply List.map_congr_left
  intro j hj
  rw [if_pos (List.mem_range.mp hj)]
theorem own_lt0 {n : Int32} : n < (0 : Int32) ↔ n.toInt < 0 := by rw [Int32.lt_iff_toInt_lt]; rfl
theorem own_at (i n : Int32) (m N : Nat) (hi : i.toInt = m) (hn : n.toInt = N) (hm : m < N) : (¬ i < (0 : Int32) ∧ i < n) ∧ i.toNatClampNeg = m := by
  refine ⟨⟨?_, ?_⟩, ?_⟩
  · rw [own_lt0, hi]; omega
  · rw [Int32.lt_iff_toInt_lt, hi, hn]; omega
  · unfold Int32.toNatClampNeg; rw [hi]; omega
theorem own_up (i : Int32) (m : Nat) (hi : i.toInt = m) (hm : m < 2000000000) : (i + (1 : Int32)).toInt = ((m + 1 : Nat) : Int) := by
  rw [Jvm.Free.XT.add32 (by unfold Jvm.Free.XT.fits32; rw [hi, show (1 : Int32).toInt = 1 from rfl]; omega), hi, show (1 : Int32).toInt = 1 from rfl]; omega
theorem own_cod (n : Int32) : nar .byte ((((n - n).toUInt32 >>> ((31 : Int32) &&& 31).toUInt32).toInt32).toInt8.toInt32) = (0 : Int32) := by
  rw [Int32.sub_self]; decide
theorem own_shr0 (n : Int32) : (n >>> ((0 : Int32) &&& 31)) = n := by
  apply Int32.toInt_inj.mp
  rw [c_ishr n 0 0 (by decide)]; simp
theorem own_leq_step (F G : Nat → Int32) (n m : Nat) (hm : m < n) (h : ¬ F m = G m) : own_leq n F G = false := by
  rw [own_leq, List.all_eq_false]
  exact ⟨m, List.mem_range.mpr hm, by simpa using h⟩
theorem own_leq_all (F G : Nat → Int32) (n : Nat) (h : ∀ j, j < n → F j = G j) : own_leq n F G = true := by
  rw [own_leq, List.all_eq_true]
  intro j hj; simpa using h j (List.mem_range.mp hj)
theorem d5_3 : decode jdk_52_method_21_code 3 = .ok (.iload 5, 2) := by decide +kernel
theorem d5_5 : decode jdk_52_method_21_code 5 = .ok (.iload 4, 2) := by decide +kernel
theorem d5_7 : decode jdk_52_method_21_code 7 = .ok (.if_icmp .ge 37, 3) := by decide +kernel
theorem d5_44 : decode jdk_52_method_21_code 44 = .ok (.iload 4, 2) := by decide +kernel
theorem d5_46 : decode jdk_52_method_21_code 46 = .ok (.ireturn, 1) := by decide +kernel
theorem os_Cz {z0 z1 z2 z3 z4 z5 : Value} {sl : Slot} {v : Int32} (h : One sl) : storeLocals #[.val z0, .val z1, .val z2, .val z3, .val z4, .val z5, sl] 6 (.int v) = some #[.val z0, .val z1, .val z2, .val z3, .val z4, .val z5, .val (.int v)] := by
  rcases h with rfl | ⟨w, rfl, hw⟩
  · rfl
  · cases w <;> first | rfl | (simp [Value.category] at hw)
theorem d5_10 : decode jdk_52_method_21_code 10 = .ok (.aload_n 0, 1) := by decide +kernel
theorem d5_11 : decode jdk_52_method_21_code 11 = .ok (.iload_n 1, 1) := by decide +kernel
theorem d5_12 : decode jdk_52_method_21_code 12 = .ok (.caload, 1) := by decide +kernel
theorem d5_13 : decode jdk_52_method_21_code 13 = .ok (.istore 6, 2) := by decide +kernel
theorem d5_15 : decode jdk_52_method_21_code 15 = .ok (.iload 6, 2) := by decide +kernel
theorem d5_17 : decode jdk_52_method_21_code 17 = .ok (.sipush 255, 3) := by decide +kernel
theorem d5_20 : decode jdk_52_method_21_code 20 = .ok (.if_icmp .le 6, 3) := by decide +kernel
theorem d5_26 : decode jdk_52_method_21_code 26 = .ok (.aload_n 2, 1) := by decide +kernel
theorem d5_27 : decode jdk_52_method_21_code 27 = .ok (.iload_n 3, 1) := by decide +kernel
theorem d5_28 : decode jdk_52_method_21_code 28 = .ok (.iload 6, 2) := by decide +kernel
theorem d5_30 : decode jdk_52_method_21_code 30 = .ok (.i2b, 1) := by decide +kernel
theorem d5_31 : decode jdk_52_method_21_code 31 = .ok (.bastore, 1) := by decide +kernel
theorem d5_32 : decode jdk_52_method_21_code 32 = .ok (.iinc 1 1, 3) := by decide +kernel
theorem d5_35 : decode jdk_52_method_21_code 35 = .ok (.iinc 3 1, 3) := by decide +kernel
theorem d5_38 : decode jdk_52_method_21_code 38 = .ok (.iinc 5 1, 3) := by decide +kernel
theorem d5_41 : decode jdk_52_method_21_code 41 = .ok (.goto (-38), 3) := by decide +kernel
theorem d5_0 : decode jdk_52_method_21_code 0 = .ok (.iconst 0, 1) := by decide +kernel
theorem d5_1 : decode jdk_52_method_21_code 1 = .ok (.istore 5, 2) := by decide +kernel
theorem pn_java_lang_StringUTF16 : plainName "java/lang/StringUTF16" = true := by first | (simp [plainName, overriddenIn]; done) | decide +kernel
theorem ef_rmCz (m : MethodId) (x0 : Addr) (x1 : Int32) (x2 : Addr) (x3 : Int32) (x4 : Int32) : entryFrame m #[(.ref x0), (.int x1), (.ref x2), (.int x3), (.int x4)] 7 = mkF m 0 #[.val (.ref x0), .val (.int x1), .val (.ref x2), .val (.int x3), .val (.int x4), .unset, .unset] [] := by first | (simp [entryFrame, mkF, argsToLocals, Value.category]; done) | rfl
def QrmCz (Z : State) (a0 : Addr) (a2 : Addr) (p4 : Int32) (kc : ClassId) (kb : ClassId) (N : Nat) (F : Nat → Int32) (h0 : Heap) (n0 : Nat) (v : Option Value) (h : Heap) (L : List Loc) : Prop := v = some (.int p4) ∧ Fr n0 L ∧ Keep h0 h [a2] ∧ Arv Z h a2 kb .byte p4 (own_tab (own_by F) N) (.int (0 : Int32))
set_option maxRecDepth 65536 in
set_option maxHeartbeats 40000000 in
theorem rmCz (l : Launch) (Z : State) (aV : Array Value) (hw : ∀ d ∈ tables_1, d.before aV Z = true) (ws : List Jvm.Cond) (a0 : Addr) (a2 : Addr) (p4 : Int32) (kc : ClassId) (kb : ClassId) (N : Nat) (F : Nat → Int32) (h0 : Heap) (n0 : Nat) (O0 : Old Z n0 h0) (gi0 : n0 ≤ a2) (Vi1 : Arv Z h0 a0 kc .char p4 (own_tab F N) (.int (0 : Int32))) (Vi2 : Arv Z h0 a2 kb .byte p4 [] (.int (0 : Int32))) (hne : a0 ≠ a2) (hn : p4.toInt = N) (hN : N ≤ 16) (hF : ∀ j, j < N → ¬ (255 : Int32) < F j) :
    MetFree l (⟨"java/lang/StringUTF16", "compress", "([CI[BII)I"⟩ : MethodName) (head1 (Jvm.Cond.code (⟨"java/lang/StringUTF16", "compress", "([CI[BII)I"⟩ : MethodName) jdk_52_method_21_code 7 (some .int) :: ws) ({ frames := 0, cells := 0, slots := 0, locals := 0 } : Room)) (fun a U => a = #[(.ref a0), (.int (0 : Int32)), (.ref a2), (.int (0 : Int32)), (.int p4)] ∧ Z.Warmed39 U.vm ∧ U.heap = h0) (fun _ _ _ _ _ => True) (fun _ U o U' => ∃ v L, o = .returned v ∧ QrmCz Z a0 a2 p4 kc kb N F h0 n0 v U'.heap L ∧ FrameEnd U o U' L ({ frames := 0, cells := 0, slots := 0, locals := 0 } : Room).cells ({ frames := 0, cells := 0, slots := 0, locals := 0 } : Room).slots) := by
  refine MetFree.of_bodySF (plainFor_of_name pn_java_lang_StringUTF16) hisR ?_
  intro p e s m args below meth c s₁ Bd hml0 hP hK
  obtain ⟨rfl, hZ, hh⟩ := hP
  have hx := Bd.exec
  have hby := Bd.bytes
  have hml : c.maxLocals = 7 := hml0
  have hown : s.vm.findClass "java/lang/StringUTF16" = some m.cls := findClass_of_methodNamed Bd.named
  have hnm := (name_of_methodNamed Bd.named Bd.method).1
  have X0 : Stand p l e ({ frames := 0, cells := 0, slots := 0, locals := 0 } : Room) s m #[(.ref a0), (.int (0 : Int32)), (.ref a2), (.int (0 : Int32)), (.int p4)] below meth c s₁ [] 0 0 := Stand.of_body Bd
  have e0 : s₁.heap = h0 := by rw [← hh, Bd.state]; rfl
  have N0 := Fr.nil n0
  show Run p.tables e below (Wd s (QrmCz Z a0 a2 p4 kc kb N F h0 n0) ({ frames := 0, cells := 0, slots := 0, locals := 0 } : Room).cells ({ frames := 0, cells := 0, slots := 0, locals := 0 } : Room).slots) s₁ (entryFrame m #[(.ref a0), (.int (0 : Int32)), (.ref a2), (.int (0 : Int32)), (.int p4)] 7)
  rw [ef_rmCz m a0 ((0 : Int32)) a2 ((0 : Int32)) p4]
  have loop3 : ∀ (k m' : Nat) (T : State) (locs : List Loc) (h : Heap) (i i' i'' : Int32) (sl : Slot), m' + k = N → Stand p l e ({ frames := 0, cells := 0, slots := 0, locals := 0 } : Room) s m #[(.ref a0), (.int (0 : Int32)), (.ref a2), (.int (0 : Int32)), (.int p4)] below meth c T locs 0 0 → T.heap = h → Fr n0 locs → Old Z n0 h → Keep h0 h [a2] → Arv Z h a2 kb .byte p4 (own_tab (own_part F m') N) (.int (0 : Int32)) → Arv Z h a0 kc .char p4 (own_tab F N) (.int (0 : Int32)) → i.toInt = m' → i'.toInt = m' → i''.toInt = m' → One sl → Run p.tables e below (Wd s (QrmCz Z a0 a2 p4 kc kb N F h0 n0) ({ frames := 0, cells := 0, slots := 0, locals := 0 } : Room).cells ({ frames := 0, cells := 0, slots := 0, locals := 0 } : Room).slots) T (mkF m 3 #[.val (.ref a0), .val (.int i), .val (.ref a2), .val (.int i'), .val (.int p4), .val (.int i''), sl] []) := by
    intro k
    induction k with
    | zero =>
      intro m' T locs h i i' i'' sl hk X eh NN OO KK VV VC hi hi' hi'' hsl
      obtain rfl : m' = N := by omega
      rw [own_all] at VV
      refine run_fwd (T' := T) (g' := (mkF m 5 #[.val (.ref a0), .val (.int i), .val (.ref a2), .val (.int i'), .val (.int p4), .val (.int i''), sl] [(.int i'')])) (fun _ k => XS.iload X.here hx rfl (hb hby d5_3) rfl k) ?_
      refine run_fwd (T' := T) (g' := (mkF m 7 #[.val (.ref a0), .val (.int i), .val (.ref a2), .val (.int i'), .val (.int p4), .val (.int i''), sl] [(.int p4), (.int i'')])) (fun _ k => XS.iload X.here hx rfl (hb hby d5_5) rfl k) ?_
      have hc7_1 : ¬ (i'' < p4) := by rw [Int32.lt_iff_toInt_lt, hi'', hn]; omega
      refine run_fwd (T' := T) (g' := (mkF m 44 #[.val (.ref a0), .val (.int i), .val (.ref a2), .val (.int i'), .val (.int p4), .val (.int i''), sl] [])) (fun _ k => XS.icmpYes X.here hx rfl (pc0 := 7) (pc' := 44) rfl (hb hby d5_7) rfl (flt hc7_1).2.1 (by decide) (by decide) k) ?_
      refine run_fwd (T' := T) (g' := (mkF m 46 #[.val (.ref a0), .val (.int i), .val (.ref a2), .val (.int i'), .val (.int p4), .val (.int i''), sl] [(.int p4)])) (fun _ k => XS.iload X.here hx rfl (hb hby d5_44) rfl k) ?_
      exact run_ret X hx Bd.returns Bd.notSynchronized rfl (Or.inl ⟨rfl, by simp, _, rfl⟩) (hb hby d5_46) (by rw [eh]; exact ⟨rfl, NN, KK, VV⟩) (by decide) (by decide)
    | succ k ih =>
      intro m' T locs h i i' i'' sl hk X eh NN OO KK VV VC hi hi' hi'' hsl
      have hix := own_at i p4 m' N hi hn (by omega)
      have hix' := own_at i' p4 m' N hi' hn (by omega)
      refine run_fwd (T' := T) (g' := (mkF m 5 #[.val (.ref a0), .val (.int i), .val (.ref a2), .val (.int i'), .val (.int p4), .val (.int i''), sl] [(.int i'')])) (fun _ k => XS.iload X.here hx rfl (hb hby d5_3) rfl k) ?_
      refine run_fwd (T' := T) (g' := (mkF m 7 #[.val (.ref a0), .val (.int i), .val (.ref a2), .val (.int i'), .val (.int p4), .val (.int i''), sl] [(.int p4), (.int i'')])) (fun _ k => XS.iload X.here hx rfl (hb hby d5_5) rfl k) ?_
      have hc7_2 : i'' < p4 := by rw [Int32.lt_iff_toInt_lt, hi'', hn]; omega
      refine run_fwd (T' := T) (g' := (mkF m 10 #[.val (.ref a0), .val (.int i), .val (.ref a2), .val (.int i'), .val (.int p4), .val (.int i''), sl] [])) (fun _ k => XS.icmpNo X.here hx rfl (hb hby d5_7) rfl (tlt hc7_2).2.1 k) ?_
      refine run_fwd (T' := T) (g' := (mkF m 11 #[.val (.ref a0), .val (.int i), .val (.ref a2), .val (.int i'), .val (.int p4), .val (.int i''), sl] [(.ref a0)])) (fun _ k => XS.aloadN X.here hx rfl (hb hby d5_10) rfl rfl k) ?_
      refine run_fwd (T' := T) (g' := (mkF m 12 #[.val (.ref a0), .val (.int i), .val (.ref a2), .val (.int i'), .val (.int p4), .val (.int i''), sl] [(.int i), (.ref a0)])) (fun _ k => XS.iloadN X.here hx rfl (hb hby d5_11) rfl k) ?_
      obtain ⟨cl3, Ar3, -, S3, M3, Hh3, -⟩ := id (VC)
      have hin3 : ¬ (i < 0 ∨ cl3.slots.size ≤ (i).toNatClampNeg) := inb_of S3 hix.1
      have hat3 : cl3.slots[(i).toNatClampNeg]? = some (.int (F m')) := Hh3.at hin3 (own_get F N i m' hix.2 (by omega) _)
      refine run_fwd (T' := T) (g' := (mkF m 13 #[.val (.ref a0), .val (.int i), .val (.ref a2), .val (.int i'), .val (.int p4), .val (.int i''), sl] [(.int (F m'))])) (fun _ k => X.caload hx (j := i) (v := (.int (F m'))) (by rw [eh]; exact Ar3.1) (State.isArrayOf_alike hZ.alike Ar3.2.1) Ar3.2.2 hin3 hat3 (g := (mkF m 12 #[.val (.ref a0), .val (.int i), .val (.ref a2), .val (.int i'), .val (.int p4), .val (.int i''), sl] [(.int i), (.ref a0)])) rfl rfl (hb hby d5_12) _ k) ?_
      refine run_fwd (T' := T) (g' := (mkF m 15 #[.val (.ref a0), .val (.int i), .val (.ref a2), .val (.int i'), .val (.int p4), .val (.int i''), .val (.int (F m'))] [])) (fun _ k => XS.istore X.here hx rfl (hb hby d5_13) rfl (l' := #[.val (.ref a0), .val (.int i), .val (.ref a2), .val (.int i'), .val (.int p4), .val (.int i''), .val (.int (F m'))]) (os_Cz hsl) k) ?_
      refine run_fwd (T' := T) (g' := (mkF m 17 #[.val (.ref a0), .val (.int i), .val (.ref a2), .val (.int i'), .val (.int p4), .val (.int i''), .val (.int (F m'))] [(.int (F m'))])) (fun _ k => XS.iload X.here hx rfl (hb hby d5_15) rfl k) ?_
      refine run_fwd (T' := T) (g' := (mkF m 20 #[.val (.ref a0), .val (.int i), .val (.ref a2), .val (.int i'), .val (.int p4), .val (.int i''), .val (.int (F m'))] [(.int (255 : Int32)), (.int (F m'))])) (fun _ k => XS.sipush X.here hx rfl (hb hby d5_17) k) ?_
      have hc20_4 : ¬ ((255 : Int32) < (F m')) := hF m' (by omega)
      refine run_fwd (T' := T) (g' := (mkF m 26 #[.val (.ref a0), .val (.int i), .val (.ref a2), .val (.int i'), .val (.int p4), .val (.int i''), .val (.int (F m'))] [])) (fun _ k => XS.icmpYes X.here hx rfl (pc0 := 20) (pc' := 26) rfl (hb hby d5_20) rfl (flt hc20_4).2.2.2 (by decide) (by decide) k) ?_
      refine run_fwd (T' := T) (g' := (mkF m 27 #[.val (.ref a0), .val (.int i), .val (.ref a2), .val (.int i'), .val (.int p4), .val (.int i''), .val (.int (F m'))] [(.ref a2)])) (fun _ k => XS.aloadN X.here hx rfl (hb hby d5_26) rfl rfl k) ?_
      refine run_fwd (T' := T) (g' := (mkF m 28 #[.val (.ref a0), .val (.int i), .val (.ref a2), .val (.int i'), .val (.int p4), .val (.int i''), .val (.int (F m'))] [(.int i'), (.ref a2)])) (fun _ k => XS.iloadN X.here hx rfl (hb hby d5_27) rfl k) ?_
      refine run_fwd (T' := T) (g' := (mkF m 30 #[.val (.ref a0), .val (.int i), .val (.ref a2), .val (.int i'), .val (.int p4), .val (.int i''), .val (.int (F m'))] [(.int (F m')), (.int i'), (.ref a2)])) (fun _ k => XS.iload X.here hx rfl (hb hby d5_28) rfl k) ?_
      refine run_fwd (T' := T) (g' := (mkF m 31 #[.val (.ref a0), .val (.int i), .val (.ref a2), .val (.int i'), .val (.int p4), .val (.int i''), .val (.int (F m'))] [(.int ((F m').toInt8.toInt32)), (.int i'), (.ref a2)])) (fun _ k => XS.i2b X.here hx rfl (hb hby d5_30) rfl k) ?_
      obtain ⟨cl5, Ar5, qq5, S5, M5, Hh5, G5⟩ := id (VV)
      have hin5 : ¬ (i' < 0 ∨ cl5.slots.size ≤ (i').toNatClampNeg) := inb_of S5 hix'.1
      obtain ⟨T5, h5, X5, e5, W5, st5⟩ := stB X hx hZ eh Ar5 (j := i') hin5 (g := (mkF m 31 #[.val (.ref a0), .val (.int i), .val (.ref a2), .val (.int i'), .val (.int p4), .val (.int i''), .val (.int (F m'))] [(.int ((F m').toInt8.toInt32)), (.int i'), (.ref a2)])) rfl rfl (hb hby d5_31)
      have O6 : Old Z n0 h5 := OO.wr W5 gi0
      have K7 : Keep h0 h5 [a2] := KK.wr W5 (Or.inl (List.mem_of_getElem? (i := 0) rfl))
      have N5 := Fr.snoc X5 NN gi0
      have V5 : Arv Z h5 a2 kb .byte p4 (own_tab (own_part F (m' + 1)) N) (.int (0 : Int32)) := own_turn F N m' ▸ Arv.set Ar5 qq5 S5 M5 Hh5 G5 (fits_nar_byte _) W5 _ hix'.2 (by rw [own_tab_len]; omega)
      refine run_fwd (T' := T5) (g' := (mkF m 32 #[.val (.ref a0), .val (.int i), .val (.ref a2), .val (.int i'), .val (.int p4), .val (.int i''), .val (.int (F m'))] [])) (fun _ k => st5 _ k) ?_
      refine run_fwd (T' := T5) (g' := (mkF m 35 #[.val (.ref a0), .val (.int (i + (1 : Int32))), .val (.ref a2), .val (.int i'), .val (.int p4), .val (.int i''), .val (.int (F m'))] [])) (fun _ k => XS.iinc X5.here hx rfl (hb hby d5_32) rfl (l' := #[.val (.ref a0), .val (.int (i + (1 : Int32))), .val (.ref a2), .val (.int i'), .val (.int p4), .val (.int i''), .val (.int (F m'))]) rfl k) ?_
      refine run_fwd (T' := T5) (g' := (mkF m 38 #[.val (.ref a0), .val (.int (i + (1 : Int32))), .val (.ref a2), .val (.int (i' + (1 : Int32))), .val (.int p4), .val (.int i''), .val (.int (F m'))] [])) (fun _ k => XS.iinc X5.here hx rfl (hb hby d5_35) rfl (l' := #[.val (.ref a0), .val (.int (i + (1 : Int32))), .val (.ref a2), .val (.int (i' + (1 : Int32))), .val (.int p4), .val (.int i''), .val (.int (F m'))]) rfl k) ?_
      refine run_fwd (T' := T5) (g' := (mkF m 41 #[.val (.ref a0), .val (.int (i + (1 : Int32))), .val (.ref a2), .val (.int (i' + (1 : Int32))), .val (.int p4), .val (.int (i'' + (1 : Int32))), .val (.int (F m'))] [])) (fun _ k => XS.iinc X5.here hx rfl (hb hby d5_38) rfl (l' := #[.val (.ref a0), .val (.int (i + (1 : Int32))), .val (.ref a2), .val (.int (i' + (1 : Int32))), .val (.int p4), .val (.int (i'' + (1 : Int32))), .val (.int (F m'))]) rfl k) ?_
      refine run_fwd (T' := T5) (g' := (mkF m 3 #[.val (.ref a0), .val (.int (i + (1 : Int32))), .val (.ref a2), .val (.int (i' + (1 : Int32))), .val (.int p4), .val (.int (i'' + (1 : Int32))), .val (.int (F m'))] [])) (fun _ k => XS.goto X5.here hx rfl (pc0 := 41) (pc' := 3) rfl (hb hby d5_41) (by decide) (by decide) k) ?_
      have f8 : Arv Z h5 a0 kc .char p4 (own_tab F N) (.int (0 : Int32)) := (VC.other W5 hne)
      exact ih (m' + 1) _ _ _ _ _ _ _ (by omega) X5 e5 N5 O6 K7 V5 f8 (own_up i m' hi (by omega)) (own_up i' m' hi' (by omega)) (own_up i'' m' hi'' (by omega)) (One.val rfl)
  refine run_fwd (T' := s₁) (g' := (mkF m 1 #[.val (.ref a0), .val (.int (0 : Int32)), .val (.ref a2), .val (.int (0 : Int32)), .val (.int p4), .unset, .unset] [(.int (0 : Int32))])) (fun _ k => XS.iconst X0.here hx rfl (hb hby d5_0) k) ?_
  refine run_fwd (T' := s₁) (g' := (mkF m 3 #[.val (.ref a0), .val (.int (0 : Int32)), .val (.ref a2), .val (.int (0 : Int32)), .val (.int p4), .val (.int (0 : Int32)), .unset] [])) (fun _ k => XS.istore X0.here hx rfl (hb hby d5_1) rfl (l' := #[.val (.ref a0), .val (.int (0 : Int32)), .val (.ref a2), .val (.int (0 : Int32)), .val (.int p4), .val (.int (0 : Int32)), .unset]) rfl k) ?_
  exact loop3 N 0 _ _ _ _ _ _ _ (by omega) X0 e0 N0 O0 (Keep.refl h0 [a2]) (Vi2.pad (own_pad F N)) Vi1 rfl rfl rfl One.u
theorem d4_0 : decode jdk_52_method_16_code 0 = .ok (.iload_n 2, 1) := by decide +kernel
theorem d4_1 : decode jdk_52_method_16_code 1 = .ok (.newarray .byte, 2) := by decide +kernel
theorem d4_3 : decode jdk_52_method_16_code 3 = .ok (.astore_n 3, 1) := by decide +kernel
theorem d4_4 : decode jdk_52_method_16_code 4 = .ok (.aload_n 0, 1) := by decide +kernel
theorem d4_5 : decode jdk_52_method_16_code 5 = .ok (.iload_n 1, 1) := by decide +kernel
theorem d4_6 : decode jdk_52_method_16_code 6 = .ok (.aload_n 3, 1) := by decide +kernel
theorem d4_7 : decode jdk_52_method_16_code 7 = .ok (.iconst 0, 1) := by decide +kernel
theorem d4_8 : decode jdk_52_method_16_code 8 = .ok (.iload_n 2, 1) := by decide +kernel
theorem d4_9 : decode jdk_52_method_16_code 9 = .ok (.invokestatic 115, 3) := by decide +kernel
theorem pd__28_5bCI_5bBII_29I : parseMethodDescriptor "([CI[BII)I" = some ⟨[(.array .char), .int, (.array .byte), .int, .int], some .int⟩ := by decide +kernel
theorem d4_12 : decode jdk_52_method_16_code 12 = .ok (.istore 4, 2) := by decide +kernel
theorem d4_14 : decode jdk_52_method_16_code 14 = .ok (.iload 4, 2) := by decide +kernel
theorem d4_16 : decode jdk_52_method_16_code 16 = .ok (.iload_n 2, 1) := by decide +kernel
theorem d4_17 : decode jdk_52_method_16_code 17 = .ok (.if_icmp .eq 40, 3) := by decide +kernel
theorem d4_57 : decode jdk_52_method_16_code 57 = .ok (.aload_n 3, 1) := by decide +kernel
theorem d4_58 : decode jdk_52_method_16_code 58 = .ok (.areturn, 1) := by decide +kernel
theorem ef_rmCy (m : MethodId) (x0 : Addr) (x1 : Int32) (x2 : Int32) : entryFrame m #[(.ref x0), (.int x1), (.int x2)] 6 = mkF m 0 #[.val (.ref x0), .val (.int x1), .val (.int x2), .unset, .unset, .unset] [] := by first | (simp [entryFrame, mkF, argsToLocals, Value.category]; done) | rfl
def QrmCy (Z : State) (a0 : Addr) (p2 : Int32) (kc : ClassId) (N : Nat) (F : Nat → Int32) (h0 : Heap) (n0 : Nat) (v : Option Value) (h : Heap) (L : List Loc) : Prop := ∃ (b : Addr) (kb : ClassId), v = some (.ref b) ∧ Fr n0 L ∧ Keep h0 h [] ∧ h0.size ≤ b ∧ Arv Z h b kb .byte p2 (own_tab (own_by F) N) (.int (0 : Int32))
set_option maxRecDepth 65536 in
set_option maxHeartbeats 40000000 in
theorem rmCy (l : Launch) (Z : State) (aV : Array Value) (hw : ∀ d ∈ tables_1, d.before aV Z = true) (ws : List Jvm.Cond) (a0 : Addr) (p2 : Int32) (kc : ClassId) (N : Nat) (F : Nat → Int32) (h0 : Heap) (n0 : Nat) (O0 : Old Z n0 h0) (Vi0 : Arv Z h0 a0 kc .char p2 (own_tab F N) (.int (0 : Int32))) (hn : p2.toInt = N) (hN : N ≤ 16) (hF : ∀ j, j < N → ¬ (255 : Int32) < F j) :
    MetFree l (⟨"java/lang/StringUTF16", "compress", "([CII)[B"⟩ : MethodName) (head1 (Jvm.Cond.code (⟨"java/lang/StringUTF16", "compress", "([CII)[B"⟩ : MethodName) jdk_52_method_16_code 6 (some (.array .byte)) :: ws) ({ frames := 1, cells := 1, slots := 16, locals := 18 } : Room)) (fun a U => a = #[(.ref a0), (.int (0 : Int32)), (.int p2)] ∧ Z.Warmed39 U.vm ∧ U.heap = h0) (fun _ _ _ _ _ => True) (fun _ U o U' => ∃ v L, o = .returned v ∧ QrmCy Z a0 p2 kc N F h0 n0 v U'.heap L ∧ FrameEnd U o U' L ({ frames := 1, cells := 1, slots := 16, locals := 18 } : Room).cells ({ frames := 1, cells := 1, slots := 16, locals := 18 } : Room).slots) := by
  refine MetFree.of_bodySF (plainFor_of_name pn_java_lang_StringUTF16) hisR ?_
  intro p e s m args below meth c s₁ Bd hml0 hP hK
  obtain ⟨rfl, hZ, hh⟩ := hP
  have hx := Bd.exec
  have hby := Bd.bytes
  have hml : c.maxLocals = 6 := hml0
  have hown : s.vm.findClass "java/lang/StringUTF16" = some m.cls := findClass_of_methodNamed Bd.named
  have hnm := (name_of_methodNamed Bd.named Bd.method).1
  have X0 : Stand p l e ({ frames := 1, cells := 1, slots := 16, locals := 18 } : Room) s m #[(.ref a0), (.int (0 : Int32)), (.int p2)] below meth c s₁ [] 0 0 := Stand.of_body Bd
  have e0 : s₁.heap = h0 := by rw [← hh, Bd.state]; rfl
  have N0 := Fr.nil n0
  show Run p.tables e below (Wd s (QrmCy Z a0 p2 kc N F h0 n0) ({ frames := 1, cells := 1, slots := 16, locals := 18 } : Room).cells ({ frames := 1, cells := 1, slots := 16, locals := 18 } : Room).slots) s₁ (entryFrame m #[(.ref a0), (.int (0 : Int32)), (.int p2)] 6)
  rw [ef_rmCy m a0 ((0 : Int32)) p2]
  refine run_fwd (T' := s₁) (g' := (mkF m 1 #[.val (.ref a0), .val (.int (0 : Int32)), .val (.int p2), .unset, .unset, .unset] [(.int p2)])) (fun _ k => XS.iloadN X0.here hx rfl (hb hby d4_0) rfl k) ?_
  obtain ⟨T1, h1, k1, X1, e1, E1, A1, st1⟩ := newP X0 hx hZ (hw _ (List.mem_of_getElem? (i := 19) rfl)) e0 (g := (mkF m 1 #[.val (.ref a0), .val (.int (0 : Int32)), .val (.int p2), .unset, .unset, .unset] [(.int p2)])) rfl (hb hby d4_1) rfl (by rw [own_lt0, hn]; omega) (cap := 16) (by unfold Int32.toNatClampNeg; rw [hn]; omega) (by decide) (by decide) (by decide)
  obtain ⟨b1, g1⟩ : ∃ z, z = h0.size := ⟨_, rfl⟩
  rw [← g1] at A1 st1
  have gg1 : n0 ≤ b1 := Nat.le_trans (own_le O0) (Nat.le_of_eq g1.symm)
  have sz1 : h0.size ≤ b1 := Nat.le_trans (Keep.refl h0 []).1 (Nat.le_of_eq g1.symm)
  have O2 : Old Z n0 h1 := O0.ext E1
  have K3 : Keep h0 h1 [] := (Keep.refl h0 []).ext E1
  have V1 : Arv Z h1 b1 k1 .byte p2 [] (.int (0 : Int32)) := Arv.new A1 (by rw [own_lt0, hn]; omega)
  refine run_fwd (T' := T1) (g' := (mkF m 3 #[.val (.ref a0), .val (.int (0 : Int32)), .val (.int p2), .unset, .unset, .unset] [(.ref b1)])) (fun _ k => st1 _ k) ?_
  refine run_fwd (T' := T1) (g' := (mkF m 4 #[.val (.ref a0), .val (.int (0 : Int32)), .val (.int p2), .val (.ref b1), .unset, .unset] [])) (fun _ k => XS.astoreN X1.here hx rfl (hb hby d4_3) rfl rfl (l' := #[.val (.ref a0), .val (.int (0 : Int32)), .val (.int p2), .val (.ref b1), .unset, .unset]) rfl k) ?_
  refine run_fwd (T' := T1) (g' := (mkF m 5 #[.val (.ref a0), .val (.int (0 : Int32)), .val (.int p2), .val (.ref b1), .unset, .unset] [(.ref a0)])) (fun _ k => XS.aloadN X1.here hx rfl (hb hby d4_4) rfl rfl k) ?_
  refine run_fwd (T' := T1) (g' := (mkF m 6 #[.val (.ref a0), .val (.int (0 : Int32)), .val (.int p2), .val (.ref b1), .unset, .unset] [(.int (0 : Int32)), (.ref a0)])) (fun _ k => XS.iloadN X1.here hx rfl (hb hby d4_5) rfl k) ?_
  refine run_fwd (T' := T1) (g' := (mkF m 7 #[.val (.ref a0), .val (.int (0 : Int32)), .val (.int p2), .val (.ref b1), .unset, .unset] [(.ref b1), (.int (0 : Int32)), (.ref a0)])) (fun _ k => XS.aloadN X1.here hx rfl (hb hby d4_6) rfl rfl k) ?_
  refine run_fwd (T' := T1) (g' := (mkF m 8 #[.val (.ref a0), .val (.int (0 : Int32)), .val (.int p2), .val (.ref b1), .unset, .unset] [(.int (0 : Int32)), (.ref b1), (.int (0 : Int32)), (.ref a0)])) (fun _ k => XS.iconst X1.here hx rfl (hb hby d4_7) k) ?_
  refine run_fwd (T' := T1) (g' := (mkF m 9 #[.val (.ref a0), .val (.int (0 : Int32)), .val (.int p2), .val (.ref b1), .unset, .unset] [(.int p2), (.int (0 : Int32)), (.ref b1), (.int (0 : Int32)), (.ref a0)])) (fun _ k => XS.iloadN X1.here hx rfl (hb hby d4_8) rfl k) ?_
  have f5 : Arv Z h1 a0 kc .char p2 (own_tab F N) (.int (0 : Int32)) := (Vi0.ext E1)
  obtain ⟨T4, v4, L4, X4, hQ4, st4⟩ := own_gotS X1 (Jvm.LawKit.callS X1 hx (y := (⟨"java/lang/StringUTF16", "compress", "([CI[BII)I"⟩ : MethodName)) hown (mvT hZ (hw _ (List.mem_of_getElem? (i := 20) rfl))) (mvT hZ (hw _ (List.mem_of_getElem? (i := 21) rfl))) (mvT hZ (hw _ (List.mem_of_getElem? (i := 17) rfl))) (mvT hZ (hw _ (List.mem_of_getElem? (i := 22) rfl))) (by decide) (backOf (W := 0) (rmCz l Z aV hw [] a0 b1 p2 kc k1 N F h1 n0 O2 gg1 f5 V1 ((Nat.ne_of_lt (Nat.lt_of_lt_of_le Vi0.lt (Nat.le_of_eq g1.symm)))) (hn) (hN) (hF)) hZ (hw _ (List.mem_of_getElem? (i := 22) rfl)) (hw _ (List.mem_of_getElem? (i := 17) rfl)) (by decide) (by decide)) (g := (mkF m 9 #[.val (.ref a0), .val (.int (0 : Int32)), .val (.int p2), .val (.ref b1), .unset, .unset] [(.int p2), (.int (0 : Int32)), (.ref b1), (.int (0 : Int32)), (.ref a0)])) rfl (by rw [hml]; rfl) (argsL := [(.ref a0), (.int (0 : Int32)), (.ref b1), (.int (0 : Int32)), (.int p2)]) (rest := []) (lenOf pd__28_5bCI_5bBII_29I rfl) rfl (by show 2 * 0 + _ ≤ _; exact Nat.le_of_eq rfl) (hb hby d4_9) (fun _ _ => ⟨rfl, e1, (by decide : 1 + 0 ≤ _), (by decide : 16 + 0 ≤ _)⟩))
  obtain ⟨rfl, N4q, Q4_0, Q4_1⟩ := hQ4
  have N4 := Fr.app N0 N4q
  obtain ⟨h4, e4⟩ : ∃ z, T4.heap = z := ⟨_, rfl⟩
  rw [e4] at Q4_0 Q4_1
  have O6 : Old Z n0 h4 := O2.keep Q4_0 (allS gg1 all0)
  have K7 : Keep h0 h4 [] := K3.trans Q4_0 (allS (Or.inr sz1) all0)
  refine run_fwd (T' := T4) (g' := (mkF m 12 #[.val (.ref a0), .val (.int (0 : Int32)), .val (.int p2), .val (.ref b1), .unset, .unset] [(.int p2)])) (fun _ k => st4 _ k) ?_
  refine run_fwd (T' := T4) (g' := (mkF m 14 #[.val (.ref a0), .val (.int (0 : Int32)), .val (.int p2), .val (.ref b1), .val (.int p2), .unset] [])) (fun _ k => XS.istore X4.here hx rfl (hb hby d4_12) rfl (l' := #[.val (.ref a0), .val (.int (0 : Int32)), .val (.int p2), .val (.ref b1), .val (.int p2), .unset]) rfl k) ?_
  refine run_fwd (T' := T4) (g' := (mkF m 16 #[.val (.ref a0), .val (.int (0 : Int32)), .val (.int p2), .val (.ref b1), .val (.int p2), .unset] [(.int p2)])) (fun _ k => XS.iload X4.here hx rfl (hb hby d4_14) rfl k) ?_
  refine run_fwd (T' := T4) (g' := (mkF m 17 #[.val (.ref a0), .val (.int (0 : Int32)), .val (.int p2), .val (.ref b1), .val (.int p2), .unset] [(.int p2), (.int p2)])) (fun _ k => XS.iloadN X4.here hx rfl (hb hby d4_16) rfl k) ?_
  have hc17_8 : p2 = p2 := rfl
  refine run_fwd (T' := T4) (g' := (mkF m 57 #[.val (.ref a0), .val (.int (0 : Int32)), .val (.int p2), .val (.ref b1), .val (.int p2), .unset] [])) (fun _ k => XS.icmpYes X4.here hx rfl (pc0 := 17) (pc' := 57) rfl (hb hby d4_17) rfl (teq hc17_8).1 (by decide) (by decide) k) ?_
  refine run_fwd (T' := T4) (g' := (mkF m 58 #[.val (.ref a0), .val (.int (0 : Int32)), .val (.int p2), .val (.ref b1), .val (.int p2), .unset] [(.ref b1)])) (fun _ k => XS.aloadN X4.here hx rfl (hb hby d4_57) rfl rfl k) ?_
  exact run_ret X4 hx Bd.returns Bd.notSynchronized rfl (Or.inr (Or.inr (Or.inr (Or.inr ⟨rfl, rfl, rfl⟩)))) (hb hby d4_58) (by rw [e4]; exact ⟨b1, k1, rfl, N4, K7, sz1, Q4_1⟩) (by decide) (by decide)
theorem d6_0 : decode jdk_52_method_15_code 0 = .ok (.iload_n 1, 1) := by decide +kernel
theorem d6_1 : decode jdk_52_method_15_code 1 = .ok (.aload_n 0, 1) := by decide +kernel
theorem d6_2 : decode jdk_52_method_15_code 2 = .ok (.arraylength, 1) := by decide +kernel
theorem d6_3 : decode jdk_52_method_15_code 3 = .ok (.isub, 1) := by decide +kernel
theorem d6_4 : decode jdk_52_method_15_code 4 = .ok (.bipush 31, 2) := by decide +kernel
theorem d6_6 : decode jdk_52_method_15_code 6 = .ok (.iushr, 1) := by decide +kernel
theorem d6_7 : decode jdk_52_method_15_code 7 = .ok (.i2b, 1) := by decide +kernel
theorem d6_8 : decode jdk_52_method_15_code 8 = .ok (.ireturn, 1) := by decide +kernel
theorem ef_rmCl (m : MethodId) (x0 : Addr) (x1 : Int32) : entryFrame m #[(.ref x0), (.int x1)] 2 = mkF m 0 #[.val (.ref x0), .val (.int x1)] [] := by first | (simp [entryFrame, mkF, argsToLocals, Value.category]; done) | rfl
def QrmCl (Z : State) (a0 : Addr) (p1 : Int32) (kb : ClassId) (vs : List Value) (h0 : Heap) (n0 : Nat) (v : Option Value) (h : Heap) (L : List Loc) : Prop := v = some (.int (0 : Int32)) ∧ Fr n0 L ∧ h = h0
set_option maxRecDepth 65536 in
set_option maxHeartbeats 40000000 in
theorem rmCl (l : Launch) (Z : State) (aV : Array Value) (hw : ∀ d ∈ tables_1, d.before aV Z = true) (ws : List Jvm.Cond) (a0 : Addr) (p1 : Int32) (kb : ClassId) (vs : List Value) (h0 : Heap) (n0 : Nat) (O0 : Old Z n0 h0) (Vi0 : Arv Z h0 a0 kb .byte p1 vs (.int (0 : Int32))) :
    MetFree l (⟨"java/lang/StringUTF16", "coderFromArrayLen", "([BI)B"⟩ : MethodName) (head1 (Jvm.Cond.code (⟨"java/lang/StringUTF16", "coderFromArrayLen", "([BI)B"⟩ : MethodName) jdk_52_method_15_code 2 (some .byte) :: ws) ({ frames := 0, cells := 0, slots := 0, locals := 0 } : Room)) (fun a U => a = #[(.ref a0), (.int p1)] ∧ Z.Warmed39 U.vm ∧ U.heap = h0) (fun _ _ _ _ _ => True) (fun _ U o U' => ∃ v L, o = .returned v ∧ QrmCl Z a0 p1 kb vs h0 n0 v U'.heap L ∧ FrameEnd U o U' L ({ frames := 0, cells := 0, slots := 0, locals := 0 } : Room).cells ({ frames := 0, cells := 0, slots := 0, locals := 0 } : Room).slots) := by
  refine MetFree.of_bodySF (plainFor_of_name pn_java_lang_StringUTF16) hisR ?_
  intro p e s m args below meth c s₁ Bd hml0 hP hK
  obtain ⟨rfl, hZ, hh⟩ := hP
  have hx := Bd.exec
  have hby := Bd.bytes
  have hml : c.maxLocals = 2 := hml0
  have hown : s.vm.findClass "java/lang/StringUTF16" = some m.cls := findClass_of_methodNamed Bd.named
  have hnm := (name_of_methodNamed Bd.named Bd.method).1
  have X0 : Stand p l e ({ frames := 0, cells := 0, slots := 0, locals := 0 } : Room) s m #[(.ref a0), (.int p1)] below meth c s₁ [] 0 0 := Stand.of_body Bd
  have e0 : s₁.heap = h0 := by rw [← hh, Bd.state]; rfl
  have N0 := Fr.nil n0
  show Run p.tables e below (Wd s (QrmCl Z a0 p1 kb vs h0 n0) ({ frames := 0, cells := 0, slots := 0, locals := 0 } : Room).cells ({ frames := 0, cells := 0, slots := 0, locals := 0 } : Room).slots) s₁ (entryFrame m #[(.ref a0), (.int p1)] 2)
  rw [ef_rmCl m a0 p1]
  refine run_fwd (T' := s₁) (g' := (mkF m 1 #[.val (.ref a0), .val (.int p1)] [(.int p1)])) (fun _ k => XS.iloadN X0.here hx rfl (hb hby d6_0) rfl k) ?_
  refine run_fwd (T' := s₁) (g' := (mkF m 2 #[.val (.ref a0), .val (.int p1)] [(.ref a0), (.int p1)])) (fun _ k => XS.aloadN X0.here hx rfl (hb hby d6_1) rfl rfl k) ?_
  obtain ⟨cl1, Ar1, -, S1, M1, -, -⟩ := id (Vi0)
  refine run_fwd (T' := s₁) (g' := (mkF m 3 #[.val (.ref a0), .val (.int p1)] [(.int p1), (.int p1)])) (fun _ k => X0.arraylength hx (by rw [e0]; exact Ar1.1) (State.isArrayOf_alike hZ.alike Ar1.2.1) (g := (mkF m 2 #[.val (.ref a0), .val (.int p1)] [(.ref a0), (.int p1)])) rfl rfl (hb hby d6_2) _ (by rw [len_of S1 M1]; exact k)) ?_
  refine run_fwd (T' := s₁) (g' := (mkF m 4 #[.val (.ref a0), .val (.int p1)] [(.int (p1 - p1))])) (fun _ k => XS.isub X0.here hx rfl (hb hby d6_3) rfl k) ?_
  refine run_fwd (T' := s₁) (g' := (mkF m 6 #[.val (.ref a0), .val (.int p1)] [(.int (31 : Int32)), (.int (p1 - p1))])) (fun _ k => XS.bipush X0.here hx rfl (hb hby d6_4) k) ?_
  refine run_fwd (T' := s₁) (g' := (mkF m 7 #[.val (.ref a0), .val (.int p1)] [(.int (((p1 - p1).toUInt32 >>> ((31 : Int32) &&& 31).toUInt32).toInt32))])) (fun _ k => XS.iushr X0.here hx rfl (hb hby d6_6) rfl k) ?_
  refine run_fwd (T' := s₁) (g' := (mkF m 8 #[.val (.ref a0), .val (.int p1)] [(.int ((((p1 - p1).toUInt32 >>> ((31 : Int32) &&& 31).toUInt32).toInt32).toInt8.toInt32))])) (fun _ k => XS.i2b X0.here hx rfl (hb hby d6_7) rfl k) ?_
  exact run_retN X0 hx (t := .byte) Bd.returns Bd.notSynchronized (by simp) (hb hby d6_8) (by rw [e0]; exact ⟨by rw [own_cod], N0, rfl⟩) (by decide) (by decide)
theorem d2_0 : decode jdk_42_method_149_code 0 = .ok (.aload_n 0, 1) := by decide +kernel
theorem d2_1 : decode jdk_42_method_149_code 1 = .ok (.invokespecial 1, 3) := by decide +kernel
theorem d2_4 : decode jdk_42_method_149_code 4 = .ok (.iload_n 3, 1) := by decide +kernel
theorem d2_5 : decode jdk_42_method_149_code 5 = .ok (.ifCond .ne 22, 3) := by decide +kernel
theorem d2_27 : decode jdk_42_method_149_code 27 = .ok (.getstatic 38, 3) := by decide +kernel
theorem d2_30 : decode jdk_42_method_149_code 30 = .ok (.ifCond .eq 28, 3) := by decide +kernel
theorem d2_33 : decode jdk_42_method_149_code 33 = .ok (.aload_n 1, 1) := by decide +kernel
theorem d2_34 : decode jdk_42_method_149_code 34 = .ok (.iload_n 2, 1) := by decide +kernel
theorem d2_35 : decode jdk_42_method_149_code 35 = .ok (.iload_n 3, 1) := by decide +kernel
theorem d2_36 : decode jdk_42_method_149_code 36 = .ok (.invokestatic 177, 3) := by decide +kernel
theorem pd__28_5bCII_29_5bB : parseMethodDescriptor "([CII)[B" = some ⟨[(.array .char), .int, .int], some (.array .byte)⟩ := by decide +kernel
theorem d2_39 : decode jdk_42_method_149_code 39 = .ok (.astore 5, 2) := by decide +kernel
theorem d2_41 : decode jdk_42_method_149_code 41 = .ok (.aload_n 0, 1) := by decide +kernel
theorem d2_42 : decode jdk_42_method_149_code 42 = .ok (.aload 5, 2) := by decide +kernel
theorem d2_44 : decode jdk_42_method_149_code 44 = .ok (.iload_n 3, 1) := by decide +kernel
theorem d2_45 : decode jdk_42_method_149_code 45 = .ok (.invokestatic 47, 3) := by decide +kernel
theorem pd__28_5bBI_29B : parseMethodDescriptor "([BI)B" = some ⟨[(.array .byte), .int], some .byte⟩ := by decide +kernel
theorem d2_48 : decode jdk_42_method_149_code 48 = .ok (.putfield 15, 3) := by decide +kernel
theorem d2_51 : decode jdk_42_method_149_code 51 = .ok (.aload_n 0, 1) := by decide +kernel
theorem d2_52 : decode jdk_42_method_149_code 52 = .ok (.aload 5, 2) := by decide +kernel
theorem d2_54 : decode jdk_42_method_149_code 54 = .ok (.putfield 9, 3) := by decide +kernel
theorem d2_57 : decode jdk_42_method_149_code 57 = .ok (.return_, 1) := by decide +kernel
theorem pn_java_lang_String : plainName "java/lang/String" = true := by first | (simp [plainName, overriddenIn]; done) | decide +kernel
theorem ef_rmCx (m : MethodId) (x0 : Addr) (x1 : Addr) (x2 : Int32) (x3 : Int32) : entryFrame m #[(.ref x0), (.ref x1), (.int x2), (.int x3), .null] 6 = mkF m 0 #[.val (.ref x0), .val (.ref x1), .val (.int x2), .val (.int x3), .val .null, .unset] [] := by first | (simp [entryFrame, mkF, argsToLocals, Value.category]; done) | rfl
def QrmCx (Z : State) (a0 : Addr) (a1 : Addr) (p3 : Int32) (kc : ClassId) (N : Nat) (F : Nat → Int32) (cs : Int32) (h0 : Heap) (n0 : Nat) (v : Option Value) (h : Heap) (L : List Loc) : Prop := ∃ (t : Addr) (kt : ClassId), v = none ∧ Fr n0 L ∧ Keep h0 h [a0] ∧ Exa Z h a0 "java/lang/String" ∧ Fld Z h a0 "java/lang/String" "coder" "B" (.int (0 : Int32)) ∧ Fld Z h a0 "java/lang/String" "value" "[B" (.ref t) ∧ Arv Z h t kt .byte p3 (own_tab (own_by F) N) (.int (0 : Int32)) ∧ h0.size ≤ t
set_option maxRecDepth 65536 in
set_option maxHeartbeats 40000000 in
theorem rmCx (l : Launch) (Z : State) (aV : Array Value) (hw : ∀ d ∈ tables_1, d.before aV Z = true) (ws : List Jvm.Cond) (a0 : Addr) (a1 : Addr) (p3 : Int32) (kc : ClassId) (N : Nat) (F : Nat → Int32) (cs : Int32) (h0 : Heap) (n0 : Nat) (O0 : Old Z n0 h0) (gi0 : n0 ≤ a0) (Ei1 : Exa Z h0 a0 "java/lang/String") (Fi2 : Fld Z h0 a0 "java/lang/String" "value" "[B" .null) (Fi3 : Fld Z h0 a0 "java/lang/String" "coder" "B" (.int (0 : Int32))) (Vi4 : Arv Z h0 a1 kc .char p3 (own_tab F N) (.int (0 : Int32))) (Si5 : Sta Z Z.heap "java/lang/String" "COMPACT_STRINGS" "Z" (.int cs)) (hcs : ¬ cs = (0 : Int32)) (hne : a1 ≠ a0) (hn : p3.toInt = N) (hN : 1 ≤ N ∧ N ≤ 16) (hF : ∀ j, j < N → ¬ (255 : Int32) < F j) :
    MetFree l (⟨"java/lang/String", "<init>", "([CIILjava/lang/Void;)V"⟩ : MethodName) (head1 (Jvm.Cond.code (⟨"java/lang/String", "<init>", "([CIILjava/lang/Void;)V"⟩ : MethodName) jdk_42_method_149_code 6 none :: ws) ({ frames := 2, cells := 1, slots := 16, locals := 35 } : Room)) (fun a U => a = #[(.ref a0), (.ref a1), (.int (0 : Int32)), (.int p3), .null] ∧ Z.Warmed39 U.vm ∧ U.heap = h0) (fun _ _ _ _ _ => True) (fun _ U o U' => ∃ v L, o = .returned v ∧ QrmCx Z a0 a1 p3 kc N F cs h0 n0 v U'.heap L ∧ FrameEnd U o U' L ({ frames := 2, cells := 1, slots := 16, locals := 35 } : Room).cells ({ frames := 2, cells := 1, slots := 16, locals := 35 } : Room).slots) := by
  refine MetFree.of_bodySF (plainFor_of_name pn_java_lang_String) hisR ?_
  intro p e s m args below meth c s₁ Bd hml0 hP hK
  obtain ⟨rfl, hZ, hh⟩ := hP
  have hx := Bd.exec
  have hby := Bd.bytes
  have hml : c.maxLocals = 6 := hml0
  have hown : s.vm.findClass "java/lang/String" = some m.cls := findClass_of_methodNamed Bd.named
  have hnm := (name_of_methodNamed Bd.named Bd.method).1
  have X0 : Stand p l e ({ frames := 2, cells := 1, slots := 16, locals := 35 } : Room) s m #[(.ref a0), (.ref a1), (.int (0 : Int32)), (.int p3), .null] below meth c s₁ [] 0 0 := Stand.of_body Bd
  have e0 : s₁.heap = h0 := by rw [← hh, Bd.state]; rfl
  have N0 := Fr.nil n0
  show Run p.tables e below (Wd s (QrmCx Z a0 a1 p3 kc N F cs h0 n0) ({ frames := 2, cells := 1, slots := 16, locals := 35 } : Room).cells ({ frames := 2, cells := 1, slots := 16, locals := 35 } : Room).slots) s₁ (entryFrame m #[(.ref a0), (.ref a1), (.int (0 : Int32)), (.int p3), .null] 6)
  rw [ef_rmCx m a0 a1 ((0 : Int32)) p3]
  refine run_fwd (T' := s₁) (g' := (mkF m 1 #[.val (.ref a0), .val (.ref a1), .val (.int (0 : Int32)), .val (.int p3), .val .null, .unset] [(.ref a0)])) (fun _ k => XS.aloadN X0.here hx rfl (hb hby d2_0) rfl rfl k) ?_
  obtain ⟨T1, X1, e1, st1⟩ := initO X0 hx hZ hown (hw _ (List.mem_of_getElem? (i := 11) rfl)) (hw _ (List.mem_of_getElem? (i := 12) rfl)) (hw _ (List.mem_of_getElem? (i := 13) rfl)) e0 (g := (mkF m 1 #[.val (.ref a0), .val (.ref a1), .val (.int (0 : Int32)), .val (.int p3), .val .null, .unset] [(.ref a0)])) rfl (by rw [hml]; rfl) rfl (hb hby d2_1) (by decide) (W := 0) (by show 2 * 0 + _ ≤ _; exact Nat.le_of_eq rfl) (by decide)
  refine run_fwd (T' := T1) (g' := (mkF m 4 #[.val (.ref a0), .val (.ref a1), .val (.int (0 : Int32)), .val (.int p3), .val .null, .unset] [])) (fun _ k => st1 _ k) ?_
  refine run_fwd (T' := T1) (g' := (mkF m 5 #[.val (.ref a0), .val (.ref a1), .val (.int (0 : Int32)), .val (.int p3), .val .null, .unset] [(.int p3)])) (fun _ k => XS.iloadN X1.here hx rfl (hb hby d2_4) rfl k) ?_
  have hc5_2 : ¬ (p3 = (0 : Int32)) := by rw [← Int32.toInt_inj, hn]; show ¬ (N : Int) = 0; omega
  refine run_fwd (T' := T1) (g' := (mkF m 27 #[.val (.ref a0), .val (.ref a1), .val (.int (0 : Int32)), .val (.int p3), .val .null, .unset] [])) (fun _ k => XS.ifYes X1.here hx rfl (pc0 := 5) (pc' := 27) rfl (hb hby d2_5) rfl ((if0 _ _).trans (feq hc5_2).2) (by decide) (by decide) k) ?_
  obtain ⟨T3, X3, e3, st3⟩ := getS2 X1 hx hZ hown (host := "") (Or.inl (hw _ (List.mem_of_getElem? (i := 14) rfl))) Via.refl e1 (Si5.ext O0.2) (g := (mkF m 27 #[.val (.ref a0), .val (.ref a1), .val (.int (0 : Int32)), .val (.int p3), .val .null, .unset] [])) rfl (hb hby d2_27)
  refine run_fwd (T' := T3) (g' := (mkF m 30 #[.val (.ref a0), .val (.ref a1), .val (.int (0 : Int32)), .val (.int p3), .val .null, .unset] [(.int cs)])) (fun _ k => st3 _ k) ?_
  have hc30_4 : ¬ (cs = (0 : Int32)) := hcs
  refine run_fwd (T' := T3) (g' := (mkF m 33 #[.val (.ref a0), .val (.ref a1), .val (.int (0 : Int32)), .val (.int p3), .val .null, .unset] [])) (fun _ k => XS.ifNo X3.here hx rfl (hb hby d2_30) rfl ((if0 _ _).trans (feq hc30_4).1) k) ?_
  refine run_fwd (T' := T3) (g' := (mkF m 34 #[.val (.ref a0), .val (.ref a1), .val (.int (0 : Int32)), .val (.int p3), .val .null, .unset] [(.ref a1)])) (fun _ k => XS.aloadN X3.here hx rfl (hb hby d2_33) rfl rfl k) ?_
  refine run_fwd (T' := T3) (g' := (mkF m 35 #[.val (.ref a0), .val (.ref a1), .val (.int (0 : Int32)), .val (.int p3), .val .null, .unset] [(.int (0 : Int32)), (.ref a1)])) (fun _ k => XS.iloadN X3.here hx rfl (hb hby d2_34) rfl k) ?_
  refine run_fwd (T' := T3) (g' := (mkF m 36 #[.val (.ref a0), .val (.ref a1), .val (.int (0 : Int32)), .val (.int p3), .val .null, .unset] [(.int p3), (.int (0 : Int32)), (.ref a1)])) (fun _ k => XS.iloadN X3.here hx rfl (hb hby d2_35) rfl k) ?_
  obtain ⟨T5, v5, L5, X5, hQ5, st5⟩ := own_gotS X3 (Jvm.LawKit.callS X3 hx (y := (⟨"java/lang/StringUTF16", "compress", "([CII)[B"⟩ : MethodName)) hown (mvT hZ (hw _ (List.mem_of_getElem? (i := 15) rfl))) (mvT hZ (hw _ (List.mem_of_getElem? (i := 16) rfl))) (mvT hZ (hw _ (List.mem_of_getElem? (i := 17) rfl))) (mvT hZ (hw _ (List.mem_of_getElem? (i := 18) rfl))) (by decide) (backOf (W := 0) (rmCy l Z aV hw [] a1 p3 kc N F h0 n0 O0 Vi4 (hn) (hN.2) (hF)) hZ (hw _ (List.mem_of_getElem? (i := 18) rfl)) (hw _ (List.mem_of_getElem? (i := 17) rfl)) (by decide) (by decide)) (g := (mkF m 36 #[.val (.ref a0), .val (.ref a1), .val (.int (0 : Int32)), .val (.int p3), .val .null, .unset] [(.int p3), (.int (0 : Int32)), (.ref a1)])) rfl (by rw [hml]; rfl) (argsL := [(.ref a1), (.int (0 : Int32)), (.int p3)]) (rest := []) (lenOf pd__28_5bCII_29_5bB rfl) rfl (by show 2 * 0 + _ ≤ _; exact Nat.le_of_eq rfl) (hb hby d2_36) (fun _ _ => ⟨rfl, e3, (by decide : 0 + 1 ≤ _), (by decide : 0 + 16 ≤ _)⟩))
  obtain ⟨b_5, kb_5, rfl, N5q, Q5_0, Q5_1, Q5_2⟩ := hQ5
  have N5 := Fr.app N0 N5q
  obtain ⟨h5, e5⟩ : ∃ z, T5.heap = z := ⟨_, rfl⟩
  rw [e5] at Q5_0 Q5_2
  have O6 : Old Z n0 h5 := O0.keep Q5_0 all0
  have K7 : Keep h0 h5 [a0] := (Keep.refl h0 [a0]).trans Q5_0 all0
  have gg5_1 : n0 ≤ b_5 := Nat.le_trans (own_le O0) Q5_1
  have sz5_1 : h0.size ≤ b_5 := (Nat.le_trans (Keep.refl h0 [a0]).1 Q5_1)
  refine run_fwd (T' := T5) (g' := (mkF m 39 #[.val (.ref a0), .val (.ref a1), .val (.int (0 : Int32)), .val (.int p3), .val .null, .unset] [(.ref b_5)])) (fun _ k => st5 _ k) ?_
  refine run_fwd (T' := T5) (g' := (mkF m 41 #[.val (.ref a0), .val (.ref a1), .val (.int (0 : Int32)), .val (.int p3), .val .null, .val (.ref b_5)] [])) (fun _ k => XS.astore X5.here hx rfl (hb hby d2_39) rfl rfl (l' := #[.val (.ref a0), .val (.ref a1), .val (.int (0 : Int32)), .val (.int p3), .val .null, .val (.ref b_5)]) rfl k) ?_
  refine run_fwd (T' := T5) (g' := (mkF m 42 #[.val (.ref a0), .val (.ref a1), .val (.int (0 : Int32)), .val (.int p3), .val .null, .val (.ref b_5)] [(.ref a0)])) (fun _ k => XS.aloadN X5.here hx rfl (hb hby d2_41) rfl rfl k) ?_
  refine run_fwd (T' := T5) (g' := (mkF m 44 #[.val (.ref a0), .val (.ref a1), .val (.int (0 : Int32)), .val (.int p3), .val .null, .val (.ref b_5)] [(.ref b_5), (.ref a0)])) (fun _ k => XS.aload X5.here hx rfl (hb hby d2_42) rfl rfl k) ?_
  refine run_fwd (T' := T5) (g' := (mkF m 45 #[.val (.ref a0), .val (.ref a1), .val (.int (0 : Int32)), .val (.int p3), .val .null, .val (.ref b_5)] [(.int p3), (.ref b_5), (.ref a0)])) (fun _ k => XS.iloadN X5.here hx rfl (hb hby d2_44) rfl k) ?_
  obtain ⟨T8, v8, L8, X8, hQ8, st8⟩ := own_gotS X5 (Jvm.LawKit.callS X5 hx (y := (⟨"java/lang/StringUTF16", "coderFromArrayLen", "([BI)B"⟩ : MethodName)) hown (mvT hZ (hw _ (List.mem_of_getElem? (i := 23) rfl))) (mvT hZ (hw _ (List.mem_of_getElem? (i := 24) rfl))) (mvT hZ (hw _ (List.mem_of_getElem? (i := 17) rfl))) (mvT hZ (hw _ (List.mem_of_getElem? (i := 25) rfl))) (by decide) (backOf (W := 1) (rmCl l Z aV hw [] b_5 p3 kb_5 (own_tab (own_by F) N) h5 n0 O6 Q5_2) hZ (hw _ (List.mem_of_getElem? (i := 25) rfl)) (hw _ (List.mem_of_getElem? (i := 17) rfl)) (by decide) (by decide)) (g := (mkF m 45 #[.val (.ref a0), .val (.ref a1), .val (.int (0 : Int32)), .val (.int p3), .val .null, .val (.ref b_5)] [(.int p3), (.ref b_5), (.ref a0)])) rfl (by rw [hml]; rfl) (argsL := [(.ref b_5), (.int p3)]) (rest := [(.ref a0)]) (lenOf pd__28_5bBI_29B rfl) rfl (by show 2 * 0 + _ ≤ _; exact Nat.le_of_eq rfl) (hb hby d2_45) (fun _ _ => ⟨rfl, e5, (by decide : 1 + 0 ≤ _), (by decide : 16 + 0 ≤ _)⟩))
  obtain ⟨rfl, N8q, Q8_0⟩ := hQ8
  have N8 := Fr.app N5 N8q
  refine run_fwd (T' := T8) (g' := (mkF m 48 #[.val (.ref a0), .val (.ref a1), .val (.int (0 : Int32)), .val (.int p3), .val .null, .val (.ref b_5)] [(.int (0 : Int32)), (.ref a0)])) (fun _ k => st8 _ k) ?_
  have f9 : Exa Z h5 a0 "java/lang/String" := (Ei1.keep Q5_0)
  have f10 : Fld Z h5 a0 "java/lang/String" "coder" "B" (.int (0 : Int32)) := (Fi3.keep Q5_0 nin0)
  obtain ⟨T11, h11, X11, e11, W11, st11⟩ := putF X8 hx hZ hown (host := "") (Or.inl (hw _ (List.mem_of_getElem? (i := 26) rfl))) Via.refl Q8_0 f10 f9 (Or.inr ⟨(hw _ (List.mem_of_getElem? (i := 27) rfl)), rfl, hnm⟩) (hw _ (List.mem_of_getElem? (i := 1) rfl)) (ty := .byte) (by decide) (by decide) (by decide) (g := (mkF m 48 #[.val (.ref a0), .val (.ref a1), .val (.int (0 : Int32)), .val (.int p3), .val .null, .val (.ref b_5)] [(.int (0 : Int32)), (.ref a0)])) rfl rfl (hb hby d2_48)
  have O12 : Old Z n0 h11 := O6.wr W11 gi0
  have K13 : Keep h0 h11 [a0] := K7.wr W11 (Or.inl (List.mem_of_getElem? (i := 0) rfl))
  have N11 := Fr.snoc X11 N8 gi0
  have Fw11 : Fld Z h11 a0 "java/lang/String" "coder" "B" (.int (0 : Int32)) := f10.same W11
  refine run_fwd (T' := T11) (g' := (mkF m 51 #[.val (.ref a0), .val (.ref a1), .val (.int (0 : Int32)), .val (.int p3), .val .null, .val (.ref b_5)] [])) (fun _ k => st11 _ k) ?_
  refine run_fwd (T' := T11) (g' := (mkF m 52 #[.val (.ref a0), .val (.ref a1), .val (.int (0 : Int32)), .val (.int p3), .val .null, .val (.ref b_5)] [(.ref a0)])) (fun _ k => XS.aloadN X11.here hx rfl (hb hby d2_51) rfl rfl k) ?_
  refine run_fwd (T' := T11) (g' := (mkF m 54 #[.val (.ref a0), .val (.ref a1), .val (.int (0 : Int32)), .val (.int p3), .val .null, .val (.ref b_5)] [(.ref b_5), (.ref a0)])) (fun _ k => XS.aload X11.here hx rfl (hb hby d2_52) rfl rfl k) ?_
  have f14 : Exa Z h11 a0 "java/lang/String" := (f9.wr W11)
  have f15 : Fld Z h11 a0 "java/lang/String" "value" "[B" .null := ((Fi2.keep Q5_0 nin0).other W11 (Or.inr (slot_ne (Or.inr (hw _ (List.mem_of_getElem? (i := 29) rfl))) (Or.inr (hw _ (List.mem_of_getElem? (i := 27) rfl))) (by decide) (t := (.array .byte)) (t' := .byte) (by decide) (by decide))))
  obtain ⟨T16, h16, X16, e16, W16, st16⟩ := putF X11 hx hZ hown (host := "") (Or.inl (hw _ (List.mem_of_getElem? (i := 28) rfl))) Via.refl e11 f15 f14 (Or.inr ⟨(hw _ (List.mem_of_getElem? (i := 29) rfl)), rfl, hnm⟩) (hw _ (List.mem_of_getElem? (i := 1) rfl)) (ty := (.array .byte)) (by decide) rfl rfl (g := (mkF m 54 #[.val (.ref a0), .val (.ref a1), .val (.int (0 : Int32)), .val (.int p3), .val .null, .val (.ref b_5)] [(.ref b_5), (.ref a0)])) rfl rfl (hb hby d2_54)
  have O17 : Old Z n0 h16 := O12.wr W16 gi0
  have K18 : Keep h0 h16 [a0] := K13.wr W16 (Or.inl (List.mem_of_getElem? (i := 0) rfl))
  have N16 := Fr.snoc X16 N11 gi0
  have Fw16 : Fld Z h16 a0 "java/lang/String" "value" "[B" (.ref b_5) := f15.same W16
  refine run_fwd (T' := T16) (g' := (mkF m 57 #[.val (.ref a0), .val (.ref a1), .val (.int (0 : Int32)), .val (.int p3), .val .null, .val (.ref b_5)] [])) (fun _ k => st16 _ k) ?_
  exact run_ret0 X16 hx Bd.returns Bd.notSynchronized (hb hby d2_57) (by rw [e16]; exact ⟨b_5, kb_5, rfl, N16, K18, (f14.wr W16), (Fw11.other W16 (Or.inr (slot_ne (Or.inr (hw _ (List.mem_of_getElem? (i := 27) rfl))) (Or.inr (hw _ (List.mem_of_getElem? (i := 29) rfl))) (by decide) (t := .byte) (t' := (.array .byte)) (by decide) (by decide)))), Fw16, ((Q5_2.other W11 (Ne.symm (Nat.ne_of_lt (Nat.lt_of_lt_of_le Fi3.lt Q5_1)))).other W16 (Ne.symm (Nat.ne_of_lt (Nat.lt_of_lt_of_le Fi3.lt Q5_1)))), sz5_1⟩) (by decide) (by decide)
theorem d1_0 : decode jdk_42_method_3_code 0 = .ok (.aload_n 0, 1) := by decide +kernel
theorem d1_1 : decode jdk_42_method_3_code 1 = .ok (.aload_n 1, 1) := by decide +kernel
theorem d1_2 : decode jdk_42_method_3_code 2 = .ok (.iconst 0, 1) := by decide +kernel
theorem d1_3 : decode jdk_42_method_3_code 3 = .ok (.aload_n 1, 1) := by decide +kernel
theorem d1_4 : decode jdk_42_method_3_code 4 = .ok (.arraylength, 1) := by decide +kernel
theorem d1_5 : decode jdk_42_method_3_code 5 = .ok (.aconst_null, 1) := by decide +kernel
theorem d1_6 : decode jdk_42_method_3_code 6 = .ok (.invokespecial 27, 3) := by decide +kernel
theorem pd__28_5bCIILjava_2flang_2fVoid_3b_29V : parseMethodDescriptor "([CIILjava/lang/Void;)V" = some ⟨[(.array .char), .int, .int, (.object "java/lang/Void")], none⟩ := by decide +kernel
theorem d1_9 : decode jdk_42_method_3_code 9 = .ok (.return_, 1) := by decide +kernel
theorem ef_rmC (m : MethodId) (x0 : Addr) (x1 : Addr) : entryFrame m #[(.ref x0), (.ref x1)] 2 = mkF m 0 #[.val (.ref x0), .val (.ref x1)] [] := by first | (simp [entryFrame, mkF, argsToLocals, Value.category]; done) | rfl
def QrmC (Z : State) (a0 : Addr) (a1 : Addr) (n : Int32) (kc : ClassId) (N : Nat) (F : Nat → Int32) (cs : Int32) (h0 : Heap) (n0 : Nat) (v : Option Value) (h : Heap) (L : List Loc) : Prop := ∃ (t : Addr) (kt : ClassId), v = none ∧ Fr n0 L ∧ Keep h0 h [a0] ∧ Exa Z h a0 "java/lang/String" ∧ Fld Z h a0 "java/lang/String" "coder" "B" (.int (0 : Int32)) ∧ Fld Z h a0 "java/lang/String" "value" "[B" (.ref t) ∧ Arv Z h t kt .byte n (own_tab (own_by F) N) (.int (0 : Int32)) ∧ h0.size ≤ t
set_option maxRecDepth 65536 in
set_option maxHeartbeats 40000000 in
theorem rmC (l : Launch) (Z : State) (aV : Array Value) (hw : ∀ d ∈ tables_1, d.before aV Z = true) (ws : List Jvm.Cond) (a0 : Addr) (a1 : Addr) (n : Int32) (kc : ClassId) (N : Nat) (F : Nat → Int32) (cs : Int32) (h0 : Heap) (n0 : Nat) (O0 : Old Z n0 h0) (gi0 : n0 ≤ a0) (Ei1 : Exa Z h0 a0 "java/lang/String") (Fi2 : Fld Z h0 a0 "java/lang/String" "value" "[B" .null) (Fi3 : Fld Z h0 a0 "java/lang/String" "coder" "B" (.int (0 : Int32))) (Vi4 : Arv Z h0 a1 kc .char n (own_tab F N) (.int (0 : Int32))) (Si5 : Sta Z Z.heap "java/lang/String" "COMPACT_STRINGS" "Z" (.int cs)) (hcs : ¬ cs = (0 : Int32)) (hne : a1 ≠ a0) (hn : n.toInt = N) (hN : 1 ≤ N ∧ N ≤ 16) (hF : ∀ j, j < N → ¬ (255 : Int32) < F j) :
    MetFree l (⟨"java/lang/String", "<init>", "([C)V"⟩ : MethodName) (head1 (Jvm.Cond.code (⟨"java/lang/String", "<init>", "([C)V"⟩ : MethodName) jdk_42_method_3_code 2 none :: ws) ({ frames := 3, cells := 1, slots := 16, locals := 52 } : Room)) (fun a U => a = #[(.ref a0), (.ref a1)] ∧ Z.Warmed39 U.vm ∧ U.heap = h0) (fun _ _ _ _ _ => True) (fun _ U o U' => ∃ v L, o = .returned v ∧ QrmC Z a0 a1 n kc N F cs h0 n0 v U'.heap L ∧ FrameEnd U o U' L ({ frames := 3, cells := 1, slots := 16, locals := 52 } : Room).cells ({ frames := 3, cells := 1, slots := 16, locals := 52 } : Room).slots) := by
  refine MetFree.of_bodySF (plainFor_of_name pn_java_lang_String) hisR ?_
  intro p e s m args below meth c s₁ Bd hml0 hP hK
  obtain ⟨rfl, hZ, hh⟩ := hP
  have hx := Bd.exec
  have hby := Bd.bytes
  have hml : c.maxLocals = 2 := hml0
  have hown : s.vm.findClass "java/lang/String" = some m.cls := findClass_of_methodNamed Bd.named
  have hnm := (name_of_methodNamed Bd.named Bd.method).1
  have X0 : Stand p l e ({ frames := 3, cells := 1, slots := 16, locals := 52 } : Room) s m #[(.ref a0), (.ref a1)] below meth c s₁ [] 0 0 := Stand.of_body Bd
  have e0 : s₁.heap = h0 := by rw [← hh, Bd.state]; rfl
  have N0 := Fr.nil n0
  show Run p.tables e below (Wd s (QrmC Z a0 a1 n kc N F cs h0 n0) ({ frames := 3, cells := 1, slots := 16, locals := 52 } : Room).cells ({ frames := 3, cells := 1, slots := 16, locals := 52 } : Room).slots) s₁ (entryFrame m #[(.ref a0), (.ref a1)] 2)
  rw [ef_rmC m a0 a1]
  refine run_fwd (T' := s₁) (g' := (mkF m 1 #[.val (.ref a0), .val (.ref a1)] [(.ref a0)])) (fun _ k => XS.aloadN X0.here hx rfl (hb hby d1_0) rfl rfl k) ?_
  refine run_fwd (T' := s₁) (g' := (mkF m 2 #[.val (.ref a0), .val (.ref a1)] [(.ref a1), (.ref a0)])) (fun _ k => XS.aloadN X0.here hx rfl (hb hby d1_1) rfl rfl k) ?_
  refine run_fwd (T' := s₁) (g' := (mkF m 3 #[.val (.ref a0), .val (.ref a1)] [(.int (0 : Int32)), (.ref a1), (.ref a0)])) (fun _ k => XS.iconst X0.here hx rfl (hb hby d1_2) k) ?_
  refine run_fwd (T' := s₁) (g' := (mkF m 4 #[.val (.ref a0), .val (.ref a1)] [(.ref a1), (.int (0 : Int32)), (.ref a1), (.ref a0)])) (fun _ k => XS.aloadN X0.here hx rfl (hb hby d1_3) rfl rfl k) ?_
  obtain ⟨cl1, Ar1, -, S1, M1, -, -⟩ := id (Vi4)
  refine run_fwd (T' := s₁) (g' := (mkF m 5 #[.val (.ref a0), .val (.ref a1)] [(.int n), (.int (0 : Int32)), (.ref a1), (.ref a0)])) (fun _ k => X0.arraylength hx (by rw [e0]; exact Ar1.1) (State.isArrayOf_alike hZ.alike Ar1.2.1) (g := (mkF m 4 #[.val (.ref a0), .val (.ref a1)] [(.ref a1), (.int (0 : Int32)), (.ref a1), (.ref a0)])) rfl rfl (hb hby d1_4) _ (by rw [len_of S1 M1]; exact k)) ?_
  refine run_fwd (T' := s₁) (g' := (mkF m 6 #[.val (.ref a0), .val (.ref a1)] [.null, (.int n), (.int (0 : Int32)), (.ref a1), (.ref a0)])) (fun _ k => XS.aconstNull X0.here hx rfl (hb hby d1_5) k) ?_
  obtain ⟨T2, v2, L2, X2, hQ2, st2⟩ := own_gotV X0 (X0.specialBack hx (y := (⟨"java/lang/String", "<init>", "([CIILjava/lang/Void;)V"⟩ : MethodName)) rfl hown (mvT hZ (hw _ (List.mem_of_getElem? (i := 7) rfl))) (mvT hZ (hw _ (List.mem_of_getElem? (i := 8) rfl))) (mvT hZ (hw _ (List.mem_of_getElem? (i := 10) rfl))) (by decide) (backOf (W := 0) (rmCx l Z aV hw [] a0 a1 n kc N F cs h0 n0 O0 gi0 Ei1 Fi2 Fi3 Vi4 Si5 (hcs) (hne) (hn) (hN) (hF)) hZ (hw _ (List.mem_of_getElem? (i := 10) rfl)) (hw _ (List.mem_of_getElem? (i := 2) rfl)) (by decide) (by decide)) (g := (mkF m 6 #[.val (.ref a0), .val (.ref a1)] [.null, (.int n), (.int (0 : Int32)), (.ref a1), (.ref a0)])) rfl (by rw [hml]; rfl) (Steps.refl _) (a := a0) (argsL := [(.ref a1), (.int (0 : Int32)), (.int n), .null]) (rest := []) (lenOf pd__28_5bCIILjava_2flang_2fVoid_3b_29V rfl) rfl (by show 2 * 0 + _ ≤ _; exact Nat.le_of_eq rfl) (hb hby d1_6) (fun _ _ => ⟨rfl, e0, (by decide : 0 + 1 ≤ _), (by decide : 0 + 16 ≤ _)⟩))
  obtain ⟨t_2, kt_2, rfl, N2q, Q2_0, Q2_1, Q2_2, Q2_3, Q2_4, Q2_5⟩ := hQ2
  have N2 := Fr.app N0 N2q
  obtain ⟨h2, e2⟩ : ∃ z, T2.heap = z := ⟨_, rfl⟩
  rw [e2] at Q2_0 Q2_1 Q2_2 Q2_3 Q2_4
  have O3 : Old Z n0 h2 := O0.keep Q2_0 (allS gi0 all0)
  have K4 : Keep h0 h2 [a0] := (Keep.refl h0 [a0]).trans Q2_0 (allS (Or.inl (List.mem_of_getElem? (i := 0) rfl)) all0)
  have gg2_5 : n0 ≤ t_2 := Nat.le_trans (own_le O0) Q2_5
  have sz2_5 : h0.size ≤ t_2 := (Nat.le_trans (Keep.refl h0 [a0]).1 Q2_5)
  refine run_fwd (T' := T2) (g' := (mkF m 9 #[.val (.ref a0), .val (.ref a1)] [])) (fun _ k => st2.trans k) ?_
  exact run_ret0 X2 hx Bd.returns Bd.notSynchronized (hb hby d1_9) (by rw [e2]; exact ⟨t_2, kt_2, rfl, N2, K4, Q2_1, Q2_2, Q2_3, Q2_4, sz2_5⟩) (by decide) (by decide)
def own_eqv (n k : Nat) (F G : Nat → Int32) : Int32 := if n = k ∧ own_leq n F G = true then (1 : Int32) else (0 : Int32)
theorem own_eqv_ne (n k : Nat) (F G : Nat → Int32) (h : ¬ n = k) : own_eqv n k F G = 0 := if_neg fun q => h q.1
theorem own_eqv_no (n k : Nat) (F G : Nat → Int32) (h : own_leq n F G = false) : own_eqv n k F G = 0 := if_neg fun q => by rw [h] at q; exact absurd q.2 (by decide)
theorem own_eqv_yes (n k : Nat) (F G : Nat → Int32) (h1 : n = k) (h : own_leq n F G = true) : own_eqv n k F G = 1 := if_pos ⟨h1, h⟩
theorem own_eqv_one (n k : Nat) (F G : Nat → Int32) (h : ¬ own_eqv n k F G = 0) : own_eqv n k F G = 1 := by
  unfold own_eqv at *; split <;> simp_all
theorem own_szne {x y : Int32} {n k : Nat} (hx : x.toInt = n) (hy : y.toInt = k) : x = y ↔ n = k := by rw [← Int32.toInt_inj, hx, hy]; omega
theorem d10_0 : decode jdk_43_method_13_code 0 = .ok (.aload_n 0, 1) := by decide +kernel
theorem d10_1 : decode jdk_43_method_13_code 1 = .ok (.arraylength, 1) := by decide +kernel
theorem d10_2 : decode jdk_43_method_13_code 2 = .ok (.aload_n 1, 1) := by decide +kernel
theorem d10_3 : decode jdk_43_method_13_code 3 = .ok (.arraylength, 1) := by decide +kernel
theorem d10_4 : decode jdk_43_method_13_code 4 = .ok (.if_icmp .ne 30, 3) := by decide +kernel
theorem d10_7 : decode jdk_43_method_13_code 7 = .ok (.iconst 0, 1) := by decide +kernel
theorem d10_8 : decode jdk_43_method_13_code 8 = .ok (.istore_n 2, 1) := by decide +kernel
theorem d10_9 : decode jdk_43_method_13_code 9 = .ok (.iload_n 2, 1) := by decide +kernel
theorem d10_10 : decode jdk_43_method_13_code 10 = .ok (.aload_n 0, 1) := by decide +kernel
theorem d10_11 : decode jdk_43_method_13_code 11 = .ok (.arraylength, 1) := by decide +kernel
theorem d10_12 : decode jdk_43_method_13_code 12 = .ok (.if_icmp .ge 20, 3) := by decide +kernel
theorem d10_32 : decode jdk_43_method_13_code 32 = .ok (.iconst 1, 1) := by decide +kernel
theorem d10_33 : decode jdk_43_method_13_code 33 = .ok (.ireturn, 1) := by decide +kernel
theorem d10_15 : decode jdk_43_method_13_code 15 = .ok (.aload_n 0, 1) := by decide +kernel
theorem d10_16 : decode jdk_43_method_13_code 16 = .ok (.iload_n 2, 1) := by decide +kernel
theorem d10_17 : decode jdk_43_method_13_code 17 = .ok (.baload, 1) := by decide +kernel
theorem d10_18 : decode jdk_43_method_13_code 18 = .ok (.aload_n 1, 1) := by decide +kernel
theorem d10_19 : decode jdk_43_method_13_code 19 = .ok (.iload_n 2, 1) := by decide +kernel
theorem d10_20 : decode jdk_43_method_13_code 20 = .ok (.baload, 1) := by decide +kernel
theorem d10_21 : decode jdk_43_method_13_code 21 = .ok (.if_icmp .eq 5, 3) := by decide +kernel
theorem d10_26 : decode jdk_43_method_13_code 26 = .ok (.iinc 2 1, 3) := by decide +kernel
theorem d10_29 : decode jdk_43_method_13_code 29 = .ok (.goto (-20), 3) := by decide +kernel
theorem d10_24 : decode jdk_43_method_13_code 24 = .ok (.iconst 0, 1) := by decide +kernel
theorem d10_25 : decode jdk_43_method_13_code 25 = .ok (.ireturn, 1) := by decide +kernel
theorem d10_34 : decode jdk_43_method_13_code 34 = .ok (.iconst 0, 1) := by decide +kernel
theorem d10_35 : decode jdk_43_method_13_code 35 = .ok (.ireturn, 1) := by decide +kernel
theorem pn_java_lang_StringLatin1 : plainName "java/lang/StringLatin1" = true := by first | (simp [plainName, overriddenIn]; done) | decide +kernel
theorem ef_rmLeq (m : MethodId) (x0 : Addr) (x1 : Addr) : entryFrame m #[(.ref x0), (.ref x1)] 3 = mkF m 0 #[.val (.ref x0), .val (.ref x1), .unset] [] := by first | (simp [entryFrame, mkF, argsToLocals, Value.category]; done) | rfl
def QrmLeq (Z : State) (a0 : Addr) (a1 : Addr) (k0 : ClassId) (k1 : ClassId) (m0 : Int32) (m1 : Int32) (NA : Nat) (NB : Nat) (F : Nat → Int32) (G : Nat → Int32) (h0 : Heap) (n0 : Nat) (v : Option Value) (h : Heap) (L : List Loc) : Prop := v = some (.int (own_eqv NA NB F G)) ∧ Fr n0 L ∧ h = h0
set_option maxRecDepth 65536 in
set_option maxHeartbeats 40000000 in
theorem rmLeq (l : Launch) (Z : State) (aV : Array Value) (hw : ∀ d ∈ tables_1, d.before aV Z = true) (ws : List Jvm.Cond) (a0 : Addr) (a1 : Addr) (k0 : ClassId) (k1 : ClassId) (m0 : Int32) (m1 : Int32) (NA : Nat) (NB : Nat) (F : Nat → Int32) (G : Nat → Int32) (h0 : Heap) (n0 : Nat) (O0 : Old Z n0 h0) (Vi0 : Arv Z h0 a0 k0 .byte m0 (own_tab F NA) (.int (0 : Int32))) (Vi1 : Arv Z h0 a1 k1 .byte m1 (own_tab G NB) (.int (0 : Int32))) (hA : m0.toInt = NA) (hB : m1.toInt = NB) (hN : NA ≤ 4000) :
    MetFree l (⟨"java/lang/StringLatin1", "equals", "([B[B)Z"⟩ : MethodName) (head1 (Jvm.Cond.code (⟨"java/lang/StringLatin1", "equals", "([B[B)Z"⟩ : MethodName) jdk_43_method_13_code 3 (some .boolean) :: ws) ({ frames := 0, cells := 0, slots := 0, locals := 0 } : Room)) (fun a U => a = #[(.ref a0), (.ref a1)] ∧ Z.Warmed39 U.vm ∧ U.heap = h0) (fun _ _ _ _ _ => True) (fun _ U o U' => ∃ v L, o = .returned v ∧ QrmLeq Z a0 a1 k0 k1 m0 m1 NA NB F G h0 n0 v U'.heap L ∧ FrameEnd U o U' L ({ frames := 0, cells := 0, slots := 0, locals := 0 } : Room).cells ({ frames := 0, cells := 0, slots := 0, locals := 0 } : Room).slots) := by
  refine MetFree.of_bodySF (plainFor_of_name pn_java_lang_StringLatin1) hisR ?_
  intro p e s m args below meth c s₁ Bd hml0 hP hK
  obtain ⟨rfl, hZ, hh⟩ := hP
  have hx := Bd.exec
  have hby := Bd.bytes
  have hml : c.maxLocals = 3 := hml0
  have hown : s.vm.findClass "java/lang/StringLatin1" = some m.cls := findClass_of_methodNamed Bd.named
  have hnm := (name_of_methodNamed Bd.named Bd.method).1
  have X0 : Stand p l e ({ frames := 0, cells := 0, slots := 0, locals := 0 } : Room) s m #[(.ref a0), (.ref a1)] below meth c s₁ [] 0 0 := Stand.of_body Bd
  have e0 : s₁.heap = h0 := by rw [← hh, Bd.state]; rfl
  have N0 := Fr.nil n0
  show Run p.tables e below (Wd s (QrmLeq Z a0 a1 k0 k1 m0 m1 NA NB F G h0 n0) ({ frames := 0, cells := 0, slots := 0, locals := 0 } : Room).cells ({ frames := 0, cells := 0, slots := 0, locals := 0 } : Room).slots) s₁ (entryFrame m #[(.ref a0), (.ref a1)] 3)
  rw [ef_rmLeq m a0 a1]
  refine run_fwd (T' := s₁) (g' := (mkF m 1 #[.val (.ref a0), .val (.ref a1), .unset] [(.ref a0)])) (fun _ k => XS.aloadN X0.here hx rfl (hb hby d10_0) rfl rfl k) ?_
  obtain ⟨cl1, Ar1, -, S1, M1, -, -⟩ := id (Vi0)
  refine run_fwd (T' := s₁) (g' := (mkF m 2 #[.val (.ref a0), .val (.ref a1), .unset] [(.int m0)])) (fun _ k => X0.arraylength hx (by rw [e0]; exact Ar1.1) (State.isArrayOf_alike hZ.alike Ar1.2.1) (g := (mkF m 1 #[.val (.ref a0), .val (.ref a1), .unset] [(.ref a0)])) rfl rfl (hb hby d10_1) _ (by rw [len_of S1 M1]; exact k)) ?_
  refine run_fwd (T' := s₁) (g' := (mkF m 3 #[.val (.ref a0), .val (.ref a1), .unset] [(.ref a1), (.int m0)])) (fun _ k => XS.aloadN X0.here hx rfl (hb hby d10_2) rfl rfl k) ?_
  obtain ⟨cl2, Ar2, -, S2, M2, -, -⟩ := id (Vi1)
  refine run_fwd (T' := s₁) (g' := (mkF m 4 #[.val (.ref a0), .val (.ref a1), .unset] [(.int m1), (.int m0)])) (fun _ k => X0.arraylength hx (by rw [e0]; exact Ar2.1) (State.isArrayOf_alike hZ.alike Ar2.2.1) (g := (mkF m 3 #[.val (.ref a0), .val (.ref a1), .unset] [(.ref a1), (.int m0)])) rfl rfl (hb hby d10_3) _ (by rw [len_of S2 M2]; exact k)) ?_
  by_cases hc4_3 : m0 = m1
  ·
    refine run_fwd (T' := s₁) (g' := (mkF m 7 #[.val (.ref a0), .val (.ref a1), .unset] [])) (fun _ k => XS.icmpNo X0.here hx rfl (hb hby d10_4) rfl (teq hc4_3).2 k) ?_
    refine run_fwd (T' := s₁) (g' := (mkF m 8 #[.val (.ref a0), .val (.ref a1), .unset] [(.int (0 : Int32))])) (fun _ k => XS.iconst X0.here hx rfl (hb hby d10_7) k) ?_
    refine run_fwd (T' := s₁) (g' := (mkF m 9 #[.val (.ref a0), .val (.ref a1), .val (.int (0 : Int32))] [])) (fun _ k => XS.istoreN X0.here hx rfl (hb hby d10_8) rfl (l' := #[.val (.ref a0), .val (.ref a1), .val (.int (0 : Int32))]) rfl k) ?_
    have hNN : NA = NB := (own_szne hA hB).mp hc4_3
    have loop9 : ∀ (k m' : Nat) (i : Int32), m' + k = NA → i.toInt = m' → (∀ j, j < m' → F j = G j) → Run p.tables e below (Wd s (QrmLeq Z a0 a1 k0 k1 m0 m1 NA NB F G h0 n0) ({ frames := 0, cells := 0, slots := 0, locals := 0 } : Room).cells ({ frames := 0, cells := 0, slots := 0, locals := 0 } : Room).slots) s₁ (mkF m 9 #[.val (.ref a0), .val (.ref a1), .val (.int i)] []) := by
      intro k
      induction k with
      | zero =>
        intro m' i hk hi hall
        obtain rfl : m' = NA := by omega
        refine run_fwd (T' := s₁) (g' := (mkF m 10 #[.val (.ref a0), .val (.ref a1), .val (.int i)] [(.int i)])) (fun _ k => XS.iloadN X0.here hx rfl (hb hby d10_9) rfl k) ?_
        refine run_fwd (T' := s₁) (g' := (mkF m 11 #[.val (.ref a0), .val (.ref a1), .val (.int i)] [(.ref a0), (.int i)])) (fun _ k => XS.aloadN X0.here hx rfl (hb hby d10_10) rfl rfl k) ?_
        obtain ⟨cl4, Ar4, -, S4, M4, -, -⟩ := id (Vi0)
        refine run_fwd (T' := s₁) (g' := (mkF m 12 #[.val (.ref a0), .val (.ref a1), .val (.int i)] [(.int m0), (.int i)])) (fun _ k => X0.arraylength hx (by rw [e0]; exact Ar4.1) (State.isArrayOf_alike hZ.alike Ar4.2.1) (g := (mkF m 11 #[.val (.ref a0), .val (.ref a1), .val (.int i)] [(.ref a0), (.int i)])) rfl rfl (hb hby d10_11) _ (by rw [len_of S4 M4]; exact k)) ?_
        have hc12_5 : ¬ (i < m0) := by rw [Int32.lt_iff_toInt_lt, hi, hA]; omega
        refine run_fwd (T' := s₁) (g' := (mkF m 32 #[.val (.ref a0), .val (.ref a1), .val (.int i)] [])) (fun _ k => XS.icmpYes X0.here hx rfl (pc0 := 12) (pc' := 32) rfl (hb hby d10_12) rfl (flt hc12_5).2.1 (by decide) (by decide) k) ?_
        refine run_fwd (T' := s₁) (g' := (mkF m 33 #[.val (.ref a0), .val (.ref a1), .val (.int i)] [(.int (1 : Int32))])) (fun _ k => XS.iconst X0.here hx rfl (hb hby d10_32) k) ?_
        exact run_ret X0 hx Bd.returns Bd.notSynchronized rfl (Or.inl ⟨rfl, by simp, _, rfl⟩) (hb hby d10_33) (by rw [e0]; exact ⟨by rw [own_eqv_yes _ _ _ _ hNN (own_leq_all _ _ _ hall)], N0, rfl⟩) (by decide) (by decide)
      | succ k ih =>
        intro m' i hk hi hall
        have hix := own_at i m0 m' NA hi hA (by omega)
        have hix1 := own_at i m1 m' NB hi hB (by omega)
        refine run_fwd (T' := s₁) (g' := (mkF m 10 #[.val (.ref a0), .val (.ref a1), .val (.int i)] [(.int i)])) (fun _ k => XS.iloadN X0.here hx rfl (hb hby d10_9) rfl k) ?_
        refine run_fwd (T' := s₁) (g' := (mkF m 11 #[.val (.ref a0), .val (.ref a1), .val (.int i)] [(.ref a0), (.int i)])) (fun _ k => XS.aloadN X0.here hx rfl (hb hby d10_10) rfl rfl k) ?_
        obtain ⟨cl6, Ar6, -, S6, M6, -, -⟩ := id (Vi0)
        refine run_fwd (T' := s₁) (g' := (mkF m 12 #[.val (.ref a0), .val (.ref a1), .val (.int i)] [(.int m0), (.int i)])) (fun _ k => X0.arraylength hx (by rw [e0]; exact Ar6.1) (State.isArrayOf_alike hZ.alike Ar6.2.1) (g := (mkF m 11 #[.val (.ref a0), .val (.ref a1), .val (.int i)] [(.ref a0), (.int i)])) rfl rfl (hb hby d10_11) _ (by rw [len_of S6 M6]; exact k)) ?_
        have hc12_7 : i < m0 := by rw [Int32.lt_iff_toInt_lt, hi, hA]; omega
        refine run_fwd (T' := s₁) (g' := (mkF m 15 #[.val (.ref a0), .val (.ref a1), .val (.int i)] [])) (fun _ k => XS.icmpNo X0.here hx rfl (hb hby d10_12) rfl (tlt hc12_7).2.1 k) ?_
        refine run_fwd (T' := s₁) (g' := (mkF m 16 #[.val (.ref a0), .val (.ref a1), .val (.int i)] [(.ref a0)])) (fun _ k => XS.aloadN X0.here hx rfl (hb hby d10_15) rfl rfl k) ?_
        refine run_fwd (T' := s₁) (g' := (mkF m 17 #[.val (.ref a0), .val (.ref a1), .val (.int i)] [(.int i), (.ref a0)])) (fun _ k => XS.iloadN X0.here hx rfl (hb hby d10_16) rfl k) ?_
        obtain ⟨cl8, Ar8, -, S8, M8, Hh8, -⟩ := id (Vi0)
        have hin8 : ¬ (i < 0 ∨ cl8.slots.size ≤ (i).toNatClampNeg) := inb_of S8 hix.1
        have hat8 : cl8.slots[(i).toNatClampNeg]? = some (.int (F m')) := Hh8.at hin8 (own_get F NA i m' hix.2 (by omega) _)
        refine run_fwd (T' := s₁) (g' := (mkF m 18 #[.val (.ref a0), .val (.ref a1), .val (.int i)] [(.int (F m'))])) (fun _ k => X0.baloadBytes hx (j := i) (v := (.int (F m'))) (by rw [e0]; exact Ar8.1) (State.isArrayOf_alike hZ.alike Ar8.2.1) Ar8.2.2 hin8 hat8 (g := (mkF m 17 #[.val (.ref a0), .val (.ref a1), .val (.int i)] [(.int i), (.ref a0)])) rfl rfl (hb hby d10_17) _ k) ?_
        refine run_fwd (T' := s₁) (g' := (mkF m 19 #[.val (.ref a0), .val (.ref a1), .val (.int i)] [(.ref a1), (.int (F m'))])) (fun _ k => XS.aloadN X0.here hx rfl (hb hby d10_18) rfl rfl k) ?_
        refine run_fwd (T' := s₁) (g' := (mkF m 20 #[.val (.ref a0), .val (.ref a1), .val (.int i)] [(.int i), (.ref a1), (.int (F m'))])) (fun _ k => XS.iloadN X0.here hx rfl (hb hby d10_19) rfl k) ?_
        obtain ⟨cl9, Ar9, -, S9, M9, Hh9, -⟩ := id (Vi1)
        have hin9 : ¬ (i < 0 ∨ cl9.slots.size ≤ (i).toNatClampNeg) := inb_of S9 hix1.1
        have hat9 : cl9.slots[(i).toNatClampNeg]? = some (.int (G m')) := Hh9.at hin9 (own_get G NB i m' hix1.2 (by omega) _)
        refine run_fwd (T' := s₁) (g' := (mkF m 21 #[.val (.ref a0), .val (.ref a1), .val (.int i)] [(.int (G m')), (.int (F m'))])) (fun _ k => X0.baloadBytes hx (j := i) (v := (.int (G m'))) (by rw [e0]; exact Ar9.1) (State.isArrayOf_alike hZ.alike Ar9.2.1) Ar9.2.2 hin9 hat9 (g := (mkF m 20 #[.val (.ref a0), .val (.ref a1), .val (.int i)] [(.int i), (.ref a1), (.int (F m'))])) rfl rfl (hb hby d10_20) _ k) ?_
        by_cases hc21_10 : (F m') = (G m')
        ·
          refine run_fwd (T' := s₁) (g' := (mkF m 26 #[.val (.ref a0), .val (.ref a1), .val (.int i)] [])) (fun _ k => XS.icmpYes X0.here hx rfl (pc0 := 21) (pc' := 26) rfl (hb hby d10_21) rfl (teq hc21_10).1 (by decide) (by decide) k) ?_
          refine run_fwd (T' := s₁) (g' := (mkF m 29 #[.val (.ref a0), .val (.ref a1), .val (.int (i + (1 : Int32)))] [])) (fun _ k => XS.iinc X0.here hx rfl (hb hby d10_26) rfl (l' := #[.val (.ref a0), .val (.ref a1), .val (.int (i + (1 : Int32)))]) rfl k) ?_
          refine run_fwd (T' := s₁) (g' := (mkF m 9 #[.val (.ref a0), .val (.ref a1), .val (.int (i + (1 : Int32)))] [])) (fun _ k => XS.goto X0.here hx rfl (pc0 := 29) (pc' := 9) rfl (hb hby d10_29) (by decide) (by decide) k) ?_
          exact ih (m' + 1) _ (by omega) (own_up i m' hi (by omega)) (fun j hj => if q : j = m' then q ▸ hc21_10 else hall j (by omega))
        ·
          refine run_fwd (T' := s₁) (g' := (mkF m 24 #[.val (.ref a0), .val (.ref a1), .val (.int i)] [])) (fun _ k => XS.icmpNo X0.here hx rfl (hb hby d10_21) rfl (feq hc21_10).1 k) ?_
          refine run_fwd (T' := s₁) (g' := (mkF m 25 #[.val (.ref a0), .val (.ref a1), .val (.int i)] [(.int (0 : Int32))])) (fun _ k => XS.iconst X0.here hx rfl (hb hby d10_24) k) ?_
          exact run_ret X0 hx Bd.returns Bd.notSynchronized rfl (Or.inl ⟨rfl, by simp, _, rfl⟩) (hb hby d10_25) (by rw [e0]; exact ⟨by rw [own_eqv_no _ _ _ _ (own_leq_step F G NA m' (by omega) hc21_10)], N0, rfl⟩) (by decide) (by decide)
    exact loop9 NA 0 _ (by omega) rfl (fun j hj => absurd hj (Nat.not_lt_zero j))
  ·
    refine run_fwd (T' := s₁) (g' := (mkF m 34 #[.val (.ref a0), .val (.ref a1), .unset] [])) (fun _ k => XS.icmpYes X0.here hx rfl (pc0 := 4) (pc' := 34) rfl (hb hby d10_4) rfl (feq hc4_3).2 (by decide) (by decide) k) ?_
    refine run_fwd (T' := s₁) (g' := (mkF m 35 #[.val (.ref a0), .val (.ref a1), .unset] [(.int (0 : Int32))])) (fun _ k => XS.iconst X0.here hx rfl (hb hby d10_34) k) ?_
    exact run_ret X0 hx Bd.returns Bd.notSynchronized rfl (Or.inl ⟨rfl, by simp, _, rfl⟩) (hb hby d10_35) (by rw [e0]; exact ⟨by rw [own_eqv_ne _ _ _ _ (fun q => hc4_3 ((own_szne hA hB).mpr q))], N0, rfl⟩) (by decide) (by decide)
theorem d9_0 : decode jdk_42_method_66_code 0 = .ok (.aload_n 0, 1) := by decide +kernel
theorem d9_1 : decode jdk_42_method_66_code 1 = .ok (.aload_n 1, 1) := by decide +kernel
theorem d9_2 : decode jdk_42_method_66_code 2 = .ok (.if_acmp .ne 5, 3) := by decide +kernel
theorem d9_7 : decode jdk_42_method_66_code 7 = .ok (.aload_n 1, 1) := by decide +kernel
theorem d9_8 : decode jdk_42_method_66_code 8 = .ok (.instanceof 10, 3) := by decide +kernel
theorem d9_11 : decode jdk_42_method_66_code 11 = .ok (.ifCond .eq 43, 3) := by decide +kernel
theorem d9_14 : decode jdk_42_method_66_code 14 = .ok (.aload_n 1, 1) := by decide +kernel
theorem d9_15 : decode jdk_42_method_66_code 15 = .ok (.checkcast 10, 3) := by decide +kernel
theorem d9_18 : decode jdk_42_method_66_code 18 = .ok (.astore_n 2, 1) := by decide +kernel
theorem d9_19 : decode jdk_42_method_66_code 19 = .ok (.getstatic 38, 3) := by decide +kernel
theorem d9_22 : decode jdk_42_method_66_code 22 = .ok (.ifCond .eq 14, 3) := by decide +kernel
theorem d9_25 : decode jdk_42_method_66_code 25 = .ok (.aload_n 0, 1) := by decide +kernel
theorem d9_26 : decode jdk_42_method_66_code 26 = .ok (.getfield 15, 3) := by decide +kernel
theorem d9_29 : decode jdk_42_method_66_code 29 = .ok (.aload_n 2, 1) := by decide +kernel
theorem d9_30 : decode jdk_42_method_66_code 30 = .ok (.getfield 15, 3) := by decide +kernel
theorem d9_33 : decode jdk_42_method_66_code 33 = .ok (.if_icmp .ne 21, 3) := by decide +kernel
theorem d9_36 : decode jdk_42_method_66_code 36 = .ok (.aload_n 0, 1) := by decide +kernel
theorem d9_37 : decode jdk_42_method_66_code 37 = .ok (.getfield 9, 3) := by decide +kernel
theorem d9_40 : decode jdk_42_method_66_code 40 = .ok (.aload_n 2, 1) := by decide +kernel
theorem d9_41 : decode jdk_42_method_66_code 41 = .ok (.getfield 9, 3) := by decide +kernel
theorem d9_44 : decode jdk_42_method_66_code 44 = .ok (.invokestatic 541, 3) := by decide +kernel
theorem pd__28_5bB_5bB_29Z : parseMethodDescriptor "([B[B)Z" = some ⟨[(.array .byte), (.array .byte)], some .boolean⟩ := by decide +kernel
theorem d9_47 : decode jdk_42_method_66_code 47 = .ok (.ifCond .eq 7, 3) := by decide +kernel
theorem d9_54 : decode jdk_42_method_66_code 54 = .ok (.iconst 0, 1) := by decide +kernel
theorem d9_55 : decode jdk_42_method_66_code 55 = .ok (.ireturn, 1) := by decide +kernel
theorem d9_50 : decode jdk_42_method_66_code 50 = .ok (.iconst 1, 1) := by decide +kernel
theorem d9_51 : decode jdk_42_method_66_code 51 = .ok (.goto 4, 3) := by decide +kernel
theorem ef_rmEq (m : MethodId) (x0 : Addr) (x1 : Addr) : entryFrame m #[(.ref x0), (.ref x1)] 3 = mkF m 0 #[.val (.ref x0), .val (.ref x1), .unset] [] := by first | (simp [entryFrame, mkF, argsToLocals, Value.category]; done) | rfl
def QrmEq (Z : State) (a0 : Addr) (a1 : Addr) (t0 : Addr) (t1 : Addr) (k0 : ClassId) (k1 : ClassId) (m0 : Int32) (m1 : Int32) (NA : Nat) (NB : Nat) (F : Nat → Int32) (G : Nat → Int32) (cs : Int32) (h0 : Heap) (n0 : Nat) (v : Option Value) (h : Heap) (L : List Loc) : Prop := v = some (.int (own_eqv NA NB F G)) ∧ Fr n0 L ∧ h = h0
set_option maxRecDepth 65536 in
set_option maxHeartbeats 40000000 in
theorem rmEq (l : Launch) (Z : State) (aV : Array Value) (hw : ∀ d ∈ tables_1, d.before aV Z = true) (ws : List Jvm.Cond) (a0 : Addr) (a1 : Addr) (t0 : Addr) (t1 : Addr) (k0 : ClassId) (k1 : ClassId) (m0 : Int32) (m1 : Int32) (NA : Nat) (NB : Nat) (F : Nat → Int32) (G : Nat → Int32) (cs : Int32) (h0 : Heap) (n0 : Nat) (O0 : Old Z n0 h0) (Ei0 : Exa Z h0 a1 "java/lang/String") (Fi1 : Fld Z h0 a0 "java/lang/String" "coder" "B" (.int (0 : Int32))) (Fi2 : Fld Z h0 a1 "java/lang/String" "coder" "B" (.int (0 : Int32))) (Fi3 : Fld Z h0 a0 "java/lang/String" "value" "[B" (.ref t0)) (Fi4 : Fld Z h0 a1 "java/lang/String" "value" "[B" (.ref t1)) (Vi5 : Arv Z h0 t0 k0 .byte m0 (own_tab F NA) (.int (0 : Int32))) (Vi6 : Arv Z h0 t1 k1 .byte m1 (own_tab G NB) (.int (0 : Int32))) (Si7 : Sta Z Z.heap "java/lang/String" "COMPACT_STRINGS" "Z" (.int cs)) (hcs : ¬ cs = (0 : Int32)) (hne : a0 ≠ a1) (hA : m0.toInt = NA) (hB : m1.toInt = NB) (hN : NA ≤ 4000) :
    MetFree l (⟨"java/lang/String", "equals", "(Ljava/lang/Object;)Z"⟩ : MethodName) (head1 (Jvm.Cond.code (⟨"java/lang/String", "equals", "(Ljava/lang/Object;)Z"⟩ : MethodName) jdk_42_method_66_code 3 (some .boolean) :: ws) ({ frames := 1, cells := 0, slots := 0, locals := 14 } : Room)) (fun a U => a = #[(.ref a0), (.ref a1)] ∧ Z.Warmed39 U.vm ∧ U.heap = h0) (fun _ _ _ _ _ => True) (fun _ U o U' => ∃ v L, o = .returned v ∧ QrmEq Z a0 a1 t0 t1 k0 k1 m0 m1 NA NB F G cs h0 n0 v U'.heap L ∧ FrameEnd U o U' L ({ frames := 1, cells := 0, slots := 0, locals := 14 } : Room).cells ({ frames := 1, cells := 0, slots := 0, locals := 14 } : Room).slots) := by
  refine MetFree.of_bodySF (plainFor_of_name pn_java_lang_String) hisR ?_
  intro p e s m args below meth c s₁ Bd hml0 hP hK
  obtain ⟨rfl, hZ, hh⟩ := hP
  have hx := Bd.exec
  have hby := Bd.bytes
  have hml : c.maxLocals = 3 := hml0
  have hown : s.vm.findClass "java/lang/String" = some m.cls := findClass_of_methodNamed Bd.named
  have hnm := (name_of_methodNamed Bd.named Bd.method).1
  have X0 : Stand p l e ({ frames := 1, cells := 0, slots := 0, locals := 14 } : Room) s m #[(.ref a0), (.ref a1)] below meth c s₁ [] 0 0 := Stand.of_body Bd
  have e0 : s₁.heap = h0 := by rw [← hh, Bd.state]; rfl
  have N0 := Fr.nil n0
  show Run p.tables e below (Wd s (QrmEq Z a0 a1 t0 t1 k0 k1 m0 m1 NA NB F G cs h0 n0) ({ frames := 1, cells := 0, slots := 0, locals := 14 } : Room).cells ({ frames := 1, cells := 0, slots := 0, locals := 14 } : Room).slots) s₁ (entryFrame m #[(.ref a0), (.ref a1)] 3)
  rw [ef_rmEq m a0 a1]
  refine run_fwd (T' := s₁) (g' := (mkF m 1 #[.val (.ref a0), .val (.ref a1), .unset] [(.ref a0)])) (fun _ k => XS.aloadN X0.here hx rfl (hb hby d9_0) rfl rfl k) ?_
  refine run_fwd (T' := s₁) (g' := (mkF m 2 #[.val (.ref a0), .val (.ref a1), .unset] [(.ref a1), (.ref a0)])) (fun _ k => XS.aloadN X0.here hx rfl (hb hby d9_1) rfl rfl k) ?_
  refine run_fwd (T' := s₁) (g' := (mkF m 7 #[.val (.ref a0), .val (.ref a1), .unset] [])) (fun _ k => Jvm.RoadKit.acmp (g := (mkF m 2 #[.val (.ref a0), .val (.ref a1), .unset] [(.ref a1), (.ref a0)])) X0 hx rfl rfl rfl (pc0 := 2) (pc' := 7) (same := false) rfl (hb hby d9_2) rfl (decide_eq_false fun q => hne (Value.ref.inj q)) (by decide) (by decide) k) ?_
  refine run_fwd (T' := s₁) (g' := (mkF m 8 #[.val (.ref a0), .val (.ref a1), .unset] [(.ref a1)])) (fun _ k => XS.aloadN X0.here hx rfl (hb hby d9_7) rfl rfl k) ?_
  obtain ⟨T1, X1, e1, st1⟩ := instY X0 hx hZ hown (hw _ (List.mem_of_getElem? (i := 61) rfl)) e0 (Ins.self Ei0) (g := (mkF m 8 #[.val (.ref a0), .val (.ref a1), .unset] [(.ref a1)])) rfl rfl (hb hby d9_8)
  refine run_fwd (T' := T1) (g' := (mkF m 11 #[.val (.ref a0), .val (.ref a1), .unset] [(.int (1 : Int32))])) (fun _ k => st1 _ k) ?_
  have hc11_2 : ¬ ((1 : Int32) = (0 : Int32)) := (by decide)
  refine run_fwd (T' := T1) (g' := (mkF m 14 #[.val (.ref a0), .val (.ref a1), .unset] [])) (fun _ k => XS.ifNo X1.here hx rfl (hb hby d9_11) rfl ((if0 _ _).trans (feq hc11_2).1) k) ?_
  refine run_fwd (T' := T1) (g' := (mkF m 15 #[.val (.ref a0), .val (.ref a1), .unset] [(.ref a1)])) (fun _ k => XS.aloadN X1.here hx rfl (hb hby d9_14) rfl rfl k) ?_
  obtain ⟨T3, X3, e3, st3⟩ := castY X1 hx hZ hown (hw _ (List.mem_of_getElem? (i := 61) rfl)) e1 (Ins.self Ei0) (g := (mkF m 15 #[.val (.ref a0), .val (.ref a1), .unset] [(.ref a1)])) rfl rfl (hb hby d9_15)
  refine run_fwd (T' := T3) (g' := (mkF m 18 #[.val (.ref a0), .val (.ref a1), .unset] [(.ref a1)])) (fun _ k => st3 _ k) ?_
  refine run_fwd (T' := T3) (g' := (mkF m 19 #[.val (.ref a0), .val (.ref a1), .val (.ref a1)] [])) (fun _ k => XS.astoreN X3.here hx rfl (hb hby d9_18) rfl rfl (l' := #[.val (.ref a0), .val (.ref a1), .val (.ref a1)]) rfl k) ?_
  obtain ⟨T4, X4, e4, st4⟩ := getS2 X3 hx hZ hown (host := "") (Or.inl (hw _ (List.mem_of_getElem? (i := 14) rfl))) Via.refl e3 (Si7.ext O0.2) (g := (mkF m 19 #[.val (.ref a0), .val (.ref a1), .val (.ref a1)] [])) rfl (hb hby d9_19)
  refine run_fwd (T' := T4) (g' := (mkF m 22 #[.val (.ref a0), .val (.ref a1), .val (.ref a1)] [(.int cs)])) (fun _ k => st4 _ k) ?_
  have hc22_5 : ¬ (cs = (0 : Int32)) := hcs
  refine run_fwd (T' := T4) (g' := (mkF m 25 #[.val (.ref a0), .val (.ref a1), .val (.ref a1)] [])) (fun _ k => XS.ifNo X4.here hx rfl (hb hby d9_22) rfl ((if0 _ _).trans (feq hc22_5).1) k) ?_
  refine run_fwd (T' := T4) (g' := (mkF m 26 #[.val (.ref a0), .val (.ref a1), .val (.ref a1)] [(.ref a0)])) (fun _ k => XS.aloadN X4.here hx rfl (hb hby d9_25) rfl rfl k) ?_
  obtain ⟨T6, X6, e6, st6⟩ := getF X4 hx hZ hown (host := "") (Or.inl (hw _ (List.mem_of_getElem? (i := 26) rfl))) Via.refl e4 Fi1 (g := (mkF m 26 #[.val (.ref a0), .val (.ref a1), .val (.ref a1)] [(.ref a0)])) rfl rfl (hb hby d9_26)
  refine run_fwd (T' := T6) (g' := (mkF m 29 #[.val (.ref a0), .val (.ref a1), .val (.ref a1)] [(.int (0 : Int32))])) (fun _ k => st6 _ k) ?_
  refine run_fwd (T' := T6) (g' := (mkF m 30 #[.val (.ref a0), .val (.ref a1), .val (.ref a1)] [(.ref a1), (.int (0 : Int32))])) (fun _ k => XS.aloadN X6.here hx rfl (hb hby d9_29) rfl rfl k) ?_
  obtain ⟨T7, X7, e7, st7⟩ := getF X6 hx hZ hown (host := "") (Or.inl (hw _ (List.mem_of_getElem? (i := 26) rfl))) Via.refl e6 Fi2 (g := (mkF m 30 #[.val (.ref a0), .val (.ref a1), .val (.ref a1)] [(.ref a1), (.int (0 : Int32))])) rfl rfl (hb hby d9_30)
  refine run_fwd (T' := T7) (g' := (mkF m 33 #[.val (.ref a0), .val (.ref a1), .val (.ref a1)] [(.int (0 : Int32)), (.int (0 : Int32))])) (fun _ k => st7 _ k) ?_
  have hc33_8 : (0 : Int32) = (0 : Int32) := (by decide)
  refine run_fwd (T' := T7) (g' := (mkF m 36 #[.val (.ref a0), .val (.ref a1), .val (.ref a1)] [])) (fun _ k => XS.icmpNo X7.here hx rfl (hb hby d9_33) rfl (teq hc33_8).2 k) ?_
  refine run_fwd (T' := T7) (g' := (mkF m 37 #[.val (.ref a0), .val (.ref a1), .val (.ref a1)] [(.ref a0)])) (fun _ k => XS.aloadN X7.here hx rfl (hb hby d9_36) rfl rfl k) ?_
  obtain ⟨T9, X9, e9, st9⟩ := getF X7 hx hZ hown (host := "") (Or.inl (hw _ (List.mem_of_getElem? (i := 28) rfl))) Via.refl e7 Fi3 (g := (mkF m 37 #[.val (.ref a0), .val (.ref a1), .val (.ref a1)] [(.ref a0)])) rfl rfl (hb hby d9_37)
  refine run_fwd (T' := T9) (g' := (mkF m 40 #[.val (.ref a0), .val (.ref a1), .val (.ref a1)] [(.ref t0)])) (fun _ k => st9 _ k) ?_
  refine run_fwd (T' := T9) (g' := (mkF m 41 #[.val (.ref a0), .val (.ref a1), .val (.ref a1)] [(.ref a1), (.ref t0)])) (fun _ k => XS.aloadN X9.here hx rfl (hb hby d9_40) rfl rfl k) ?_
  obtain ⟨T10, X10, e10, st10⟩ := getF X9 hx hZ hown (host := "") (Or.inl (hw _ (List.mem_of_getElem? (i := 28) rfl))) Via.refl e9 Fi4 (g := (mkF m 41 #[.val (.ref a0), .val (.ref a1), .val (.ref a1)] [(.ref a1), (.ref t0)])) rfl rfl (hb hby d9_41)
  refine run_fwd (T' := T10) (g' := (mkF m 44 #[.val (.ref a0), .val (.ref a1), .val (.ref a1)] [(.ref t1), (.ref t0)])) (fun _ k => st10 _ k) ?_
  obtain ⟨T11, v11, L11, X11, hQ11, st11⟩ := own_gotS X10 (Jvm.LawKit.callS X10 hx (y := (⟨"java/lang/StringLatin1", "equals", "([B[B)Z"⟩ : MethodName)) hown (mvT hZ (hw _ (List.mem_of_getElem? (i := 62) rfl))) (mvT hZ (hw _ (List.mem_of_getElem? (i := 63) rfl))) (mvT hZ (hw _ (List.mem_of_getElem? (i := 64) rfl))) (mvT hZ (hw _ (List.mem_of_getElem? (i := 65) rfl))) (by decide) (backOf (W := 0) (rmLeq l Z aV hw [] t0 t1 k0 k1 m0 m1 NA NB F G h0 n0 O0 Vi5 Vi6 (hA) (hB) (hN)) hZ (hw _ (List.mem_of_getElem? (i := 65) rfl)) (hw _ (List.mem_of_getElem? (i := 64) rfl)) (by decide) (by decide)) (g := (mkF m 44 #[.val (.ref a0), .val (.ref a1), .val (.ref a1)] [(.ref t1), (.ref t0)])) rfl (by rw [hml]; rfl) (argsL := [(.ref t0), (.ref t1)]) (rest := []) (lenOf pd__28_5bB_5bB_29Z rfl) rfl (by show 2 * 0 + _ ≤ _; exact Nat.le_of_eq rfl) (hb hby d9_44) (fun _ _ => ⟨rfl, e10, (by decide : 0 + 0 ≤ _), (by decide : 0 + 0 ≤ _)⟩))
  obtain ⟨rfl, N11q, Q11_0⟩ := hQ11
  have N11 := Fr.app N0 N11q
  refine run_fwd (T' := T11) (g' := (mkF m 47 #[.val (.ref a0), .val (.ref a1), .val (.ref a1)] [(.int (own_eqv NA NB F G))])) (fun _ k => st11 _ k) ?_
  by_cases hc47_12 : (own_eqv NA NB F G) = (0 : Int32)
  ·
    refine run_fwd (T' := T11) (g' := (mkF m 54 #[.val (.ref a0), .val (.ref a1), .val (.ref a1)] [])) (fun _ k => XS.ifYes X11.here hx rfl (pc0 := 47) (pc' := 54) rfl (hb hby d9_47) rfl ((if0 _ _).trans (teq hc47_12).1) (by decide) (by decide) k) ?_
    refine run_fwd (T' := T11) (g' := (mkF m 55 #[.val (.ref a0), .val (.ref a1), .val (.ref a1)] [(.int (0 : Int32))])) (fun _ k => XS.iconst X11.here hx rfl (hb hby d9_54) k) ?_
    exact run_ret X11 hx Bd.returns Bd.notSynchronized rfl (Or.inl ⟨rfl, by simp, _, rfl⟩) (hb hby d9_55) (by rw [Q11_0]; exact ⟨by rw [hc47_12], N11, rfl⟩) (by decide) (by decide)
  ·
    refine run_fwd (T' := T11) (g' := (mkF m 50 #[.val (.ref a0), .val (.ref a1), .val (.ref a1)] [])) (fun _ k => XS.ifNo X11.here hx rfl (hb hby d9_47) rfl ((if0 _ _).trans (feq hc47_12).1) k) ?_
    refine run_fwd (T' := T11) (g' := (mkF m 51 #[.val (.ref a0), .val (.ref a1), .val (.ref a1)] [(.int (1 : Int32))])) (fun _ k => XS.iconst X11.here hx rfl (hb hby d9_50) k) ?_
    refine run_fwd (T' := T11) (g' := (mkF m 55 #[.val (.ref a0), .val (.ref a1), .val (.ref a1)] [(.int (1 : Int32))])) (fun _ k => XS.goto X11.here hx rfl (pc0 := 51) (pc' := 55) rfl (hb hby d9_51) (by decide) (by decide) k) ?_
    exact run_ret X11 hx Bd.returns Bd.notSynchronized rfl (Or.inl ⟨rfl, by simp, _, rfl⟩) (hb hby d9_55) (by rw [Q11_0]; exact ⟨by rw [own_eqv_one _ _ _ _ hc47_12], N11, rfl⟩) (by decide) (by decide)
theorem own_eqint {args : Array Value} {s : State} {t : Term} {k : Int32} (h : (Jvm.Cond.eq t (Term.int k)).value args s none s [] = some true) : t.eval args s none [] s = some (.int k) := by
  simp only [Cond.value, Term.eval] at h
  cases ht : t.eval args s none [] s with
  | none => simp [ht] at h
  | some x => cases x <;> simp [ht] at h ⊢ <;> exact h
theorem own_sta {args : Array Value} {s : State} {C f d K : String} (hx : (Jvm.Cond.exactly (Term.static C f d) K).value args s none s [] = some true) (hi : (Cond.initializedFor C f d).before args s = true ∨ ((Cond.initialized C).before args s = true ∧ (Cond.laysStatic C f d).before args s = true)) : ∃ a, (Term.static C f d).eval args s none [] s = some (.ref a) ∧ Sta s s.heap C f d (.ref a) ∧ Exa s s.heap a K := by
  obtain ⟨a, ha⟩ := exa_v hx
  exact ⟨a, ha, Sta.start ha hi, Exa.start ha hx⟩
theorem own_fld {args : Array Value} {s : State} {t : Term} {C n dd : String} {a : Addr} {k : Int32} (ha : t.eval args s none [] s = some (.ref a)) (hf : (Jvm.Cond.eq (Term.field t C n dd) (Term.int k)).value args s none s [] = some true) : Fld s s.heap a C n dd (.int k) :=
  Fld.start (by have q := own_eqint hf; rw [fld_at ha] at q; exact q)
theorem own_eqref {args : Array Value} {s : State} {a b : Term} {e : Addr} (hb : b.eval args s none [] s = some (.ref e)) (h : (Jvm.Cond.eq a b).value args s none s [] = some true) : a.eval args s none [] s = some (.ref e) := by
  simp only [Cond.value] at h
  cases ha : a.eval args s none [] s with
  | none => simp [ha] at h
  | some x => cases x <;> simp [ha, hb] at h ⊢ <;> exact h
theorem own_nm {args : Array Value} {s : State} {t : Term} {C n d K : String} {a : Addr} (ht : t.eval args s none [] s = some (.ref a)) (hx : (Jvm.Cond.exactly (Term.field t C n d) K).value args s none s [] = some true) : ∃ b, (Term.field t C n d).eval args s none [] s = some (.ref b) ∧ Fld s s.heap a C n d (.ref b) ∧ Exa s s.heap b K := by
  obtain ⟨b, hb⟩ := exa_v hx
  exact ⟨b, hb, Fld.start (by rw [← fld_at ht]; exact hb), Exa.start hb hx⟩
theorem own_arr {args : Array Value} {s : State} {t : Term} {C n d : String} {ty : FieldType} {a : Addr} (ht : t.eval args s none [] s = some (.ref a)) (hx : (Jvm.Cond.arrayOf (Term.field t C n d) ty).value args s none s [] = some true) : ∃ b cl, (Term.field t C n d).eval args s none [] s = some (.ref b) ∧ Fld s s.heap a C n d (.ref b) ∧ Arr s s.heap b cl ty := by
  obtain ⟨b, hb⟩ := arr_v hx
  obtain ⟨cl, A⟩ := Arr.start hb hx
  exact ⟨b, cl, hb, Fld.start (by rw [← fld_at ht]; exact hb), A⟩
theorem own_len {args : Array Value} {s : State} {t : Term} {ty : FieldType} {a : Addr} {cl : Cell} {z : Int32} (ht : t.eval args s none [] s = some (.ref a)) (A : Arr s s.heap a cl ty) (hl : (Jvm.Cond.eq (Term.length t) (Term.int z)).value args s none s [] = some true) : cl.slots.size < 2 ^ 31 ∧ cl.slots.size.toInt32 = z := by
  have q := own_eqint hl
  have w := A.fin (Vm.Alike.refl s.vm)
  by_cases u : cl.slots.size < 2 ^ 31
  · rw [len_f ht w u] at q
    exact ⟨u, by injection q with q; injection q⟩
  · simp [Term.eval, ht, w, u] at q
theorem own_el {args : Array Value} {s : State} {t : Term} {ty : FieldType} {a : Addr} {cl : Cell} {j v : Int32} (ht : t.eval args s none [] s = some (.ref a)) (A : Arr s s.heap a cl ty) (he : (Jvm.Cond.eq (Term.elem t (Term.int j)) (Term.int v)).value args s none s [] = some true) : cl.slots[j.toNatClampNeg]? = some (.int v) := (elem_in (own_eqint he) ht (Term.int_eval j) A.1).2
theorem own_elr {args : Array Value} {s : State} {t b : Term} {ty : FieldType} {a e : Addr} {cl : Cell} {j : Int32} (ht : t.eval args s none [] s = some (.ref a)) (A : Arr s s.heap a cl ty) (hb : b.eval args s none [] s = some (.ref e)) (he : (Jvm.Cond.eq (Term.elem t (Term.int j)) b).value args s none s [] = some true) : cl.slots[j.toNatClampNeg]? = some (.ref e) := (elem_in (own_eqref hb he) ht (Term.int_eval j) A.1).2
theorem own_nei {args : Array Value} {s : State} {t : Term} {k x : Int32} (ht : t.eval args s none [] s = some (.int x)) (h : (Jvm.Cond.not (Jvm.Cond.eq t (Term.int k))).value args s none s [] = some true) : ¬ x = k := by
  have q := not_v h
  simp [Cond.value, Term.eval, ht] at q
  exact q
def own_n0 (j : Nat) : Int32 := ([77, 111, 110, 116, 104, 108, 121] : List Int32).getD j 0
def own_n1 (j : Nat) : Int32 := ([81, 117, 97, 114, 116, 101, 114, 108, 121] : List Int32).getD j 0
def own_n2 (j : Nat) : Int32 := ([72, 97, 108, 102, 45, 89, 101, 97, 114, 108, 121] : List Int32).getD j 0
def own_n3 (j : Nat) : Int32 := ([89, 101, 97, 114, 108, 121] : List Int32).getD j 0
theorem d8_0 : decode prog_4_method_1_code 0 = .ok (.getstatic 16, 3) := by decide +kernel
theorem d8_3 : decode prog_4_method_1_code 3 = .ok (.invokevirtual 20, 3) := by decide +kernel
theorem d8_6 : decode prog_4_method_1_code 6 = .ok (.checkcast 21, 3) := by decide +kernel
theorem d8_9 : decode prog_4_method_1_code 9 = .ok (.areturn, 1) := by decide +kernel
theorem pn_com_example_recurr_recurr_BillingFrequency : plainName "com/example/recurr/recurr/BillingFrequency" = true := by first | (simp [plainName, overriddenIn]; done) | decide +kernel
theorem ef_rm8 (m : MethodId)  : entryFrame m #[] 0 = mkF m 0 #[] [] := by first | (simp [entryFrame, mkF, argsToLocals, Value.category]; done) | rfl
def Qrm8 (Z : State) (vv : Addr) (kv : ClassId) (en0 : Addr) (en1 : Addr) (en2 : Addr) (en3 : Addr) (h0 : Heap) (n0 : Nat) (v : Option Value) (h : Heap) (L : List Loc) : Prop := ∃ (b : Addr), v = some (.ref b) ∧ Fr n0 L ∧ Keep h0 h [] ∧ h0.size ≤ b ∧ Arv Z h b kv (.object "com/example/recurr/recurr/BillingFrequency") (4 : Int32) [(.ref en0), (.ref en1), (.ref en2), (.ref en3)] .null
set_option maxRecDepth 65536 in
set_option maxHeartbeats 40000000 in
theorem rm8 (l : Launch) (Z : State) (aV : Array Value) (hw : ∀ d ∈ tables_1, d.before aV Z = true) (ws : List Jvm.Cond) (vv : Addr) (kv : ClassId) (en0 : Addr) (en1 : Addr) (en2 : Addr) (en3 : Addr) (h0 : Heap) (n0 : Nat) (O0 : Old Z n0 h0) (Si0 : Sta Z Z.heap "com/example/recurr/recurr/BillingFrequency" "$VALUES" "[Lcom/example/recurr/recurr/BillingFrequency;" (.ref vv)) (OVi1 : Arv Z Z.heap vv kv (.object "com/example/recurr/recurr/BillingFrequency") (4 : Int32) [(.ref en0), (.ref en1), (.ref en2), (.ref en3)] .null) (OEi2 : Exa Z Z.heap vv "[Lcom/example/recurr/recurr/BillingFrequency;") :
    MetFree l (⟨"com/example/recurr/recurr/BillingFrequency", "values", "()[Lcom/example/recurr/recurr/BillingFrequency;"⟩ : MethodName) (head1 (Jvm.Cond.code (⟨"com/example/recurr/recurr/BillingFrequency", "values", "()[Lcom/example/recurr/recurr/BillingFrequency;"⟩ : MethodName) prog_4_method_1_code 0 (some (.array (.object "com/example/recurr/recurr/BillingFrequency"))) :: ws) ({ frames := 1, cells := 1, slots := 4, locals := 14 } : Room)) (fun a U => a = #[] ∧ Z.Warmed39 U.vm ∧ U.heap = h0) (fun _ _ _ _ _ => True) (fun _ U o U' => ∃ v L, o = .returned v ∧ Qrm8 Z vv kv en0 en1 en2 en3 h0 n0 v U'.heap L ∧ FrameEnd U o U' L ({ frames := 1, cells := 1, slots := 4, locals := 14 } : Room).cells ({ frames := 1, cells := 1, slots := 4, locals := 14 } : Room).slots) := by
  refine MetFree.of_bodySF (plainFor_of_name pn_com_example_recurr_recurr_BillingFrequency) hisR ?_
  intro p e s m args below meth c s₁ Bd hml0 hP hK
  obtain ⟨rfl, hZ, hh⟩ := hP
  have hx := Bd.exec
  have hby := Bd.bytes
  have hml : c.maxLocals = 0 := hml0
  have hown : s.vm.findClass "com/example/recurr/recurr/BillingFrequency" = some m.cls := findClass_of_methodNamed Bd.named
  have hnm := (name_of_methodNamed Bd.named Bd.method).1
  have X0 : Stand p l e ({ frames := 1, cells := 1, slots := 4, locals := 14 } : Room) s m #[] below meth c s₁ [] 0 0 := Stand.of_body Bd
  have e0 : s₁.heap = h0 := by rw [← hh, Bd.state]; rfl
  have N0 := Fr.nil n0
  show Run p.tables e below (Wd s (Qrm8 Z vv kv en0 en1 en2 en3 h0 n0) ({ frames := 1, cells := 1, slots := 4, locals := 14 } : Room).cells ({ frames := 1, cells := 1, slots := 4, locals := 14 } : Room).slots) s₁ (entryFrame m #[] 0)
  rw [ef_rm8 m]
  obtain ⟨T1, X1, e1, st1⟩ := getS2 X0 hx hZ hown (host := "") (Or.inl (hw _ (List.mem_of_getElem? (i := 39) rfl))) Via.refl e0 (Si0.ext O0.2) (g := (mkF m 0 #[] [])) rfl (hb hby d8_0)
  refine run_fwd (T' := T1) (g' := (mkF m 3 #[] [(.ref vv)])) (fun _ k => st1 _ k) ?_
  obtain ⟨T2, h2, X2, e2, E2, A2, Ex2, st2⟩ := cloneH X1 hx hZ hown (hw _ (List.mem_of_getElem? (i := 41) rfl)) (hw _ (List.mem_of_getElem? (i := 42) rfl)) (hw _ (List.mem_of_getElem? (i := 46) rfl)) (hw _ (List.mem_of_getElem? (i := 44) rfl)) (hw _ (List.mem_of_getElem? (i := 45) rfl)) (hw _ (List.mem_of_getElem? (i := 47) rfl)) e1 (OVi1.ext O0.2).arh (OEi2.ext O0.2) (g := (mkF m 3 #[] [(.ref vv)])) rfl (by rw [hml]; rfl) rfl (hb hby d8_3) (by decide) (W := 0) (cap := 4) (by show 2 * 0 + _ ≤ _; exact Nat.le_of_eq rfl) (by decide) (by decide) (by decide) (by decide)
  obtain ⟨b2, g2⟩ : ∃ z, z = h0.size := ⟨_, rfl⟩
  rw [← g2] at A2 Ex2 st2
  have gg2 : n0 ≤ b2 := Nat.le_trans (own_le O0) (Nat.le_of_eq g2.symm)
  have sz2 : h0.size ≤ b2 := Nat.le_trans (Keep.refl h0 []).1 (Nat.le_of_eq g2.symm)
  have O3 : Old Z n0 h2 := O0.ext E2
  have K4 : Keep h0 h2 [] := (Keep.refl h0 []).ext E2
  refine run_fwd (T' := T2) (g' := (mkF m 6 #[] [(.ref b2)])) (fun _ k => st2 _ k) ?_
  obtain ⟨T5, X5, e5, st5⟩ := castY X2 hx hZ hown (hw _ (List.mem_of_getElem? (i := 52) rfl)) e2 (Ins.self Ex2) (g := (mkF m 6 #[] [(.ref b2)])) rfl rfl (hb hby d8_6)
  refine run_fwd (T' := T5) (g' := (mkF m 9 #[] [(.ref b2)])) (fun _ k => st5 _ k) ?_
  exact run_ret X5 hx Bd.returns Bd.notSynchronized rfl (Or.inr (Or.inr (Or.inr (Or.inr ⟨rfl, rfl, rfl⟩)))) (hb hby d8_9) (by rw [e5]; exact ⟨b2, rfl, N0, K4, sz2, A2⟩) (by decide) (by decide)
theorem d7_0 : decode prog_4_method_4_code 0 = .ok (.invokestatic 43, 3) := by decide +kernel
theorem pd__28_29_5bLcom_2fexample_2frecurr_2frecurr_2fBillingFrequency_3b : parseMethodDescriptor "()[Lcom/example/recurr/recurr/BillingFrequency;" = some ⟨[], some (.array (.object "com/example/recurr/recurr/BillingFrequency"))⟩ := by decide +kernel
theorem d7_3 : decode prog_4_method_4_code 3 = .ok (.astore_n 1, 1) := by decide +kernel
theorem d7_4 : decode prog_4_method_4_code 4 = .ok (.aload_n 1, 1) := by decide +kernel
theorem d7_5 : decode prog_4_method_4_code 5 = .ok (.arraylength, 1) := by decide +kernel
theorem d7_6 : decode prog_4_method_4_code 6 = .ok (.istore_n 2, 1) := by decide +kernel
theorem d7_7 : decode prog_4_method_4_code 7 = .ok (.iconst 0, 1) := by decide +kernel
theorem d7_8 : decode prog_4_method_4_code 8 = .ok (.istore_n 3, 1) := by decide +kernel
theorem d7_9 : decode prog_4_method_4_code 9 = .ok (.iload_n 3, 1) := by decide +kernel
theorem d7_10 : decode prog_4_method_4_code 10 = .ok (.iload_n 2, 1) := by decide +kernel
theorem d7_11 : decode prog_4_method_4_code 11 = .ok (.if_icmp .ge 29, 3) := by decide +kernel
theorem d7_14 : decode prog_4_method_4_code 14 = .ok (.aload_n 1, 1) := by decide +kernel
theorem d7_15 : decode prog_4_method_4_code 15 = .ok (.iload_n 3, 1) := by decide +kernel
theorem d7_16 : decode prog_4_method_4_code 16 = .ok (.aaload, 1) := by decide +kernel
theorem d7_17 : decode prog_4_method_4_code 17 = .ok (.astore 4, 2) := by decide +kernel
theorem d7_19 : decode prog_4_method_4_code 19 = .ok (.aload 4, 2) := by decide +kernel
theorem d7_21 : decode prog_4_method_4_code 21 = .ok (.getfield 35, 3) := by decide +kernel
theorem d7_24 : decode prog_4_method_4_code 24 = .ok (.aload_n 0, 1) := by decide +kernel
theorem d7_25 : decode prog_4_method_4_code 25 = .ok (.invokevirtual 47, 3) := by decide +kernel
theorem pd__28Ljava_2flang_2fObject_3b_29Z : parseMethodDescriptor "(Ljava/lang/Object;)Z" = some ⟨[(.object "java/lang/Object")], some .boolean⟩ := by decide +kernel
theorem d7_28 : decode prog_4_method_4_code 28 = .ok (.ifCond .eq 6, 3) := by decide +kernel
theorem d7_31 : decode prog_4_method_4_code 31 = .ok (.aload 4, 2) := by decide +kernel
theorem d7_33 : decode prog_4_method_4_code 33 = .ok (.areturn, 1) := by decide +kernel
theorem ef_rmP0 (m : MethodId) (x0 : Addr) : entryFrame m #[(.ref x0)] 5 = mkF m 0 #[.val (.ref x0), .unset, .unset, .unset, .unset] [] := by first | (simp [entryFrame, mkF, argsToLocals, Value.category]; done) | rfl
def QrmP0 (Z : State) (a0 : Addr) (vv : Addr) (kv : ClassId) (en0 : Addr) (en1 : Addr) (en2 : Addr) (en3 : Addr) (sn0 : Addr) (tn0 : Addr) (kn0 : ClassId) (sn1 : Addr) (tn1 : Addr) (kn1 : ClassId) (sn2 : Addr) (tn2 : Addr) (kn2 : ClassId) (sn3 : Addr) (tn3 : Addr) (kn3 : ClassId) (ta : Addr) (ka : ClassId) (na : Int32) (NG : Nat) (G : Nat → Int32) (cs : Int32) (h0 : Heap) (n0 : Nat) (v : Option Value) (h : Heap) (L : List Loc) : Prop := v = some (.ref en0) ∧ Fr n0 L ∧ Keep h0 h []
set_option maxRecDepth 65536 in
set_option maxHeartbeats 40000000 in
theorem rmP0 (l : Launch) (Z : State) (aV : Array Value) (hw : ∀ d ∈ tables_1, d.before aV Z = true) (ws : List Jvm.Cond) (a0 : Addr) (vv : Addr) (kv : ClassId) (en0 : Addr) (en1 : Addr) (en2 : Addr) (en3 : Addr) (sn0 : Addr) (tn0 : Addr) (kn0 : ClassId) (sn1 : Addr) (tn1 : Addr) (kn1 : ClassId) (sn2 : Addr) (tn2 : Addr) (kn2 : ClassId) (sn3 : Addr) (tn3 : Addr) (kn3 : ClassId) (ta : Addr) (ka : ClassId) (na : Int32) (NG : Nat) (G : Nat → Int32) (cs : Int32) (h0 : Heap) (n0 : Nat) (O0 : Old Z n0 h0) (Si0 : Sta Z Z.heap "com/example/recurr/recurr/BillingFrequency" "$VALUES" "[Lcom/example/recurr/recurr/BillingFrequency;" (.ref vv)) (OVi1 : Arv Z Z.heap vv kv (.object "com/example/recurr/recurr/BillingFrequency") (4 : Int32) [(.ref en0), (.ref en1), (.ref en2), (.ref en3)] .null) (OEi2 : Exa Z Z.heap vv "[Lcom/example/recurr/recurr/BillingFrequency;") (OFi3 : Fld Z Z.heap en0 "com/example/recurr/recurr/BillingFrequency" "name" "Ljava/lang/String;" (.ref sn0)) (OEi4 : Exa Z Z.heap sn0 "java/lang/String") (OFi5 : Fld Z Z.heap sn0 "java/lang/String" "coder" "B" (.int (0 : Int32))) (OFi6 : Fld Z Z.heap sn0 "java/lang/String" "value" "[B" (.ref tn0)) (OVi7 : Arv Z Z.heap tn0 kn0 .byte (7 : Int32) (own_tab own_n0 7) (.int (0 : Int32))) (OFi8 : Fld Z Z.heap en1 "com/example/recurr/recurr/BillingFrequency" "name" "Ljava/lang/String;" (.ref sn1)) (OEi9 : Exa Z Z.heap sn1 "java/lang/String") (OFi10 : Fld Z Z.heap sn1 "java/lang/String" "coder" "B" (.int (0 : Int32))) (OFi11 : Fld Z Z.heap sn1 "java/lang/String" "value" "[B" (.ref tn1)) (OVi12 : Arv Z Z.heap tn1 kn1 .byte (9 : Int32) (own_tab own_n1 9) (.int (0 : Int32))) (OFi13 : Fld Z Z.heap en2 "com/example/recurr/recurr/BillingFrequency" "name" "Ljava/lang/String;" (.ref sn2)) (OEi14 : Exa Z Z.heap sn2 "java/lang/String") (OFi15 : Fld Z Z.heap sn2 "java/lang/String" "coder" "B" (.int (0 : Int32))) (OFi16 : Fld Z Z.heap sn2 "java/lang/String" "value" "[B" (.ref tn2)) (OVi17 : Arv Z Z.heap tn2 kn2 .byte (11 : Int32) (own_tab own_n2 11) (.int (0 : Int32))) (OFi18 : Fld Z Z.heap en3 "com/example/recurr/recurr/BillingFrequency" "name" "Ljava/lang/String;" (.ref sn3)) (OEi19 : Exa Z Z.heap sn3 "java/lang/String") (OFi20 : Fld Z Z.heap sn3 "java/lang/String" "coder" "B" (.int (0 : Int32))) (OFi21 : Fld Z Z.heap sn3 "java/lang/String" "value" "[B" (.ref tn3)) (OVi22 : Arv Z Z.heap tn3 kn3 .byte (6 : Int32) (own_tab own_n3 6) (.int (0 : Int32))) (Si23 : Sta Z Z.heap "java/lang/String" "COMPACT_STRINGS" "Z" (.int cs)) (hcs : ¬ cs = (0 : Int32)) (gi25 : n0 ≤ a0) (Ei26 : Exa Z h0 a0 "java/lang/String") (Fi27 : Fld Z h0 a0 "java/lang/String" "coder" "B" (.int (0 : Int32))) (Fi28 : Fld Z h0 a0 "java/lang/String" "value" "[B" (.ref ta)) (Vi29 : Arv Z h0 ta ka .byte na (own_tab G NG) (.int (0 : Int32))) (hng : na.toInt = NG) (he0 : own_eqv 7 NG own_n0 G = 1) :
    MetFree l (⟨"com/example/recurr/recurr/BillingFrequency", "parse", "(Ljava/lang/String;)Lcom/example/recurr/recurr/BillingFrequency;"⟩ : MethodName) (head1 (Jvm.Cond.code (⟨"com/example/recurr/recurr/BillingFrequency", "parse", "(Ljava/lang/String;)Lcom/example/recurr/recurr/BillingFrequency;"⟩ : MethodName) prog_4_method_4_code 5 (some (.object "com/example/recurr/recurr/BillingFrequency")) :: ws) ({ frames := 2, cells := 1, slots := 4, locals := 28 } : Room)) (fun a U => a = #[(.ref a0)] ∧ Z.Warmed39 U.vm ∧ U.heap = h0) (fun _ _ _ _ _ => True) (fun _ U o U' => ∃ v L, o = .returned v ∧ QrmP0 Z a0 vv kv en0 en1 en2 en3 sn0 tn0 kn0 sn1 tn1 kn1 sn2 tn2 kn2 sn3 tn3 kn3 ta ka na NG G cs h0 n0 v U'.heap L ∧ FrameEnd U o U' L ({ frames := 2, cells := 1, slots := 4, locals := 28 } : Room).cells ({ frames := 2, cells := 1, slots := 4, locals := 28 } : Room).slots) := by
  refine MetFree.of_bodySF (plainFor_of_name pn_com_example_recurr_recurr_BillingFrequency) hisR ?_
  intro p e s m args below meth c s₁ Bd hml0 hP hK
  obtain ⟨rfl, hZ, hh⟩ := hP
  have hx := Bd.exec
  have hby := Bd.bytes
  have hml : c.maxLocals = 5 := hml0
  have hown : s.vm.findClass "com/example/recurr/recurr/BillingFrequency" = some m.cls := findClass_of_methodNamed Bd.named
  have hnm := (name_of_methodNamed Bd.named Bd.method).1
  have X0 : Stand p l e ({ frames := 2, cells := 1, slots := 4, locals := 28 } : Room) s m #[(.ref a0)] below meth c s₁ [] 0 0 := Stand.of_body Bd
  have e0 : s₁.heap = h0 := by rw [← hh, Bd.state]; rfl
  have N0 := Fr.nil n0
  show Run p.tables e below (Wd s (QrmP0 Z a0 vv kv en0 en1 en2 en3 sn0 tn0 kn0 sn1 tn1 kn1 sn2 tn2 kn2 sn3 tn3 kn3 ta ka na NG G cs h0 n0) ({ frames := 2, cells := 1, slots := 4, locals := 28 } : Room).cells ({ frames := 2, cells := 1, slots := 4, locals := 28 } : Room).slots) s₁ (entryFrame m #[(.ref a0)] 5)
  rw [ef_rmP0 m a0]
  obtain ⟨T1, v1, L1, X1, hQ1, st1⟩ := own_gotS X0 (Jvm.LawKit.callS X0 hx (y := (⟨"com/example/recurr/recurr/BillingFrequency", "values", "()[Lcom/example/recurr/recurr/BillingFrequency;"⟩ : MethodName)) hown (mvT hZ (hw _ (List.mem_of_getElem? (i := 36) rfl))) (mvT hZ (hw _ (List.mem_of_getElem? (i := 37) rfl))) (mvT hZ (hw _ (List.mem_of_getElem? (i := 31) rfl))) (mvT hZ (hw _ (List.mem_of_getElem? (i := 38) rfl))) (by decide) (backOf (W := 0) (rm8 l Z aV hw [] vv kv en0 en1 en2 en3 h0 n0 O0 Si0 OVi1 OEi2) hZ (hw _ (List.mem_of_getElem? (i := 38) rfl)) (hw _ (List.mem_of_getElem? (i := 31) rfl)) (by decide) (by decide)) (g := (mkF m 0 #[.val (.ref a0), .unset, .unset, .unset, .unset] [])) rfl (by rw [hml]; rfl) (argsL := []) (rest := []) (lenOf pd__28_29_5bLcom_2fexample_2frecurr_2frecurr_2fBillingFrequency_3b rfl) rfl (by show 2 * 0 + _ ≤ _; exact Nat.le_of_eq rfl) (hb hby d7_0) (fun _ _ => ⟨rfl, e0, (by decide : 0 + 1 ≤ _), (by decide : 0 + 4 ≤ _)⟩))
  obtain ⟨b_1, rfl, N1q, Q1_0, Q1_1, Q1_2⟩ := hQ1
  have N1 := Fr.app N0 N1q
  obtain ⟨h1, e1⟩ : ∃ z, T1.heap = z := ⟨_, rfl⟩
  rw [e1] at Q1_0 Q1_2
  have O2 : Old Z n0 h1 := O0.keep Q1_0 all0
  have K3 : Keep h0 h1 [] := (Keep.refl h0 []).trans Q1_0 all0
  have gg1_1 : n0 ≤ b_1 := Nat.le_trans (own_le O0) Q1_1
  have sz1_1 : h0.size ≤ b_1 := (Nat.le_trans (Keep.refl h0 []).1 Q1_1)
  refine run_fwd (T' := T1) (g' := (mkF m 3 #[.val (.ref a0), .unset, .unset, .unset, .unset] [(.ref b_1)])) (fun _ k => st1 _ k) ?_
  refine run_fwd (T' := T1) (g' := (mkF m 4 #[.val (.ref a0), .val (.ref b_1), .unset, .unset, .unset] [])) (fun _ k => XS.astoreN X1.here hx rfl (hb hby d7_3) rfl rfl (l' := #[.val (.ref a0), .val (.ref b_1), .unset, .unset, .unset]) rfl k) ?_
  refine run_fwd (T' := T1) (g' := (mkF m 5 #[.val (.ref a0), .val (.ref b_1), .unset, .unset, .unset] [(.ref b_1)])) (fun _ k => XS.aloadN X1.here hx rfl (hb hby d7_4) rfl rfl k) ?_
  obtain ⟨cl4, Ar4, -, S4, M4, -, -⟩ := id (Q1_2)
  refine run_fwd (T' := T1) (g' := (mkF m 6 #[.val (.ref a0), .val (.ref b_1), .unset, .unset, .unset] [(.int (4 : Int32))])) (fun _ k => X1.arraylength hx (by rw [e1]; exact Ar4.1) (State.isArrayOf_alike hZ.alike Ar4.2.1) (g := (mkF m 5 #[.val (.ref a0), .val (.ref b_1), .unset, .unset, .unset] [(.ref b_1)])) rfl rfl (hb hby d7_5) _ (by rw [len_of S4 M4]; exact k)) ?_
  refine run_fwd (T' := T1) (g' := (mkF m 7 #[.val (.ref a0), .val (.ref b_1), .val (.int (4 : Int32)), .unset, .unset] [])) (fun _ k => XS.istoreN X1.here hx rfl (hb hby d7_6) rfl (l' := #[.val (.ref a0), .val (.ref b_1), .val (.int (4 : Int32)), .unset, .unset]) rfl k) ?_
  refine run_fwd (T' := T1) (g' := (mkF m 8 #[.val (.ref a0), .val (.ref b_1), .val (.int (4 : Int32)), .unset, .unset] [(.int (0 : Int32))])) (fun _ k => XS.iconst X1.here hx rfl (hb hby d7_7) k) ?_
  refine run_fwd (T' := T1) (g' := (mkF m 9 #[.val (.ref a0), .val (.ref b_1), .val (.int (4 : Int32)), .val (.int (0 : Int32)), .unset] [])) (fun _ k => XS.istoreN X1.here hx rfl (hb hby d7_8) rfl (l' := #[.val (.ref a0), .val (.ref b_1), .val (.int (4 : Int32)), .val (.int (0 : Int32)), .unset]) rfl k) ?_
  refine run_fwd (T' := T1) (g' := (mkF m 10 #[.val (.ref a0), .val (.ref b_1), .val (.int (4 : Int32)), .val (.int (0 : Int32)), .unset] [(.int (0 : Int32))])) (fun _ k => XS.iloadN X1.here hx rfl (hb hby d7_9) rfl k) ?_
  refine run_fwd (T' := T1) (g' := (mkF m 11 #[.val (.ref a0), .val (.ref b_1), .val (.int (4 : Int32)), .val (.int (0 : Int32)), .unset] [(.int (4 : Int32)), (.int (0 : Int32))])) (fun _ k => XS.iloadN X1.here hx rfl (hb hby d7_10) rfl k) ?_
  have hc11_5 : (0 : Int32) < (4 : Int32) := (by decide)
  refine run_fwd (T' := T1) (g' := (mkF m 14 #[.val (.ref a0), .val (.ref b_1), .val (.int (4 : Int32)), .val (.int (0 : Int32)), .unset] [])) (fun _ k => XS.icmpNo X1.here hx rfl (hb hby d7_11) rfl (tlt hc11_5).2.1 k) ?_
  refine run_fwd (T' := T1) (g' := (mkF m 15 #[.val (.ref a0), .val (.ref b_1), .val (.int (4 : Int32)), .val (.int (0 : Int32)), .unset] [(.ref b_1)])) (fun _ k => XS.aloadN X1.here hx rfl (hb hby d7_14) rfl rfl k) ?_
  refine run_fwd (T' := T1) (g' := (mkF m 16 #[.val (.ref a0), .val (.ref b_1), .val (.int (4 : Int32)), .val (.int (0 : Int32)), .unset] [(.int (0 : Int32)), (.ref b_1)])) (fun _ k => XS.iloadN X1.here hx rfl (hb hby d7_15) rfl k) ?_
  obtain ⟨cl6, Ar6, -, S6, M6, Hh6, -⟩ := id (Q1_2)
  have hin6 : ¬ ((0 : Int32) < 0 ∨ cl6.slots.size ≤ ((0 : Int32)).toNatClampNeg) := inb_of S6 ⟨by decide, by decide⟩
  have hat6 : cl6.slots[((0 : Int32)).toNatClampNeg]? = some (.ref en0) := Hh6.at hin6 rfl
  refine run_fwd (T' := T1) (g' := (mkF m 17 #[.val (.ref a0), .val (.ref b_1), .val (.int (4 : Int32)), .val (.int (0 : Int32)), .unset] [(.ref en0)])) (fun _ k => X1.aaload hx (j := (0 : Int32)) (v := (.ref en0)) (by rw [e1]; exact Ar6.1) (State.isArrayOf_alike hZ.alike Ar6.2.1) rfl Ar6.2.2 hin6 hat6 (g := (mkF m 16 #[.val (.ref a0), .val (.ref b_1), .val (.int (4 : Int32)), .val (.int (0 : Int32)), .unset] [(.int (0 : Int32)), (.ref b_1)])) rfl rfl (hb hby d7_16) _ k) ?_
  refine run_fwd (T' := T1) (g' := (mkF m 19 #[.val (.ref a0), .val (.ref b_1), .val (.int (4 : Int32)), .val (.int (0 : Int32)), .val (.ref en0)] [])) (fun _ k => XS.astore X1.here hx rfl (hb hby d7_17) rfl rfl (l' := #[.val (.ref a0), .val (.ref b_1), .val (.int (4 : Int32)), .val (.int (0 : Int32)), .val (.ref en0)]) rfl k) ?_
  refine run_fwd (T' := T1) (g' := (mkF m 21 #[.val (.ref a0), .val (.ref b_1), .val (.int (4 : Int32)), .val (.int (0 : Int32)), .val (.ref en0)] [(.ref en0)])) (fun _ k => XS.aload X1.here hx rfl (hb hby d7_19) rfl rfl k) ?_
  obtain ⟨T7, X7, e7, st7⟩ := getF X1 hx hZ hown (host := "") (Or.inl (hw _ (List.mem_of_getElem? (i := 54) rfl))) Via.refl e1 (OFi3.ext O2.2) (g := (mkF m 21 #[.val (.ref a0), .val (.ref b_1), .val (.int (4 : Int32)), .val (.int (0 : Int32)), .val (.ref en0)] [(.ref en0)])) rfl rfl (hb hby d7_21)
  refine run_fwd (T' := T7) (g' := (mkF m 24 #[.val (.ref a0), .val (.ref b_1), .val (.int (4 : Int32)), .val (.int (0 : Int32)), .val (.ref en0)] [(.ref sn0)])) (fun _ k => st7 _ k) ?_
  refine run_fwd (T' := T7) (g' := (mkF m 25 #[.val (.ref a0), .val (.ref b_1), .val (.int (4 : Int32)), .val (.int (0 : Int32)), .val (.ref en0)] [(.ref a0), (.ref sn0)])) (fun _ k => XS.aloadN X7.here hx rfl (hb hby d7_24) rfl rfl k) ?_
  have f9 : Exa Z h1 a0 "java/lang/String" := (Ei26.keep Q1_0)
  have f10 : Fld Z h1 a0 "java/lang/String" "coder" "B" (.int (0 : Int32)) := (Fi27.keep Q1_0 nin0)
  have f11 : Fld Z h1 a0 "java/lang/String" "value" "[B" (.ref ta) := (Fi28.keep Q1_0 nin0)
  have f12 : Arv Z h1 ta ka .byte na (own_tab G NG) (.int (0 : Int32)) := (Vi29.keep Q1_0 nin0)
  obtain ⟨cq8, kq8, qr8a, qr8b, qr8c⟩ := isOf hZ e7 (OEi4.ext O2.2)
  obtain ⟨T8, v8, L8, X8, hQ8, st8⟩ := own_gotV X7 (X7.virtualBack hx (y := (⟨"java/lang/String", "equals", "(Ljava/lang/Object;)Z"⟩ : MethodName)) (z := (⟨"java/lang/String", "equals", "(Ljava/lang/Object;)Z"⟩ : MethodName)) hown (mvT hZ (hw _ (List.mem_of_getElem? (i := 56) rfl))) (mvT hZ (hw _ (List.mem_of_getElem? (i := 57) rfl))) (notFace_of_selects (args := #[]) (mvT hZ (hw _ (List.mem_of_getElem? (i := 59) rfl)))) (mvT hZ (hw _ (List.mem_of_getElem? (i := 59) rfl))) (mvT hZ (hw _ (List.mem_of_getElem? (i := 58) rfl))) (by decide) (backOf (W := 0) (rmEq l Z aV hw [] sn0 a0 tn0 ta kn0 ka (7 : Int32) na 7 NG own_n0 G cs h1 n0 O2 f9 (OFi5.ext O2.2) f10 (OFi6.ext O2.2) f11 (OVi7.ext O2.2) f12 Si23 (hcs) ((O0.ne OEi4.lt gi25)) (by decide) (hng) (by decide)) hZ (hw _ (List.mem_of_getElem? (i := 60) rfl)) (hw _ (List.mem_of_getElem? (i := 2) rfl)) (by decide) (by decide)) qr8a qr8c (g := (mkF m 25 #[.val (.ref a0), .val (.ref b_1), .val (.int (4 : Int32)), .val (.int (0 : Int32)), .val (.ref en0)] [(.ref a0), (.ref sn0)])) rfl (by rw [hml]; rfl) (Steps.refl _) (argsL := [(.ref a0)]) (rest := []) (lenOf pd__28Ljava_2flang_2fObject_3b_29Z rfl) rfl (by show 2 * 0 + _ ≤ _; exact Nat.le_of_eq rfl) (hb hby d7_25) (fun _ _ => ⟨rfl, e7, (by decide : 1 + 0 ≤ _), (by decide : 4 + 0 ≤ _)⟩))
  obtain ⟨rfl, N8q, Q8_0⟩ := hQ8
  have N8 := Fr.app N1 N8q
  refine run_fwd (T' := T8) (g' := (mkF m 28 #[.val (.ref a0), .val (.ref b_1), .val (.int (4 : Int32)), .val (.int (0 : Int32)), .val (.ref en0)] [(.int (own_eqv 7 NG own_n0 G))])) (fun _ k => st8.trans k) ?_
  have hc28_13 : ¬ ((own_eqv 7 NG own_n0 G) = (0 : Int32)) := by rw [he0]; decide
  refine run_fwd (T' := T8) (g' := (mkF m 31 #[.val (.ref a0), .val (.ref b_1), .val (.int (4 : Int32)), .val (.int (0 : Int32)), .val (.ref en0)] [])) (fun _ k => XS.ifNo X8.here hx rfl (hb hby d7_28) rfl ((if0 _ _).trans (feq hc28_13).1) k) ?_
  refine run_fwd (T' := T8) (g' := (mkF m 33 #[.val (.ref a0), .val (.ref b_1), .val (.int (4 : Int32)), .val (.int (0 : Int32)), .val (.ref en0)] [(.ref en0)])) (fun _ k => XS.aload X8.here hx rfl (hb hby d7_31) rfl rfl k) ?_
  exact run_ret X8 hx Bd.returns Bd.notSynchronized rfl (Or.inr (Or.inr (Or.inr (Or.inr ⟨rfl, rfl, rfl⟩)))) (hb hby d7_33) (by rw [Q8_0]; exact ⟨rfl, N8, K3⟩) (by decide) (by decide)
theorem d7_34 : decode prog_4_method_4_code 34 = .ok (.iinc 3 1, 3) := by decide +kernel
theorem d7_37 : decode prog_4_method_4_code 37 = .ok (.goto (-28), 3) := by decide +kernel
theorem ef_rmP1 (m : MethodId) (x0 : Addr) : entryFrame m #[(.ref x0)] 5 = mkF m 0 #[.val (.ref x0), .unset, .unset, .unset, .unset] [] := by first | (simp [entryFrame, mkF, argsToLocals, Value.category]; done) | rfl
def QrmP1 (Z : State) (a0 : Addr) (vv : Addr) (kv : ClassId) (en0 : Addr) (en1 : Addr) (en2 : Addr) (en3 : Addr) (sn0 : Addr) (tn0 : Addr) (kn0 : ClassId) (sn1 : Addr) (tn1 : Addr) (kn1 : ClassId) (sn2 : Addr) (tn2 : Addr) (kn2 : ClassId) (sn3 : Addr) (tn3 : Addr) (kn3 : ClassId) (ta : Addr) (ka : ClassId) (na : Int32) (NG : Nat) (G : Nat → Int32) (cs : Int32) (h0 : Heap) (n0 : Nat) (v : Option Value) (h : Heap) (L : List Loc) : Prop := v = some (.ref en1) ∧ Fr n0 L ∧ Keep h0 h []
set_option maxRecDepth 65536 in
set_option maxHeartbeats 40000000 in
theorem rmP1 (l : Launch) (Z : State) (aV : Array Value) (hw : ∀ d ∈ tables_1, d.before aV Z = true) (ws : List Jvm.Cond) (a0 : Addr) (vv : Addr) (kv : ClassId) (en0 : Addr) (en1 : Addr) (en2 : Addr) (en3 : Addr) (sn0 : Addr) (tn0 : Addr) (kn0 : ClassId) (sn1 : Addr) (tn1 : Addr) (kn1 : ClassId) (sn2 : Addr) (tn2 : Addr) (kn2 : ClassId) (sn3 : Addr) (tn3 : Addr) (kn3 : ClassId) (ta : Addr) (ka : ClassId) (na : Int32) (NG : Nat) (G : Nat → Int32) (cs : Int32) (h0 : Heap) (n0 : Nat) (O0 : Old Z n0 h0) (Si0 : Sta Z Z.heap "com/example/recurr/recurr/BillingFrequency" "$VALUES" "[Lcom/example/recurr/recurr/BillingFrequency;" (.ref vv)) (OVi1 : Arv Z Z.heap vv kv (.object "com/example/recurr/recurr/BillingFrequency") (4 : Int32) [(.ref en0), (.ref en1), (.ref en2), (.ref en3)] .null) (OEi2 : Exa Z Z.heap vv "[Lcom/example/recurr/recurr/BillingFrequency;") (OFi3 : Fld Z Z.heap en0 "com/example/recurr/recurr/BillingFrequency" "name" "Ljava/lang/String;" (.ref sn0)) (OEi4 : Exa Z Z.heap sn0 "java/lang/String") (OFi5 : Fld Z Z.heap sn0 "java/lang/String" "coder" "B" (.int (0 : Int32))) (OFi6 : Fld Z Z.heap sn0 "java/lang/String" "value" "[B" (.ref tn0)) (OVi7 : Arv Z Z.heap tn0 kn0 .byte (7 : Int32) (own_tab own_n0 7) (.int (0 : Int32))) (OFi8 : Fld Z Z.heap en1 "com/example/recurr/recurr/BillingFrequency" "name" "Ljava/lang/String;" (.ref sn1)) (OEi9 : Exa Z Z.heap sn1 "java/lang/String") (OFi10 : Fld Z Z.heap sn1 "java/lang/String" "coder" "B" (.int (0 : Int32))) (OFi11 : Fld Z Z.heap sn1 "java/lang/String" "value" "[B" (.ref tn1)) (OVi12 : Arv Z Z.heap tn1 kn1 .byte (9 : Int32) (own_tab own_n1 9) (.int (0 : Int32))) (OFi13 : Fld Z Z.heap en2 "com/example/recurr/recurr/BillingFrequency" "name" "Ljava/lang/String;" (.ref sn2)) (OEi14 : Exa Z Z.heap sn2 "java/lang/String") (OFi15 : Fld Z Z.heap sn2 "java/lang/String" "coder" "B" (.int (0 : Int32))) (OFi16 : Fld Z Z.heap sn2 "java/lang/String" "value" "[B" (.ref tn2)) (OVi17 : Arv Z Z.heap tn2 kn2 .byte (11 : Int32) (own_tab own_n2 11) (.int (0 : Int32))) (OFi18 : Fld Z Z.heap en3 "com/example/recurr/recurr/BillingFrequency" "name" "Ljava/lang/String;" (.ref sn3)) (OEi19 : Exa Z Z.heap sn3 "java/lang/String") (OFi20 : Fld Z Z.heap sn3 "java/lang/String" "coder" "B" (.int (0 : Int32))) (OFi21 : Fld Z Z.heap sn3 "java/lang/String" "value" "[B" (.ref tn3)) (OVi22 : Arv Z Z.heap tn3 kn3 .byte (6 : Int32) (own_tab own_n3 6) (.int (0 : Int32))) (Si23 : Sta Z Z.heap "java/lang/String" "COMPACT_STRINGS" "Z" (.int cs)) (hcs : ¬ cs = (0 : Int32)) (gi25 : n0 ≤ a0) (Ei26 : Exa Z h0 a0 "java/lang/String") (Fi27 : Fld Z h0 a0 "java/lang/String" "coder" "B" (.int (0 : Int32))) (Fi28 : Fld Z h0 a0 "java/lang/String" "value" "[B" (.ref ta)) (Vi29 : Arv Z h0 ta ka .byte na (own_tab G NG) (.int (0 : Int32))) (hng : na.toInt = NG) (he0 : own_eqv 7 NG own_n0 G = 0) (he1 : own_eqv 9 NG own_n1 G = 1) :
    MetFree l (⟨"com/example/recurr/recurr/BillingFrequency", "parse", "(Ljava/lang/String;)Lcom/example/recurr/recurr/BillingFrequency;"⟩ : MethodName) (head1 (Jvm.Cond.code (⟨"com/example/recurr/recurr/BillingFrequency", "parse", "(Ljava/lang/String;)Lcom/example/recurr/recurr/BillingFrequency;"⟩ : MethodName) prog_4_method_4_code 5 (some (.object "com/example/recurr/recurr/BillingFrequency")) :: ws) ({ frames := 2, cells := 1, slots := 4, locals := 28 } : Room)) (fun a U => a = #[(.ref a0)] ∧ Z.Warmed39 U.vm ∧ U.heap = h0) (fun _ _ _ _ _ => True) (fun _ U o U' => ∃ v L, o = .returned v ∧ QrmP1 Z a0 vv kv en0 en1 en2 en3 sn0 tn0 kn0 sn1 tn1 kn1 sn2 tn2 kn2 sn3 tn3 kn3 ta ka na NG G cs h0 n0 v U'.heap L ∧ FrameEnd U o U' L ({ frames := 2, cells := 1, slots := 4, locals := 28 } : Room).cells ({ frames := 2, cells := 1, slots := 4, locals := 28 } : Room).slots) := by
  refine MetFree.of_bodySF (plainFor_of_name pn_com_example_recurr_recurr_BillingFrequency) hisR ?_
  intro p e s m args below meth c s₁ Bd hml0 hP hK
  obtain ⟨rfl, hZ, hh⟩ := hP
  have hx := Bd.exec
  have hby := Bd.bytes
  have hml : c.maxLocals = 5 := hml0
  have hown : s.vm.findClass "com/example/recurr/recurr/BillingFrequency" = some m.cls := findClass_of_methodNamed Bd.named
  have hnm := (name_of_methodNamed Bd.named Bd.method).1
  have X0 : Stand p l e ({ frames := 2, cells := 1, slots := 4, locals := 28 } : Room) s m #[(.ref a0)] below meth c s₁ [] 0 0 := Stand.of_body Bd
  have e0 : s₁.heap = h0 := by rw [← hh, Bd.state]; rfl
  have N0 := Fr.nil n0
  show Run p.tables e below (Wd s (QrmP1 Z a0 vv kv en0 en1 en2 en3 sn0 tn0 kn0 sn1 tn1 kn1 sn2 tn2 kn2 sn3 tn3 kn3 ta ka na NG G cs h0 n0) ({ frames := 2, cells := 1, slots := 4, locals := 28 } : Room).cells ({ frames := 2, cells := 1, slots := 4, locals := 28 } : Room).slots) s₁ (entryFrame m #[(.ref a0)] 5)
  rw [ef_rmP1 m a0]
  obtain ⟨T1, v1, L1, X1, hQ1, st1⟩ := own_gotS X0 (Jvm.LawKit.callS X0 hx (y := (⟨"com/example/recurr/recurr/BillingFrequency", "values", "()[Lcom/example/recurr/recurr/BillingFrequency;"⟩ : MethodName)) hown (mvT hZ (hw _ (List.mem_of_getElem? (i := 36) rfl))) (mvT hZ (hw _ (List.mem_of_getElem? (i := 37) rfl))) (mvT hZ (hw _ (List.mem_of_getElem? (i := 31) rfl))) (mvT hZ (hw _ (List.mem_of_getElem? (i := 38) rfl))) (by decide) (backOf (W := 0) (rm8 l Z aV hw [] vv kv en0 en1 en2 en3 h0 n0 O0 Si0 OVi1 OEi2) hZ (hw _ (List.mem_of_getElem? (i := 38) rfl)) (hw _ (List.mem_of_getElem? (i := 31) rfl)) (by decide) (by decide)) (g := (mkF m 0 #[.val (.ref a0), .unset, .unset, .unset, .unset] [])) rfl (by rw [hml]; rfl) (argsL := []) (rest := []) (lenOf pd__28_29_5bLcom_2fexample_2frecurr_2frecurr_2fBillingFrequency_3b rfl) rfl (by show 2 * 0 + _ ≤ _; exact Nat.le_of_eq rfl) (hb hby d7_0) (fun _ _ => ⟨rfl, e0, (by decide : 0 + 1 ≤ _), (by decide : 0 + 4 ≤ _)⟩))
  obtain ⟨b_1, rfl, N1q, Q1_0, Q1_1, Q1_2⟩ := hQ1
  have N1 := Fr.app N0 N1q
  obtain ⟨h1, e1⟩ : ∃ z, T1.heap = z := ⟨_, rfl⟩
  rw [e1] at Q1_0 Q1_2
  have O2 : Old Z n0 h1 := O0.keep Q1_0 all0
  have K3 : Keep h0 h1 [] := (Keep.refl h0 []).trans Q1_0 all0
  have gg1_1 : n0 ≤ b_1 := Nat.le_trans (own_le O0) Q1_1
  have sz1_1 : h0.size ≤ b_1 := (Nat.le_trans (Keep.refl h0 []).1 Q1_1)
  refine run_fwd (T' := T1) (g' := (mkF m 3 #[.val (.ref a0), .unset, .unset, .unset, .unset] [(.ref b_1)])) (fun _ k => st1 _ k) ?_
  refine run_fwd (T' := T1) (g' := (mkF m 4 #[.val (.ref a0), .val (.ref b_1), .unset, .unset, .unset] [])) (fun _ k => XS.astoreN X1.here hx rfl (hb hby d7_3) rfl rfl (l' := #[.val (.ref a0), .val (.ref b_1), .unset, .unset, .unset]) rfl k) ?_
  refine run_fwd (T' := T1) (g' := (mkF m 5 #[.val (.ref a0), .val (.ref b_1), .unset, .unset, .unset] [(.ref b_1)])) (fun _ k => XS.aloadN X1.here hx rfl (hb hby d7_4) rfl rfl k) ?_
  obtain ⟨cl4, Ar4, -, S4, M4, -, -⟩ := id (Q1_2)
  refine run_fwd (T' := T1) (g' := (mkF m 6 #[.val (.ref a0), .val (.ref b_1), .unset, .unset, .unset] [(.int (4 : Int32))])) (fun _ k => X1.arraylength hx (by rw [e1]; exact Ar4.1) (State.isArrayOf_alike hZ.alike Ar4.2.1) (g := (mkF m 5 #[.val (.ref a0), .val (.ref b_1), .unset, .unset, .unset] [(.ref b_1)])) rfl rfl (hb hby d7_5) _ (by rw [len_of S4 M4]; exact k)) ?_
  refine run_fwd (T' := T1) (g' := (mkF m 7 #[.val (.ref a0), .val (.ref b_1), .val (.int (4 : Int32)), .unset, .unset] [])) (fun _ k => XS.istoreN X1.here hx rfl (hb hby d7_6) rfl (l' := #[.val (.ref a0), .val (.ref b_1), .val (.int (4 : Int32)), .unset, .unset]) rfl k) ?_
  refine run_fwd (T' := T1) (g' := (mkF m 8 #[.val (.ref a0), .val (.ref b_1), .val (.int (4 : Int32)), .unset, .unset] [(.int (0 : Int32))])) (fun _ k => XS.iconst X1.here hx rfl (hb hby d7_7) k) ?_
  refine run_fwd (T' := T1) (g' := (mkF m 9 #[.val (.ref a0), .val (.ref b_1), .val (.int (4 : Int32)), .val (.int (0 : Int32)), .unset] [])) (fun _ k => XS.istoreN X1.here hx rfl (hb hby d7_8) rfl (l' := #[.val (.ref a0), .val (.ref b_1), .val (.int (4 : Int32)), .val (.int (0 : Int32)), .unset]) rfl k) ?_
  refine run_fwd (T' := T1) (g' := (mkF m 10 #[.val (.ref a0), .val (.ref b_1), .val (.int (4 : Int32)), .val (.int (0 : Int32)), .unset] [(.int (0 : Int32))])) (fun _ k => XS.iloadN X1.here hx rfl (hb hby d7_9) rfl k) ?_
  refine run_fwd (T' := T1) (g' := (mkF m 11 #[.val (.ref a0), .val (.ref b_1), .val (.int (4 : Int32)), .val (.int (0 : Int32)), .unset] [(.int (4 : Int32)), (.int (0 : Int32))])) (fun _ k => XS.iloadN X1.here hx rfl (hb hby d7_10) rfl k) ?_
  have hc11_5 : (0 : Int32) < (4 : Int32) := (by decide)
  refine run_fwd (T' := T1) (g' := (mkF m 14 #[.val (.ref a0), .val (.ref b_1), .val (.int (4 : Int32)), .val (.int (0 : Int32)), .unset] [])) (fun _ k => XS.icmpNo X1.here hx rfl (hb hby d7_11) rfl (tlt hc11_5).2.1 k) ?_
  refine run_fwd (T' := T1) (g' := (mkF m 15 #[.val (.ref a0), .val (.ref b_1), .val (.int (4 : Int32)), .val (.int (0 : Int32)), .unset] [(.ref b_1)])) (fun _ k => XS.aloadN X1.here hx rfl (hb hby d7_14) rfl rfl k) ?_
  refine run_fwd (T' := T1) (g' := (mkF m 16 #[.val (.ref a0), .val (.ref b_1), .val (.int (4 : Int32)), .val (.int (0 : Int32)), .unset] [(.int (0 : Int32)), (.ref b_1)])) (fun _ k => XS.iloadN X1.here hx rfl (hb hby d7_15) rfl k) ?_
  obtain ⟨cl6, Ar6, -, S6, M6, Hh6, -⟩ := id (Q1_2)
  have hin6 : ¬ ((0 : Int32) < 0 ∨ cl6.slots.size ≤ ((0 : Int32)).toNatClampNeg) := inb_of S6 ⟨by decide, by decide⟩
  have hat6 : cl6.slots[((0 : Int32)).toNatClampNeg]? = some (.ref en0) := Hh6.at hin6 rfl
  refine run_fwd (T' := T1) (g' := (mkF m 17 #[.val (.ref a0), .val (.ref b_1), .val (.int (4 : Int32)), .val (.int (0 : Int32)), .unset] [(.ref en0)])) (fun _ k => X1.aaload hx (j := (0 : Int32)) (v := (.ref en0)) (by rw [e1]; exact Ar6.1) (State.isArrayOf_alike hZ.alike Ar6.2.1) rfl Ar6.2.2 hin6 hat6 (g := (mkF m 16 #[.val (.ref a0), .val (.ref b_1), .val (.int (4 : Int32)), .val (.int (0 : Int32)), .unset] [(.int (0 : Int32)), (.ref b_1)])) rfl rfl (hb hby d7_16) _ k) ?_
  refine run_fwd (T' := T1) (g' := (mkF m 19 #[.val (.ref a0), .val (.ref b_1), .val (.int (4 : Int32)), .val (.int (0 : Int32)), .val (.ref en0)] [])) (fun _ k => XS.astore X1.here hx rfl (hb hby d7_17) rfl rfl (l' := #[.val (.ref a0), .val (.ref b_1), .val (.int (4 : Int32)), .val (.int (0 : Int32)), .val (.ref en0)]) rfl k) ?_
  refine run_fwd (T' := T1) (g' := (mkF m 21 #[.val (.ref a0), .val (.ref b_1), .val (.int (4 : Int32)), .val (.int (0 : Int32)), .val (.ref en0)] [(.ref en0)])) (fun _ k => XS.aload X1.here hx rfl (hb hby d7_19) rfl rfl k) ?_
  obtain ⟨T7, X7, e7, st7⟩ := getF X1 hx hZ hown (host := "") (Or.inl (hw _ (List.mem_of_getElem? (i := 54) rfl))) Via.refl e1 (OFi3.ext O2.2) (g := (mkF m 21 #[.val (.ref a0), .val (.ref b_1), .val (.int (4 : Int32)), .val (.int (0 : Int32)), .val (.ref en0)] [(.ref en0)])) rfl rfl (hb hby d7_21)
  refine run_fwd (T' := T7) (g' := (mkF m 24 #[.val (.ref a0), .val (.ref b_1), .val (.int (4 : Int32)), .val (.int (0 : Int32)), .val (.ref en0)] [(.ref sn0)])) (fun _ k => st7 _ k) ?_
  refine run_fwd (T' := T7) (g' := (mkF m 25 #[.val (.ref a0), .val (.ref b_1), .val (.int (4 : Int32)), .val (.int (0 : Int32)), .val (.ref en0)] [(.ref a0), (.ref sn0)])) (fun _ k => XS.aloadN X7.here hx rfl (hb hby d7_24) rfl rfl k) ?_
  have f9 : Exa Z h1 a0 "java/lang/String" := (Ei26.keep Q1_0)
  have f10 : Fld Z h1 a0 "java/lang/String" "coder" "B" (.int (0 : Int32)) := (Fi27.keep Q1_0 nin0)
  have f11 : Fld Z h1 a0 "java/lang/String" "value" "[B" (.ref ta) := (Fi28.keep Q1_0 nin0)
  have f12 : Arv Z h1 ta ka .byte na (own_tab G NG) (.int (0 : Int32)) := (Vi29.keep Q1_0 nin0)
  obtain ⟨cq8, kq8, qr8a, qr8b, qr8c⟩ := isOf hZ e7 (OEi4.ext O2.2)
  obtain ⟨T8, v8, L8, X8, hQ8, st8⟩ := own_gotV X7 (X7.virtualBack hx (y := (⟨"java/lang/String", "equals", "(Ljava/lang/Object;)Z"⟩ : MethodName)) (z := (⟨"java/lang/String", "equals", "(Ljava/lang/Object;)Z"⟩ : MethodName)) hown (mvT hZ (hw _ (List.mem_of_getElem? (i := 56) rfl))) (mvT hZ (hw _ (List.mem_of_getElem? (i := 57) rfl))) (notFace_of_selects (args := #[]) (mvT hZ (hw _ (List.mem_of_getElem? (i := 59) rfl)))) (mvT hZ (hw _ (List.mem_of_getElem? (i := 59) rfl))) (mvT hZ (hw _ (List.mem_of_getElem? (i := 58) rfl))) (by decide) (backOf (W := 0) (rmEq l Z aV hw [] sn0 a0 tn0 ta kn0 ka (7 : Int32) na 7 NG own_n0 G cs h1 n0 O2 f9 (OFi5.ext O2.2) f10 (OFi6.ext O2.2) f11 (OVi7.ext O2.2) f12 Si23 (hcs) ((O0.ne OEi4.lt gi25)) (by decide) (hng) (by decide)) hZ (hw _ (List.mem_of_getElem? (i := 60) rfl)) (hw _ (List.mem_of_getElem? (i := 2) rfl)) (by decide) (by decide)) qr8a qr8c (g := (mkF m 25 #[.val (.ref a0), .val (.ref b_1), .val (.int (4 : Int32)), .val (.int (0 : Int32)), .val (.ref en0)] [(.ref a0), (.ref sn0)])) rfl (by rw [hml]; rfl) (Steps.refl _) (argsL := [(.ref a0)]) (rest := []) (lenOf pd__28Ljava_2flang_2fObject_3b_29Z rfl) rfl (by show 2 * 0 + _ ≤ _; exact Nat.le_of_eq rfl) (hb hby d7_25) (fun _ _ => ⟨rfl, e7, (by decide : 1 + 0 ≤ _), (by decide : 4 + 0 ≤ _)⟩))
  obtain ⟨rfl, N8q, Q8_0⟩ := hQ8
  have N8 := Fr.app N1 N8q
  refine run_fwd (T' := T8) (g' := (mkF m 28 #[.val (.ref a0), .val (.ref b_1), .val (.int (4 : Int32)), .val (.int (0 : Int32)), .val (.ref en0)] [(.int (own_eqv 7 NG own_n0 G))])) (fun _ k => st8.trans k) ?_
  have hc28_13 : (own_eqv 7 NG own_n0 G) = (0 : Int32) := he0
  refine run_fwd (T' := T8) (g' := (mkF m 34 #[.val (.ref a0), .val (.ref b_1), .val (.int (4 : Int32)), .val (.int (0 : Int32)), .val (.ref en0)] [])) (fun _ k => XS.ifYes X8.here hx rfl (pc0 := 28) (pc' := 34) rfl (hb hby d7_28) rfl ((if0 _ _).trans (teq hc28_13).1) (by decide) (by decide) k) ?_
  refine run_fwd (T' := T8) (g' := (mkF m 37 #[.val (.ref a0), .val (.ref b_1), .val (.int (4 : Int32)), .val (.int (1 : Int32)), .val (.ref en0)] [])) (fun _ k => XS.iinc X8.here hx rfl (hb hby d7_34) rfl (l' := #[.val (.ref a0), .val (.ref b_1), .val (.int (4 : Int32)), .val (.int (1 : Int32)), .val (.ref en0)]) rfl k) ?_
  refine run_fwd (T' := T8) (g' := (mkF m 9 #[.val (.ref a0), .val (.ref b_1), .val (.int (4 : Int32)), .val (.int (1 : Int32)), .val (.ref en0)] [])) (fun _ k => XS.goto X8.here hx rfl (pc0 := 37) (pc' := 9) rfl (hb hby d7_37) (by decide) (by decide) k) ?_
  refine run_fwd (T' := T8) (g' := (mkF m 10 #[.val (.ref a0), .val (.ref b_1), .val (.int (4 : Int32)), .val (.int (1 : Int32)), .val (.ref en0)] [(.int (1 : Int32))])) (fun _ k => XS.iloadN X8.here hx rfl (hb hby d7_9) rfl k) ?_
  refine run_fwd (T' := T8) (g' := (mkF m 11 #[.val (.ref a0), .val (.ref b_1), .val (.int (4 : Int32)), .val (.int (1 : Int32)), .val (.ref en0)] [(.int (4 : Int32)), (.int (1 : Int32))])) (fun _ k => XS.iloadN X8.here hx rfl (hb hby d7_10) rfl k) ?_
  have hc11_14 : (1 : Int32) < (4 : Int32) := (by decide)
  refine run_fwd (T' := T8) (g' := (mkF m 14 #[.val (.ref a0), .val (.ref b_1), .val (.int (4 : Int32)), .val (.int (1 : Int32)), .val (.ref en0)] [])) (fun _ k => XS.icmpNo X8.here hx rfl (hb hby d7_11) rfl (tlt hc11_14).2.1 k) ?_
  refine run_fwd (T' := T8) (g' := (mkF m 15 #[.val (.ref a0), .val (.ref b_1), .val (.int (4 : Int32)), .val (.int (1 : Int32)), .val (.ref en0)] [(.ref b_1)])) (fun _ k => XS.aloadN X8.here hx rfl (hb hby d7_14) rfl rfl k) ?_
  refine run_fwd (T' := T8) (g' := (mkF m 16 #[.val (.ref a0), .val (.ref b_1), .val (.int (4 : Int32)), .val (.int (1 : Int32)), .val (.ref en0)] [(.int (1 : Int32)), (.ref b_1)])) (fun _ k => XS.iloadN X8.here hx rfl (hb hby d7_15) rfl k) ?_
  obtain ⟨cl15, Ar15, -, S15, M15, Hh15, -⟩ := id (Q1_2)
  have hin15 : ¬ ((1 : Int32) < 0 ∨ cl15.slots.size ≤ ((1 : Int32)).toNatClampNeg) := inb_of S15 ⟨by decide, by decide⟩
  have hat15 : cl15.slots[((1 : Int32)).toNatClampNeg]? = some (.ref en1) := Hh15.at hin15 rfl
  refine run_fwd (T' := T8) (g' := (mkF m 17 #[.val (.ref a0), .val (.ref b_1), .val (.int (4 : Int32)), .val (.int (1 : Int32)), .val (.ref en0)] [(.ref en1)])) (fun _ k => X8.aaload hx (j := (1 : Int32)) (v := (.ref en1)) (by rw [Q8_0]; exact Ar15.1) (State.isArrayOf_alike hZ.alike Ar15.2.1) rfl Ar15.2.2 hin15 hat15 (g := (mkF m 16 #[.val (.ref a0), .val (.ref b_1), .val (.int (4 : Int32)), .val (.int (1 : Int32)), .val (.ref en0)] [(.int (1 : Int32)), (.ref b_1)])) rfl rfl (hb hby d7_16) _ k) ?_
  refine run_fwd (T' := T8) (g' := (mkF m 19 #[.val (.ref a0), .val (.ref b_1), .val (.int (4 : Int32)), .val (.int (1 : Int32)), .val (.ref en1)] [])) (fun _ k => XS.astore X8.here hx rfl (hb hby d7_17) rfl rfl (l' := #[.val (.ref a0), .val (.ref b_1), .val (.int (4 : Int32)), .val (.int (1 : Int32)), .val (.ref en1)]) rfl k) ?_
  refine run_fwd (T' := T8) (g' := (mkF m 21 #[.val (.ref a0), .val (.ref b_1), .val (.int (4 : Int32)), .val (.int (1 : Int32)), .val (.ref en1)] [(.ref en1)])) (fun _ k => XS.aload X8.here hx rfl (hb hby d7_19) rfl rfl k) ?_
  obtain ⟨T16, X16, e16, st16⟩ := getF X8 hx hZ hown (host := "") (Or.inl (hw _ (List.mem_of_getElem? (i := 54) rfl))) Via.refl Q8_0 (OFi8.ext O2.2) (g := (mkF m 21 #[.val (.ref a0), .val (.ref b_1), .val (.int (4 : Int32)), .val (.int (1 : Int32)), .val (.ref en1)] [(.ref en1)])) rfl rfl (hb hby d7_21)
  refine run_fwd (T' := T16) (g' := (mkF m 24 #[.val (.ref a0), .val (.ref b_1), .val (.int (4 : Int32)), .val (.int (1 : Int32)), .val (.ref en1)] [(.ref sn1)])) (fun _ k => st16 _ k) ?_
  refine run_fwd (T' := T16) (g' := (mkF m 25 #[.val (.ref a0), .val (.ref b_1), .val (.int (4 : Int32)), .val (.int (1 : Int32)), .val (.ref en1)] [(.ref a0), (.ref sn1)])) (fun _ k => XS.aloadN X16.here hx rfl (hb hby d7_24) rfl rfl k) ?_
  obtain ⟨cq17, kq17, qr17a, qr17b, qr17c⟩ := isOf hZ e16 (OEi9.ext O2.2)
  obtain ⟨T17, v17, L17, X17, hQ17, st17⟩ := own_gotV X16 (X16.virtualBack hx (y := (⟨"java/lang/String", "equals", "(Ljava/lang/Object;)Z"⟩ : MethodName)) (z := (⟨"java/lang/String", "equals", "(Ljava/lang/Object;)Z"⟩ : MethodName)) hown (mvT hZ (hw _ (List.mem_of_getElem? (i := 56) rfl))) (mvT hZ (hw _ (List.mem_of_getElem? (i := 57) rfl))) (notFace_of_selects (args := #[]) (mvT hZ (hw _ (List.mem_of_getElem? (i := 59) rfl)))) (mvT hZ (hw _ (List.mem_of_getElem? (i := 59) rfl))) (mvT hZ (hw _ (List.mem_of_getElem? (i := 58) rfl))) (by decide) (backOf (W := 0) (rmEq l Z aV hw [] sn1 a0 tn1 ta kn1 ka (9 : Int32) na 9 NG own_n1 G cs h1 n0 O2 f9 (OFi10.ext O2.2) f10 (OFi11.ext O2.2) f11 (OVi12.ext O2.2) f12 Si23 (hcs) ((O0.ne OEi9.lt gi25)) (by decide) (hng) (by decide)) hZ (hw _ (List.mem_of_getElem? (i := 60) rfl)) (hw _ (List.mem_of_getElem? (i := 2) rfl)) (by decide) (by decide)) qr17a qr17c (g := (mkF m 25 #[.val (.ref a0), .val (.ref b_1), .val (.int (4 : Int32)), .val (.int (1 : Int32)), .val (.ref en1)] [(.ref a0), (.ref sn1)])) rfl (by rw [hml]; rfl) (Steps.refl _) (argsL := [(.ref a0)]) (rest := []) (lenOf pd__28Ljava_2flang_2fObject_3b_29Z rfl) rfl (by show 2 * 0 + _ ≤ _; exact Nat.le_of_eq rfl) (hb hby d7_25) (fun _ _ => ⟨rfl, e16, (by decide : 1 + 0 ≤ _), (by decide : 4 + 0 ≤ _)⟩))
  obtain ⟨rfl, N17q, Q17_0⟩ := hQ17
  have N17 := Fr.app N8 N17q
  refine run_fwd (T' := T17) (g' := (mkF m 28 #[.val (.ref a0), .val (.ref b_1), .val (.int (4 : Int32)), .val (.int (1 : Int32)), .val (.ref en1)] [(.int (own_eqv 9 NG own_n1 G))])) (fun _ k => st17.trans k) ?_
  have hc28_18 : ¬ ((own_eqv 9 NG own_n1 G) = (0 : Int32)) := by rw [he1]; decide
  refine run_fwd (T' := T17) (g' := (mkF m 31 #[.val (.ref a0), .val (.ref b_1), .val (.int (4 : Int32)), .val (.int (1 : Int32)), .val (.ref en1)] [])) (fun _ k => XS.ifNo X17.here hx rfl (hb hby d7_28) rfl ((if0 _ _).trans (feq hc28_18).1) k) ?_
  refine run_fwd (T' := T17) (g' := (mkF m 33 #[.val (.ref a0), .val (.ref b_1), .val (.int (4 : Int32)), .val (.int (1 : Int32)), .val (.ref en1)] [(.ref en1)])) (fun _ k => XS.aload X17.here hx rfl (hb hby d7_31) rfl rfl k) ?_
  exact run_ret X17 hx Bd.returns Bd.notSynchronized rfl (Or.inr (Or.inr (Or.inr (Or.inr ⟨rfl, rfl, rfl⟩)))) (hb hby d7_33) (by rw [Q17_0]; exact ⟨rfl, N17, K3⟩) (by decide) (by decide)
theorem ef_rmP2 (m : MethodId) (x0 : Addr) : entryFrame m #[(.ref x0)] 5 = mkF m 0 #[.val (.ref x0), .unset, .unset, .unset, .unset] [] := by first | (simp [entryFrame, mkF, argsToLocals, Value.category]; done) | rfl
def QrmP2 (Z : State) (a0 : Addr) (vv : Addr) (kv : ClassId) (en0 : Addr) (en1 : Addr) (en2 : Addr) (en3 : Addr) (sn0 : Addr) (tn0 : Addr) (kn0 : ClassId) (sn1 : Addr) (tn1 : Addr) (kn1 : ClassId) (sn2 : Addr) (tn2 : Addr) (kn2 : ClassId) (sn3 : Addr) (tn3 : Addr) (kn3 : ClassId) (ta : Addr) (ka : ClassId) (na : Int32) (NG : Nat) (G : Nat → Int32) (cs : Int32) (h0 : Heap) (n0 : Nat) (v : Option Value) (h : Heap) (L : List Loc) : Prop := v = some (.ref en2) ∧ Fr n0 L ∧ Keep h0 h []
set_option maxRecDepth 65536 in
set_option maxHeartbeats 40000000 in
theorem rmP2 (l : Launch) (Z : State) (aV : Array Value) (hw : ∀ d ∈ tables_1, d.before aV Z = true) (ws : List Jvm.Cond) (a0 : Addr) (vv : Addr) (kv : ClassId) (en0 : Addr) (en1 : Addr) (en2 : Addr) (en3 : Addr) (sn0 : Addr) (tn0 : Addr) (kn0 : ClassId) (sn1 : Addr) (tn1 : Addr) (kn1 : ClassId) (sn2 : Addr) (tn2 : Addr) (kn2 : ClassId) (sn3 : Addr) (tn3 : Addr) (kn3 : ClassId) (ta : Addr) (ka : ClassId) (na : Int32) (NG : Nat) (G : Nat → Int32) (cs : Int32) (h0 : Heap) (n0 : Nat) (O0 : Old Z n0 h0) (Si0 : Sta Z Z.heap "com/example/recurr/recurr/BillingFrequency" "$VALUES" "[Lcom/example/recurr/recurr/BillingFrequency;" (.ref vv)) (OVi1 : Arv Z Z.heap vv kv (.object "com/example/recurr/recurr/BillingFrequency") (4 : Int32) [(.ref en0), (.ref en1), (.ref en2), (.ref en3)] .null) (OEi2 : Exa Z Z.heap vv "[Lcom/example/recurr/recurr/BillingFrequency;") (OFi3 : Fld Z Z.heap en0 "com/example/recurr/recurr/BillingFrequency" "name" "Ljava/lang/String;" (.ref sn0)) (OEi4 : Exa Z Z.heap sn0 "java/lang/String") (OFi5 : Fld Z Z.heap sn0 "java/lang/String" "coder" "B" (.int (0 : Int32))) (OFi6 : Fld Z Z.heap sn0 "java/lang/String" "value" "[B" (.ref tn0)) (OVi7 : Arv Z Z.heap tn0 kn0 .byte (7 : Int32) (own_tab own_n0 7) (.int (0 : Int32))) (OFi8 : Fld Z Z.heap en1 "com/example/recurr/recurr/BillingFrequency" "name" "Ljava/lang/String;" (.ref sn1)) (OEi9 : Exa Z Z.heap sn1 "java/lang/String") (OFi10 : Fld Z Z.heap sn1 "java/lang/String" "coder" "B" (.int (0 : Int32))) (OFi11 : Fld Z Z.heap sn1 "java/lang/String" "value" "[B" (.ref tn1)) (OVi12 : Arv Z Z.heap tn1 kn1 .byte (9 : Int32) (own_tab own_n1 9) (.int (0 : Int32))) (OFi13 : Fld Z Z.heap en2 "com/example/recurr/recurr/BillingFrequency" "name" "Ljava/lang/String;" (.ref sn2)) (OEi14 : Exa Z Z.heap sn2 "java/lang/String") (OFi15 : Fld Z Z.heap sn2 "java/lang/String" "coder" "B" (.int (0 : Int32))) (OFi16 : Fld Z Z.heap sn2 "java/lang/String" "value" "[B" (.ref tn2)) (OVi17 : Arv Z Z.heap tn2 kn2 .byte (11 : Int32) (own_tab own_n2 11) (.int (0 : Int32))) (OFi18 : Fld Z Z.heap en3 "com/example/recurr/recurr/BillingFrequency" "name" "Ljava/lang/String;" (.ref sn3)) (OEi19 : Exa Z Z.heap sn3 "java/lang/String") (OFi20 : Fld Z Z.heap sn3 "java/lang/String" "coder" "B" (.int (0 : Int32))) (OFi21 : Fld Z Z.heap sn3 "java/lang/String" "value" "[B" (.ref tn3)) (OVi22 : Arv Z Z.heap tn3 kn3 .byte (6 : Int32) (own_tab own_n3 6) (.int (0 : Int32))) (Si23 : Sta Z Z.heap "java/lang/String" "COMPACT_STRINGS" "Z" (.int cs)) (hcs : ¬ cs = (0 : Int32)) (gi25 : n0 ≤ a0) (Ei26 : Exa Z h0 a0 "java/lang/String") (Fi27 : Fld Z h0 a0 "java/lang/String" "coder" "B" (.int (0 : Int32))) (Fi28 : Fld Z h0 a0 "java/lang/String" "value" "[B" (.ref ta)) (Vi29 : Arv Z h0 ta ka .byte na (own_tab G NG) (.int (0 : Int32))) (hng : na.toInt = NG) (he0 : own_eqv 7 NG own_n0 G = 0) (he1 : own_eqv 9 NG own_n1 G = 0) (he2 : own_eqv 11 NG own_n2 G = 1) :
    MetFree l (⟨"com/example/recurr/recurr/BillingFrequency", "parse", "(Ljava/lang/String;)Lcom/example/recurr/recurr/BillingFrequency;"⟩ : MethodName) (head1 (Jvm.Cond.code (⟨"com/example/recurr/recurr/BillingFrequency", "parse", "(Ljava/lang/String;)Lcom/example/recurr/recurr/BillingFrequency;"⟩ : MethodName) prog_4_method_4_code 5 (some (.object "com/example/recurr/recurr/BillingFrequency")) :: ws) ({ frames := 2, cells := 1, slots := 4, locals := 28 } : Room)) (fun a U => a = #[(.ref a0)] ∧ Z.Warmed39 U.vm ∧ U.heap = h0) (fun _ _ _ _ _ => True) (fun _ U o U' => ∃ v L, o = .returned v ∧ QrmP2 Z a0 vv kv en0 en1 en2 en3 sn0 tn0 kn0 sn1 tn1 kn1 sn2 tn2 kn2 sn3 tn3 kn3 ta ka na NG G cs h0 n0 v U'.heap L ∧ FrameEnd U o U' L ({ frames := 2, cells := 1, slots := 4, locals := 28 } : Room).cells ({ frames := 2, cells := 1, slots := 4, locals := 28 } : Room).slots) := by
  refine MetFree.of_bodySF (plainFor_of_name pn_com_example_recurr_recurr_BillingFrequency) hisR ?_
  intro p e s m args below meth c s₁ Bd hml0 hP hK
  obtain ⟨rfl, hZ, hh⟩ := hP
  have hx := Bd.exec
  have hby := Bd.bytes
  have hml : c.maxLocals = 5 := hml0
  have hown : s.vm.findClass "com/example/recurr/recurr/BillingFrequency" = some m.cls := findClass_of_methodNamed Bd.named
  have hnm := (name_of_methodNamed Bd.named Bd.method).1
  have X0 : Stand p l e ({ frames := 2, cells := 1, slots := 4, locals := 28 } : Room) s m #[(.ref a0)] below meth c s₁ [] 0 0 := Stand.of_body Bd
  have e0 : s₁.heap = h0 := by rw [← hh, Bd.state]; rfl
  have N0 := Fr.nil n0
  show Run p.tables e below (Wd s (QrmP2 Z a0 vv kv en0 en1 en2 en3 sn0 tn0 kn0 sn1 tn1 kn1 sn2 tn2 kn2 sn3 tn3 kn3 ta ka na NG G cs h0 n0) ({ frames := 2, cells := 1, slots := 4, locals := 28 } : Room).cells ({ frames := 2, cells := 1, slots := 4, locals := 28 } : Room).slots) s₁ (entryFrame m #[(.ref a0)] 5)
  rw [ef_rmP2 m a0]
  obtain ⟨T1, v1, L1, X1, hQ1, st1⟩ := own_gotS X0 (Jvm.LawKit.callS X0 hx (y := (⟨"com/example/recurr/recurr/BillingFrequency", "values", "()[Lcom/example/recurr/recurr/BillingFrequency;"⟩ : MethodName)) hown (mvT hZ (hw _ (List.mem_of_getElem? (i := 36) rfl))) (mvT hZ (hw _ (List.mem_of_getElem? (i := 37) rfl))) (mvT hZ (hw _ (List.mem_of_getElem? (i := 31) rfl))) (mvT hZ (hw _ (List.mem_of_getElem? (i := 38) rfl))) (by decide) (backOf (W := 0) (rm8 l Z aV hw [] vv kv en0 en1 en2 en3 h0 n0 O0 Si0 OVi1 OEi2) hZ (hw _ (List.mem_of_getElem? (i := 38) rfl)) (hw _ (List.mem_of_getElem? (i := 31) rfl)) (by decide) (by decide)) (g := (mkF m 0 #[.val (.ref a0), .unset, .unset, .unset, .unset] [])) rfl (by rw [hml]; rfl) (argsL := []) (rest := []) (lenOf pd__28_29_5bLcom_2fexample_2frecurr_2frecurr_2fBillingFrequency_3b rfl) rfl (by show 2 * 0 + _ ≤ _; exact Nat.le_of_eq rfl) (hb hby d7_0) (fun _ _ => ⟨rfl, e0, (by decide : 0 + 1 ≤ _), (by decide : 0 + 4 ≤ _)⟩))
  obtain ⟨b_1, rfl, N1q, Q1_0, Q1_1, Q1_2⟩ := hQ1
  have N1 := Fr.app N0 N1q
  obtain ⟨h1, e1⟩ : ∃ z, T1.heap = z := ⟨_, rfl⟩
  rw [e1] at Q1_0 Q1_2
  have O2 : Old Z n0 h1 := O0.keep Q1_0 all0
  have K3 : Keep h0 h1 [] := (Keep.refl h0 []).trans Q1_0 all0
  have gg1_1 : n0 ≤ b_1 := Nat.le_trans (own_le O0) Q1_1
  have sz1_1 : h0.size ≤ b_1 := (Nat.le_trans (Keep.refl h0 []).1 Q1_1)
  refine run_fwd (T' := T1) (g' := (mkF m 3 #[.val (.ref a0), .unset, .unset, .unset, .unset] [(.ref b_1)])) (fun _ k => st1 _ k) ?_
  refine run_fwd (T' := T1) (g' := (mkF m 4 #[.val (.ref a0), .val (.ref b_1), .unset, .unset, .unset] [])) (fun _ k => XS.astoreN X1.here hx rfl (hb hby d7_3) rfl rfl (l' := #[.val (.ref a0), .val (.ref b_1), .unset, .unset, .unset]) rfl k) ?_
  refine run_fwd (T' := T1) (g' := (mkF m 5 #[.val (.ref a0), .val (.ref b_1), .unset, .unset, .unset] [(.ref b_1)])) (fun _ k => XS.aloadN X1.here hx rfl (hb hby d7_4) rfl rfl k) ?_
  obtain ⟨cl4, Ar4, -, S4, M4, -, -⟩ := id (Q1_2)
  refine run_fwd (T' := T1) (g' := (mkF m 6 #[.val (.ref a0), .val (.ref b_1), .unset, .unset, .unset] [(.int (4 : Int32))])) (fun _ k => X1.arraylength hx (by rw [e1]; exact Ar4.1) (State.isArrayOf_alike hZ.alike Ar4.2.1) (g := (mkF m 5 #[.val (.ref a0), .val (.ref b_1), .unset, .unset, .unset] [(.ref b_1)])) rfl rfl (hb hby d7_5) _ (by rw [len_of S4 M4]; exact k)) ?_
  refine run_fwd (T' := T1) (g' := (mkF m 7 #[.val (.ref a0), .val (.ref b_1), .val (.int (4 : Int32)), .unset, .unset] [])) (fun _ k => XS.istoreN X1.here hx rfl (hb hby d7_6) rfl (l' := #[.val (.ref a0), .val (.ref b_1), .val (.int (4 : Int32)), .unset, .unset]) rfl k) ?_
  refine run_fwd (T' := T1) (g' := (mkF m 8 #[.val (.ref a0), .val (.ref b_1), .val (.int (4 : Int32)), .unset, .unset] [(.int (0 : Int32))])) (fun _ k => XS.iconst X1.here hx rfl (hb hby d7_7) k) ?_
  refine run_fwd (T' := T1) (g' := (mkF m 9 #[.val (.ref a0), .val (.ref b_1), .val (.int (4 : Int32)), .val (.int (0 : Int32)), .unset] [])) (fun _ k => XS.istoreN X1.here hx rfl (hb hby d7_8) rfl (l' := #[.val (.ref a0), .val (.ref b_1), .val (.int (4 : Int32)), .val (.int (0 : Int32)), .unset]) rfl k) ?_
  refine run_fwd (T' := T1) (g' := (mkF m 10 #[.val (.ref a0), .val (.ref b_1), .val (.int (4 : Int32)), .val (.int (0 : Int32)), .unset] [(.int (0 : Int32))])) (fun _ k => XS.iloadN X1.here hx rfl (hb hby d7_9) rfl k) ?_
  refine run_fwd (T' := T1) (g' := (mkF m 11 #[.val (.ref a0), .val (.ref b_1), .val (.int (4 : Int32)), .val (.int (0 : Int32)), .unset] [(.int (4 : Int32)), (.int (0 : Int32))])) (fun _ k => XS.iloadN X1.here hx rfl (hb hby d7_10) rfl k) ?_
  have hc11_5 : (0 : Int32) < (4 : Int32) := (by decide)
  refine run_fwd (T' := T1) (g' := (mkF m 14 #[.val (.ref a0), .val (.ref b_1), .val (.int (4 : Int32)), .val (.int (0 : Int32)), .unset] [])) (fun _ k => XS.icmpNo X1.here hx rfl (hb hby d7_11) rfl (tlt hc11_5).2.1 k) ?_
  refine run_fwd (T' := T1) (g' := (mkF m 15 #[.val (.ref a0), .val (.ref b_1), .val (.int (4 : Int32)), .val (.int (0 : Int32)), .unset] [(.ref b_1)])) (fun _ k => XS.aloadN X1.here hx rfl (hb hby d7_14) rfl rfl k) ?_
  refine run_fwd (T' := T1) (g' := (mkF m 16 #[.val (.ref a0), .val (.ref b_1), .val (.int (4 : Int32)), .val (.int (0 : Int32)), .unset] [(.int (0 : Int32)), (.ref b_1)])) (fun _ k => XS.iloadN X1.here hx rfl (hb hby d7_15) rfl k) ?_
  obtain ⟨cl6, Ar6, -, S6, M6, Hh6, -⟩ := id (Q1_2)
  have hin6 : ¬ ((0 : Int32) < 0 ∨ cl6.slots.size ≤ ((0 : Int32)).toNatClampNeg) := inb_of S6 ⟨by decide, by decide⟩
  have hat6 : cl6.slots[((0 : Int32)).toNatClampNeg]? = some (.ref en0) := Hh6.at hin6 rfl
  refine run_fwd (T' := T1) (g' := (mkF m 17 #[.val (.ref a0), .val (.ref b_1), .val (.int (4 : Int32)), .val (.int (0 : Int32)), .unset] [(.ref en0)])) (fun _ k => X1.aaload hx (j := (0 : Int32)) (v := (.ref en0)) (by rw [e1]; exact Ar6.1) (State.isArrayOf_alike hZ.alike Ar6.2.1) rfl Ar6.2.2 hin6 hat6 (g := (mkF m 16 #[.val (.ref a0), .val (.ref b_1), .val (.int (4 : Int32)), .val (.int (0 : Int32)), .unset] [(.int (0 : Int32)), (.ref b_1)])) rfl rfl (hb hby d7_16) _ k) ?_
  refine run_fwd (T' := T1) (g' := (mkF m 19 #[.val (.ref a0), .val (.ref b_1), .val (.int (4 : Int32)), .val (.int (0 : Int32)), .val (.ref en0)] [])) (fun _ k => XS.astore X1.here hx rfl (hb hby d7_17) rfl rfl (l' := #[.val (.ref a0), .val (.ref b_1), .val (.int (4 : Int32)), .val (.int (0 : Int32)), .val (.ref en0)]) rfl k) ?_
  refine run_fwd (T' := T1) (g' := (mkF m 21 #[.val (.ref a0), .val (.ref b_1), .val (.int (4 : Int32)), .val (.int (0 : Int32)), .val (.ref en0)] [(.ref en0)])) (fun _ k => XS.aload X1.here hx rfl (hb hby d7_19) rfl rfl k) ?_
  obtain ⟨T7, X7, e7, st7⟩ := getF X1 hx hZ hown (host := "") (Or.inl (hw _ (List.mem_of_getElem? (i := 54) rfl))) Via.refl e1 (OFi3.ext O2.2) (g := (mkF m 21 #[.val (.ref a0), .val (.ref b_1), .val (.int (4 : Int32)), .val (.int (0 : Int32)), .val (.ref en0)] [(.ref en0)])) rfl rfl (hb hby d7_21)
  refine run_fwd (T' := T7) (g' := (mkF m 24 #[.val (.ref a0), .val (.ref b_1), .val (.int (4 : Int32)), .val (.int (0 : Int32)), .val (.ref en0)] [(.ref sn0)])) (fun _ k => st7 _ k) ?_
  refine run_fwd (T' := T7) (g' := (mkF m 25 #[.val (.ref a0), .val (.ref b_1), .val (.int (4 : Int32)), .val (.int (0 : Int32)), .val (.ref en0)] [(.ref a0), (.ref sn0)])) (fun _ k => XS.aloadN X7.here hx rfl (hb hby d7_24) rfl rfl k) ?_
  have f9 : Exa Z h1 a0 "java/lang/String" := (Ei26.keep Q1_0)
  have f10 : Fld Z h1 a0 "java/lang/String" "coder" "B" (.int (0 : Int32)) := (Fi27.keep Q1_0 nin0)
  have f11 : Fld Z h1 a0 "java/lang/String" "value" "[B" (.ref ta) := (Fi28.keep Q1_0 nin0)
  have f12 : Arv Z h1 ta ka .byte na (own_tab G NG) (.int (0 : Int32)) := (Vi29.keep Q1_0 nin0)
  obtain ⟨cq8, kq8, qr8a, qr8b, qr8c⟩ := isOf hZ e7 (OEi4.ext O2.2)
  obtain ⟨T8, v8, L8, X8, hQ8, st8⟩ := own_gotV X7 (X7.virtualBack hx (y := (⟨"java/lang/String", "equals", "(Ljava/lang/Object;)Z"⟩ : MethodName)) (z := (⟨"java/lang/String", "equals", "(Ljava/lang/Object;)Z"⟩ : MethodName)) hown (mvT hZ (hw _ (List.mem_of_getElem? (i := 56) rfl))) (mvT hZ (hw _ (List.mem_of_getElem? (i := 57) rfl))) (notFace_of_selects (args := #[]) (mvT hZ (hw _ (List.mem_of_getElem? (i := 59) rfl)))) (mvT hZ (hw _ (List.mem_of_getElem? (i := 59) rfl))) (mvT hZ (hw _ (List.mem_of_getElem? (i := 58) rfl))) (by decide) (backOf (W := 0) (rmEq l Z aV hw [] sn0 a0 tn0 ta kn0 ka (7 : Int32) na 7 NG own_n0 G cs h1 n0 O2 f9 (OFi5.ext O2.2) f10 (OFi6.ext O2.2) f11 (OVi7.ext O2.2) f12 Si23 (hcs) ((O0.ne OEi4.lt gi25)) (by decide) (hng) (by decide)) hZ (hw _ (List.mem_of_getElem? (i := 60) rfl)) (hw _ (List.mem_of_getElem? (i := 2) rfl)) (by decide) (by decide)) qr8a qr8c (g := (mkF m 25 #[.val (.ref a0), .val (.ref b_1), .val (.int (4 : Int32)), .val (.int (0 : Int32)), .val (.ref en0)] [(.ref a0), (.ref sn0)])) rfl (by rw [hml]; rfl) (Steps.refl _) (argsL := [(.ref a0)]) (rest := []) (lenOf pd__28Ljava_2flang_2fObject_3b_29Z rfl) rfl (by show 2 * 0 + _ ≤ _; exact Nat.le_of_eq rfl) (hb hby d7_25) (fun _ _ => ⟨rfl, e7, (by decide : 1 + 0 ≤ _), (by decide : 4 + 0 ≤ _)⟩))
  obtain ⟨rfl, N8q, Q8_0⟩ := hQ8
  have N8 := Fr.app N1 N8q
  refine run_fwd (T' := T8) (g' := (mkF m 28 #[.val (.ref a0), .val (.ref b_1), .val (.int (4 : Int32)), .val (.int (0 : Int32)), .val (.ref en0)] [(.int (own_eqv 7 NG own_n0 G))])) (fun _ k => st8.trans k) ?_
  have hc28_13 : (own_eqv 7 NG own_n0 G) = (0 : Int32) := he0
  refine run_fwd (T' := T8) (g' := (mkF m 34 #[.val (.ref a0), .val (.ref b_1), .val (.int (4 : Int32)), .val (.int (0 : Int32)), .val (.ref en0)] [])) (fun _ k => XS.ifYes X8.here hx rfl (pc0 := 28) (pc' := 34) rfl (hb hby d7_28) rfl ((if0 _ _).trans (teq hc28_13).1) (by decide) (by decide) k) ?_
  refine run_fwd (T' := T8) (g' := (mkF m 37 #[.val (.ref a0), .val (.ref b_1), .val (.int (4 : Int32)), .val (.int (1 : Int32)), .val (.ref en0)] [])) (fun _ k => XS.iinc X8.here hx rfl (hb hby d7_34) rfl (l' := #[.val (.ref a0), .val (.ref b_1), .val (.int (4 : Int32)), .val (.int (1 : Int32)), .val (.ref en0)]) rfl k) ?_
  refine run_fwd (T' := T8) (g' := (mkF m 9 #[.val (.ref a0), .val (.ref b_1), .val (.int (4 : Int32)), .val (.int (1 : Int32)), .val (.ref en0)] [])) (fun _ k => XS.goto X8.here hx rfl (pc0 := 37) (pc' := 9) rfl (hb hby d7_37) (by decide) (by decide) k) ?_
  refine run_fwd (T' := T8) (g' := (mkF m 10 #[.val (.ref a0), .val (.ref b_1), .val (.int (4 : Int32)), .val (.int (1 : Int32)), .val (.ref en0)] [(.int (1 : Int32))])) (fun _ k => XS.iloadN X8.here hx rfl (hb hby d7_9) rfl k) ?_
  refine run_fwd (T' := T8) (g' := (mkF m 11 #[.val (.ref a0), .val (.ref b_1), .val (.int (4 : Int32)), .val (.int (1 : Int32)), .val (.ref en0)] [(.int (4 : Int32)), (.int (1 : Int32))])) (fun _ k => XS.iloadN X8.here hx rfl (hb hby d7_10) rfl k) ?_
  have hc11_14 : (1 : Int32) < (4 : Int32) := (by decide)
  refine run_fwd (T' := T8) (g' := (mkF m 14 #[.val (.ref a0), .val (.ref b_1), .val (.int (4 : Int32)), .val (.int (1 : Int32)), .val (.ref en0)] [])) (fun _ k => XS.icmpNo X8.here hx rfl (hb hby d7_11) rfl (tlt hc11_14).2.1 k) ?_
  refine run_fwd (T' := T8) (g' := (mkF m 15 #[.val (.ref a0), .val (.ref b_1), .val (.int (4 : Int32)), .val (.int (1 : Int32)), .val (.ref en0)] [(.ref b_1)])) (fun _ k => XS.aloadN X8.here hx rfl (hb hby d7_14) rfl rfl k) ?_
  refine run_fwd (T' := T8) (g' := (mkF m 16 #[.val (.ref a0), .val (.ref b_1), .val (.int (4 : Int32)), .val (.int (1 : Int32)), .val (.ref en0)] [(.int (1 : Int32)), (.ref b_1)])) (fun _ k => XS.iloadN X8.here hx rfl (hb hby d7_15) rfl k) ?_
  obtain ⟨cl15, Ar15, -, S15, M15, Hh15, -⟩ := id (Q1_2)
  have hin15 : ¬ ((1 : Int32) < 0 ∨ cl15.slots.size ≤ ((1 : Int32)).toNatClampNeg) := inb_of S15 ⟨by decide, by decide⟩
  have hat15 : cl15.slots[((1 : Int32)).toNatClampNeg]? = some (.ref en1) := Hh15.at hin15 rfl
  refine run_fwd (T' := T8) (g' := (mkF m 17 #[.val (.ref a0), .val (.ref b_1), .val (.int (4 : Int32)), .val (.int (1 : Int32)), .val (.ref en0)] [(.ref en1)])) (fun _ k => X8.aaload hx (j := (1 : Int32)) (v := (.ref en1)) (by rw [Q8_0]; exact Ar15.1) (State.isArrayOf_alike hZ.alike Ar15.2.1) rfl Ar15.2.2 hin15 hat15 (g := (mkF m 16 #[.val (.ref a0), .val (.ref b_1), .val (.int (4 : Int32)), .val (.int (1 : Int32)), .val (.ref en0)] [(.int (1 : Int32)), (.ref b_1)])) rfl rfl (hb hby d7_16) _ k) ?_
  refine run_fwd (T' := T8) (g' := (mkF m 19 #[.val (.ref a0), .val (.ref b_1), .val (.int (4 : Int32)), .val (.int (1 : Int32)), .val (.ref en1)] [])) (fun _ k => XS.astore X8.here hx rfl (hb hby d7_17) rfl rfl (l' := #[.val (.ref a0), .val (.ref b_1), .val (.int (4 : Int32)), .val (.int (1 : Int32)), .val (.ref en1)]) rfl k) ?_
  refine run_fwd (T' := T8) (g' := (mkF m 21 #[.val (.ref a0), .val (.ref b_1), .val (.int (4 : Int32)), .val (.int (1 : Int32)), .val (.ref en1)] [(.ref en1)])) (fun _ k => XS.aload X8.here hx rfl (hb hby d7_19) rfl rfl k) ?_
  obtain ⟨T16, X16, e16, st16⟩ := getF X8 hx hZ hown (host := "") (Or.inl (hw _ (List.mem_of_getElem? (i := 54) rfl))) Via.refl Q8_0 (OFi8.ext O2.2) (g := (mkF m 21 #[.val (.ref a0), .val (.ref b_1), .val (.int (4 : Int32)), .val (.int (1 : Int32)), .val (.ref en1)] [(.ref en1)])) rfl rfl (hb hby d7_21)
  refine run_fwd (T' := T16) (g' := (mkF m 24 #[.val (.ref a0), .val (.ref b_1), .val (.int (4 : Int32)), .val (.int (1 : Int32)), .val (.ref en1)] [(.ref sn1)])) (fun _ k => st16 _ k) ?_
  refine run_fwd (T' := T16) (g' := (mkF m 25 #[.val (.ref a0), .val (.ref b_1), .val (.int (4 : Int32)), .val (.int (1 : Int32)), .val (.ref en1)] [(.ref a0), (.ref sn1)])) (fun _ k => XS.aloadN X16.here hx rfl (hb hby d7_24) rfl rfl k) ?_
  obtain ⟨cq17, kq17, qr17a, qr17b, qr17c⟩ := isOf hZ e16 (OEi9.ext O2.2)
  obtain ⟨T17, v17, L17, X17, hQ17, st17⟩ := own_gotV X16 (X16.virtualBack hx (y := (⟨"java/lang/String", "equals", "(Ljava/lang/Object;)Z"⟩ : MethodName)) (z := (⟨"java/lang/String", "equals", "(Ljava/lang/Object;)Z"⟩ : MethodName)) hown (mvT hZ (hw _ (List.mem_of_getElem? (i := 56) rfl))) (mvT hZ (hw _ (List.mem_of_getElem? (i := 57) rfl))) (notFace_of_selects (args := #[]) (mvT hZ (hw _ (List.mem_of_getElem? (i := 59) rfl)))) (mvT hZ (hw _ (List.mem_of_getElem? (i := 59) rfl))) (mvT hZ (hw _ (List.mem_of_getElem? (i := 58) rfl))) (by decide) (backOf (W := 0) (rmEq l Z aV hw [] sn1 a0 tn1 ta kn1 ka (9 : Int32) na 9 NG own_n1 G cs h1 n0 O2 f9 (OFi10.ext O2.2) f10 (OFi11.ext O2.2) f11 (OVi12.ext O2.2) f12 Si23 (hcs) ((O0.ne OEi9.lt gi25)) (by decide) (hng) (by decide)) hZ (hw _ (List.mem_of_getElem? (i := 60) rfl)) (hw _ (List.mem_of_getElem? (i := 2) rfl)) (by decide) (by decide)) qr17a qr17c (g := (mkF m 25 #[.val (.ref a0), .val (.ref b_1), .val (.int (4 : Int32)), .val (.int (1 : Int32)), .val (.ref en1)] [(.ref a0), (.ref sn1)])) rfl (by rw [hml]; rfl) (Steps.refl _) (argsL := [(.ref a0)]) (rest := []) (lenOf pd__28Ljava_2flang_2fObject_3b_29Z rfl) rfl (by show 2 * 0 + _ ≤ _; exact Nat.le_of_eq rfl) (hb hby d7_25) (fun _ _ => ⟨rfl, e16, (by decide : 1 + 0 ≤ _), (by decide : 4 + 0 ≤ _)⟩))
  obtain ⟨rfl, N17q, Q17_0⟩ := hQ17
  have N17 := Fr.app N8 N17q
  refine run_fwd (T' := T17) (g' := (mkF m 28 #[.val (.ref a0), .val (.ref b_1), .val (.int (4 : Int32)), .val (.int (1 : Int32)), .val (.ref en1)] [(.int (own_eqv 9 NG own_n1 G))])) (fun _ k => st17.trans k) ?_
  have hc28_18 : (own_eqv 9 NG own_n1 G) = (0 : Int32) := he1
  refine run_fwd (T' := T17) (g' := (mkF m 34 #[.val (.ref a0), .val (.ref b_1), .val (.int (4 : Int32)), .val (.int (1 : Int32)), .val (.ref en1)] [])) (fun _ k => XS.ifYes X17.here hx rfl (pc0 := 28) (pc' := 34) rfl (hb hby d7_28) rfl ((if0 _ _).trans (teq hc28_18).1) (by decide) (by decide) k) ?_
  refine run_fwd (T' := T17) (g' := (mkF m 37 #[.val (.ref a0), .val (.ref b_1), .val (.int (4 : Int32)), .val (.int (2 : Int32)), .val (.ref en1)] [])) (fun _ k => XS.iinc X17.here hx rfl (hb hby d7_34) rfl (l' := #[.val (.ref a0), .val (.ref b_1), .val (.int (4 : Int32)), .val (.int (2 : Int32)), .val (.ref en1)]) rfl k) ?_
  refine run_fwd (T' := T17) (g' := (mkF m 9 #[.val (.ref a0), .val (.ref b_1), .val (.int (4 : Int32)), .val (.int (2 : Int32)), .val (.ref en1)] [])) (fun _ k => XS.goto X17.here hx rfl (pc0 := 37) (pc' := 9) rfl (hb hby d7_37) (by decide) (by decide) k) ?_
  refine run_fwd (T' := T17) (g' := (mkF m 10 #[.val (.ref a0), .val (.ref b_1), .val (.int (4 : Int32)), .val (.int (2 : Int32)), .val (.ref en1)] [(.int (2 : Int32))])) (fun _ k => XS.iloadN X17.here hx rfl (hb hby d7_9) rfl k) ?_
  refine run_fwd (T' := T17) (g' := (mkF m 11 #[.val (.ref a0), .val (.ref b_1), .val (.int (4 : Int32)), .val (.int (2 : Int32)), .val (.ref en1)] [(.int (4 : Int32)), (.int (2 : Int32))])) (fun _ k => XS.iloadN X17.here hx rfl (hb hby d7_10) rfl k) ?_
  have hc11_19 : (2 : Int32) < (4 : Int32) := (by decide)
  refine run_fwd (T' := T17) (g' := (mkF m 14 #[.val (.ref a0), .val (.ref b_1), .val (.int (4 : Int32)), .val (.int (2 : Int32)), .val (.ref en1)] [])) (fun _ k => XS.icmpNo X17.here hx rfl (hb hby d7_11) rfl (tlt hc11_19).2.1 k) ?_
  refine run_fwd (T' := T17) (g' := (mkF m 15 #[.val (.ref a0), .val (.ref b_1), .val (.int (4 : Int32)), .val (.int (2 : Int32)), .val (.ref en1)] [(.ref b_1)])) (fun _ k => XS.aloadN X17.here hx rfl (hb hby d7_14) rfl rfl k) ?_
  refine run_fwd (T' := T17) (g' := (mkF m 16 #[.val (.ref a0), .val (.ref b_1), .val (.int (4 : Int32)), .val (.int (2 : Int32)), .val (.ref en1)] [(.int (2 : Int32)), (.ref b_1)])) (fun _ k => XS.iloadN X17.here hx rfl (hb hby d7_15) rfl k) ?_
  obtain ⟨cl20, Ar20, -, S20, M20, Hh20, -⟩ := id (Q1_2)
  have hin20 : ¬ ((2 : Int32) < 0 ∨ cl20.slots.size ≤ ((2 : Int32)).toNatClampNeg) := inb_of S20 ⟨by decide, by decide⟩
  have hat20 : cl20.slots[((2 : Int32)).toNatClampNeg]? = some (.ref en2) := Hh20.at hin20 rfl
  refine run_fwd (T' := T17) (g' := (mkF m 17 #[.val (.ref a0), .val (.ref b_1), .val (.int (4 : Int32)), .val (.int (2 : Int32)), .val (.ref en1)] [(.ref en2)])) (fun _ k => X17.aaload hx (j := (2 : Int32)) (v := (.ref en2)) (by rw [Q17_0]; exact Ar20.1) (State.isArrayOf_alike hZ.alike Ar20.2.1) rfl Ar20.2.2 hin20 hat20 (g := (mkF m 16 #[.val (.ref a0), .val (.ref b_1), .val (.int (4 : Int32)), .val (.int (2 : Int32)), .val (.ref en1)] [(.int (2 : Int32)), (.ref b_1)])) rfl rfl (hb hby d7_16) _ k) ?_
  refine run_fwd (T' := T17) (g' := (mkF m 19 #[.val (.ref a0), .val (.ref b_1), .val (.int (4 : Int32)), .val (.int (2 : Int32)), .val (.ref en2)] [])) (fun _ k => XS.astore X17.here hx rfl (hb hby d7_17) rfl rfl (l' := #[.val (.ref a0), .val (.ref b_1), .val (.int (4 : Int32)), .val (.int (2 : Int32)), .val (.ref en2)]) rfl k) ?_
  refine run_fwd (T' := T17) (g' := (mkF m 21 #[.val (.ref a0), .val (.ref b_1), .val (.int (4 : Int32)), .val (.int (2 : Int32)), .val (.ref en2)] [(.ref en2)])) (fun _ k => XS.aload X17.here hx rfl (hb hby d7_19) rfl rfl k) ?_
  obtain ⟨T21, X21, e21, st21⟩ := getF X17 hx hZ hown (host := "") (Or.inl (hw _ (List.mem_of_getElem? (i := 54) rfl))) Via.refl Q17_0 (OFi13.ext O2.2) (g := (mkF m 21 #[.val (.ref a0), .val (.ref b_1), .val (.int (4 : Int32)), .val (.int (2 : Int32)), .val (.ref en2)] [(.ref en2)])) rfl rfl (hb hby d7_21)
  refine run_fwd (T' := T21) (g' := (mkF m 24 #[.val (.ref a0), .val (.ref b_1), .val (.int (4 : Int32)), .val (.int (2 : Int32)), .val (.ref en2)] [(.ref sn2)])) (fun _ k => st21 _ k) ?_
  refine run_fwd (T' := T21) (g' := (mkF m 25 #[.val (.ref a0), .val (.ref b_1), .val (.int (4 : Int32)), .val (.int (2 : Int32)), .val (.ref en2)] [(.ref a0), (.ref sn2)])) (fun _ k => XS.aloadN X21.here hx rfl (hb hby d7_24) rfl rfl k) ?_
  obtain ⟨cq22, kq22, qr22a, qr22b, qr22c⟩ := isOf hZ e21 (OEi14.ext O2.2)
  obtain ⟨T22, v22, L22, X22, hQ22, st22⟩ := own_gotV X21 (X21.virtualBack hx (y := (⟨"java/lang/String", "equals", "(Ljava/lang/Object;)Z"⟩ : MethodName)) (z := (⟨"java/lang/String", "equals", "(Ljava/lang/Object;)Z"⟩ : MethodName)) hown (mvT hZ (hw _ (List.mem_of_getElem? (i := 56) rfl))) (mvT hZ (hw _ (List.mem_of_getElem? (i := 57) rfl))) (notFace_of_selects (args := #[]) (mvT hZ (hw _ (List.mem_of_getElem? (i := 59) rfl)))) (mvT hZ (hw _ (List.mem_of_getElem? (i := 59) rfl))) (mvT hZ (hw _ (List.mem_of_getElem? (i := 58) rfl))) (by decide) (backOf (W := 0) (rmEq l Z aV hw [] sn2 a0 tn2 ta kn2 ka (11 : Int32) na 11 NG own_n2 G cs h1 n0 O2 f9 (OFi15.ext O2.2) f10 (OFi16.ext O2.2) f11 (OVi17.ext O2.2) f12 Si23 (hcs) ((O0.ne OEi14.lt gi25)) (by decide) (hng) (by decide)) hZ (hw _ (List.mem_of_getElem? (i := 60) rfl)) (hw _ (List.mem_of_getElem? (i := 2) rfl)) (by decide) (by decide)) qr22a qr22c (g := (mkF m 25 #[.val (.ref a0), .val (.ref b_1), .val (.int (4 : Int32)), .val (.int (2 : Int32)), .val (.ref en2)] [(.ref a0), (.ref sn2)])) rfl (by rw [hml]; rfl) (Steps.refl _) (argsL := [(.ref a0)]) (rest := []) (lenOf pd__28Ljava_2flang_2fObject_3b_29Z rfl) rfl (by show 2 * 0 + _ ≤ _; exact Nat.le_of_eq rfl) (hb hby d7_25) (fun _ _ => ⟨rfl, e21, (by decide : 1 + 0 ≤ _), (by decide : 4 + 0 ≤ _)⟩))
  obtain ⟨rfl, N22q, Q22_0⟩ := hQ22
  have N22 := Fr.app N17 N22q
  refine run_fwd (T' := T22) (g' := (mkF m 28 #[.val (.ref a0), .val (.ref b_1), .val (.int (4 : Int32)), .val (.int (2 : Int32)), .val (.ref en2)] [(.int (own_eqv 11 NG own_n2 G))])) (fun _ k => st22.trans k) ?_
  have hc28_23 : ¬ ((own_eqv 11 NG own_n2 G) = (0 : Int32)) := by rw [he2]; decide
  refine run_fwd (T' := T22) (g' := (mkF m 31 #[.val (.ref a0), .val (.ref b_1), .val (.int (4 : Int32)), .val (.int (2 : Int32)), .val (.ref en2)] [])) (fun _ k => XS.ifNo X22.here hx rfl (hb hby d7_28) rfl ((if0 _ _).trans (feq hc28_23).1) k) ?_
  refine run_fwd (T' := T22) (g' := (mkF m 33 #[.val (.ref a0), .val (.ref b_1), .val (.int (4 : Int32)), .val (.int (2 : Int32)), .val (.ref en2)] [(.ref en2)])) (fun _ k => XS.aload X22.here hx rfl (hb hby d7_31) rfl rfl k) ?_
  exact run_ret X22 hx Bd.returns Bd.notSynchronized rfl (Or.inr (Or.inr (Or.inr (Or.inr ⟨rfl, rfl, rfl⟩)))) (hb hby d7_33) (by rw [Q22_0]; exact ⟨rfl, N22, K3⟩) (by decide) (by decide)
theorem ef_rmP3 (m : MethodId) (x0 : Addr) : entryFrame m #[(.ref x0)] 5 = mkF m 0 #[.val (.ref x0), .unset, .unset, .unset, .unset] [] := by first | (simp [entryFrame, mkF, argsToLocals, Value.category]; done) | rfl
def QrmP3 (Z : State) (a0 : Addr) (vv : Addr) (kv : ClassId) (en0 : Addr) (en1 : Addr) (en2 : Addr) (en3 : Addr) (sn0 : Addr) (tn0 : Addr) (kn0 : ClassId) (sn1 : Addr) (tn1 : Addr) (kn1 : ClassId) (sn2 : Addr) (tn2 : Addr) (kn2 : ClassId) (sn3 : Addr) (tn3 : Addr) (kn3 : ClassId) (ta : Addr) (ka : ClassId) (na : Int32) (NG : Nat) (G : Nat → Int32) (cs : Int32) (h0 : Heap) (n0 : Nat) (v : Option Value) (h : Heap) (L : List Loc) : Prop := v = some (.ref en3) ∧ Fr n0 L ∧ Keep h0 h []
set_option maxRecDepth 65536 in
set_option maxHeartbeats 40000000 in
theorem rmP3 (l : Launch) (Z : State) (aV : Array Value) (hw : ∀ d ∈ tables_1, d.before aV Z = true) (ws : List Jvm.Cond) (a0 : Addr) (vv : Addr) (kv : ClassId) (en0 : Addr) (en1 : Addr) (en2 : Addr) (en3 : Addr) (sn0 : Addr) (tn0 : Addr) (kn0 : ClassId) (sn1 : Addr) (tn1 : Addr) (kn1 : ClassId) (sn2 : Addr) (tn2 : Addr) (kn2 : ClassId) (sn3 : Addr) (tn3 : Addr) (kn3 : ClassId) (ta : Addr) (ka : ClassId) (na : Int32) (NG : Nat) (G : Nat → Int32) (cs : Int32) (h0 : Heap) (n0 : Nat) (O0 : Old Z n0 h0) (Si0 : Sta Z Z.heap "com/example/recurr/recurr/BillingFrequency" "$VALUES" "[Lcom/example/recurr/recurr/BillingFrequency;" (.ref vv)) (OVi1 : Arv Z Z.heap vv kv (.object "com/example/recurr/recurr/BillingFrequency") (4 : Int32) [(.ref en0), (.ref en1), (.ref en2), (.ref en3)] .null) (OEi2 : Exa Z Z.heap vv "[Lcom/example/recurr/recurr/BillingFrequency;") (OFi3 : Fld Z Z.heap en0 "com/example/recurr/recurr/BillingFrequency" "name" "Ljava/lang/String;" (.ref sn0)) (OEi4 : Exa Z Z.heap sn0 "java/lang/String") (OFi5 : Fld Z Z.heap sn0 "java/lang/String" "coder" "B" (.int (0 : Int32))) (OFi6 : Fld Z Z.heap sn0 "java/lang/String" "value" "[B" (.ref tn0)) (OVi7 : Arv Z Z.heap tn0 kn0 .byte (7 : Int32) (own_tab own_n0 7) (.int (0 : Int32))) (OFi8 : Fld Z Z.heap en1 "com/example/recurr/recurr/BillingFrequency" "name" "Ljava/lang/String;" (.ref sn1)) (OEi9 : Exa Z Z.heap sn1 "java/lang/String") (OFi10 : Fld Z Z.heap sn1 "java/lang/String" "coder" "B" (.int (0 : Int32))) (OFi11 : Fld Z Z.heap sn1 "java/lang/String" "value" "[B" (.ref tn1)) (OVi12 : Arv Z Z.heap tn1 kn1 .byte (9 : Int32) (own_tab own_n1 9) (.int (0 : Int32))) (OFi13 : Fld Z Z.heap en2 "com/example/recurr/recurr/BillingFrequency" "name" "Ljava/lang/String;" (.ref sn2)) (OEi14 : Exa Z Z.heap sn2 "java/lang/String") (OFi15 : Fld Z Z.heap sn2 "java/lang/String" "coder" "B" (.int (0 : Int32))) (OFi16 : Fld Z Z.heap sn2 "java/lang/String" "value" "[B" (.ref tn2)) (OVi17 : Arv Z Z.heap tn2 kn2 .byte (11 : Int32) (own_tab own_n2 11) (.int (0 : Int32))) (OFi18 : Fld Z Z.heap en3 "com/example/recurr/recurr/BillingFrequency" "name" "Ljava/lang/String;" (.ref sn3)) (OEi19 : Exa Z Z.heap sn3 "java/lang/String") (OFi20 : Fld Z Z.heap sn3 "java/lang/String" "coder" "B" (.int (0 : Int32))) (OFi21 : Fld Z Z.heap sn3 "java/lang/String" "value" "[B" (.ref tn3)) (OVi22 : Arv Z Z.heap tn3 kn3 .byte (6 : Int32) (own_tab own_n3 6) (.int (0 : Int32))) (Si23 : Sta Z Z.heap "java/lang/String" "COMPACT_STRINGS" "Z" (.int cs)) (hcs : ¬ cs = (0 : Int32)) (gi25 : n0 ≤ a0) (Ei26 : Exa Z h0 a0 "java/lang/String") (Fi27 : Fld Z h0 a0 "java/lang/String" "coder" "B" (.int (0 : Int32))) (Fi28 : Fld Z h0 a0 "java/lang/String" "value" "[B" (.ref ta)) (Vi29 : Arv Z h0 ta ka .byte na (own_tab G NG) (.int (0 : Int32))) (hng : na.toInt = NG) (he0 : own_eqv 7 NG own_n0 G = 0) (he1 : own_eqv 9 NG own_n1 G = 0) (he2 : own_eqv 11 NG own_n2 G = 0) (he3 : own_eqv 6 NG own_n3 G = 1) :
    MetFree l (⟨"com/example/recurr/recurr/BillingFrequency", "parse", "(Ljava/lang/String;)Lcom/example/recurr/recurr/BillingFrequency;"⟩ : MethodName) (head1 (Jvm.Cond.code (⟨"com/example/recurr/recurr/BillingFrequency", "parse", "(Ljava/lang/String;)Lcom/example/recurr/recurr/BillingFrequency;"⟩ : MethodName) prog_4_method_4_code 5 (some (.object "com/example/recurr/recurr/BillingFrequency")) :: ws) ({ frames := 2, cells := 1, slots := 4, locals := 28 } : Room)) (fun a U => a = #[(.ref a0)] ∧ Z.Warmed39 U.vm ∧ U.heap = h0) (fun _ _ _ _ _ => True) (fun _ U o U' => ∃ v L, o = .returned v ∧ QrmP3 Z a0 vv kv en0 en1 en2 en3 sn0 tn0 kn0 sn1 tn1 kn1 sn2 tn2 kn2 sn3 tn3 kn3 ta ka na NG G cs h0 n0 v U'.heap L ∧ FrameEnd U o U' L ({ frames := 2, cells := 1, slots := 4, locals := 28 } : Room).cells ({ frames := 2, cells := 1, slots := 4, locals := 28 } : Room).slots) := by
  refine MetFree.of_bodySF (plainFor_of_name pn_com_example_recurr_recurr_BillingFrequency) hisR ?_
  intro p e s m args below meth c s₁ Bd hml0 hP hK
  obtain ⟨rfl, hZ, hh⟩ := hP
  have hx := Bd.exec
  have hby := Bd.bytes
  have hml : c.maxLocals = 5 := hml0
  have hown : s.vm.findClass "com/example/recurr/recurr/BillingFrequency" = some m.cls := findClass_of_methodNamed Bd.named
  have hnm := (name_of_methodNamed Bd.named Bd.method).1
  have X0 : Stand p l e ({ frames := 2, cells := 1, slots := 4, locals := 28 } : Room) s m #[(.ref a0)] below meth c s₁ [] 0 0 := Stand.of_body Bd
  have e0 : s₁.heap = h0 := by rw [← hh, Bd.state]; rfl
  have N0 := Fr.nil n0
  show Run p.tables e below (Wd s (QrmP3 Z a0 vv kv en0 en1 en2 en3 sn0 tn0 kn0 sn1 tn1 kn1 sn2 tn2 kn2 sn3 tn3 kn3 ta ka na NG G cs h0 n0) ({ frames := 2, cells := 1, slots := 4, locals := 28 } : Room).cells ({ frames := 2, cells := 1, slots := 4, locals := 28 } : Room).slots) s₁ (entryFrame m #[(.ref a0)] 5)
  rw [ef_rmP3 m a0]
  obtain ⟨T1, v1, L1, X1, hQ1, st1⟩ := own_gotS X0 (Jvm.LawKit.callS X0 hx (y := (⟨"com/example/recurr/recurr/BillingFrequency", "values", "()[Lcom/example/recurr/recurr/BillingFrequency;"⟩ : MethodName)) hown (mvT hZ (hw _ (List.mem_of_getElem? (i := 36) rfl))) (mvT hZ (hw _ (List.mem_of_getElem? (i := 37) rfl))) (mvT hZ (hw _ (List.mem_of_getElem? (i := 31) rfl))) (mvT hZ (hw _ (List.mem_of_getElem? (i := 38) rfl))) (by decide) (backOf (W := 0) (rm8 l Z aV hw [] vv kv en0 en1 en2 en3 h0 n0 O0 Si0 OVi1 OEi2) hZ (hw _ (List.mem_of_getElem? (i := 38) rfl)) (hw _ (List.mem_of_getElem? (i := 31) rfl)) (by decide) (by decide)) (g := (mkF m 0 #[.val (.ref a0), .unset, .unset, .unset, .unset] [])) rfl (by rw [hml]; rfl) (argsL := []) (rest := []) (lenOf pd__28_29_5bLcom_2fexample_2frecurr_2frecurr_2fBillingFrequency_3b rfl) rfl (by show 2 * 0 + _ ≤ _; exact Nat.le_of_eq rfl) (hb hby d7_0) (fun _ _ => ⟨rfl, e0, (by decide : 0 + 1 ≤ _), (by decide : 0 + 4 ≤ _)⟩))
  obtain ⟨b_1, rfl, N1q, Q1_0, Q1_1, Q1_2⟩ := hQ1
  have N1 := Fr.app N0 N1q
  obtain ⟨h1, e1⟩ : ∃ z, T1.heap = z := ⟨_, rfl⟩
  rw [e1] at Q1_0 Q1_2
  have O2 : Old Z n0 h1 := O0.keep Q1_0 all0
  have K3 : Keep h0 h1 [] := (Keep.refl h0 []).trans Q1_0 all0
  have gg1_1 : n0 ≤ b_1 := Nat.le_trans (own_le O0) Q1_1
  have sz1_1 : h0.size ≤ b_1 := (Nat.le_trans (Keep.refl h0 []).1 Q1_1)
  refine run_fwd (T' := T1) (g' := (mkF m 3 #[.val (.ref a0), .unset, .unset, .unset, .unset] [(.ref b_1)])) (fun _ k => st1 _ k) ?_
  refine run_fwd (T' := T1) (g' := (mkF m 4 #[.val (.ref a0), .val (.ref b_1), .unset, .unset, .unset] [])) (fun _ k => XS.astoreN X1.here hx rfl (hb hby d7_3) rfl rfl (l' := #[.val (.ref a0), .val (.ref b_1), .unset, .unset, .unset]) rfl k) ?_
  refine run_fwd (T' := T1) (g' := (mkF m 5 #[.val (.ref a0), .val (.ref b_1), .unset, .unset, .unset] [(.ref b_1)])) (fun _ k => XS.aloadN X1.here hx rfl (hb hby d7_4) rfl rfl k) ?_
  obtain ⟨cl4, Ar4, -, S4, M4, -, -⟩ := id (Q1_2)
  refine run_fwd (T' := T1) (g' := (mkF m 6 #[.val (.ref a0), .val (.ref b_1), .unset, .unset, .unset] [(.int (4 : Int32))])) (fun _ k => X1.arraylength hx (by rw [e1]; exact Ar4.1) (State.isArrayOf_alike hZ.alike Ar4.2.1) (g := (mkF m 5 #[.val (.ref a0), .val (.ref b_1), .unset, .unset, .unset] [(.ref b_1)])) rfl rfl (hb hby d7_5) _ (by rw [len_of S4 M4]; exact k)) ?_
  refine run_fwd (T' := T1) (g' := (mkF m 7 #[.val (.ref a0), .val (.ref b_1), .val (.int (4 : Int32)), .unset, .unset] [])) (fun _ k => XS.istoreN X1.here hx rfl (hb hby d7_6) rfl (l' := #[.val (.ref a0), .val (.ref b_1), .val (.int (4 : Int32)), .unset, .unset]) rfl k) ?_
  refine run_fwd (T' := T1) (g' := (mkF m 8 #[.val (.ref a0), .val (.ref b_1), .val (.int (4 : Int32)), .unset, .unset] [(.int (0 : Int32))])) (fun _ k => XS.iconst X1.here hx rfl (hb hby d7_7) k) ?_
  refine run_fwd (T' := T1) (g' := (mkF m 9 #[.val (.ref a0), .val (.ref b_1), .val (.int (4 : Int32)), .val (.int (0 : Int32)), .unset] [])) (fun _ k => XS.istoreN X1.here hx rfl (hb hby d7_8) rfl (l' := #[.val (.ref a0), .val (.ref b_1), .val (.int (4 : Int32)), .val (.int (0 : Int32)), .unset]) rfl k) ?_
  refine run_fwd (T' := T1) (g' := (mkF m 10 #[.val (.ref a0), .val (.ref b_1), .val (.int (4 : Int32)), .val (.int (0 : Int32)), .unset] [(.int (0 : Int32))])) (fun _ k => XS.iloadN X1.here hx rfl (hb hby d7_9) rfl k) ?_
  refine run_fwd (T' := T1) (g' := (mkF m 11 #[.val (.ref a0), .val (.ref b_1), .val (.int (4 : Int32)), .val (.int (0 : Int32)), .unset] [(.int (4 : Int32)), (.int (0 : Int32))])) (fun _ k => XS.iloadN X1.here hx rfl (hb hby d7_10) rfl k) ?_
  have hc11_5 : (0 : Int32) < (4 : Int32) := (by decide)
  refine run_fwd (T' := T1) (g' := (mkF m 14 #[.val (.ref a0), .val (.ref b_1), .val (.int (4 : Int32)), .val (.int (0 : Int32)), .unset] [])) (fun _ k => XS.icmpNo X1.here hx rfl (hb hby d7_11) rfl (tlt hc11_5).2.1 k) ?_
  refine run_fwd (T' := T1) (g' := (mkF m 15 #[.val (.ref a0), .val (.ref b_1), .val (.int (4 : Int32)), .val (.int (0 : Int32)), .unset] [(.ref b_1)])) (fun _ k => XS.aloadN X1.here hx rfl (hb hby d7_14) rfl rfl k) ?_
  refine run_fwd (T' := T1) (g' := (mkF m 16 #[.val (.ref a0), .val (.ref b_1), .val (.int (4 : Int32)), .val (.int (0 : Int32)), .unset] [(.int (0 : Int32)), (.ref b_1)])) (fun _ k => XS.iloadN X1.here hx rfl (hb hby d7_15) rfl k) ?_
  obtain ⟨cl6, Ar6, -, S6, M6, Hh6, -⟩ := id (Q1_2)
  have hin6 : ¬ ((0 : Int32) < 0 ∨ cl6.slots.size ≤ ((0 : Int32)).toNatClampNeg) := inb_of S6 ⟨by decide, by decide⟩
  have hat6 : cl6.slots[((0 : Int32)).toNatClampNeg]? = some (.ref en0) := Hh6.at hin6 rfl
  refine run_fwd (T' := T1) (g' := (mkF m 17 #[.val (.ref a0), .val (.ref b_1), .val (.int (4 : Int32)), .val (.int (0 : Int32)), .unset] [(.ref en0)])) (fun _ k => X1.aaload hx (j := (0 : Int32)) (v := (.ref en0)) (by rw [e1]; exact Ar6.1) (State.isArrayOf_alike hZ.alike Ar6.2.1) rfl Ar6.2.2 hin6 hat6 (g := (mkF m 16 #[.val (.ref a0), .val (.ref b_1), .val (.int (4 : Int32)), .val (.int (0 : Int32)), .unset] [(.int (0 : Int32)), (.ref b_1)])) rfl rfl (hb hby d7_16) _ k) ?_
  refine run_fwd (T' := T1) (g' := (mkF m 19 #[.val (.ref a0), .val (.ref b_1), .val (.int (4 : Int32)), .val (.int (0 : Int32)), .val (.ref en0)] [])) (fun _ k => XS.astore X1.here hx rfl (hb hby d7_17) rfl rfl (l' := #[.val (.ref a0), .val (.ref b_1), .val (.int (4 : Int32)), .val (.int (0 : Int32)), .val (.ref en0)]) rfl k) ?_
  refine run_fwd (T' := T1) (g' := (mkF m 21 #[.val (.ref a0), .val (.ref b_1), .val (.int (4 : Int32)), .val (.int (0 : Int32)), .val (.ref en0)] [(.ref en0)])) (fun _ k => XS.aload X1.here hx rfl (hb hby d7_19) rfl rfl k) ?_
  obtain ⟨T7, X7, e7, st7⟩ := getF X1 hx hZ hown (host := "") (Or.inl (hw _ (List.mem_of_getElem? (i := 54) rfl))) Via.refl e1 (OFi3.ext O2.2) (g := (mkF m 21 #[.val (.ref a0), .val (.ref b_1), .val (.int (4 : Int32)), .val (.int (0 : Int32)), .val (.ref en0)] [(.ref en0)])) rfl rfl (hb hby d7_21)
  refine run_fwd (T' := T7) (g' := (mkF m 24 #[.val (.ref a0), .val (.ref b_1), .val (.int (4 : Int32)), .val (.int (0 : Int32)), .val (.ref en0)] [(.ref sn0)])) (fun _ k => st7 _ k) ?_
  refine run_fwd (T' := T7) (g' := (mkF m 25 #[.val (.ref a0), .val (.ref b_1), .val (.int (4 : Int32)), .val (.int (0 : Int32)), .val (.ref en0)] [(.ref a0), (.ref sn0)])) (fun _ k => XS.aloadN X7.here hx rfl (hb hby d7_24) rfl rfl k) ?_
  have f9 : Exa Z h1 a0 "java/lang/String" := (Ei26.keep Q1_0)
  have f10 : Fld Z h1 a0 "java/lang/String" "coder" "B" (.int (0 : Int32)) := (Fi27.keep Q1_0 nin0)
  have f11 : Fld Z h1 a0 "java/lang/String" "value" "[B" (.ref ta) := (Fi28.keep Q1_0 nin0)
  have f12 : Arv Z h1 ta ka .byte na (own_tab G NG) (.int (0 : Int32)) := (Vi29.keep Q1_0 nin0)
  obtain ⟨cq8, kq8, qr8a, qr8b, qr8c⟩ := isOf hZ e7 (OEi4.ext O2.2)
  obtain ⟨T8, v8, L8, X8, hQ8, st8⟩ := own_gotV X7 (X7.virtualBack hx (y := (⟨"java/lang/String", "equals", "(Ljava/lang/Object;)Z"⟩ : MethodName)) (z := (⟨"java/lang/String", "equals", "(Ljava/lang/Object;)Z"⟩ : MethodName)) hown (mvT hZ (hw _ (List.mem_of_getElem? (i := 56) rfl))) (mvT hZ (hw _ (List.mem_of_getElem? (i := 57) rfl))) (notFace_of_selects (args := #[]) (mvT hZ (hw _ (List.mem_of_getElem? (i := 59) rfl)))) (mvT hZ (hw _ (List.mem_of_getElem? (i := 59) rfl))) (mvT hZ (hw _ (List.mem_of_getElem? (i := 58) rfl))) (by decide) (backOf (W := 0) (rmEq l Z aV hw [] sn0 a0 tn0 ta kn0 ka (7 : Int32) na 7 NG own_n0 G cs h1 n0 O2 f9 (OFi5.ext O2.2) f10 (OFi6.ext O2.2) f11 (OVi7.ext O2.2) f12 Si23 (hcs) ((O0.ne OEi4.lt gi25)) (by decide) (hng) (by decide)) hZ (hw _ (List.mem_of_getElem? (i := 60) rfl)) (hw _ (List.mem_of_getElem? (i := 2) rfl)) (by decide) (by decide)) qr8a qr8c (g := (mkF m 25 #[.val (.ref a0), .val (.ref b_1), .val (.int (4 : Int32)), .val (.int (0 : Int32)), .val (.ref en0)] [(.ref a0), (.ref sn0)])) rfl (by rw [hml]; rfl) (Steps.refl _) (argsL := [(.ref a0)]) (rest := []) (lenOf pd__28Ljava_2flang_2fObject_3b_29Z rfl) rfl (by show 2 * 0 + _ ≤ _; exact Nat.le_of_eq rfl) (hb hby d7_25) (fun _ _ => ⟨rfl, e7, (by decide : 1 + 0 ≤ _), (by decide : 4 + 0 ≤ _)⟩))
  obtain ⟨rfl, N8q, Q8_0⟩ := hQ8
  have N8 := Fr.app N1 N8q
  refine run_fwd (T' := T8) (g' := (mkF m 28 #[.val (.ref a0), .val (.ref b_1), .val (.int (4 : Int32)), .val (.int (0 : Int32)), .val (.ref en0)] [(.int (own_eqv 7 NG own_n0 G))])) (fun _ k => st8.trans k) ?_
  have hc28_13 : (own_eqv 7 NG own_n0 G) = (0 : Int32) := he0
  refine run_fwd (T' := T8) (g' := (mkF m 34 #[.val (.ref a0), .val (.ref b_1), .val (.int (4 : Int32)), .val (.int (0 : Int32)), .val (.ref en0)] [])) (fun _ k => XS.ifYes X8.here hx rfl (pc0 := 28) (pc' := 34) rfl (hb hby d7_28) rfl ((if0 _ _).trans (teq hc28_13).1) (by decide) (by decide) k) ?_
  refine run_fwd (T' := T8) (g' := (mkF m 37 #[.val (.ref a0), .val (.ref b_1), .val (.int (4 : Int32)), .val (.int (1 : Int32)), .val (.ref en0)] [])) (fun _ k => XS.iinc X8.here hx rfl (hb hby d7_34) rfl (l' := #[.val (.ref a0), .val (.ref b_1), .val (.int (4 : Int32)), .val (.int (1 : Int32)), .val (.ref en0)]) rfl k) ?_
  refine run_fwd (T' := T8) (g' := (mkF m 9 #[.val (.ref a0), .val (.ref b_1), .val (.int (4 : Int32)), .val (.int (1 : Int32)), .val (.ref en0)] [])) (fun _ k => XS.goto X8.here hx rfl (pc0 := 37) (pc' := 9) rfl (hb hby d7_37) (by decide) (by decide) k) ?_
  refine run_fwd (T' := T8) (g' := (mkF m 10 #[.val (.ref a0), .val (.ref b_1), .val (.int (4 : Int32)), .val (.int (1 : Int32)), .val (.ref en0)] [(.int (1 : Int32))])) (fun _ k => XS.iloadN X8.here hx rfl (hb hby d7_9) rfl k) ?_
  refine run_fwd (T' := T8) (g' := (mkF m 11 #[.val (.ref a0), .val (.ref b_1), .val (.int (4 : Int32)), .val (.int (1 : Int32)), .val (.ref en0)] [(.int (4 : Int32)), (.int (1 : Int32))])) (fun _ k => XS.iloadN X8.here hx rfl (hb hby d7_10) rfl k) ?_
  have hc11_14 : (1 : Int32) < (4 : Int32) := (by decide)
  refine run_fwd (T' := T8) (g' := (mkF m 14 #[.val (.ref a0), .val (.ref b_1), .val (.int (4 : Int32)), .val (.int (1 : Int32)), .val (.ref en0)] [])) (fun _ k => XS.icmpNo X8.here hx rfl (hb hby d7_11) rfl (tlt hc11_14).2.1 k) ?_
  refine run_fwd (T' := T8) (g' := (mkF m 15 #[.val (.ref a0), .val (.ref b_1), .val (.int (4 : Int32)), .val (.int (1 : Int32)), .val (.ref en0)] [(.ref b_1)])) (fun _ k => XS.aloadN X8.here hx rfl (hb hby d7_14) rfl rfl k) ?_
  refine run_fwd (T' := T8) (g' := (mkF m 16 #[.val (.ref a0), .val (.ref b_1), .val (.int (4 : Int32)), .val (.int (1 : Int32)), .val (.ref en0)] [(.int (1 : Int32)), (.ref b_1)])) (fun _ k => XS.iloadN X8.here hx rfl (hb hby d7_15) rfl k) ?_
  obtain ⟨cl15, Ar15, -, S15, M15, Hh15, -⟩ := id (Q1_2)
  have hin15 : ¬ ((1 : Int32) < 0 ∨ cl15.slots.size ≤ ((1 : Int32)).toNatClampNeg) := inb_of S15 ⟨by decide, by decide⟩
  have hat15 : cl15.slots[((1 : Int32)).toNatClampNeg]? = some (.ref en1) := Hh15.at hin15 rfl
  refine run_fwd (T' := T8) (g' := (mkF m 17 #[.val (.ref a0), .val (.ref b_1), .val (.int (4 : Int32)), .val (.int (1 : Int32)), .val (.ref en0)] [(.ref en1)])) (fun _ k => X8.aaload hx (j := (1 : Int32)) (v := (.ref en1)) (by rw [Q8_0]; exact Ar15.1) (State.isArrayOf_alike hZ.alike Ar15.2.1) rfl Ar15.2.2 hin15 hat15 (g := (mkF m 16 #[.val (.ref a0), .val (.ref b_1), .val (.int (4 : Int32)), .val (.int (1 : Int32)), .val (.ref en0)] [(.int (1 : Int32)), (.ref b_1)])) rfl rfl (hb hby d7_16) _ k) ?_
  refine run_fwd (T' := T8) (g' := (mkF m 19 #[.val (.ref a0), .val (.ref b_1), .val (.int (4 : Int32)), .val (.int (1 : Int32)), .val (.ref en1)] [])) (fun _ k => XS.astore X8.here hx rfl (hb hby d7_17) rfl rfl (l' := #[.val (.ref a0), .val (.ref b_1), .val (.int (4 : Int32)), .val (.int (1 : Int32)), .val (.ref en1)]) rfl k) ?_
  refine run_fwd (T' := T8) (g' := (mkF m 21 #[.val (.ref a0), .val (.ref b_1), .val (.int (4 : Int32)), .val (.int (1 : Int32)), .val (.ref en1)] [(.ref en1)])) (fun _ k => XS.aload X8.here hx rfl (hb hby d7_19) rfl rfl k) ?_
  obtain ⟨T16, X16, e16, st16⟩ := getF X8 hx hZ hown (host := "") (Or.inl (hw _ (List.mem_of_getElem? (i := 54) rfl))) Via.refl Q8_0 (OFi8.ext O2.2) (g := (mkF m 21 #[.val (.ref a0), .val (.ref b_1), .val (.int (4 : Int32)), .val (.int (1 : Int32)), .val (.ref en1)] [(.ref en1)])) rfl rfl (hb hby d7_21)
  refine run_fwd (T' := T16) (g' := (mkF m 24 #[.val (.ref a0), .val (.ref b_1), .val (.int (4 : Int32)), .val (.int (1 : Int32)), .val (.ref en1)] [(.ref sn1)])) (fun _ k => st16 _ k) ?_
  refine run_fwd (T' := T16) (g' := (mkF m 25 #[.val (.ref a0), .val (.ref b_1), .val (.int (4 : Int32)), .val (.int (1 : Int32)), .val (.ref en1)] [(.ref a0), (.ref sn1)])) (fun _ k => XS.aloadN X16.here hx rfl (hb hby d7_24) rfl rfl k) ?_
  obtain ⟨cq17, kq17, qr17a, qr17b, qr17c⟩ := isOf hZ e16 (OEi9.ext O2.2)
  obtain ⟨T17, v17, L17, X17, hQ17, st17⟩ := own_gotV X16 (X16.virtualBack hx (y := (⟨"java/lang/String", "equals", "(Ljava/lang/Object;)Z"⟩ : MethodName)) (z := (⟨"java/lang/String", "equals", "(Ljava/lang/Object;)Z"⟩ : MethodName)) hown (mvT hZ (hw _ (List.mem_of_getElem? (i := 56) rfl))) (mvT hZ (hw _ (List.mem_of_getElem? (i := 57) rfl))) (notFace_of_selects (args := #[]) (mvT hZ (hw _ (List.mem_of_getElem? (i := 59) rfl)))) (mvT hZ (hw _ (List.mem_of_getElem? (i := 59) rfl))) (mvT hZ (hw _ (List.mem_of_getElem? (i := 58) rfl))) (by decide) (backOf (W := 0) (rmEq l Z aV hw [] sn1 a0 tn1 ta kn1 ka (9 : Int32) na 9 NG own_n1 G cs h1 n0 O2 f9 (OFi10.ext O2.2) f10 (OFi11.ext O2.2) f11 (OVi12.ext O2.2) f12 Si23 (hcs) ((O0.ne OEi9.lt gi25)) (by decide) (hng) (by decide)) hZ (hw _ (List.mem_of_getElem? (i := 60) rfl)) (hw _ (List.mem_of_getElem? (i := 2) rfl)) (by decide) (by decide)) qr17a qr17c (g := (mkF m 25 #[.val (.ref a0), .val (.ref b_1), .val (.int (4 : Int32)), .val (.int (1 : Int32)), .val (.ref en1)] [(.ref a0), (.ref sn1)])) rfl (by rw [hml]; rfl) (Steps.refl _) (argsL := [(.ref a0)]) (rest := []) (lenOf pd__28Ljava_2flang_2fObject_3b_29Z rfl) rfl (by show 2 * 0 + _ ≤ _; exact Nat.le_of_eq rfl) (hb hby d7_25) (fun _ _ => ⟨rfl, e16, (by decide : 1 + 0 ≤ _), (by decide : 4 + 0 ≤ _)⟩))
  obtain ⟨rfl, N17q, Q17_0⟩ := hQ17
  have N17 := Fr.app N8 N17q
  refine run_fwd (T' := T17) (g' := (mkF m 28 #[.val (.ref a0), .val (.ref b_1), .val (.int (4 : Int32)), .val (.int (1 : Int32)), .val (.ref en1)] [(.int (own_eqv 9 NG own_n1 G))])) (fun _ k => st17.trans k) ?_
  have hc28_18 : (own_eqv 9 NG own_n1 G) = (0 : Int32) := he1
  refine run_fwd (T' := T17) (g' := (mkF m 34 #[.val (.ref a0), .val (.ref b_1), .val (.int (4 : Int32)), .val (.int (1 : Int32)), .val (.ref en1)] [])) (fun _ k => XS.ifYes X17.here hx rfl (pc0 := 28) (pc' := 34) rfl (hb hby d7_28) rfl ((if0 _ _).trans (teq hc28_18).1) (by decide) (by decide) k) ?_
  refine run_fwd (T' := T17) (g' := (mkF m 37 #[.val (.ref a0), .val (.ref b_1), .val (.int (4 : Int32)), .val (.int (2 : Int32)), .val (.ref en1)] [])) (fun _ k => XS.iinc X17.here hx rfl (hb hby d7_34) rfl (l' := #[.val (.ref a0), .val (.ref b_1), .val (.int (4 : Int32)), .val (.int (2 : Int32)), .val (.ref en1)]) rfl k) ?_
  refine run_fwd (T' := T17) (g' := (mkF m 9 #[.val (.ref a0), .val (.ref b_1), .val (.int (4 : Int32)), .val (.int (2 : Int32)), .val (.ref en1)] [])) (fun _ k => XS.goto X17.here hx rfl (pc0 := 37) (pc' := 9) rfl (hb hby d7_37) (by decide) (by decide) k) ?_
  refine run_fwd (T' := T17) (g' := (mkF m 10 #[.val (.ref a0), .val (.ref b_1), .val (.int (4 : Int32)), .val (.int (2 : Int32)), .val (.ref en1)] [(.int (2 : Int32))])) (fun _ k => XS.iloadN X17.here hx rfl (hb hby d7_9) rfl k) ?_
  refine run_fwd (T' := T17) (g' := (mkF m 11 #[.val (.ref a0), .val (.ref b_1), .val (.int (4 : Int32)), .val (.int (2 : Int32)), .val (.ref en1)] [(.int (4 : Int32)), (.int (2 : Int32))])) (fun _ k => XS.iloadN X17.here hx rfl (hb hby d7_10) rfl k) ?_
  have hc11_19 : (2 : Int32) < (4 : Int32) := (by decide)
  refine run_fwd (T' := T17) (g' := (mkF m 14 #[.val (.ref a0), .val (.ref b_1), .val (.int (4 : Int32)), .val (.int (2 : Int32)), .val (.ref en1)] [])) (fun _ k => XS.icmpNo X17.here hx rfl (hb hby d7_11) rfl (tlt hc11_19).2.1 k) ?_
  refine run_fwd (T' := T17) (g' := (mkF m 15 #[.val (.ref a0), .val (.ref b_1), .val (.int (4 : Int32)), .val (.int (2 : Int32)), .val (.ref en1)] [(.ref b_1)])) (fun _ k => XS.aloadN X17.here hx rfl (hb hby d7_14) rfl rfl k) ?_
  refine run_fwd (T' := T17) (g' := (mkF m 16 #[.val (.ref a0), .val (.ref b_1), .val (.int (4 : Int32)), .val (.int (2 : Int32)), .val (.ref en1)] [(.int (2 : Int32)), (.ref b_1)])) (fun _ k => XS.iloadN X17.here hx rfl (hb hby d7_15) rfl k) ?_
  obtain ⟨cl20, Ar20, -, S20, M20, Hh20, -⟩ := id (Q1_2)
  have hin20 : ¬ ((2 : Int32) < 0 ∨ cl20.slots.size ≤ ((2 : Int32)).toNatClampNeg) := inb_of S20 ⟨by decide, by decide⟩
  have hat20 : cl20.slots[((2 : Int32)).toNatClampNeg]? = some (.ref en2) := Hh20.at hin20 rfl
  refine run_fwd (T' := T17) (g' := (mkF m 17 #[.val (.ref a0), .val (.ref b_1), .val (.int (4 : Int32)), .val (.int (2 : Int32)), .val (.ref en1)] [(.ref en2)])) (fun _ k => X17.aaload hx (j := (2 : Int32)) (v := (.ref en2)) (by rw [Q17_0]; exact Ar20.1) (State.isArrayOf_alike hZ.alike Ar20.2.1) rfl Ar20.2.2 hin20 hat20 (g := (mkF m 16 #[.val (.ref a0), .val (.ref b_1), .val (.int (4 : Int32)), .val (.int (2 : Int32)), .val (.ref en1)] [(.int (2 : Int32)), (.ref b_1)])) rfl rfl (hb hby d7_16) _ k) ?_
  refine run_fwd (T' := T17) (g' := (mkF m 19 #[.val (.ref a0), .val (.ref b_1), .val (.int (4 : Int32)), .val (.int (2 : Int32)), .val (.ref en2)] [])) (fun _ k => XS.astore X17.here hx rfl (hb hby d7_17) rfl rfl (l' := #[.val (.ref a0), .val (.ref b_1), .val (.int (4 : Int32)), .val (.int (2 : Int32)), .val (.ref en2)]) rfl k) ?_
  refine run_fwd (T' := T17) (g' := (mkF m 21 #[.val (.ref a0), .val (.ref b_1), .val (.int (4 : Int32)), .val (.int (2 : Int32)), .val (.ref en2)] [(.ref en2)])) (fun _ k => XS.aload X17.here hx rfl (hb hby d7_19) rfl rfl k) ?_
  obtain ⟨T21, X21, e21, st21⟩ := getF X17 hx hZ hown (host := "") (Or.inl (hw _ (List.mem_of_getElem? (i := 54) rfl))) Via.refl Q17_0 (OFi13.ext O2.2) (g := (mkF m 21 #[.val (.ref a0), .val (.ref b_1), .val (.int (4 : Int32)), .val (.int (2 : Int32)), .val (.ref en2)] [(.ref en2)])) rfl rfl (hb hby d7_21)
  refine run_fwd (T' := T21) (g' := (mkF m 24 #[.val (.ref a0), .val (.ref b_1), .val (.int (4 : Int32)), .val (.int (2 : Int32)), .val (.ref en2)] [(.ref sn2)])) (fun _ k => st21 _ k) ?_
  refine run_fwd (T' := T21) (g' := (mkF m 25 #[.val (.ref a0), .val (.ref b_1), .val (.int (4 : Int32)), .val (.int (2 : Int32)), .val (.ref en2)] [(.ref a0), (.ref sn2)])) (fun _ k => XS.aloadN X21.here hx rfl (hb hby d7_24) rfl rfl k) ?_
  obtain ⟨cq22, kq22, qr22a, qr22b, qr22c⟩ := isOf hZ e21 (OEi14.ext O2.2)
  obtain ⟨T22, v22, L22, X22, hQ22, st22⟩ := own_gotV X21 (X21.virtualBack hx (y := (⟨"java/lang/String", "equals", "(Ljava/lang/Object;)Z"⟩ : MethodName)) (z := (⟨"java/lang/String", "equals", "(Ljava/lang/Object;)Z"⟩ : MethodName)) hown (mvT hZ (hw _ (List.mem_of_getElem? (i := 56) rfl))) (mvT hZ (hw _ (List.mem_of_getElem? (i := 57) rfl))) (notFace_of_selects (args := #[]) (mvT hZ (hw _ (List.mem_of_getElem? (i := 59) rfl)))) (mvT hZ (hw _ (List.mem_of_getElem? (i := 59) rfl))) (mvT hZ (hw _ (List.mem_of_getElem? (i := 58) rfl))) (by decide) (backOf (W := 0) (rmEq l Z aV hw [] sn2 a0 tn2 ta kn2 ka (11 : Int32) na 11 NG own_n2 G cs h1 n0 O2 f9 (OFi15.ext O2.2) f10 (OFi16.ext O2.2) f11 (OVi17.ext O2.2) f12 Si23 (hcs) ((O0.ne OEi14.lt gi25)) (by decide) (hng) (by decide)) hZ (hw _ (List.mem_of_getElem? (i := 60) rfl)) (hw _ (List.mem_of_getElem? (i := 2) rfl)) (by decide) (by decide)) qr22a qr22c (g := (mkF m 25 #[.val (.ref a0), .val (.ref b_1), .val (.int (4 : Int32)), .val (.int (2 : Int32)), .val (.ref en2)] [(.ref a0), (.ref sn2)])) rfl (by rw [hml]; rfl) (Steps.refl _) (argsL := [(.ref a0)]) (rest := []) (lenOf pd__28Ljava_2flang_2fObject_3b_29Z rfl) rfl (by show 2 * 0 + _ ≤ _; exact Nat.le_of_eq rfl) (hb hby d7_25) (fun _ _ => ⟨rfl, e21, (by decide : 1 + 0 ≤ _), (by decide : 4 + 0 ≤ _)⟩))
  obtain ⟨rfl, N22q, Q22_0⟩ := hQ22
  have N22 := Fr.app N17 N22q
  refine run_fwd (T' := T22) (g' := (mkF m 28 #[.val (.ref a0), .val (.ref b_1), .val (.int (4 : Int32)), .val (.int (2 : Int32)), .val (.ref en2)] [(.int (own_eqv 11 NG own_n2 G))])) (fun _ k => st22.trans k) ?_
  have hc28_23 : (own_eqv 11 NG own_n2 G) = (0 : Int32) := he2
  refine run_fwd (T' := T22) (g' := (mkF m 34 #[.val (.ref a0), .val (.ref b_1), .val (.int (4 : Int32)), .val (.int (2 : Int32)), .val (.ref en2)] [])) (fun _ k => XS.ifYes X22.here hx rfl (pc0 := 28) (pc' := 34) rfl (hb hby d7_28) rfl ((if0 _ _).trans (teq hc28_23).1) (by decide) (by decide) k) ?_
  refine run_fwd (T' := T22) (g' := (mkF m 37 #[.val (.ref a0), .val (.ref b_1), .val (.int (4 : Int32)), .val (.int (3 : Int32)), .val (.ref en2)] [])) (fun _ k => XS.iinc X22.here hx rfl (hb hby d7_34) rfl (l' := #[.val (.ref a0), .val (.ref b_1), .val (.int (4 : Int32)), .val (.int (3 : Int32)), .val (.ref en2)]) rfl k) ?_
  refine run_fwd (T' := T22) (g' := (mkF m 9 #[.val (.ref a0), .val (.ref b_1), .val (.int (4 : Int32)), .val (.int (3 : Int32)), .val (.ref en2)] [])) (fun _ k => XS.goto X22.here hx rfl (pc0 := 37) (pc' := 9) rfl (hb hby d7_37) (by decide) (by decide) k) ?_
  refine run_fwd (T' := T22) (g' := (mkF m 10 #[.val (.ref a0), .val (.ref b_1), .val (.int (4 : Int32)), .val (.int (3 : Int32)), .val (.ref en2)] [(.int (3 : Int32))])) (fun _ k => XS.iloadN X22.here hx rfl (hb hby d7_9) rfl k) ?_
  refine run_fwd (T' := T22) (g' := (mkF m 11 #[.val (.ref a0), .val (.ref b_1), .val (.int (4 : Int32)), .val (.int (3 : Int32)), .val (.ref en2)] [(.int (4 : Int32)), (.int (3 : Int32))])) (fun _ k => XS.iloadN X22.here hx rfl (hb hby d7_10) rfl k) ?_
  have hc11_24 : (3 : Int32) < (4 : Int32) := (by decide)
  refine run_fwd (T' := T22) (g' := (mkF m 14 #[.val (.ref a0), .val (.ref b_1), .val (.int (4 : Int32)), .val (.int (3 : Int32)), .val (.ref en2)] [])) (fun _ k => XS.icmpNo X22.here hx rfl (hb hby d7_11) rfl (tlt hc11_24).2.1 k) ?_
  refine run_fwd (T' := T22) (g' := (mkF m 15 #[.val (.ref a0), .val (.ref b_1), .val (.int (4 : Int32)), .val (.int (3 : Int32)), .val (.ref en2)] [(.ref b_1)])) (fun _ k => XS.aloadN X22.here hx rfl (hb hby d7_14) rfl rfl k) ?_
  refine run_fwd (T' := T22) (g' := (mkF m 16 #[.val (.ref a0), .val (.ref b_1), .val (.int (4 : Int32)), .val (.int (3 : Int32)), .val (.ref en2)] [(.int (3 : Int32)), (.ref b_1)])) (fun _ k => XS.iloadN X22.here hx rfl (hb hby d7_15) rfl k) ?_
  obtain ⟨cl25, Ar25, -, S25, M25, Hh25, -⟩ := id (Q1_2)
  have hin25 : ¬ ((3 : Int32) < 0 ∨ cl25.slots.size ≤ ((3 : Int32)).toNatClampNeg) := inb_of S25 ⟨by decide, by decide⟩
  have hat25 : cl25.slots[((3 : Int32)).toNatClampNeg]? = some (.ref en3) := Hh25.at hin25 rfl
  refine run_fwd (T' := T22) (g' := (mkF m 17 #[.val (.ref a0), .val (.ref b_1), .val (.int (4 : Int32)), .val (.int (3 : Int32)), .val (.ref en2)] [(.ref en3)])) (fun _ k => X22.aaload hx (j := (3 : Int32)) (v := (.ref en3)) (by rw [Q22_0]; exact Ar25.1) (State.isArrayOf_alike hZ.alike Ar25.2.1) rfl Ar25.2.2 hin25 hat25 (g := (mkF m 16 #[.val (.ref a0), .val (.ref b_1), .val (.int (4 : Int32)), .val (.int (3 : Int32)), .val (.ref en2)] [(.int (3 : Int32)), (.ref b_1)])) rfl rfl (hb hby d7_16) _ k) ?_
  refine run_fwd (T' := T22) (g' := (mkF m 19 #[.val (.ref a0), .val (.ref b_1), .val (.int (4 : Int32)), .val (.int (3 : Int32)), .val (.ref en3)] [])) (fun _ k => XS.astore X22.here hx rfl (hb hby d7_17) rfl rfl (l' := #[.val (.ref a0), .val (.ref b_1), .val (.int (4 : Int32)), .val (.int (3 : Int32)), .val (.ref en3)]) rfl k) ?_
  refine run_fwd (T' := T22) (g' := (mkF m 21 #[.val (.ref a0), .val (.ref b_1), .val (.int (4 : Int32)), .val (.int (3 : Int32)), .val (.ref en3)] [(.ref en3)])) (fun _ k => XS.aload X22.here hx rfl (hb hby d7_19) rfl rfl k) ?_
  obtain ⟨T26, X26, e26, st26⟩ := getF X22 hx hZ hown (host := "") (Or.inl (hw _ (List.mem_of_getElem? (i := 54) rfl))) Via.refl Q22_0 (OFi18.ext O2.2) (g := (mkF m 21 #[.val (.ref a0), .val (.ref b_1), .val (.int (4 : Int32)), .val (.int (3 : Int32)), .val (.ref en3)] [(.ref en3)])) rfl rfl (hb hby d7_21)
  refine run_fwd (T' := T26) (g' := (mkF m 24 #[.val (.ref a0), .val (.ref b_1), .val (.int (4 : Int32)), .val (.int (3 : Int32)), .val (.ref en3)] [(.ref sn3)])) (fun _ k => st26 _ k) ?_
  refine run_fwd (T' := T26) (g' := (mkF m 25 #[.val (.ref a0), .val (.ref b_1), .val (.int (4 : Int32)), .val (.int (3 : Int32)), .val (.ref en3)] [(.ref a0), (.ref sn3)])) (fun _ k => XS.aloadN X26.here hx rfl (hb hby d7_24) rfl rfl k) ?_
  obtain ⟨cq27, kq27, qr27a, qr27b, qr27c⟩ := isOf hZ e26 (OEi19.ext O2.2)
  obtain ⟨T27, v27, L27, X27, hQ27, st27⟩ := own_gotV X26 (X26.virtualBack hx (y := (⟨"java/lang/String", "equals", "(Ljava/lang/Object;)Z"⟩ : MethodName)) (z := (⟨"java/lang/String", "equals", "(Ljava/lang/Object;)Z"⟩ : MethodName)) hown (mvT hZ (hw _ (List.mem_of_getElem? (i := 56) rfl))) (mvT hZ (hw _ (List.mem_of_getElem? (i := 57) rfl))) (notFace_of_selects (args := #[]) (mvT hZ (hw _ (List.mem_of_getElem? (i := 59) rfl)))) (mvT hZ (hw _ (List.mem_of_getElem? (i := 59) rfl))) (mvT hZ (hw _ (List.mem_of_getElem? (i := 58) rfl))) (by decide) (backOf (W := 0) (rmEq l Z aV hw [] sn3 a0 tn3 ta kn3 ka (6 : Int32) na 6 NG own_n3 G cs h1 n0 O2 f9 (OFi20.ext O2.2) f10 (OFi21.ext O2.2) f11 (OVi22.ext O2.2) f12 Si23 (hcs) ((O0.ne OEi19.lt gi25)) (by decide) (hng) (by decide)) hZ (hw _ (List.mem_of_getElem? (i := 60) rfl)) (hw _ (List.mem_of_getElem? (i := 2) rfl)) (by decide) (by decide)) qr27a qr27c (g := (mkF m 25 #[.val (.ref a0), .val (.ref b_1), .val (.int (4 : Int32)), .val (.int (3 : Int32)), .val (.ref en3)] [(.ref a0), (.ref sn3)])) rfl (by rw [hml]; rfl) (Steps.refl _) (argsL := [(.ref a0)]) (rest := []) (lenOf pd__28Ljava_2flang_2fObject_3b_29Z rfl) rfl (by show 2 * 0 + _ ≤ _; exact Nat.le_of_eq rfl) (hb hby d7_25) (fun _ _ => ⟨rfl, e26, (by decide : 1 + 0 ≤ _), (by decide : 4 + 0 ≤ _)⟩))
  obtain ⟨rfl, N27q, Q27_0⟩ := hQ27
  have N27 := Fr.app N22 N27q
  refine run_fwd (T' := T27) (g' := (mkF m 28 #[.val (.ref a0), .val (.ref b_1), .val (.int (4 : Int32)), .val (.int (3 : Int32)), .val (.ref en3)] [(.int (own_eqv 6 NG own_n3 G))])) (fun _ k => st27.trans k) ?_
  have hc28_28 : ¬ ((own_eqv 6 NG own_n3 G) = (0 : Int32)) := by rw [he3]; decide
  refine run_fwd (T' := T27) (g' := (mkF m 31 #[.val (.ref a0), .val (.ref b_1), .val (.int (4 : Int32)), .val (.int (3 : Int32)), .val (.ref en3)] [])) (fun _ k => XS.ifNo X27.here hx rfl (hb hby d7_28) rfl ((if0 _ _).trans (feq hc28_28).1) k) ?_
  refine run_fwd (T' := T27) (g' := (mkF m 33 #[.val (.ref a0), .val (.ref b_1), .val (.int (4 : Int32)), .val (.int (3 : Int32)), .val (.ref en3)] [(.ref en3)])) (fun _ k => XS.aload X27.here hx rfl (hb hby d7_31) rfl rfl k) ?_
  exact run_ret X27 hx Bd.returns Bd.notSynchronized rfl (Or.inr (Or.inr (Or.inr (Or.inr ⟨rfl, rfl, rfl⟩)))) (hb hby d7_33) (by rw [Q27_0]; exact ⟨rfl, N27, K3⟩) (by decide) (by decide)
theorem pd__28_5bC_29V : parseMethodDescriptor "([C)V" = some ⟨[(.array .char)], none⟩ := by decide +kernel
theorem pd__28Ljava_2flang_2fString_3b_29Lcom_2fexample_2frecurr_2frecurr_2fBillingFrequency_3b : parseMethodDescriptor "(Ljava/lang/String;)Lcom/example/recurr/recurr/BillingFrequency;" = some ⟨[(.object "java/lang/String")], some (.object "com/example/recurr/recurr/BillingFrequency")⟩ := by decide +kernel
theorem pn_com_example_recurr_recurr_BillingFrequencyParsePinLaw : plainName "com/example/recurr/recurr/BillingFrequencyParsePinLaw" = true := by first | (simp [plainName, overriddenIn]; done) | decide +kernel
theorem ef_rm0 (m : MethodId) (x0 : Int32) : entryFrame m #[(.int x0)] maxLocals = mkF m 0 #[.val (.int x0), .unset, .unset, .unset, .unset] [] := by first | (simp [entryFrame, mkF, argsToLocals, Value.category, maxLocals]; done) | rfl
def Qrm0 (Z : State) (p0 : Int32) (vv : Addr) (kv : ClassId) (en0 : Addr) (en1 : Addr) (en2 : Addr) (en3 : Addr) (sn0 : Addr) (tn0 : Addr) (kn0 : ClassId) (sn1 : Addr) (tn1 : Addr) (kn1 : ClassId) (sn2 : Addr) (tn2 : Addr) (kn2 : ClassId) (sn3 : Addr) (tn3 : Addr) (kn3 : ClassId) (cs : Int32) (h0 : Heap) (n0 : Nat) (v : Option Value) (h : Heap) (L : List Loc) : Prop := v = some (.int (1 : Int32)) ∧ Fr n0 L
set_option maxRecDepth 65536 in
set_option maxHeartbeats 40000000 in
theorem rm0 (l : Launch) (Z : State) (aV : Array Value) (hw : ∀ d ∈ tables_1, d.before aV Z = true) (ws : List Jvm.Cond) (p0 : Int32) (vv : Addr) (kv : ClassId) (en0 : Addr) (en1 : Addr) (en2 : Addr) (en3 : Addr) (sn0 : Addr) (tn0 : Addr) (kn0 : ClassId) (sn1 : Addr) (tn1 : Addr) (kn1 : ClassId) (sn2 : Addr) (tn2 : Addr) (kn2 : ClassId) (sn3 : Addr) (tn3 : Addr) (kn3 : ClassId) (cs : Int32) (h0 : Heap) (n0 : Nat) (O0 : Old Z n0 h0) (Si0 : Sta Z Z.heap "com/example/recurr/recurr/BillingFrequency" "$VALUES" "[Lcom/example/recurr/recurr/BillingFrequency;" (.ref vv)) (OVi1 : Arv Z Z.heap vv kv (.object "com/example/recurr/recurr/BillingFrequency") (4 : Int32) [(.ref en0), (.ref en1), (.ref en2), (.ref en3)] .null) (OEi2 : Exa Z Z.heap vv "[Lcom/example/recurr/recurr/BillingFrequency;") (OFi3 : Fld Z Z.heap en0 "com/example/recurr/recurr/BillingFrequency" "name" "Ljava/lang/String;" (.ref sn0)) (OEi4 : Exa Z Z.heap sn0 "java/lang/String") (OFi5 : Fld Z Z.heap sn0 "java/lang/String" "coder" "B" (.int (0 : Int32))) (OFi6 : Fld Z Z.heap sn0 "java/lang/String" "value" "[B" (.ref tn0)) (OVi7 : Arv Z Z.heap tn0 kn0 .byte (7 : Int32) (own_tab own_n0 7) (.int (0 : Int32))) (OFi8 : Fld Z Z.heap en1 "com/example/recurr/recurr/BillingFrequency" "name" "Ljava/lang/String;" (.ref sn1)) (OEi9 : Exa Z Z.heap sn1 "java/lang/String") (OFi10 : Fld Z Z.heap sn1 "java/lang/String" "coder" "B" (.int (0 : Int32))) (OFi11 : Fld Z Z.heap sn1 "java/lang/String" "value" "[B" (.ref tn1)) (OVi12 : Arv Z Z.heap tn1 kn1 .byte (9 : Int32) (own_tab own_n1 9) (.int (0 : Int32))) (OFi13 : Fld Z Z.heap en2 "com/example/recurr/recurr/BillingFrequency" "name" "Ljava/lang/String;" (.ref sn2)) (OEi14 : Exa Z Z.heap sn2 "java/lang/String") (OFi15 : Fld Z Z.heap sn2 "java/lang/String" "coder" "B" (.int (0 : Int32))) (OFi16 : Fld Z Z.heap sn2 "java/lang/String" "value" "[B" (.ref tn2)) (OVi17 : Arv Z Z.heap tn2 kn2 .byte (11 : Int32) (own_tab own_n2 11) (.int (0 : Int32))) (OFi18 : Fld Z Z.heap en3 "com/example/recurr/recurr/BillingFrequency" "name" "Ljava/lang/String;" (.ref sn3)) (OEi19 : Exa Z Z.heap sn3 "java/lang/String") (OFi20 : Fld Z Z.heap sn3 "java/lang/String" "coder" "B" (.int (0 : Int32))) (OFi21 : Fld Z Z.heap sn3 "java/lang/String" "value" "[B" (.ref tn3)) (OVi22 : Arv Z Z.heap tn3 kn3 .byte (6 : Int32) (own_tab own_n3 6) (.int (0 : Int32))) (Si23 : Sta Z Z.heap "java/lang/String" "COMPACT_STRINGS" "Z" (.int cs)) (hcs : ¬ cs = (0 : Int32)) (Si25 : Sta Z Z.heap "com/example/recurr/recurr/BillingFrequency" "MONTHLY" "Lcom/example/recurr/recurr/BillingFrequency;" (.ref en0)) (Si26 : Sta Z Z.heap "com/example/recurr/recurr/BillingFrequency" "QUARTERLY" "Lcom/example/recurr/recurr/BillingFrequency;" (.ref en1)) (Si27 : Sta Z Z.heap "com/example/recurr/recurr/BillingFrequency" "HALF_YEARLY" "Lcom/example/recurr/recurr/BillingFrequency;" (.ref en2)) (Si28 : Sta Z Z.heap "com/example/recurr/recurr/BillingFrequency" "YEARLY" "Lcom/example/recurr/recurr/BillingFrequency;" (.ref en3)) :
    MetFree l x (head1 (Jvm.Cond.code x code maxLocals ret :: ws) room_1) (fun a U => a = #[(.int p0)] ∧ Z.Warmed39 U.vm ∧ U.heap = h0) (fun _ _ _ _ _ => True) (fun _ U o U' => ∃ v L, o = .returned v ∧ Qrm0 Z p0 vv kv en0 en1 en2 en3 sn0 tn0 kn0 sn1 tn1 kn1 sn2 tn2 kn2 sn3 tn3 kn3 cs h0 n0 v U'.heap L ∧ FrameEnd U o U' L room_1.cells room_1.slots) := by
  refine MetFree.of_bodySF (plainFor_of_name pn_com_example_recurr_recurr_BillingFrequencyParsePinLaw) hisR ?_
  intro p e s m args below meth c s₁ Bd hml0 hP hK
  obtain ⟨rfl, hZ, hh⟩ := hP
  have hx := Bd.exec
  have hby := Bd.bytes
  have hml : c.maxLocals = 5 := hml0
  have hown : s.vm.findClass "com/example/recurr/recurr/BillingFrequencyParsePinLaw" = some m.cls := findClass_of_methodNamed Bd.named
  have hnm := (name_of_methodNamed Bd.named Bd.method).1
  have X0 : Stand p l e room_1 s m #[(.int p0)] below meth c s₁ [] 0 0 := Stand.of_body Bd
  have e0 : s₁.heap = h0 := by rw [← hh, Bd.state]; rfl
  have N0 := Fr.nil n0
  show Run p.tables e below (Wd s (Qrm0 Z p0 vv kv en0 en1 en2 en3 sn0 tn0 kn0 sn1 tn1 kn1 sn2 tn2 kn2 sn3 tn3 kn3 cs h0 n0) room_1.cells room_1.slots) s₁ (entryFrame m #[(.int p0)] maxLocals)
  rw [ef_rm0 m p0]
  refine run_fwd (T' := s₁) (g' := (mkF m 1 #[.val (.int p0), .unset, .unset, .unset, .unset] [(.int p0)])) (fun _ k => XS.iloadN X0.here hx rfl (hb hby at_0) rfl k) ?_
  refine run_fwd (T' := s₁) (g' := (mkF m 2 #[.val (.int p0), .unset, .unset, .unset, .unset] [(.int (3 : Int32)), (.int p0)])) (fun _ k => XS.iconst X0.here hx rfl (hb hby at_1) k) ?_
  refine run_fwd (T' := s₁) (g' := (mkF m 3 #[.val (.int p0), .unset, .unset, .unset, .unset] [(.int (p0 &&& (3 : Int32)))])) (fun _ k => XS.iand X0.here hx rfl (hb hby at_2) rfl k) ?_
  refine run_fwd (T' := s₁) (g' := (mkF m 4 #[.val (.int p0), .val (.int (p0 &&& (3 : Int32))), .unset, .unset, .unset] [])) (fun _ k => XS.istoreN X0.here hx rfl (hb hby at_3) rfl (l' := #[.val (.int p0), .val (.int (p0 &&& (3 : Int32))), .unset, .unset, .unset]) rfl k) ?_
  refine run_fwd (T' := s₁) (g' := (mkF m 5 #[.val (.int p0), .val (.int (p0 &&& (3 : Int32))), .unset, .unset, .unset] [(.int (p0 &&& (3 : Int32)))])) (fun _ k => XS.iloadN X0.here hx rfl (hb hby at_4) rfl k) ?_
  by_cases hc5_1 : (p0 &&& (3 : Int32)) = (0 : Int32)
  ·
    refine run_fwd (T' := s₁) (g' := (mkF m 8 #[.val (.int p0), .val (.int (p0 &&& (3 : Int32))), .unset, .unset, .unset] [])) (fun _ k => XS.ifNo X0.here hx rfl (hb hby at_5) rfl ((if0 _ _).trans (teq hc5_1).2) k) ?_
    obtain ⟨T2, h2, X2, e2, E2, A2, D2, U2, st2⟩ := newO X0 hx hZ hown (hw _ (List.mem_of_getElem? (i := 0) rfl)) (hw _ (List.mem_of_getElem? (i := 1) rfl)) (hw _ (List.mem_of_getElem? (i := 2) rfl)) e0 (g := (mkF m 8 #[.val (.int p0), .val (.int (p0 &&& (3 : Int32))), .unset, .unset, .unset] [])) rfl (hb hby at_8) (by decide) (by decide)
    obtain ⟨b2, g2⟩ : ∃ z, z = h0.size := ⟨_, rfl⟩
    rw [← g2] at A2 D2 U2 st2
    have gg2 : n0 ≤ b2 := Nat.le_trans (own_le O0) (Nat.le_of_eq g2.symm)
    have sz2 : h0.size ≤ b2 := Nat.le_trans (Keep.refl h0 []).1 (Nat.le_of_eq g2.symm)
    have O3 : Old Z n0 h2 := O0.ext E2
    have K4 : Keep h0 h2 [] := (Keep.refl h0 []).ext E2
    have D2_coder : Fld Z h2 b2 "java/lang/String" "coder" "B" (.int (0 : Int32)) := D2 (Or.inr (hw _ (List.mem_of_getElem? (i := 27) rfl))) (ty := .byte) (by decide)
    have D2_value : Fld Z h2 b2 "java/lang/String" "value" "[B" .null := D2 (Or.inr (hw _ (List.mem_of_getElem? (i := 29) rfl))) (ty := (.array .byte)) (by decide)
    refine run_fwd (T' := T2) (g' := (mkF m 11 #[.val (.int p0), .val (.int (p0 &&& (3 : Int32))), .unset, .unset, .unset] [(.ref b2)])) (fun _ k => st2 _ k) ?_
    refine run_fwd (T' := T2) (g' := (mkF m 12 #[.val (.int p0), .val (.int (p0 &&& (3 : Int32))), .unset, .unset, .unset] [(.ref b2), (.ref b2)])) (fun _ k => XS.dup X2.here hx rfl (hb hby at_11) rfl rfl k) ?_
    refine run_fwd (T' := T2) (g' := (mkF m 14 #[.val (.int p0), .val (.int (p0 &&& (3 : Int32))), .unset, .unset, .unset] [(.int (7 : Int32)), (.ref b2), (.ref b2)])) (fun _ k => XS.bipush X2.here hx rfl (hb hby at_12) k) ?_
    obtain ⟨T5, h5, k5, X5, e5, E5, A5, st5⟩ := newP X2 hx hZ (hw _ (List.mem_of_getElem? (i := 3) rfl)) e2 (g := (mkF m 14 #[.val (.int p0), .val (.int (p0 &&& (3 : Int32))), .unset, .unset, .unset] [(.int (7 : Int32)), (.ref b2), (.ref b2)])) rfl (hb hby at_14) rfl (by decide) (cap := 7) (by decide) (by decide) (by decide) (by decide)
    obtain ⟨b5, g5⟩ : ∃ z, z = h2.size := ⟨_, rfl⟩
    rw [← g5] at A5 st5
    have gg5 : n0 ≤ b5 := Nat.le_trans (own_le O3) (Nat.le_of_eq g5.symm)
    have sz5 : h0.size ≤ b5 := Nat.le_trans K4.1 (Nat.le_of_eq g5.symm)
    have O6 : Old Z n0 h5 := O3.ext E5
    have K7 : Keep h0 h5 [] := K4.ext E5
    have V5 : Arv Z h5 b5 k5 .char (7 : Int32) [(.int (0 : Int32)), (.int (0 : Int32)), (.int (0 : Int32)), (.int (0 : Int32)), (.int (0 : Int32)), (.int (0 : Int32)), (.int (0 : Int32))] (.int (0 : Int32)) := (Arv.new A5 (by decide)).pad (pad_rep [] (.int (0 : Int32)) 7)
    refine run_fwd (T' := T5) (g' := (mkF m 16 #[.val (.int p0), .val (.int (p0 &&& (3 : Int32))), .unset, .unset, .unset] [(.ref b5), (.ref b2), (.ref b2)])) (fun _ k => st5 _ k) ?_
    refine run_fwd (T' := T5) (g' := (mkF m 17 #[.val (.int p0), .val (.int (p0 &&& (3 : Int32))), .unset, .unset, .unset] [(.ref b5), (.ref b5), (.ref b2), (.ref b2)])) (fun _ k => XS.dup X5.here hx rfl (hb hby at_16) rfl rfl k) ?_
    refine run_fwd (T' := T5) (g' := (mkF m 18 #[.val (.int p0), .val (.int (p0 &&& (3 : Int32))), .unset, .unset, .unset] [(.int (0 : Int32)), (.ref b5), (.ref b5), (.ref b2), (.ref b2)])) (fun _ k => XS.iconst X5.here hx rfl (hb hby at_17) k) ?_
    refine run_fwd (T' := T5) (g' := (mkF m 20 #[.val (.int p0), .val (.int (p0 &&& (3 : Int32))), .unset, .unset, .unset] [(.int (77 : Int32)), (.int (0 : Int32)), (.ref b5), (.ref b5), (.ref b2), (.ref b2)])) (fun _ k => XS.bipush X5.here hx rfl (hb hby at_18) k) ?_
    obtain ⟨cl8, Ar8, qq8, S8, M8, Hh8, G8⟩ := id (V5)
    have hin8 : ¬ ((0 : Int32) < 0 ∨ cl8.slots.size ≤ ((0 : Int32)).toNatClampNeg) := inb_of S8 ⟨by decide, by decide⟩
    obtain ⟨T8, h8, X8, e8, W8, st8⟩ := stC X5 hx hZ e5 Ar8 (j := (0 : Int32)) hin8 (g := (mkF m 20 #[.val (.int p0), .val (.int (p0 &&& (3 : Int32))), .unset, .unset, .unset] [(.int (77 : Int32)), (.int (0 : Int32)), (.ref b5), (.ref b5), (.ref b2), (.ref b2)])) rfl rfl (hb hby at_20)
    have O9 : Old Z n0 h8 := O6.wr W8 gg5
    have K10 : Keep h0 h8 [] := K7.wr W8 (Or.inr sz5)
    have N8 := Fr.snoc X8 N0 gg5
    have V8 : Arv Z h8 b5 k5 .char (7 : Int32) [(.int (nar .char (77 : Int32))), (.int (0 : Int32)), (.int (0 : Int32)), (.int (0 : Int32)), (.int (0 : Int32)), (.int (0 : Int32)), (.int (0 : Int32))] (.int (0 : Int32)) := Arv.set Ar8 qq8 S8 M8 Hh8 G8 (fits_nar_char _) W8 0 rfl (Nat.le_of_ble_eq_true rfl)
    refine run_fwd (T' := T8) (g' := (mkF m 21 #[.val (.int p0), .val (.int (p0 &&& (3 : Int32))), .unset, .unset, .unset] [(.ref b5), (.ref b2), (.ref b2)])) (fun _ k => st8 _ k) ?_
    refine run_fwd (T' := T8) (g' := (mkF m 22 #[.val (.int p0), .val (.int (p0 &&& (3 : Int32))), .unset, .unset, .unset] [(.ref b5), (.ref b5), (.ref b2), (.ref b2)])) (fun _ k => XS.dup X8.here hx rfl (hb hby at_21) rfl rfl k) ?_
    refine run_fwd (T' := T8) (g' := (mkF m 23 #[.val (.int p0), .val (.int (p0 &&& (3 : Int32))), .unset, .unset, .unset] [(.int (1 : Int32)), (.ref b5), (.ref b5), (.ref b2), (.ref b2)])) (fun _ k => XS.iconst X8.here hx rfl (hb hby at_22) k) ?_
    refine run_fwd (T' := T8) (g' := (mkF m 25 #[.val (.int p0), .val (.int (p0 &&& (3 : Int32))), .unset, .unset, .unset] [(.int (111 : Int32)), (.int (1 : Int32)), (.ref b5), (.ref b5), (.ref b2), (.ref b2)])) (fun _ k => XS.bipush X8.here hx rfl (hb hby at_23) k) ?_
    obtain ⟨cl11, Ar11, qq11, S11, M11, Hh11, G11⟩ := id (V8)
    have hin11 : ¬ ((1 : Int32) < 0 ∨ cl11.slots.size ≤ ((1 : Int32)).toNatClampNeg) := inb_of S11 ⟨by decide, by decide⟩
    obtain ⟨T11, h11, X11, e11, W11, st11⟩ := stC X8 hx hZ e8 Ar11 (j := (1 : Int32)) hin11 (g := (mkF m 25 #[.val (.int p0), .val (.int (p0 &&& (3 : Int32))), .unset, .unset, .unset] [(.int (111 : Int32)), (.int (1 : Int32)), (.ref b5), (.ref b5), (.ref b2), (.ref b2)])) rfl rfl (hb hby at_25)
    have O12 : Old Z n0 h11 := O9.wr W11 gg5
    have K13 : Keep h0 h11 [] := K10.wr W11 (Or.inr sz5)
    have N11 := Fr.snoc X11 N8 gg5
    have V11 : Arv Z h11 b5 k5 .char (7 : Int32) [(.int (nar .char (77 : Int32))), (.int (nar .char (111 : Int32))), (.int (0 : Int32)), (.int (0 : Int32)), (.int (0 : Int32)), (.int (0 : Int32)), (.int (0 : Int32))] (.int (0 : Int32)) := Arv.set Ar11 qq11 S11 M11 Hh11 G11 (fits_nar_char _) W11 1 rfl (Nat.le_of_ble_eq_true rfl)
    refine run_fwd (T' := T11) (g' := (mkF m 26 #[.val (.int p0), .val (.int (p0 &&& (3 : Int32))), .unset, .unset, .unset] [(.ref b5), (.ref b2), (.ref b2)])) (fun _ k => st11 _ k) ?_
    refine run_fwd (T' := T11) (g' := (mkF m 27 #[.val (.int p0), .val (.int (p0 &&& (3 : Int32))), .unset, .unset, .unset] [(.ref b5), (.ref b5), (.ref b2), (.ref b2)])) (fun _ k => XS.dup X11.here hx rfl (hb hby at_26) rfl rfl k) ?_
    refine run_fwd (T' := T11) (g' := (mkF m 28 #[.val (.int p0), .val (.int (p0 &&& (3 : Int32))), .unset, .unset, .unset] [(.int (2 : Int32)), (.ref b5), (.ref b5), (.ref b2), (.ref b2)])) (fun _ k => XS.iconst X11.here hx rfl (hb hby at_27) k) ?_
    refine run_fwd (T' := T11) (g' := (mkF m 30 #[.val (.int p0), .val (.int (p0 &&& (3 : Int32))), .unset, .unset, .unset] [(.int (110 : Int32)), (.int (2 : Int32)), (.ref b5), (.ref b5), (.ref b2), (.ref b2)])) (fun _ k => XS.bipush X11.here hx rfl (hb hby at_28) k) ?_
    obtain ⟨cl14, Ar14, qq14, S14, M14, Hh14, G14⟩ := id (V11)
    have hin14 : ¬ ((2 : Int32) < 0 ∨ cl14.slots.size ≤ ((2 : Int32)).toNatClampNeg) := inb_of S14 ⟨by decide, by decide⟩
    obtain ⟨T14, h14, X14, e14, W14, st14⟩ := stC X11 hx hZ e11 Ar14 (j := (2 : Int32)) hin14 (g := (mkF m 30 #[.val (.int p0), .val (.int (p0 &&& (3 : Int32))), .unset, .unset, .unset] [(.int (110 : Int32)), (.int (2 : Int32)), (.ref b5), (.ref b5), (.ref b2), (.ref b2)])) rfl rfl (hb hby at_30)
    have O15 : Old Z n0 h14 := O12.wr W14 gg5
    have K16 : Keep h0 h14 [] := K13.wr W14 (Or.inr sz5)
    have N14 := Fr.snoc X14 N11 gg5
    have V14 : Arv Z h14 b5 k5 .char (7 : Int32) [(.int (nar .char (77 : Int32))), (.int (nar .char (111 : Int32))), (.int (nar .char (110 : Int32))), (.int (0 : Int32)), (.int (0 : Int32)), (.int (0 : Int32)), (.int (0 : Int32))] (.int (0 : Int32)) := Arv.set Ar14 qq14 S14 M14 Hh14 G14 (fits_nar_char _) W14 2 rfl (Nat.le_of_ble_eq_true rfl)
    refine run_fwd (T' := T14) (g' := (mkF m 31 #[.val (.int p0), .val (.int (p0 &&& (3 : Int32))), .unset, .unset, .unset] [(.ref b5), (.ref b2), (.ref b2)])) (fun _ k => st14 _ k) ?_
    refine run_fwd (T' := T14) (g' := (mkF m 32 #[.val (.int p0), .val (.int (p0 &&& (3 : Int32))), .unset, .unset, .unset] [(.ref b5), (.ref b5), (.ref b2), (.ref b2)])) (fun _ k => XS.dup X14.here hx rfl (hb hby at_31) rfl rfl k) ?_
    refine run_fwd (T' := T14) (g' := (mkF m 33 #[.val (.int p0), .val (.int (p0 &&& (3 : Int32))), .unset, .unset, .unset] [(.int (3 : Int32)), (.ref b5), (.ref b5), (.ref b2), (.ref b2)])) (fun _ k => XS.iconst X14.here hx rfl (hb hby at_32) k) ?_
    refine run_fwd (T' := T14) (g' := (mkF m 35 #[.val (.int p0), .val (.int (p0 &&& (3 : Int32))), .unset, .unset, .unset] [(.int (116 : Int32)), (.int (3 : Int32)), (.ref b5), (.ref b5), (.ref b2), (.ref b2)])) (fun _ k => XS.bipush X14.here hx rfl (hb hby at_33) k) ?_
    obtain ⟨cl17, Ar17, qq17, S17, M17, Hh17, G17⟩ := id (V14)
    have hin17 : ¬ ((3 : Int32) < 0 ∨ cl17.slots.size ≤ ((3 : Int32)).toNatClampNeg) := inb_of S17 ⟨by decide, by decide⟩
    obtain ⟨T17, h17, X17, e17, W17, st17⟩ := stC X14 hx hZ e14 Ar17 (j := (3 : Int32)) hin17 (g := (mkF m 35 #[.val (.int p0), .val (.int (p0 &&& (3 : Int32))), .unset, .unset, .unset] [(.int (116 : Int32)), (.int (3 : Int32)), (.ref b5), (.ref b5), (.ref b2), (.ref b2)])) rfl rfl (hb hby at_35)
    have O18 : Old Z n0 h17 := O15.wr W17 gg5
    have K19 : Keep h0 h17 [] := K16.wr W17 (Or.inr sz5)
    have N17 := Fr.snoc X17 N14 gg5
    have V17 : Arv Z h17 b5 k5 .char (7 : Int32) [(.int (nar .char (77 : Int32))), (.int (nar .char (111 : Int32))), (.int (nar .char (110 : Int32))), (.int (nar .char (116 : Int32))), (.int (0 : Int32)), (.int (0 : Int32)), (.int (0 : Int32))] (.int (0 : Int32)) := Arv.set Ar17 qq17 S17 M17 Hh17 G17 (fits_nar_char _) W17 3 rfl (Nat.le_of_ble_eq_true rfl)
    refine run_fwd (T' := T17) (g' := (mkF m 36 #[.val (.int p0), .val (.int (p0 &&& (3 : Int32))), .unset, .unset, .unset] [(.ref b5), (.ref b2), (.ref b2)])) (fun _ k => st17 _ k) ?_
    refine run_fwd (T' := T17) (g' := (mkF m 37 #[.val (.int p0), .val (.int (p0 &&& (3 : Int32))), .unset, .unset, .unset] [(.ref b5), (.ref b5), (.ref b2), (.ref b2)])) (fun _ k => XS.dup X17.here hx rfl (hb hby at_36) rfl rfl k) ?_
    refine run_fwd (T' := T17) (g' := (mkF m 38 #[.val (.int p0), .val (.int (p0 &&& (3 : Int32))), .unset, .unset, .unset] [(.int (4 : Int32)), (.ref b5), (.ref b5), (.ref b2), (.ref b2)])) (fun _ k => XS.iconst X17.here hx rfl (hb hby at_37) k) ?_
    refine run_fwd (T' := T17) (g' := (mkF m 40 #[.val (.int p0), .val (.int (p0 &&& (3 : Int32))), .unset, .unset, .unset] [(.int (104 : Int32)), (.int (4 : Int32)), (.ref b5), (.ref b5), (.ref b2), (.ref b2)])) (fun _ k => XS.bipush X17.here hx rfl (hb hby at_38) k) ?_
    obtain ⟨cl20, Ar20, qq20, S20, M20, Hh20, G20⟩ := id (V17)
    have hin20 : ¬ ((4 : Int32) < 0 ∨ cl20.slots.size ≤ ((4 : Int32)).toNatClampNeg) := inb_of S20 ⟨by decide, by decide⟩
    obtain ⟨T20, h20, X20, e20, W20, st20⟩ := stC X17 hx hZ e17 Ar20 (j := (4 : Int32)) hin20 (g := (mkF m 40 #[.val (.int p0), .val (.int (p0 &&& (3 : Int32))), .unset, .unset, .unset] [(.int (104 : Int32)), (.int (4 : Int32)), (.ref b5), (.ref b5), (.ref b2), (.ref b2)])) rfl rfl (hb hby at_40)
    have O21 : Old Z n0 h20 := O18.wr W20 gg5
    have K22 : Keep h0 h20 [] := K19.wr W20 (Or.inr sz5)
    have N20 := Fr.snoc X20 N17 gg5
    have V20 : Arv Z h20 b5 k5 .char (7 : Int32) [(.int (nar .char (77 : Int32))), (.int (nar .char (111 : Int32))), (.int (nar .char (110 : Int32))), (.int (nar .char (116 : Int32))), (.int (nar .char (104 : Int32))), (.int (0 : Int32)), (.int (0 : Int32))] (.int (0 : Int32)) := Arv.set Ar20 qq20 S20 M20 Hh20 G20 (fits_nar_char _) W20 4 rfl (Nat.le_of_ble_eq_true rfl)
    refine run_fwd (T' := T20) (g' := (mkF m 41 #[.val (.int p0), .val (.int (p0 &&& (3 : Int32))), .unset, .unset, .unset] [(.ref b5), (.ref b2), (.ref b2)])) (fun _ k => st20 _ k) ?_
    refine run_fwd (T' := T20) (g' := (mkF m 42 #[.val (.int p0), .val (.int (p0 &&& (3 : Int32))), .unset, .unset, .unset] [(.ref b5), (.ref b5), (.ref b2), (.ref b2)])) (fun _ k => XS.dup X20.here hx rfl (hb hby at_41) rfl rfl k) ?_
    refine run_fwd (T' := T20) (g' := (mkF m 43 #[.val (.int p0), .val (.int (p0 &&& (3 : Int32))), .unset, .unset, .unset] [(.int (5 : Int32)), (.ref b5), (.ref b5), (.ref b2), (.ref b2)])) (fun _ k => XS.iconst X20.here hx rfl (hb hby at_42) k) ?_
    refine run_fwd (T' := T20) (g' := (mkF m 45 #[.val (.int p0), .val (.int (p0 &&& (3 : Int32))), .unset, .unset, .unset] [(.int (108 : Int32)), (.int (5 : Int32)), (.ref b5), (.ref b5), (.ref b2), (.ref b2)])) (fun _ k => XS.bipush X20.here hx rfl (hb hby at_43) k) ?_
    obtain ⟨cl23, Ar23, qq23, S23, M23, Hh23, G23⟩ := id (V20)
    have hin23 : ¬ ((5 : Int32) < 0 ∨ cl23.slots.size ≤ ((5 : Int32)).toNatClampNeg) := inb_of S23 ⟨by decide, by decide⟩
    obtain ⟨T23, h23, X23, e23, W23, st23⟩ := stC X20 hx hZ e20 Ar23 (j := (5 : Int32)) hin23 (g := (mkF m 45 #[.val (.int p0), .val (.int (p0 &&& (3 : Int32))), .unset, .unset, .unset] [(.int (108 : Int32)), (.int (5 : Int32)), (.ref b5), (.ref b5), (.ref b2), (.ref b2)])) rfl rfl (hb hby at_45)
    have O24 : Old Z n0 h23 := O21.wr W23 gg5
    have K25 : Keep h0 h23 [] := K22.wr W23 (Or.inr sz5)
    have N23 := Fr.snoc X23 N20 gg5
    have V23 : Arv Z h23 b5 k5 .char (7 : Int32) [(.int (nar .char (77 : Int32))), (.int (nar .char (111 : Int32))), (.int (nar .char (110 : Int32))), (.int (nar .char (116 : Int32))), (.int (nar .char (104 : Int32))), (.int (nar .char (108 : Int32))), (.int (0 : Int32))] (.int (0 : Int32)) := Arv.set Ar23 qq23 S23 M23 Hh23 G23 (fits_nar_char _) W23 5 rfl (Nat.le_of_ble_eq_true rfl)
    refine run_fwd (T' := T23) (g' := (mkF m 46 #[.val (.int p0), .val (.int (p0 &&& (3 : Int32))), .unset, .unset, .unset] [(.ref b5), (.ref b2), (.ref b2)])) (fun _ k => st23 _ k) ?_
    refine run_fwd (T' := T23) (g' := (mkF m 47 #[.val (.int p0), .val (.int (p0 &&& (3 : Int32))), .unset, .unset, .unset] [(.ref b5), (.ref b5), (.ref b2), (.ref b2)])) (fun _ k => XS.dup X23.here hx rfl (hb hby at_46) rfl rfl k) ?_
    refine run_fwd (T' := T23) (g' := (mkF m 49 #[.val (.int p0), .val (.int (p0 &&& (3 : Int32))), .unset, .unset, .unset] [(.int (6 : Int32)), (.ref b5), (.ref b5), (.ref b2), (.ref b2)])) (fun _ k => XS.bipush X23.here hx rfl (hb hby at_47) k) ?_
    refine run_fwd (T' := T23) (g' := (mkF m 51 #[.val (.int p0), .val (.int (p0 &&& (3 : Int32))), .unset, .unset, .unset] [(.int (121 : Int32)), (.int (6 : Int32)), (.ref b5), (.ref b5), (.ref b2), (.ref b2)])) (fun _ k => XS.bipush X23.here hx rfl (hb hby at_49) k) ?_
    obtain ⟨cl26, Ar26, qq26, S26, M26, Hh26, G26⟩ := id (V23)
    have hin26 : ¬ ((6 : Int32) < 0 ∨ cl26.slots.size ≤ ((6 : Int32)).toNatClampNeg) := inb_of S26 ⟨by decide, by decide⟩
    obtain ⟨T26, h26, X26, e26, W26, st26⟩ := stC X23 hx hZ e23 Ar26 (j := (6 : Int32)) hin26 (g := (mkF m 51 #[.val (.int p0), .val (.int (p0 &&& (3 : Int32))), .unset, .unset, .unset] [(.int (121 : Int32)), (.int (6 : Int32)), (.ref b5), (.ref b5), (.ref b2), (.ref b2)])) rfl rfl (hb hby at_51)
    have O27 : Old Z n0 h26 := O24.wr W26 gg5
    have K28 : Keep h0 h26 [] := K25.wr W26 (Or.inr sz5)
    have N26 := Fr.snoc X26 N23 gg5
    have V26 : Arv Z h26 b5 k5 .char (7 : Int32) [(.int (nar .char (77 : Int32))), (.int (nar .char (111 : Int32))), (.int (nar .char (110 : Int32))), (.int (nar .char (116 : Int32))), (.int (nar .char (104 : Int32))), (.int (nar .char (108 : Int32))), (.int (nar .char (121 : Int32)))] (.int (0 : Int32)) := Arv.set Ar26 qq26 S26 M26 Hh26 G26 (fits_nar_char _) W26 6 rfl (Nat.le_of_ble_eq_true rfl)
    refine run_fwd (T' := T26) (g' := (mkF m 52 #[.val (.int p0), .val (.int (p0 &&& (3 : Int32))), .unset, .unset, .unset] [(.ref b5), (.ref b2), (.ref b2)])) (fun _ k => st26 _ k) ?_
    have f30 : Exa Z h26 b2 "java/lang/String" := ((((((((A2.ext E5).wr W8).wr W11).wr W14).wr W17).wr W20).wr W23).wr W26)
    have f31 : Fld Z h26 b2 "java/lang/String" "value" "[B" .null := ((((((((D2_value.ext E5).other W8 (Or.inl (Nat.ne_of_lt (Nat.lt_of_lt_of_le D2_value.lt (Nat.le_of_eq g5.symm))))).other W11 (Or.inl (Nat.ne_of_lt (Nat.lt_of_lt_of_le D2_value.lt (Nat.le_of_eq g5.symm))))).other W14 (Or.inl (Nat.ne_of_lt (Nat.lt_of_lt_of_le D2_value.lt (Nat.le_of_eq g5.symm))))).other W17 (Or.inl (Nat.ne_of_lt (Nat.lt_of_lt_of_le D2_value.lt (Nat.le_of_eq g5.symm))))).other W20 (Or.inl (Nat.ne_of_lt (Nat.lt_of_lt_of_le D2_value.lt (Nat.le_of_eq g5.symm))))).other W23 (Or.inl (Nat.ne_of_lt (Nat.lt_of_lt_of_le D2_value.lt (Nat.le_of_eq g5.symm))))).other W26 (Or.inl (Nat.ne_of_lt (Nat.lt_of_lt_of_le D2_value.lt (Nat.le_of_eq g5.symm)))))
    have f32 : Fld Z h26 b2 "java/lang/String" "coder" "B" (.int (0 : Int32)) := ((((((((D2_coder.ext E5).other W8 (Or.inl (Nat.ne_of_lt (Nat.lt_of_lt_of_le D2_value.lt (Nat.le_of_eq g5.symm))))).other W11 (Or.inl (Nat.ne_of_lt (Nat.lt_of_lt_of_le D2_value.lt (Nat.le_of_eq g5.symm))))).other W14 (Or.inl (Nat.ne_of_lt (Nat.lt_of_lt_of_le D2_value.lt (Nat.le_of_eq g5.symm))))).other W17 (Or.inl (Nat.ne_of_lt (Nat.lt_of_lt_of_le D2_value.lt (Nat.le_of_eq g5.symm))))).other W20 (Or.inl (Nat.ne_of_lt (Nat.lt_of_lt_of_le D2_value.lt (Nat.le_of_eq g5.symm))))).other W23 (Or.inl (Nat.ne_of_lt (Nat.lt_of_lt_of_le D2_value.lt (Nat.le_of_eq g5.symm))))).other W26 (Or.inl (Nat.ne_of_lt (Nat.lt_of_lt_of_le D2_value.lt (Nat.le_of_eq g5.symm)))))
    obtain ⟨T29, v29, L29, X29, hQ29, st29⟩ := own_gotV X26 (X26.specialBack hx (y := (⟨"java/lang/String", "<init>", "([C)V"⟩ : MethodName)) rfl hown (mvT hZ (hw _ (List.mem_of_getElem? (i := 4) rfl))) (mvT hZ (hw _ (List.mem_of_getElem? (i := 5) rfl))) (mvT hZ (hw _ (List.mem_of_getElem? (i := 6) rfl))) (by decide) (backOf (W := 1) (rmC l Z aV hw [] b2 b5 (7 : Int32) k5 7 own_n0 cs h26 n0 O27 gg2 f30 f31 f32 V26 Si23 (hcs) ((Ne.symm (Nat.ne_of_lt (Nat.lt_of_lt_of_le D2_value.lt (Nat.le_of_eq g5.symm))))) (by decide) (by decide) (by decide)) hZ (hw _ (List.mem_of_getElem? (i := 6) rfl)) (hw _ (List.mem_of_getElem? (i := 2) rfl)) (by decide) (by decide)) (g := (mkF m 52 #[.val (.int p0), .val (.int (p0 &&& (3 : Int32))), .unset, .unset, .unset] [(.ref b5), (.ref b2), (.ref b2)])) rfl (by rw [hml]; rfl) (Steps.refl _) (a := b2) (argsL := [(.ref b5)]) (rest := [(.ref b2)]) (lenOf pd__28_5bC_29V rfl) rfl (by show 2 * 0 + _ ≤ _; exact Nat.le_of_eq rfl) (hb hby at_52) (fun _ _ => ⟨rfl, e26, (by decide : 2 + 1 ≤ _), (by decide : 11 + 16 ≤ _)⟩))
    obtain ⟨t_29, kt_29, rfl, N29q, Q29_0, Q29_1, Q29_2, Q29_3, Q29_4, Q29_5⟩ := hQ29
    have N29 := Fr.app N26 N29q
    obtain ⟨h29, e29⟩ : ∃ z, T29.heap = z := ⟨_, rfl⟩
    rw [e29] at Q29_0 Q29_1 Q29_2 Q29_3 Q29_4
    have O33 : Old Z n0 h29 := O27.keep Q29_0 (allS gg2 all0)
    have K34 : Keep h0 h29 [] := K28.trans Q29_0 (allS (Or.inr sz2) all0)
    have gg29_5 : n0 ≤ t_29 := Nat.le_trans (own_le O27) Q29_5
    have sz29_5 : h0.size ≤ t_29 := (Nat.le_trans K28.1 Q29_5)
    refine run_fwd (T' := T29) (g' := (mkF m 55 #[.val (.int p0), .val (.int (p0 &&& (3 : Int32))), .unset, .unset, .unset] [(.ref b2)])) (fun _ k => st29.trans k) ?_
    refine run_fwd (T' := T29) (g' := (mkF m 56 #[.val (.int p0), .val (.int (p0 &&& (3 : Int32))), .val (.ref b2), .unset, .unset] [])) (fun _ k => XS.astoreN X29.here hx rfl (hb hby at_55) rfl rfl (l' := #[.val (.int p0), .val (.int (p0 &&& (3 : Int32))), .val (.ref b2), .unset, .unset]) rfl k) ?_
    obtain ⟨T35, X35, e35, st35⟩ := getS2 X29 hx hZ hown (host := "") (Or.inl (hw _ (List.mem_of_getElem? (i := 30) rfl))) Via.refl e29 (Si25.ext O33.2) (g := (mkF m 56 #[.val (.int p0), .val (.int (p0 &&& (3 : Int32))), .val (.ref b2), .unset, .unset] [])) rfl (hb hby at_56)
    refine run_fwd (T' := T35) (g' := (mkF m 59 #[.val (.int p0), .val (.int (p0 &&& (3 : Int32))), .val (.ref b2), .unset, .unset] [(.ref en0)])) (fun _ k => st35 _ k) ?_
    refine run_fwd (T' := T35) (g' := (mkF m 60 #[.val (.int p0), .val (.int (p0 &&& (3 : Int32))), .val (.ref b2), .val (.ref en0), .unset] [])) (fun _ k => XS.astoreN X35.here hx rfl (hb hby at_59) rfl rfl (l' := #[.val (.int p0), .val (.int (p0 &&& (3 : Int32))), .val (.ref b2), .val (.ref en0), .unset]) rfl k) ?_
    refine run_fwd (T' := T35) (g' := (mkF m 265 #[.val (.int p0), .val (.int (p0 &&& (3 : Int32))), .val (.ref b2), .val (.ref en0), .unset] [])) (fun _ k => XS.goto X35.here hx rfl (pc0 := 60) (pc' := 265) rfl (hb hby at_60) (by decide) (by decide) k) ?_
    refine run_fwd (T' := T35) (g' := (mkF m 266 #[.val (.int p0), .val (.int (p0 &&& (3 : Int32))), .val (.ref b2), .val (.ref en0), .unset] [(.ref b2)])) (fun _ k => XS.aloadN X35.here hx rfl (hb hby at_265) rfl rfl k) ?_
    obtain ⟨T36, v36, L36, X36, hQ36, st36⟩ := own_gotS X35 (Jvm.LawKit.callS X35 hx (y := (⟨"com/example/recurr/recurr/BillingFrequency", "parse", "(Ljava/lang/String;)Lcom/example/recurr/recurr/BillingFrequency;"⟩ : MethodName)) hown (mvT hZ (hw _ (List.mem_of_getElem? (i := 33) rfl))) (mvT hZ (hw _ (List.mem_of_getElem? (i := 34) rfl))) (mvT hZ (hw _ (List.mem_of_getElem? (i := 31) rfl))) (mvT hZ (hw _ (List.mem_of_getElem? (i := 35) rfl))) (by decide) (backOf (W := 0) (rmP0 l Z aV hw [] b2 vv kv en0 en1 en2 en3 sn0 tn0 kn0 sn1 tn1 kn1 sn2 tn2 kn2 sn3 tn3 kn3 t_29 kt_29 (7 : Int32) 7 (own_by own_n0) cs h29 n0 O33 Si0 OVi1 OEi2 OFi3 OEi4 OFi5 OFi6 OVi7 OFi8 OEi9 OFi10 OFi11 OVi12 OFi13 OEi14 OFi15 OFi16 OVi17 OFi18 OEi19 OFi20 OFi21 OVi22 Si23 (hcs) gg2 Q29_1 Q29_2 Q29_3 Q29_4 (by decide) (by decide)) hZ (hw _ (List.mem_of_getElem? (i := 35) rfl)) (hw _ (List.mem_of_getElem? (i := 31) rfl)) (by decide) (by decide)) (g := (mkF m 266 #[.val (.int p0), .val (.int (p0 &&& (3 : Int32))), .val (.ref b2), .val (.ref en0), .unset] [(.ref b2)])) rfl (by rw [hml]; rfl) (argsL := [(.ref b2)]) (rest := []) (lenOf pd__28Ljava_2flang_2fString_3b_29Lcom_2fexample_2frecurr_2frecurr_2fBillingFrequency_3b rfl) rfl (by show 2 * 0 + _ ≤ _; exact Nat.le_of_eq rfl) (hb hby at_266) (fun _ _ => ⟨rfl, e35, (by decide : 3 + 1 ≤ _), (by decide : 27 + 4 ≤ _)⟩))
    obtain ⟨rfl, N36q, Q36_0⟩ := hQ36
    have N36 := Fr.app N29 N36q
    obtain ⟨h36, e36⟩ : ∃ z, T36.heap = z := ⟨_, rfl⟩
    rw [e36] at Q36_0
    have O37 : Old Z n0 h36 := O33.keep Q36_0 all0
    have K38 : Keep h0 h36 [] := K34.trans Q36_0 all0
    refine run_fwd (T' := T36) (g' := (mkF m 269 #[.val (.int p0), .val (.int (p0 &&& (3 : Int32))), .val (.ref b2), .val (.ref en0), .unset] [(.ref en0)])) (fun _ k => st36 _ k) ?_
    refine run_fwd (T' := T36) (g' := (mkF m 271 #[.val (.int p0), .val (.int (p0 &&& (3 : Int32))), .val (.ref b2), .val (.ref en0), .val (.ref en0)] [])) (fun _ k => XS.astore X36.here hx rfl (hb hby at_269) rfl rfl (l' := #[.val (.int p0), .val (.int (p0 &&& (3 : Int32))), .val (.ref b2), .val (.ref en0), .val (.ref en0)]) rfl k) ?_
    refine run_fwd (T' := T36) (g' := (mkF m 273 #[.val (.int p0), .val (.int (p0 &&& (3 : Int32))), .val (.ref b2), .val (.ref en0), .val (.ref en0)] [(.ref en0)])) (fun _ k => XS.aload X36.here hx rfl (hb hby at_271) rfl rfl k) ?_
    refine run_fwd (T' := T36) (g' := (mkF m 274 #[.val (.int p0), .val (.int (p0 &&& (3 : Int32))), .val (.ref b2), .val (.ref en0), .val (.ref en0)] [(.ref en0), (.ref en0)])) (fun _ k => XS.aloadN X36.here hx rfl (hb hby at_273) rfl rfl k) ?_
    refine run_fwd (T' := T36) (g' := (mkF m 277 #[.val (.int p0), .val (.int (p0 &&& (3 : Int32))), .val (.ref b2), .val (.ref en0), .val (.ref en0)] [])) (fun _ k => Jvm.RoadKit.acmp (g := (mkF m 274 #[.val (.int p0), .val (.int (p0 &&& (3 : Int32))), .val (.ref b2), .val (.ref en0), .val (.ref en0)] [(.ref en0), (.ref en0)])) X36 hx rfl rfl rfl (pc0 := 274) (pc' := 277) (same := true) rfl (hb hby at_274) rfl (decide_eq_true rfl) (by decide) (by decide) k) ?_
    refine run_fwd (T' := T36) (g' := (mkF m 278 #[.val (.int p0), .val (.int (p0 &&& (3 : Int32))), .val (.ref b2), .val (.ref en0), .val (.ref en0)] [(.int (1 : Int32))])) (fun _ k => XS.iconst X36.here hx rfl (hb hby at_277) k) ?_
    refine run_fwd (T' := T36) (g' := (mkF m 282 #[.val (.int p0), .val (.int (p0 &&& (3 : Int32))), .val (.ref b2), .val (.ref en0), .val (.ref en0)] [(.int (1 : Int32))])) (fun _ k => XS.goto X36.here hx rfl (pc0 := 278) (pc' := 282) rfl (hb hby at_278) (by decide) (by decide) k) ?_
    exact run_ret X36 hx Bd.returns Bd.notSynchronized rfl (Or.inl ⟨rfl, by simp, _, rfl⟩) (hb hby at_282) (by rw [e36]; exact ⟨rfl, N36⟩) (by decide) (by decide)
  ·
    refine run_fwd (T' := s₁) (g' := (mkF m 63 #[.val (.int p0), .val (.int (p0 &&& (3 : Int32))), .unset, .unset, .unset] [])) (fun _ k => XS.ifYes X0.here hx rfl (pc0 := 5) (pc' := 63) rfl (hb hby at_5) rfl ((if0 _ _).trans (feq hc5_1).2) (by decide) (by decide) k) ?_
    refine run_fwd (T' := s₁) (g' := (mkF m 64 #[.val (.int p0), .val (.int (p0 &&& (3 : Int32))), .unset, .unset, .unset] [(.int (p0 &&& (3 : Int32)))])) (fun _ k => XS.iloadN X0.here hx rfl (hb hby at_63) rfl k) ?_
    refine run_fwd (T' := s₁) (g' := (mkF m 65 #[.val (.int p0), .val (.int (p0 &&& (3 : Int32))), .unset, .unset, .unset] [(.int (1 : Int32)), (.int (p0 &&& (3 : Int32)))])) (fun _ k => XS.iconst X0.here hx rfl (hb hby at_64) k) ?_
    by_cases hc65_39 : (p0 &&& (3 : Int32)) = (1 : Int32)
    ·
      refine run_fwd (T' := s₁) (g' := (mkF m 68 #[.val (.int p0), .val (.int (p0 &&& (3 : Int32))), .unset, .unset, .unset] [])) (fun _ k => XS.icmpNo X0.here hx rfl (hb hby at_65) rfl (teq hc65_39).2 k) ?_
      obtain ⟨T40, h40, X40, e40, E40, A40, D40, U40, st40⟩ := newO X0 hx hZ hown (hw _ (List.mem_of_getElem? (i := 0) rfl)) (hw _ (List.mem_of_getElem? (i := 1) rfl)) (hw _ (List.mem_of_getElem? (i := 2) rfl)) e0 (g := (mkF m 68 #[.val (.int p0), .val (.int (p0 &&& (3 : Int32))), .unset, .unset, .unset] [])) rfl (hb hby at_68) (by decide) (by decide)
      obtain ⟨b40, g40⟩ : ∃ z, z = h0.size := ⟨_, rfl⟩
      rw [← g40] at A40 D40 U40 st40
      have gg40 : n0 ≤ b40 := Nat.le_trans (own_le O0) (Nat.le_of_eq g40.symm)
      have sz40 : h0.size ≤ b40 := Nat.le_trans (Keep.refl h0 []).1 (Nat.le_of_eq g40.symm)
      have O41 : Old Z n0 h40 := O0.ext E40
      have K42 : Keep h0 h40 [] := (Keep.refl h0 []).ext E40
      have D40_coder : Fld Z h40 b40 "java/lang/String" "coder" "B" (.int (0 : Int32)) := D40 (Or.inr (hw _ (List.mem_of_getElem? (i := 27) rfl))) (ty := .byte) (by decide)
      have D40_value : Fld Z h40 b40 "java/lang/String" "value" "[B" .null := D40 (Or.inr (hw _ (List.mem_of_getElem? (i := 29) rfl))) (ty := (.array .byte)) (by decide)
      refine run_fwd (T' := T40) (g' := (mkF m 71 #[.val (.int p0), .val (.int (p0 &&& (3 : Int32))), .unset, .unset, .unset] [(.ref b40)])) (fun _ k => st40 _ k) ?_
      refine run_fwd (T' := T40) (g' := (mkF m 72 #[.val (.int p0), .val (.int (p0 &&& (3 : Int32))), .unset, .unset, .unset] [(.ref b40), (.ref b40)])) (fun _ k => XS.dup X40.here hx rfl (hb hby at_71) rfl rfl k) ?_
      refine run_fwd (T' := T40) (g' := (mkF m 74 #[.val (.int p0), .val (.int (p0 &&& (3 : Int32))), .unset, .unset, .unset] [(.int (9 : Int32)), (.ref b40), (.ref b40)])) (fun _ k => XS.bipush X40.here hx rfl (hb hby at_72) k) ?_
      obtain ⟨T43, h43, k43, X43, e43, E43, A43, st43⟩ := newP X40 hx hZ (hw _ (List.mem_of_getElem? (i := 3) rfl)) e40 (g := (mkF m 74 #[.val (.int p0), .val (.int (p0 &&& (3 : Int32))), .unset, .unset, .unset] [(.int (9 : Int32)), (.ref b40), (.ref b40)])) rfl (hb hby at_74) rfl (by decide) (cap := 9) (by decide) (by decide) (by decide) (by decide)
      obtain ⟨b43, g43⟩ : ∃ z, z = h40.size := ⟨_, rfl⟩
      rw [← g43] at A43 st43
      have gg43 : n0 ≤ b43 := Nat.le_trans (own_le O41) (Nat.le_of_eq g43.symm)
      have sz43 : h0.size ≤ b43 := Nat.le_trans K42.1 (Nat.le_of_eq g43.symm)
      have O44 : Old Z n0 h43 := O41.ext E43
      have K45 : Keep h0 h43 [] := K42.ext E43
      have V43 : Arv Z h43 b43 k43 .char (9 : Int32) [(.int (0 : Int32)), (.int (0 : Int32)), (.int (0 : Int32)), (.int (0 : Int32)), (.int (0 : Int32)), (.int (0 : Int32)), (.int (0 : Int32)), (.int (0 : Int32)), (.int (0 : Int32))] (.int (0 : Int32)) := (Arv.new A43 (by decide)).pad (pad_rep [] (.int (0 : Int32)) 9)
      refine run_fwd (T' := T43) (g' := (mkF m 76 #[.val (.int p0), .val (.int (p0 &&& (3 : Int32))), .unset, .unset, .unset] [(.ref b43), (.ref b40), (.ref b40)])) (fun _ k => st43 _ k) ?_
      refine run_fwd (T' := T43) (g' := (mkF m 77 #[.val (.int p0), .val (.int (p0 &&& (3 : Int32))), .unset, .unset, .unset] [(.ref b43), (.ref b43), (.ref b40), (.ref b40)])) (fun _ k => XS.dup X43.here hx rfl (hb hby at_76) rfl rfl k) ?_
      refine run_fwd (T' := T43) (g' := (mkF m 78 #[.val (.int p0), .val (.int (p0 &&& (3 : Int32))), .unset, .unset, .unset] [(.int (0 : Int32)), (.ref b43), (.ref b43), (.ref b40), (.ref b40)])) (fun _ k => XS.iconst X43.here hx rfl (hb hby at_77) k) ?_
      refine run_fwd (T' := T43) (g' := (mkF m 80 #[.val (.int p0), .val (.int (p0 &&& (3 : Int32))), .unset, .unset, .unset] [(.int (81 : Int32)), (.int (0 : Int32)), (.ref b43), (.ref b43), (.ref b40), (.ref b40)])) (fun _ k => XS.bipush X43.here hx rfl (hb hby at_78) k) ?_
      obtain ⟨cl46, Ar46, qq46, S46, M46, Hh46, G46⟩ := id (V43)
      have hin46 : ¬ ((0 : Int32) < 0 ∨ cl46.slots.size ≤ ((0 : Int32)).toNatClampNeg) := inb_of S46 ⟨by decide, by decide⟩
      obtain ⟨T46, h46, X46, e46, W46, st46⟩ := stC X43 hx hZ e43 Ar46 (j := (0 : Int32)) hin46 (g := (mkF m 80 #[.val (.int p0), .val (.int (p0 &&& (3 : Int32))), .unset, .unset, .unset] [(.int (81 : Int32)), (.int (0 : Int32)), (.ref b43), (.ref b43), (.ref b40), (.ref b40)])) rfl rfl (hb hby at_80)
      have O47 : Old Z n0 h46 := O44.wr W46 gg43
      have K48 : Keep h0 h46 [] := K45.wr W46 (Or.inr sz43)
      have N46 := Fr.snoc X46 N0 gg43
      have V46 : Arv Z h46 b43 k43 .char (9 : Int32) [(.int (nar .char (81 : Int32))), (.int (0 : Int32)), (.int (0 : Int32)), (.int (0 : Int32)), (.int (0 : Int32)), (.int (0 : Int32)), (.int (0 : Int32)), (.int (0 : Int32)), (.int (0 : Int32))] (.int (0 : Int32)) := Arv.set Ar46 qq46 S46 M46 Hh46 G46 (fits_nar_char _) W46 0 rfl (Nat.le_of_ble_eq_true rfl)
      refine run_fwd (T' := T46) (g' := (mkF m 81 #[.val (.int p0), .val (.int (p0 &&& (3 : Int32))), .unset, .unset, .unset] [(.ref b43), (.ref b40), (.ref b40)])) (fun _ k => st46 _ k) ?_
      refine run_fwd (T' := T46) (g' := (mkF m 82 #[.val (.int p0), .val (.int (p0 &&& (3 : Int32))), .unset, .unset, .unset] [(.ref b43), (.ref b43), (.ref b40), (.ref b40)])) (fun _ k => XS.dup X46.here hx rfl (hb hby at_81) rfl rfl k) ?_
      refine run_fwd (T' := T46) (g' := (mkF m 83 #[.val (.int p0), .val (.int (p0 &&& (3 : Int32))), .unset, .unset, .unset] [(.int (1 : Int32)), (.ref b43), (.ref b43), (.ref b40), (.ref b40)])) (fun _ k => XS.iconst X46.here hx rfl (hb hby at_82) k) ?_
      refine run_fwd (T' := T46) (g' := (mkF m 85 #[.val (.int p0), .val (.int (p0 &&& (3 : Int32))), .unset, .unset, .unset] [(.int (117 : Int32)), (.int (1 : Int32)), (.ref b43), (.ref b43), (.ref b40), (.ref b40)])) (fun _ k => XS.bipush X46.here hx rfl (hb hby at_83) k) ?_
      obtain ⟨cl49, Ar49, qq49, S49, M49, Hh49, G49⟩ := id (V46)
      have hin49 : ¬ ((1 : Int32) < 0 ∨ cl49.slots.size ≤ ((1 : Int32)).toNatClampNeg) := inb_of S49 ⟨by decide, by decide⟩
      obtain ⟨T49, h49, X49, e49, W49, st49⟩ := stC X46 hx hZ e46 Ar49 (j := (1 : Int32)) hin49 (g := (mkF m 85 #[.val (.int p0), .val (.int (p0 &&& (3 : Int32))), .unset, .unset, .unset] [(.int (117 : Int32)), (.int (1 : Int32)), (.ref b43), (.ref b43), (.ref b40), (.ref b40)])) rfl rfl (hb hby at_85)
      have O50 : Old Z n0 h49 := O47.wr W49 gg43
      have K51 : Keep h0 h49 [] := K48.wr W49 (Or.inr sz43)
      have N49 := Fr.snoc X49 N46 gg43
      have V49 : Arv Z h49 b43 k43 .char (9 : Int32) [(.int (nar .char (81 : Int32))), (.int (nar .char (117 : Int32))), (.int (0 : Int32)), (.int (0 : Int32)), (.int (0 : Int32)), (.int (0 : Int32)), (.int (0 : Int32)), (.int (0 : Int32)), (.int (0 : Int32))] (.int (0 : Int32)) := Arv.set Ar49 qq49 S49 M49 Hh49 G49 (fits_nar_char _) W49 1 rfl (Nat.le_of_ble_eq_true rfl)
      refine run_fwd (T' := T49) (g' := (mkF m 86 #[.val (.int p0), .val (.int (p0 &&& (3 : Int32))), .unset, .unset, .unset] [(.ref b43), (.ref b40), (.ref b40)])) (fun _ k => st49 _ k) ?_
      refine run_fwd (T' := T49) (g' := (mkF m 87 #[.val (.int p0), .val (.int (p0 &&& (3 : Int32))), .unset, .unset, .unset] [(.ref b43), (.ref b43), (.ref b40), (.ref b40)])) (fun _ k => XS.dup X49.here hx rfl (hb hby at_86) rfl rfl k) ?_
      refine run_fwd (T' := T49) (g' := (mkF m 88 #[.val (.int p0), .val (.int (p0 &&& (3 : Int32))), .unset, .unset, .unset] [(.int (2 : Int32)), (.ref b43), (.ref b43), (.ref b40), (.ref b40)])) (fun _ k => XS.iconst X49.here hx rfl (hb hby at_87) k) ?_
      refine run_fwd (T' := T49) (g' := (mkF m 90 #[.val (.int p0), .val (.int (p0 &&& (3 : Int32))), .unset, .unset, .unset] [(.int (97 : Int32)), (.int (2 : Int32)), (.ref b43), (.ref b43), (.ref b40), (.ref b40)])) (fun _ k => XS.bipush X49.here hx rfl (hb hby at_88) k) ?_
      obtain ⟨cl52, Ar52, qq52, S52, M52, Hh52, G52⟩ := id (V49)
      have hin52 : ¬ ((2 : Int32) < 0 ∨ cl52.slots.size ≤ ((2 : Int32)).toNatClampNeg) := inb_of S52 ⟨by decide, by decide⟩
      obtain ⟨T52, h52, X52, e52, W52, st52⟩ := stC X49 hx hZ e49 Ar52 (j := (2 : Int32)) hin52 (g := (mkF m 90 #[.val (.int p0), .val (.int (p0 &&& (3 : Int32))), .unset, .unset, .unset] [(.int (97 : Int32)), (.int (2 : Int32)), (.ref b43), (.ref b43), (.ref b40), (.ref b40)])) rfl rfl (hb hby at_90)
      have O53 : Old Z n0 h52 := O50.wr W52 gg43
      have K54 : Keep h0 h52 [] := K51.wr W52 (Or.inr sz43)
      have N52 := Fr.snoc X52 N49 gg43
      have V52 : Arv Z h52 b43 k43 .char (9 : Int32) [(.int (nar .char (81 : Int32))), (.int (nar .char (117 : Int32))), (.int (nar .char (97 : Int32))), (.int (0 : Int32)), (.int (0 : Int32)), (.int (0 : Int32)), (.int (0 : Int32)), (.int (0 : Int32)), (.int (0 : Int32))] (.int (0 : Int32)) := Arv.set Ar52 qq52 S52 M52 Hh52 G52 (fits_nar_char _) W52 2 rfl (Nat.le_of_ble_eq_true rfl)
      refine run_fwd (T' := T52) (g' := (mkF m 91 #[.val (.int p0), .val (.int (p0 &&& (3 : Int32))), .unset, .unset, .unset] [(.ref b43), (.ref b40), (.ref b40)])) (fun _ k => st52 _ k) ?_
      refine run_fwd (T' := T52) (g' := (mkF m 92 #[.val (.int p0), .val (.int (p0 &&& (3 : Int32))), .unset, .unset, .unset] [(.ref b43), (.ref b43), (.ref b40), (.ref b40)])) (fun _ k => XS.dup X52.here hx rfl (hb hby at_91) rfl rfl k) ?_
      refine run_fwd (T' := T52) (g' := (mkF m 93 #[.val (.int p0), .val (.int (p0 &&& (3 : Int32))), .unset, .unset, .unset] [(.int (3 : Int32)), (.ref b43), (.ref b43), (.ref b40), (.ref b40)])) (fun _ k => XS.iconst X52.here hx rfl (hb hby at_92) k) ?_
      refine run_fwd (T' := T52) (g' := (mkF m 95 #[.val (.int p0), .val (.int (p0 &&& (3 : Int32))), .unset, .unset, .unset] [(.int (114 : Int32)), (.int (3 : Int32)), (.ref b43), (.ref b43), (.ref b40), (.ref b40)])) (fun _ k => XS.bipush X52.here hx rfl (hb hby at_93) k) ?_
      obtain ⟨cl55, Ar55, qq55, S55, M55, Hh55, G55⟩ := id (V52)
      have hin55 : ¬ ((3 : Int32) < 0 ∨ cl55.slots.size ≤ ((3 : Int32)).toNatClampNeg) := inb_of S55 ⟨by decide, by decide⟩
      obtain ⟨T55, h55, X55, e55, W55, st55⟩ := stC X52 hx hZ e52 Ar55 (j := (3 : Int32)) hin55 (g := (mkF m 95 #[.val (.int p0), .val (.int (p0 &&& (3 : Int32))), .unset, .unset, .unset] [(.int (114 : Int32)), (.int (3 : Int32)), (.ref b43), (.ref b43), (.ref b40), (.ref b40)])) rfl rfl (hb hby at_95)
      have O56 : Old Z n0 h55 := O53.wr W55 gg43
      have K57 : Keep h0 h55 [] := K54.wr W55 (Or.inr sz43)
      have N55 := Fr.snoc X55 N52 gg43
      have V55 : Arv Z h55 b43 k43 .char (9 : Int32) [(.int (nar .char (81 : Int32))), (.int (nar .char (117 : Int32))), (.int (nar .char (97 : Int32))), (.int (nar .char (114 : Int32))), (.int (0 : Int32)), (.int (0 : Int32)), (.int (0 : Int32)), (.int (0 : Int32)), (.int (0 : Int32))] (.int (0 : Int32)) := Arv.set Ar55 qq55 S55 M55 Hh55 G55 (fits_nar_char _) W55 3 rfl (Nat.le_of_ble_eq_true rfl)
      refine run_fwd (T' := T55) (g' := (mkF m 96 #[.val (.int p0), .val (.int (p0 &&& (3 : Int32))), .unset, .unset, .unset] [(.ref b43), (.ref b40), (.ref b40)])) (fun _ k => st55 _ k) ?_
      refine run_fwd (T' := T55) (g' := (mkF m 97 #[.val (.int p0), .val (.int (p0 &&& (3 : Int32))), .unset, .unset, .unset] [(.ref b43), (.ref b43), (.ref b40), (.ref b40)])) (fun _ k => XS.dup X55.here hx rfl (hb hby at_96) rfl rfl k) ?_
      refine run_fwd (T' := T55) (g' := (mkF m 98 #[.val (.int p0), .val (.int (p0 &&& (3 : Int32))), .unset, .unset, .unset] [(.int (4 : Int32)), (.ref b43), (.ref b43), (.ref b40), (.ref b40)])) (fun _ k => XS.iconst X55.here hx rfl (hb hby at_97) k) ?_
      refine run_fwd (T' := T55) (g' := (mkF m 100 #[.val (.int p0), .val (.int (p0 &&& (3 : Int32))), .unset, .unset, .unset] [(.int (116 : Int32)), (.int (4 : Int32)), (.ref b43), (.ref b43), (.ref b40), (.ref b40)])) (fun _ k => XS.bipush X55.here hx rfl (hb hby at_98) k) ?_
      obtain ⟨cl58, Ar58, qq58, S58, M58, Hh58, G58⟩ := id (V55)
      have hin58 : ¬ ((4 : Int32) < 0 ∨ cl58.slots.size ≤ ((4 : Int32)).toNatClampNeg) := inb_of S58 ⟨by decide, by decide⟩
      obtain ⟨T58, h58, X58, e58, W58, st58⟩ := stC X55 hx hZ e55 Ar58 (j := (4 : Int32)) hin58 (g := (mkF m 100 #[.val (.int p0), .val (.int (p0 &&& (3 : Int32))), .unset, .unset, .unset] [(.int (116 : Int32)), (.int (4 : Int32)), (.ref b43), (.ref b43), (.ref b40), (.ref b40)])) rfl rfl (hb hby at_100)
      have O59 : Old Z n0 h58 := O56.wr W58 gg43
      have K60 : Keep h0 h58 [] := K57.wr W58 (Or.inr sz43)
      have N58 := Fr.snoc X58 N55 gg43
      have V58 : Arv Z h58 b43 k43 .char (9 : Int32) [(.int (nar .char (81 : Int32))), (.int (nar .char (117 : Int32))), (.int (nar .char (97 : Int32))), (.int (nar .char (114 : Int32))), (.int (nar .char (116 : Int32))), (.int (0 : Int32)), (.int (0 : Int32)), (.int (0 : Int32)), (.int (0 : Int32))] (.int (0 : Int32)) := Arv.set Ar58 qq58 S58 M58 Hh58 G58 (fits_nar_char _) W58 4 rfl (Nat.le_of_ble_eq_true rfl)
      refine run_fwd (T' := T58) (g' := (mkF m 101 #[.val (.int p0), .val (.int (p0 &&& (3 : Int32))), .unset, .unset, .unset] [(.ref b43), (.ref b40), (.ref b40)])) (fun _ k => st58 _ k) ?_
      refine run_fwd (T' := T58) (g' := (mkF m 102 #[.val (.int p0), .val (.int (p0 &&& (3 : Int32))), .unset, .unset, .unset] [(.ref b43), (.ref b43), (.ref b40), (.ref b40)])) (fun _ k => XS.dup X58.here hx rfl (hb hby at_101) rfl rfl k) ?_
      refine run_fwd (T' := T58) (g' := (mkF m 103 #[.val (.int p0), .val (.int (p0 &&& (3 : Int32))), .unset, .unset, .unset] [(.int (5 : Int32)), (.ref b43), (.ref b43), (.ref b40), (.ref b40)])) (fun _ k => XS.iconst X58.here hx rfl (hb hby at_102) k) ?_
      refine run_fwd (T' := T58) (g' := (mkF m 105 #[.val (.int p0), .val (.int (p0 &&& (3 : Int32))), .unset, .unset, .unset] [(.int (101 : Int32)), (.int (5 : Int32)), (.ref b43), (.ref b43), (.ref b40), (.ref b40)])) (fun _ k => XS.bipush X58.here hx rfl (hb hby at_103) k) ?_
      obtain ⟨cl61, Ar61, qq61, S61, M61, Hh61, G61⟩ := id (V58)
      have hin61 : ¬ ((5 : Int32) < 0 ∨ cl61.slots.size ≤ ((5 : Int32)).toNatClampNeg) := inb_of S61 ⟨by decide, by decide⟩
      obtain ⟨T61, h61, X61, e61, W61, st61⟩ := stC X58 hx hZ e58 Ar61 (j := (5 : Int32)) hin61 (g := (mkF m 105 #[.val (.int p0), .val (.int (p0 &&& (3 : Int32))), .unset, .unset, .unset] [(.int (101 : Int32)), (.int (5 : Int32)), (.ref b43), (.ref b43), (.ref b40), (.ref b40)])) rfl rfl (hb hby at_105)
      have O62 : Old Z n0 h61 := O59.wr W61 gg43
      have K63 : Keep h0 h61 [] := K60.wr W61 (Or.inr sz43)
      have N61 := Fr.snoc X61 N58 gg43
      have V61 : Arv Z h61 b43 k43 .char (9 : Int32) [(.int (nar .char (81 : Int32))), (.int (nar .char (117 : Int32))), (.int (nar .char (97 : Int32))), (.int (nar .char (114 : Int32))), (.int (nar .char (116 : Int32))), (.int (nar .char (101 : Int32))), (.int (0 : Int32)), (.int (0 : Int32)), (.int (0 : Int32))] (.int (0 : Int32)) := Arv.set Ar61 qq61 S61 M61 Hh61 G61 (fits_nar_char _) W61 5 rfl (Nat.le_of_ble_eq_true rfl)
      refine run_fwd (T' := T61) (g' := (mkF m 106 #[.val (.int p0), .val (.int (p0 &&& (3 : Int32))), .unset, .unset, .unset] [(.ref b43), (.ref b40), (.ref b40)])) (fun _ k => st61 _ k) ?_
      refine run_fwd (T' := T61) (g' := (mkF m 107 #[.val (.int p0), .val (.int (p0 &&& (3 : Int32))), .unset, .unset, .unset] [(.ref b43), (.ref b43), (.ref b40), (.ref b40)])) (fun _ k => XS.dup X61.here hx rfl (hb hby at_106) rfl rfl k) ?_
      refine run_fwd (T' := T61) (g' := (mkF m 109 #[.val (.int p0), .val (.int (p0 &&& (3 : Int32))), .unset, .unset, .unset] [(.int (6 : Int32)), (.ref b43), (.ref b43), (.ref b40), (.ref b40)])) (fun _ k => XS.bipush X61.here hx rfl (hb hby at_107) k) ?_
      refine run_fwd (T' := T61) (g' := (mkF m 111 #[.val (.int p0), .val (.int (p0 &&& (3 : Int32))), .unset, .unset, .unset] [(.int (114 : Int32)), (.int (6 : Int32)), (.ref b43), (.ref b43), (.ref b40), (.ref b40)])) (fun _ k => XS.bipush X61.here hx rfl (hb hby at_109) k) ?_
      obtain ⟨cl64, Ar64, qq64, S64, M64, Hh64, G64⟩ := id (V61)
      have hin64 : ¬ ((6 : Int32) < 0 ∨ cl64.slots.size ≤ ((6 : Int32)).toNatClampNeg) := inb_of S64 ⟨by decide, by decide⟩
      obtain ⟨T64, h64, X64, e64, W64, st64⟩ := stC X61 hx hZ e61 Ar64 (j := (6 : Int32)) hin64 (g := (mkF m 111 #[.val (.int p0), .val (.int (p0 &&& (3 : Int32))), .unset, .unset, .unset] [(.int (114 : Int32)), (.int (6 : Int32)), (.ref b43), (.ref b43), (.ref b40), (.ref b40)])) rfl rfl (hb hby at_111)
      have O65 : Old Z n0 h64 := O62.wr W64 gg43
      have K66 : Keep h0 h64 [] := K63.wr W64 (Or.inr sz43)
      have N64 := Fr.snoc X64 N61 gg43
      have V64 : Arv Z h64 b43 k43 .char (9 : Int32) [(.int (nar .char (81 : Int32))), (.int (nar .char (117 : Int32))), (.int (nar .char (97 : Int32))), (.int (nar .char (114 : Int32))), (.int (nar .char (116 : Int32))), (.int (nar .char (101 : Int32))), (.int (nar .char (114 : Int32))), (.int (0 : Int32)), (.int (0 : Int32))] (.int (0 : Int32)) := Arv.set Ar64 qq64 S64 M64 Hh64 G64 (fits_nar_char _) W64 6 rfl (Nat.le_of_ble_eq_true rfl)
      refine run_fwd (T' := T64) (g' := (mkF m 112 #[.val (.int p0), .val (.int (p0 &&& (3 : Int32))), .unset, .unset, .unset] [(.ref b43), (.ref b40), (.ref b40)])) (fun _ k => st64 _ k) ?_
      refine run_fwd (T' := T64) (g' := (mkF m 113 #[.val (.int p0), .val (.int (p0 &&& (3 : Int32))), .unset, .unset, .unset] [(.ref b43), (.ref b43), (.ref b40), (.ref b40)])) (fun _ k => XS.dup X64.here hx rfl (hb hby at_112) rfl rfl k) ?_
      refine run_fwd (T' := T64) (g' := (mkF m 115 #[.val (.int p0), .val (.int (p0 &&& (3 : Int32))), .unset, .unset, .unset] [(.int (7 : Int32)), (.ref b43), (.ref b43), (.ref b40), (.ref b40)])) (fun _ k => XS.bipush X64.here hx rfl (hb hby at_113) k) ?_
      refine run_fwd (T' := T64) (g' := (mkF m 117 #[.val (.int p0), .val (.int (p0 &&& (3 : Int32))), .unset, .unset, .unset] [(.int (108 : Int32)), (.int (7 : Int32)), (.ref b43), (.ref b43), (.ref b40), (.ref b40)])) (fun _ k => XS.bipush X64.here hx rfl (hb hby at_115) k) ?_
      obtain ⟨cl67, Ar67, qq67, S67, M67, Hh67, G67⟩ := id (V64)
      have hin67 : ¬ ((7 : Int32) < 0 ∨ cl67.slots.size ≤ ((7 : Int32)).toNatClampNeg) := inb_of S67 ⟨by decide, by decide⟩
      obtain ⟨T67, h67, X67, e67, W67, st67⟩ := stC X64 hx hZ e64 Ar67 (j := (7 : Int32)) hin67 (g := (mkF m 117 #[.val (.int p0), .val (.int (p0 &&& (3 : Int32))), .unset, .unset, .unset] [(.int (108 : Int32)), (.int (7 : Int32)), (.ref b43), (.ref b43), (.ref b40), (.ref b40)])) rfl rfl (hb hby at_117)
      have O68 : Old Z n0 h67 := O65.wr W67 gg43
      have K69 : Keep h0 h67 [] := K66.wr W67 (Or.inr sz43)
      have N67 := Fr.snoc X67 N64 gg43
      have V67 : Arv Z h67 b43 k43 .char (9 : Int32) [(.int (nar .char (81 : Int32))), (.int (nar .char (117 : Int32))), (.int (nar .char (97 : Int32))), (.int (nar .char (114 : Int32))), (.int (nar .char (116 : Int32))), (.int (nar .char (101 : Int32))), (.int (nar .char (114 : Int32))), (.int (nar .char (108 : Int32))), (.int (0 : Int32))] (.int (0 : Int32)) := Arv.set Ar67 qq67 S67 M67 Hh67 G67 (fits_nar_char _) W67 7 rfl (Nat.le_of_ble_eq_true rfl)
      refine run_fwd (T' := T67) (g' := (mkF m 118 #[.val (.int p0), .val (.int (p0 &&& (3 : Int32))), .unset, .unset, .unset] [(.ref b43), (.ref b40), (.ref b40)])) (fun _ k => st67 _ k) ?_
      refine run_fwd (T' := T67) (g' := (mkF m 119 #[.val (.int p0), .val (.int (p0 &&& (3 : Int32))), .unset, .unset, .unset] [(.ref b43), (.ref b43), (.ref b40), (.ref b40)])) (fun _ k => XS.dup X67.here hx rfl (hb hby at_118) rfl rfl k) ?_
      refine run_fwd (T' := T67) (g' := (mkF m 121 #[.val (.int p0), .val (.int (p0 &&& (3 : Int32))), .unset, .unset, .unset] [(.int (8 : Int32)), (.ref b43), (.ref b43), (.ref b40), (.ref b40)])) (fun _ k => XS.bipush X67.here hx rfl (hb hby at_119) k) ?_
      refine run_fwd (T' := T67) (g' := (mkF m 123 #[.val (.int p0), .val (.int (p0 &&& (3 : Int32))), .unset, .unset, .unset] [(.int (121 : Int32)), (.int (8 : Int32)), (.ref b43), (.ref b43), (.ref b40), (.ref b40)])) (fun _ k => XS.bipush X67.here hx rfl (hb hby at_121) k) ?_
      obtain ⟨cl70, Ar70, qq70, S70, M70, Hh70, G70⟩ := id (V67)
      have hin70 : ¬ ((8 : Int32) < 0 ∨ cl70.slots.size ≤ ((8 : Int32)).toNatClampNeg) := inb_of S70 ⟨by decide, by decide⟩
      obtain ⟨T70, h70, X70, e70, W70, st70⟩ := stC X67 hx hZ e67 Ar70 (j := (8 : Int32)) hin70 (g := (mkF m 123 #[.val (.int p0), .val (.int (p0 &&& (3 : Int32))), .unset, .unset, .unset] [(.int (121 : Int32)), (.int (8 : Int32)), (.ref b43), (.ref b43), (.ref b40), (.ref b40)])) rfl rfl (hb hby at_123)
      have O71 : Old Z n0 h70 := O68.wr W70 gg43
      have K72 : Keep h0 h70 [] := K69.wr W70 (Or.inr sz43)
      have N70 := Fr.snoc X70 N67 gg43
      have V70 : Arv Z h70 b43 k43 .char (9 : Int32) [(.int (nar .char (81 : Int32))), (.int (nar .char (117 : Int32))), (.int (nar .char (97 : Int32))), (.int (nar .char (114 : Int32))), (.int (nar .char (116 : Int32))), (.int (nar .char (101 : Int32))), (.int (nar .char (114 : Int32))), (.int (nar .char (108 : Int32))), (.int (nar .char (121 : Int32)))] (.int (0 : Int32)) := Arv.set Ar70 qq70 S70 M70 Hh70 G70 (fits_nar_char _) W70 8 rfl (Nat.le_of_ble_eq_true rfl)
      refine run_fwd (T' := T70) (g' := (mkF m 124 #[.val (.int p0), .val (.int (p0 &&& (3 : Int32))), .unset, .unset, .unset] [(.ref b43), (.ref b40), (.ref b40)])) (fun _ k => st70 _ k) ?_
      have f74 : Exa Z h70 b40 "java/lang/String" := ((((((((((A40.ext E43).wr W46).wr W49).wr W52).wr W55).wr W58).wr W61).wr W64).wr W67).wr W70)
      have f75 : Fld Z h70 b40 "java/lang/String" "value" "[B" .null := ((((((((((D40_value.ext E43).other W46 (Or.inl (Nat.ne_of_lt (Nat.lt_of_lt_of_le D40_value.lt (Nat.le_of_eq g43.symm))))).other W49 (Or.inl (Nat.ne_of_lt (Nat.lt_of_lt_of_le D40_value.lt (Nat.le_of_eq g43.symm))))).other W52 (Or.inl (Nat.ne_of_lt (Nat.lt_of_lt_of_le D40_value.lt (Nat.le_of_eq g43.symm))))).other W55 (Or.inl (Nat.ne_of_lt (Nat.lt_of_lt_of_le D40_value.lt (Nat.le_of_eq g43.symm))))).other W58 (Or.inl (Nat.ne_of_lt (Nat.lt_of_lt_of_le D40_value.lt (Nat.le_of_eq g43.symm))))).other W61 (Or.inl (Nat.ne_of_lt (Nat.lt_of_lt_of_le D40_value.lt (Nat.le_of_eq g43.symm))))).other W64 (Or.inl (Nat.ne_of_lt (Nat.lt_of_lt_of_le D40_value.lt (Nat.le_of_eq g43.symm))))).other W67 (Or.inl (Nat.ne_of_lt (Nat.lt_of_lt_of_le D40_value.lt (Nat.le_of_eq g43.symm))))).other W70 (Or.inl (Nat.ne_of_lt (Nat.lt_of_lt_of_le D40_value.lt (Nat.le_of_eq g43.symm)))))
      have f76 : Fld Z h70 b40 "java/lang/String" "coder" "B" (.int (0 : Int32)) := ((((((((((D40_coder.ext E43).other W46 (Or.inl (Nat.ne_of_lt (Nat.lt_of_lt_of_le D40_value.lt (Nat.le_of_eq g43.symm))))).other W49 (Or.inl (Nat.ne_of_lt (Nat.lt_of_lt_of_le D40_value.lt (Nat.le_of_eq g43.symm))))).other W52 (Or.inl (Nat.ne_of_lt (Nat.lt_of_lt_of_le D40_value.lt (Nat.le_of_eq g43.symm))))).other W55 (Or.inl (Nat.ne_of_lt (Nat.lt_of_lt_of_le D40_value.lt (Nat.le_of_eq g43.symm))))).other W58 (Or.inl (Nat.ne_of_lt (Nat.lt_of_lt_of_le D40_value.lt (Nat.le_of_eq g43.symm))))).other W61 (Or.inl (Nat.ne_of_lt (Nat.lt_of_lt_of_le D40_value.lt (Nat.le_of_eq g43.symm))))).other W64 (Or.inl (Nat.ne_of_lt (Nat.lt_of_lt_of_le D40_value.lt (Nat.le_of_eq g43.symm))))).other W67 (Or.inl (Nat.ne_of_lt (Nat.lt_of_lt_of_le D40_value.lt (Nat.le_of_eq g43.symm))))).other W70 (Or.inl (Nat.ne_of_lt (Nat.lt_of_lt_of_le D40_value.lt (Nat.le_of_eq g43.symm)))))
      obtain ⟨T73, v73, L73, X73, hQ73, st73⟩ := own_gotV X70 (X70.specialBack hx (y := (⟨"java/lang/String", "<init>", "([C)V"⟩ : MethodName)) rfl hown (mvT hZ (hw _ (List.mem_of_getElem? (i := 4) rfl))) (mvT hZ (hw _ (List.mem_of_getElem? (i := 5) rfl))) (mvT hZ (hw _ (List.mem_of_getElem? (i := 6) rfl))) (by decide) (backOf (W := 1) (rmC l Z aV hw [] b40 b43 (9 : Int32) k43 9 own_n1 cs h70 n0 O71 gg40 f74 f75 f76 V70 Si23 (hcs) ((Ne.symm (Nat.ne_of_lt (Nat.lt_of_lt_of_le D40_value.lt (Nat.le_of_eq g43.symm))))) (by decide) (by decide) (by decide)) hZ (hw _ (List.mem_of_getElem? (i := 6) rfl)) (hw _ (List.mem_of_getElem? (i := 2) rfl)) (by decide) (by decide)) (g := (mkF m 124 #[.val (.int p0), .val (.int (p0 &&& (3 : Int32))), .unset, .unset, .unset] [(.ref b43), (.ref b40), (.ref b40)])) rfl (by rw [hml]; rfl) (Steps.refl _) (a := b40) (argsL := [(.ref b43)]) (rest := [(.ref b40)]) (lenOf pd__28_5bC_29V rfl) rfl (by show 2 * 0 + _ ≤ _; exact Nat.le_of_eq rfl) (hb hby at_124) (fun _ _ => ⟨rfl, e70, (by decide : 2 + 1 ≤ _), (by decide : 13 + 16 ≤ _)⟩))
      obtain ⟨t_73, kt_73, rfl, N73q, Q73_0, Q73_1, Q73_2, Q73_3, Q73_4, Q73_5⟩ := hQ73
      have N73 := Fr.app N70 N73q
      obtain ⟨h73, e73⟩ : ∃ z, T73.heap = z := ⟨_, rfl⟩
      rw [e73] at Q73_0 Q73_1 Q73_2 Q73_3 Q73_4
      have O77 : Old Z n0 h73 := O71.keep Q73_0 (allS gg40 all0)
      have K78 : Keep h0 h73 [] := K72.trans Q73_0 (allS (Or.inr sz40) all0)
      have gg73_5 : n0 ≤ t_73 := Nat.le_trans (own_le O71) Q73_5
      have sz73_5 : h0.size ≤ t_73 := (Nat.le_trans K72.1 Q73_5)
      refine run_fwd (T' := T73) (g' := (mkF m 127 #[.val (.int p0), .val (.int (p0 &&& (3 : Int32))), .unset, .unset, .unset] [(.ref b40)])) (fun _ k => st73.trans k) ?_
      refine run_fwd (T' := T73) (g' := (mkF m 128 #[.val (.int p0), .val (.int (p0 &&& (3 : Int32))), .val (.ref b40), .unset, .unset] [])) (fun _ k => XS.astoreN X73.here hx rfl (hb hby at_127) rfl rfl (l' := #[.val (.int p0), .val (.int (p0 &&& (3 : Int32))), .val (.ref b40), .unset, .unset]) rfl k) ?_
      obtain ⟨T79, X79, e79, st79⟩ := getS2 X73 hx hZ hown (host := "") (Or.inl (hw _ (List.mem_of_getElem? (i := 68) rfl))) Via.refl e73 (Si26.ext O77.2) (g := (mkF m 128 #[.val (.int p0), .val (.int (p0 &&& (3 : Int32))), .val (.ref b40), .unset, .unset] [])) rfl (hb hby at_128)
      refine run_fwd (T' := T79) (g' := (mkF m 131 #[.val (.int p0), .val (.int (p0 &&& (3 : Int32))), .val (.ref b40), .unset, .unset] [(.ref en1)])) (fun _ k => st79 _ k) ?_
      refine run_fwd (T' := T79) (g' := (mkF m 132 #[.val (.int p0), .val (.int (p0 &&& (3 : Int32))), .val (.ref b40), .val (.ref en1), .unset] [])) (fun _ k => XS.astoreN X79.here hx rfl (hb hby at_131) rfl rfl (l' := #[.val (.int p0), .val (.int (p0 &&& (3 : Int32))), .val (.ref b40), .val (.ref en1), .unset]) rfl k) ?_
      refine run_fwd (T' := T79) (g' := (mkF m 265 #[.val (.int p0), .val (.int (p0 &&& (3 : Int32))), .val (.ref b40), .val (.ref en1), .unset] [])) (fun _ k => XS.goto X79.here hx rfl (pc0 := 132) (pc' := 265) rfl (hb hby at_132) (by decide) (by decide) k) ?_
      refine run_fwd (T' := T79) (g' := (mkF m 266 #[.val (.int p0), .val (.int (p0 &&& (3 : Int32))), .val (.ref b40), .val (.ref en1), .unset] [(.ref b40)])) (fun _ k => XS.aloadN X79.here hx rfl (hb hby at_265) rfl rfl k) ?_
      obtain ⟨T80, v80, L80, X80, hQ80, st80⟩ := own_gotS X79 (Jvm.LawKit.callS X79 hx (y := (⟨"com/example/recurr/recurr/BillingFrequency", "parse", "(Ljava/lang/String;)Lcom/example/recurr/recurr/BillingFrequency;"⟩ : MethodName)) hown (mvT hZ (hw _ (List.mem_of_getElem? (i := 33) rfl))) (mvT hZ (hw _ (List.mem_of_getElem? (i := 34) rfl))) (mvT hZ (hw _ (List.mem_of_getElem? (i := 31) rfl))) (mvT hZ (hw _ (List.mem_of_getElem? (i := 35) rfl))) (by decide) (backOf (W := 0) (rmP1 l Z aV hw [] b40 vv kv en0 en1 en2 en3 sn0 tn0 kn0 sn1 tn1 kn1 sn2 tn2 kn2 sn3 tn3 kn3 t_73 kt_73 (9 : Int32) 9 (own_by own_n1) cs h73 n0 O77 Si0 OVi1 OEi2 OFi3 OEi4 OFi5 OFi6 OVi7 OFi8 OEi9 OFi10 OFi11 OVi12 OFi13 OEi14 OFi15 OFi16 OVi17 OFi18 OEi19 OFi20 OFi21 OVi22 Si23 (hcs) gg40 Q73_1 Q73_2 Q73_3 Q73_4 (by decide) (by decide) (by decide)) hZ (hw _ (List.mem_of_getElem? (i := 35) rfl)) (hw _ (List.mem_of_getElem? (i := 31) rfl)) (by decide) (by decide)) (g := (mkF m 266 #[.val (.int p0), .val (.int (p0 &&& (3 : Int32))), .val (.ref b40), .val (.ref en1), .unset] [(.ref b40)])) rfl (by rw [hml]; rfl) (argsL := [(.ref b40)]) (rest := []) (lenOf pd__28Ljava_2flang_2fString_3b_29Lcom_2fexample_2frecurr_2frecurr_2fBillingFrequency_3b rfl) rfl (by show 2 * 0 + _ ≤ _; exact Nat.le_of_eq rfl) (hb hby at_266) (fun _ _ => ⟨rfl, e79, (by decide : 3 + 1 ≤ _), (by decide : 29 + 4 ≤ _)⟩))
      obtain ⟨rfl, N80q, Q80_0⟩ := hQ80
      have N80 := Fr.app N73 N80q
      obtain ⟨h80, e80⟩ : ∃ z, T80.heap = z := ⟨_, rfl⟩
      rw [e80] at Q80_0
      have O81 : Old Z n0 h80 := O77.keep Q80_0 all0
      have K82 : Keep h0 h80 [] := K78.trans Q80_0 all0
      refine run_fwd (T' := T80) (g' := (mkF m 269 #[.val (.int p0), .val (.int (p0 &&& (3 : Int32))), .val (.ref b40), .val (.ref en1), .unset] [(.ref en1)])) (fun _ k => st80 _ k) ?_
      refine run_fwd (T' := T80) (g' := (mkF m 271 #[.val (.int p0), .val (.int (p0 &&& (3 : Int32))), .val (.ref b40), .val (.ref en1), .val (.ref en1)] [])) (fun _ k => XS.astore X80.here hx rfl (hb hby at_269) rfl rfl (l' := #[.val (.int p0), .val (.int (p0 &&& (3 : Int32))), .val (.ref b40), .val (.ref en1), .val (.ref en1)]) rfl k) ?_
      refine run_fwd (T' := T80) (g' := (mkF m 273 #[.val (.int p0), .val (.int (p0 &&& (3 : Int32))), .val (.ref b40), .val (.ref en1), .val (.ref en1)] [(.ref en1)])) (fun _ k => XS.aload X80.here hx rfl (hb hby at_271) rfl rfl k) ?_
      refine run_fwd (T' := T80) (g' := (mkF m 274 #[.val (.int p0), .val (.int (p0 &&& (3 : Int32))), .val (.ref b40), .val (.ref en1), .val (.ref en1)] [(.ref en1), (.ref en1)])) (fun _ k => XS.aloadN X80.here hx rfl (hb hby at_273) rfl rfl k) ?_
      refine run_fwd (T' := T80) (g' := (mkF m 277 #[.val (.int p0), .val (.int (p0 &&& (3 : Int32))), .val (.ref b40), .val (.ref en1), .val (.ref en1)] [])) (fun _ k => Jvm.RoadKit.acmp (g := (mkF m 274 #[.val (.int p0), .val (.int (p0 &&& (3 : Int32))), .val (.ref b40), .val (.ref en1), .val (.ref en1)] [(.ref en1), (.ref en1)])) X80 hx rfl rfl rfl (pc0 := 274) (pc' := 277) (same := true) rfl (hb hby at_274) rfl (decide_eq_true rfl) (by decide) (by decide) k) ?_
      refine run_fwd (T' := T80) (g' := (mkF m 278 #[.val (.int p0), .val (.int (p0 &&& (3 : Int32))), .val (.ref b40), .val (.ref en1), .val (.ref en1)] [(.int (1 : Int32))])) (fun _ k => XS.iconst X80.here hx rfl (hb hby at_277) k) ?_
      refine run_fwd (T' := T80) (g' := (mkF m 282 #[.val (.int p0), .val (.int (p0 &&& (3 : Int32))), .val (.ref b40), .val (.ref en1), .val (.ref en1)] [(.int (1 : Int32))])) (fun _ k => XS.goto X80.here hx rfl (pc0 := 278) (pc' := 282) rfl (hb hby at_278) (by decide) (by decide) k) ?_
      exact run_ret X80 hx Bd.returns Bd.notSynchronized rfl (Or.inl ⟨rfl, by simp, _, rfl⟩) (hb hby at_282) (by rw [e80]; exact ⟨rfl, N80⟩) (by decide) (by decide)
    ·
      refine run_fwd (T' := s₁) (g' := (mkF m 135 #[.val (.int p0), .val (.int (p0 &&& (3 : Int32))), .unset, .unset, .unset] [])) (fun _ k => XS.icmpYes X0.here hx rfl (pc0 := 65) (pc' := 135) rfl (hb hby at_65) rfl (feq hc65_39).2 (by decide) (by decide) k) ?_
      refine run_fwd (T' := s₁) (g' := (mkF m 136 #[.val (.int p0), .val (.int (p0 &&& (3 : Int32))), .unset, .unset, .unset] [(.int (p0 &&& (3 : Int32)))])) (fun _ k => XS.iloadN X0.here hx rfl (hb hby at_135) rfl k) ?_
      refine run_fwd (T' := s₁) (g' := (mkF m 137 #[.val (.int p0), .val (.int (p0 &&& (3 : Int32))), .unset, .unset, .unset] [(.int (2 : Int32)), (.int (p0 &&& (3 : Int32)))])) (fun _ k => XS.iconst X0.here hx rfl (hb hby at_136) k) ?_
      by_cases hc137_83 : (p0 &&& (3 : Int32)) = (2 : Int32)
      ·
        refine run_fwd (T' := s₁) (g' := (mkF m 140 #[.val (.int p0), .val (.int (p0 &&& (3 : Int32))), .unset, .unset, .unset] [])) (fun _ k => XS.icmpNo X0.here hx rfl (hb hby at_137) rfl (teq hc137_83).2 k) ?_
        obtain ⟨T84, h84, X84, e84, E84, A84, D84, U84, st84⟩ := newO X0 hx hZ hown (hw _ (List.mem_of_getElem? (i := 0) rfl)) (hw _ (List.mem_of_getElem? (i := 1) rfl)) (hw _ (List.mem_of_getElem? (i := 2) rfl)) e0 (g := (mkF m 140 #[.val (.int p0), .val (.int (p0 &&& (3 : Int32))), .unset, .unset, .unset] [])) rfl (hb hby at_140) (by decide) (by decide)
        obtain ⟨b84, g84⟩ : ∃ z, z = h0.size := ⟨_, rfl⟩
        rw [← g84] at A84 D84 U84 st84
        have gg84 : n0 ≤ b84 := Nat.le_trans (own_le O0) (Nat.le_of_eq g84.symm)
        have sz84 : h0.size ≤ b84 := Nat.le_trans (Keep.refl h0 []).1 (Nat.le_of_eq g84.symm)
        have O85 : Old Z n0 h84 := O0.ext E84
        have K86 : Keep h0 h84 [] := (Keep.refl h0 []).ext E84
        have D84_coder : Fld Z h84 b84 "java/lang/String" "coder" "B" (.int (0 : Int32)) := D84 (Or.inr (hw _ (List.mem_of_getElem? (i := 27) rfl))) (ty := .byte) (by decide)
        have D84_value : Fld Z h84 b84 "java/lang/String" "value" "[B" .null := D84 (Or.inr (hw _ (List.mem_of_getElem? (i := 29) rfl))) (ty := (.array .byte)) (by decide)
        refine run_fwd (T' := T84) (g' := (mkF m 143 #[.val (.int p0), .val (.int (p0 &&& (3 : Int32))), .unset, .unset, .unset] [(.ref b84)])) (fun _ k => st84 _ k) ?_
        refine run_fwd (T' := T84) (g' := (mkF m 144 #[.val (.int p0), .val (.int (p0 &&& (3 : Int32))), .unset, .unset, .unset] [(.ref b84), (.ref b84)])) (fun _ k => XS.dup X84.here hx rfl (hb hby at_143) rfl rfl k) ?_
        refine run_fwd (T' := T84) (g' := (mkF m 146 #[.val (.int p0), .val (.int (p0 &&& (3 : Int32))), .unset, .unset, .unset] [(.int (11 : Int32)), (.ref b84), (.ref b84)])) (fun _ k => XS.bipush X84.here hx rfl (hb hby at_144) k) ?_
        obtain ⟨T87, h87, k87, X87, e87, E87, A87, st87⟩ := newP X84 hx hZ (hw _ (List.mem_of_getElem? (i := 3) rfl)) e84 (g := (mkF m 146 #[.val (.int p0), .val (.int (p0 &&& (3 : Int32))), .unset, .unset, .unset] [(.int (11 : Int32)), (.ref b84), (.ref b84)])) rfl (hb hby at_146) rfl (by decide) (cap := 11) (by decide) (by decide) (by decide) (by decide)
        obtain ⟨b87, g87⟩ : ∃ z, z = h84.size := ⟨_, rfl⟩
        rw [← g87] at A87 st87
        have gg87 : n0 ≤ b87 := Nat.le_trans (own_le O85) (Nat.le_of_eq g87.symm)
        have sz87 : h0.size ≤ b87 := Nat.le_trans K86.1 (Nat.le_of_eq g87.symm)
        have O88 : Old Z n0 h87 := O85.ext E87
        have K89 : Keep h0 h87 [] := K86.ext E87
        have V87 : Arv Z h87 b87 k87 .char (11 : Int32) [(.int (0 : Int32)), (.int (0 : Int32)), (.int (0 : Int32)), (.int (0 : Int32)), (.int (0 : Int32)), (.int (0 : Int32)), (.int (0 : Int32)), (.int (0 : Int32)), (.int (0 : Int32)), (.int (0 : Int32)), (.int (0 : Int32))] (.int (0 : Int32)) := (Arv.new A87 (by decide)).pad (pad_rep [] (.int (0 : Int32)) 11)
        refine run_fwd (T' := T87) (g' := (mkF m 148 #[.val (.int p0), .val (.int (p0 &&& (3 : Int32))), .unset, .unset, .unset] [(.ref b87), (.ref b84), (.ref b84)])) (fun _ k => st87 _ k) ?_
        refine run_fwd (T' := T87) (g' := (mkF m 149 #[.val (.int p0), .val (.int (p0 &&& (3 : Int32))), .unset, .unset, .unset] [(.ref b87), (.ref b87), (.ref b84), (.ref b84)])) (fun _ k => XS.dup X87.here hx rfl (hb hby at_148) rfl rfl k) ?_
        refine run_fwd (T' := T87) (g' := (mkF m 150 #[.val (.int p0), .val (.int (p0 &&& (3 : Int32))), .unset, .unset, .unset] [(.int (0 : Int32)), (.ref b87), (.ref b87), (.ref b84), (.ref b84)])) (fun _ k => XS.iconst X87.here hx rfl (hb hby at_149) k) ?_
        refine run_fwd (T' := T87) (g' := (mkF m 152 #[.val (.int p0), .val (.int (p0 &&& (3 : Int32))), .unset, .unset, .unset] [(.int (72 : Int32)), (.int (0 : Int32)), (.ref b87), (.ref b87), (.ref b84), (.ref b84)])) (fun _ k => XS.bipush X87.here hx rfl (hb hby at_150) k) ?_
        obtain ⟨cl90, Ar90, qq90, S90, M90, Hh90, G90⟩ := id (V87)
        have hin90 : ¬ ((0 : Int32) < 0 ∨ cl90.slots.size ≤ ((0 : Int32)).toNatClampNeg) := inb_of S90 ⟨by decide, by decide⟩
        obtain ⟨T90, h90, X90, e90, W90, st90⟩ := stC X87 hx hZ e87 Ar90 (j := (0 : Int32)) hin90 (g := (mkF m 152 #[.val (.int p0), .val (.int (p0 &&& (3 : Int32))), .unset, .unset, .unset] [(.int (72 : Int32)), (.int (0 : Int32)), (.ref b87), (.ref b87), (.ref b84), (.ref b84)])) rfl rfl (hb hby at_152)
        have O91 : Old Z n0 h90 := O88.wr W90 gg87
        have K92 : Keep h0 h90 [] := K89.wr W90 (Or.inr sz87)
        have N90 := Fr.snoc X90 N0 gg87
        have V90 : Arv Z h90 b87 k87 .char (11 : Int32) [(.int (nar .char (72 : Int32))), (.int (0 : Int32)), (.int (0 : Int32)), (.int (0 : Int32)), (.int (0 : Int32)), (.int (0 : Int32)), (.int (0 : Int32)), (.int (0 : Int32)), (.int (0 : Int32)), (.int (0 : Int32)), (.int (0 : Int32))] (.int (0 : Int32)) := Arv.set Ar90 qq90 S90 M90 Hh90 G90 (fits_nar_char _) W90 0 rfl (Nat.le_of_ble_eq_true rfl)
        refine run_fwd (T' := T90) (g' := (mkF m 153 #[.val (.int p0), .val (.int (p0 &&& (3 : Int32))), .unset, .unset, .unset] [(.ref b87), (.ref b84), (.ref b84)])) (fun _ k => st90 _ k) ?_
        refine run_fwd (T' := T90) (g' := (mkF m 154 #[.val (.int p0), .val (.int (p0 &&& (3 : Int32))), .unset, .unset, .unset] [(.ref b87), (.ref b87), (.ref b84), (.ref b84)])) (fun _ k => XS.dup X90.here hx rfl (hb hby at_153) rfl rfl k) ?_
        refine run_fwd (T' := T90) (g' := (mkF m 155 #[.val (.int p0), .val (.int (p0 &&& (3 : Int32))), .unset, .unset, .unset] [(.int (1 : Int32)), (.ref b87), (.ref b87), (.ref b84), (.ref b84)])) (fun _ k => XS.iconst X90.here hx rfl (hb hby at_154) k) ?_
        refine run_fwd (T' := T90) (g' := (mkF m 157 #[.val (.int p0), .val (.int (p0 &&& (3 : Int32))), .unset, .unset, .unset] [(.int (97 : Int32)), (.int (1 : Int32)), (.ref b87), (.ref b87), (.ref b84), (.ref b84)])) (fun _ k => XS.bipush X90.here hx rfl (hb hby at_155) k) ?_
        obtain ⟨cl93, Ar93, qq93, S93, M93, Hh93, G93⟩ := id (V90)
        have hin93 : ¬ ((1 : Int32) < 0 ∨ cl93.slots.size ≤ ((1 : Int32)).toNatClampNeg) := inb_of S93 ⟨by decide, by decide⟩
        obtain ⟨T93, h93, X93, e93, W93, st93⟩ := stC X90 hx hZ e90 Ar93 (j := (1 : Int32)) hin93 (g := (mkF m 157 #[.val (.int p0), .val (.int (p0 &&& (3 : Int32))), .unset, .unset, .unset] [(.int (97 : Int32)), (.int (1 : Int32)), (.ref b87), (.ref b87), (.ref b84), (.ref b84)])) rfl rfl (hb hby at_157)
        have O94 : Old Z n0 h93 := O91.wr W93 gg87
        have K95 : Keep h0 h93 [] := K92.wr W93 (Or.inr sz87)
        have N93 := Fr.snoc X93 N90 gg87
        have V93 : Arv Z h93 b87 k87 .char (11 : Int32) [(.int (nar .char (72 : Int32))), (.int (nar .char (97 : Int32))), (.int (0 : Int32)), (.int (0 : Int32)), (.int (0 : Int32)), (.int (0 : Int32)), (.int (0 : Int32)), (.int (0 : Int32)), (.int (0 : Int32)), (.int (0 : Int32)), (.int (0 : Int32))] (.int (0 : Int32)) := Arv.set Ar93 qq93 S93 M93 Hh93 G93 (fits_nar_char _) W93 1 rfl (Nat.le_of_ble_eq_true rfl)
        refine run_fwd (T' := T93) (g' := (mkF m 158 #[.val (.int p0), .val (.int (p0 &&& (3 : Int32))), .unset, .unset, .unset] [(.ref b87), (.ref b84), (.ref b84)])) (fun _ k => st93 _ k) ?_
        refine run_fwd (T' := T93) (g' := (mkF m 159 #[.val (.int p0), .val (.int (p0 &&& (3 : Int32))), .unset, .unset, .unset] [(.ref b87), (.ref b87), (.ref b84), (.ref b84)])) (fun _ k => XS.dup X93.here hx rfl (hb hby at_158) rfl rfl k) ?_
        refine run_fwd (T' := T93) (g' := (mkF m 160 #[.val (.int p0), .val (.int (p0 &&& (3 : Int32))), .unset, .unset, .unset] [(.int (2 : Int32)), (.ref b87), (.ref b87), (.ref b84), (.ref b84)])) (fun _ k => XS.iconst X93.here hx rfl (hb hby at_159) k) ?_
        refine run_fwd (T' := T93) (g' := (mkF m 162 #[.val (.int p0), .val (.int (p0 &&& (3 : Int32))), .unset, .unset, .unset] [(.int (108 : Int32)), (.int (2 : Int32)), (.ref b87), (.ref b87), (.ref b84), (.ref b84)])) (fun _ k => XS.bipush X93.here hx rfl (hb hby at_160) k) ?_
        obtain ⟨cl96, Ar96, qq96, S96, M96, Hh96, G96⟩ := id (V93)
        have hin96 : ¬ ((2 : Int32) < 0 ∨ cl96.slots.size ≤ ((2 : Int32)).toNatClampNeg) := inb_of S96 ⟨by decide, by decide⟩
        obtain ⟨T96, h96, X96, e96, W96, st96⟩ := stC X93 hx hZ e93 Ar96 (j := (2 : Int32)) hin96 (g := (mkF m 162 #[.val (.int p0), .val (.int (p0 &&& (3 : Int32))), .unset, .unset, .unset] [(.int (108 : Int32)), (.int (2 : Int32)), (.ref b87), (.ref b87), (.ref b84), (.ref b84)])) rfl rfl (hb hby at_162)
        have O97 : Old Z n0 h96 := O94.wr W96 gg87
        have K98 : Keep h0 h96 [] := K95.wr W96 (Or.inr sz87)
        have N96 := Fr.snoc X96 N93 gg87
        have V96 : Arv Z h96 b87 k87 .char (11 : Int32) [(.int (nar .char (72 : Int32))), (.int (nar .char (97 : Int32))), (.int (nar .char (108 : Int32))), (.int (0 : Int32)), (.int (0 : Int32)), (.int (0 : Int32)), (.int (0 : Int32)), (.int (0 : Int32)), (.int (0 : Int32)), (.int (0 : Int32)), (.int (0 : Int32))] (.int (0 : Int32)) := Arv.set Ar96 qq96 S96 M96 Hh96 G96 (fits_nar_char _) W96 2 rfl (Nat.le_of_ble_eq_true rfl)
        refine run_fwd (T' := T96) (g' := (mkF m 163 #[.val (.int p0), .val (.int (p0 &&& (3 : Int32))), .unset, .unset, .unset] [(.ref b87), (.ref b84), (.ref b84)])) (fun _ k => st96 _ k) ?_
        refine run_fwd (T' := T96) (g' := (mkF m 164 #[.val (.int p0), .val (.int (p0 &&& (3 : Int32))), .unset, .unset, .unset] [(.ref b87), (.ref b87), (.ref b84), (.ref b84)])) (fun _ k => XS.dup X96.here hx rfl (hb hby at_163) rfl rfl k) ?_
        refine run_fwd (T' := T96) (g' := (mkF m 165 #[.val (.int p0), .val (.int (p0 &&& (3 : Int32))), .unset, .unset, .unset] [(.int (3 : Int32)), (.ref b87), (.ref b87), (.ref b84), (.ref b84)])) (fun _ k => XS.iconst X96.here hx rfl (hb hby at_164) k) ?_
        refine run_fwd (T' := T96) (g' := (mkF m 167 #[.val (.int p0), .val (.int (p0 &&& (3 : Int32))), .unset, .unset, .unset] [(.int (102 : Int32)), (.int (3 : Int32)), (.ref b87), (.ref b87), (.ref b84), (.ref b84)])) (fun _ k => XS.bipush X96.here hx rfl (hb hby at_165) k) ?_
        obtain ⟨cl99, Ar99, qq99, S99, M99, Hh99, G99⟩ := id (V96)
        have hin99 : ¬ ((3 : Int32) < 0 ∨ cl99.slots.size ≤ ((3 : Int32)).toNatClampNeg) := inb_of S99 ⟨by decide, by decide⟩
        obtain ⟨T99, h99, X99, e99, W99, st99⟩ := stC X96 hx hZ e96 Ar99 (j := (3 : Int32)) hin99 (g := (mkF m 167 #[.val (.int p0), .val (.int (p0 &&& (3 : Int32))), .unset, .unset, .unset] [(.int (102 : Int32)), (.int (3 : Int32)), (.ref b87), (.ref b87), (.ref b84), (.ref b84)])) rfl rfl (hb hby at_167)
        have O100 : Old Z n0 h99 := O97.wr W99 gg87
        have K101 : Keep h0 h99 [] := K98.wr W99 (Or.inr sz87)
        have N99 := Fr.snoc X99 N96 gg87
        have V99 : Arv Z h99 b87 k87 .char (11 : Int32) [(.int (nar .char (72 : Int32))), (.int (nar .char (97 : Int32))), (.int (nar .char (108 : Int32))), (.int (nar .char (102 : Int32))), (.int (0 : Int32)), (.int (0 : Int32)), (.int (0 : Int32)), (.int (0 : Int32)), (.int (0 : Int32)), (.int (0 : Int32)), (.int (0 : Int32))] (.int (0 : Int32)) := Arv.set Ar99 qq99 S99 M99 Hh99 G99 (fits_nar_char _) W99 3 rfl (Nat.le_of_ble_eq_true rfl)
        refine run_fwd (T' := T99) (g' := (mkF m 168 #[.val (.int p0), .val (.int (p0 &&& (3 : Int32))), .unset, .unset, .unset] [(.ref b87), (.ref b84), (.ref b84)])) (fun _ k => st99 _ k) ?_
        refine run_fwd (T' := T99) (g' := (mkF m 169 #[.val (.int p0), .val (.int (p0 &&& (3 : Int32))), .unset, .unset, .unset] [(.ref b87), (.ref b87), (.ref b84), (.ref b84)])) (fun _ k => XS.dup X99.here hx rfl (hb hby at_168) rfl rfl k) ?_
        refine run_fwd (T' := T99) (g' := (mkF m 170 #[.val (.int p0), .val (.int (p0 &&& (3 : Int32))), .unset, .unset, .unset] [(.int (4 : Int32)), (.ref b87), (.ref b87), (.ref b84), (.ref b84)])) (fun _ k => XS.iconst X99.here hx rfl (hb hby at_169) k) ?_
        refine run_fwd (T' := T99) (g' := (mkF m 172 #[.val (.int p0), .val (.int (p0 &&& (3 : Int32))), .unset, .unset, .unset] [(.int (45 : Int32)), (.int (4 : Int32)), (.ref b87), (.ref b87), (.ref b84), (.ref b84)])) (fun _ k => XS.bipush X99.here hx rfl (hb hby at_170) k) ?_
        obtain ⟨cl102, Ar102, qq102, S102, M102, Hh102, G102⟩ := id (V99)
        have hin102 : ¬ ((4 : Int32) < 0 ∨ cl102.slots.size ≤ ((4 : Int32)).toNatClampNeg) := inb_of S102 ⟨by decide, by decide⟩
        obtain ⟨T102, h102, X102, e102, W102, st102⟩ := stC X99 hx hZ e99 Ar102 (j := (4 : Int32)) hin102 (g := (mkF m 172 #[.val (.int p0), .val (.int (p0 &&& (3 : Int32))), .unset, .unset, .unset] [(.int (45 : Int32)), (.int (4 : Int32)), (.ref b87), (.ref b87), (.ref b84), (.ref b84)])) rfl rfl (hb hby at_172)
        have O103 : Old Z n0 h102 := O100.wr W102 gg87
        have K104 : Keep h0 h102 [] := K101.wr W102 (Or.inr sz87)
        have N102 := Fr.snoc X102 N99 gg87
        have V102 : Arv Z h102 b87 k87 .char (11 : Int32) [(.int (nar .char (72 : Int32))), (.int (nar .char (97 : Int32))), (.int (nar .char (108 : Int32))), (.int (nar .char (102 : Int32))), (.int (nar .char (45 : Int32))), (.int (0 : Int32)), (.int (0 : Int32)), (.int (0 : Int32)), (.int (0 : Int32)), (.int (0 : Int32)), (.int (0 : Int32))] (.int (0 : Int32)) := Arv.set Ar102 qq102 S102 M102 Hh102 G102 (fits_nar_char _) W102 4 rfl (Nat.le_of_ble_eq_true rfl)
        refine run_fwd (T' := T102) (g' := (mkF m 173 #[.val (.int p0), .val (.int (p0 &&& (3 : Int32))), .unset, .unset, .unset] [(.ref b87), (.ref b84), (.ref b84)])) (fun _ k => st102 _ k) ?_
        refine run_fwd (T' := T102) (g' := (mkF m 174 #[.val (.int p0), .val (.int (p0 &&& (3 : Int32))), .unset, .unset, .unset] [(.ref b87), (.ref b87), (.ref b84), (.ref b84)])) (fun _ k => XS.dup X102.here hx rfl (hb hby at_173) rfl rfl k) ?_
        refine run_fwd (T' := T102) (g' := (mkF m 175 #[.val (.int p0), .val (.int (p0 &&& (3 : Int32))), .unset, .unset, .unset] [(.int (5 : Int32)), (.ref b87), (.ref b87), (.ref b84), (.ref b84)])) (fun _ k => XS.iconst X102.here hx rfl (hb hby at_174) k) ?_
        refine run_fwd (T' := T102) (g' := (mkF m 177 #[.val (.int p0), .val (.int (p0 &&& (3 : Int32))), .unset, .unset, .unset] [(.int (89 : Int32)), (.int (5 : Int32)), (.ref b87), (.ref b87), (.ref b84), (.ref b84)])) (fun _ k => XS.bipush X102.here hx rfl (hb hby at_175) k) ?_
        obtain ⟨cl105, Ar105, qq105, S105, M105, Hh105, G105⟩ := id (V102)
        have hin105 : ¬ ((5 : Int32) < 0 ∨ cl105.slots.size ≤ ((5 : Int32)).toNatClampNeg) := inb_of S105 ⟨by decide, by decide⟩
        obtain ⟨T105, h105, X105, e105, W105, st105⟩ := stC X102 hx hZ e102 Ar105 (j := (5 : Int32)) hin105 (g := (mkF m 177 #[.val (.int p0), .val (.int (p0 &&& (3 : Int32))), .unset, .unset, .unset] [(.int (89 : Int32)), (.int (5 : Int32)), (.ref b87), (.ref b87), (.ref b84), (.ref b84)])) rfl rfl (hb hby at_177)
        have O106 : Old Z n0 h105 := O103.wr W105 gg87
        have K107 : Keep h0 h105 [] := K104.wr W105 (Or.inr sz87)
        have N105 := Fr.snoc X105 N102 gg87
        have V105 : Arv Z h105 b87 k87 .char (11 : Int32) [(.int (nar .char (72 : Int32))), (.int (nar .char (97 : Int32))), (.int (nar .char (108 : Int32))), (.int (nar .char (102 : Int32))), (.int (nar .char (45 : Int32))), (.int (nar .char (89 : Int32))), (.int (0 : Int32)), (.int (0 : Int32)), (.int (0 : Int32)), (.int (0 : Int32)), (.int (0 : Int32))] (.int (0 : Int32)) := Arv.set Ar105 qq105 S105 M105 Hh105 G105 (fits_nar_char _) W105 5 rfl (Nat.le_of_ble_eq_true rfl)
        refine run_fwd (T' := T105) (g' := (mkF m 178 #[.val (.int p0), .val (.int (p0 &&& (3 : Int32))), .unset, .unset, .unset] [(.ref b87), (.ref b84), (.ref b84)])) (fun _ k => st105 _ k) ?_
        refine run_fwd (T' := T105) (g' := (mkF m 179 #[.val (.int p0), .val (.int (p0 &&& (3 : Int32))), .unset, .unset, .unset] [(.ref b87), (.ref b87), (.ref b84), (.ref b84)])) (fun _ k => XS.dup X105.here hx rfl (hb hby at_178) rfl rfl k) ?_
        refine run_fwd (T' := T105) (g' := (mkF m 181 #[.val (.int p0), .val (.int (p0 &&& (3 : Int32))), .unset, .unset, .unset] [(.int (6 : Int32)), (.ref b87), (.ref b87), (.ref b84), (.ref b84)])) (fun _ k => XS.bipush X105.here hx rfl (hb hby at_179) k) ?_
        refine run_fwd (T' := T105) (g' := (mkF m 183 #[.val (.int p0), .val (.int (p0 &&& (3 : Int32))), .unset, .unset, .unset] [(.int (101 : Int32)), (.int (6 : Int32)), (.ref b87), (.ref b87), (.ref b84), (.ref b84)])) (fun _ k => XS.bipush X105.here hx rfl (hb hby at_181) k) ?_
        obtain ⟨cl108, Ar108, qq108, S108, M108, Hh108, G108⟩ := id (V105)
        have hin108 : ¬ ((6 : Int32) < 0 ∨ cl108.slots.size ≤ ((6 : Int32)).toNatClampNeg) := inb_of S108 ⟨by decide, by decide⟩
        obtain ⟨T108, h108, X108, e108, W108, st108⟩ := stC X105 hx hZ e105 Ar108 (j := (6 : Int32)) hin108 (g := (mkF m 183 #[.val (.int p0), .val (.int (p0 &&& (3 : Int32))), .unset, .unset, .unset] [(.int (101 : Int32)), (.int (6 : Int32)), (.ref b87), (.ref b87), (.ref b84), (.ref b84)])) rfl rfl (hb hby at_183)
        have O109 : Old Z n0 h108 := O106.wr W108 gg87
        have K110 : Keep h0 h108 [] := K107.wr W108 (Or.inr sz87)
        have N108 := Fr.snoc X108 N105 gg87
        have V108 : Arv Z h108 b87 k87 .char (11 : Int32) [(.int (nar .char (72 : Int32))), (.int (nar .char (97 : Int32))), (.int (nar .char (108 : Int32))), (.int (nar .char (102 : Int32))), (.int (nar .char (45 : Int32))), (.int (nar .char (89 : Int32))), (.int (nar .char (101 : Int32))), (.int (0 : Int32)), (.int (0 : Int32)), (.int (0 : Int32)), (.int (0 : Int32))] (.int (0 : Int32)) := Arv.set Ar108 qq108 S108 M108 Hh108 G108 (fits_nar_char _) W108 6 rfl (Nat.le_of_ble_eq_true rfl)
        refine run_fwd (T' := T108) (g' := (mkF m 184 #[.val (.int p0), .val (.int (p0 &&& (3 : Int32))), .unset, .unset, .unset] [(.ref b87), (.ref b84), (.ref b84)])) (fun _ k => st108 _ k) ?_
        refine run_fwd (T' := T108) (g' := (mkF m 185 #[.val (.int p0), .val (.int (p0 &&& (3 : Int32))), .unset, .unset, .unset] [(.ref b87), (.ref b87), (.ref b84), (.ref b84)])) (fun _ k => XS.dup X108.here hx rfl (hb hby at_184) rfl rfl k) ?_
        refine run_fwd (T' := T108) (g' := (mkF m 187 #[.val (.int p0), .val (.int (p0 &&& (3 : Int32))), .unset, .unset, .unset] [(.int (7 : Int32)), (.ref b87), (.ref b87), (.ref b84), (.ref b84)])) (fun _ k => XS.bipush X108.here hx rfl (hb hby at_185) k) ?_
        refine run_fwd (T' := T108) (g' := (mkF m 189 #[.val (.int p0), .val (.int (p0 &&& (3 : Int32))), .unset, .unset, .unset] [(.int (97 : Int32)), (.int (7 : Int32)), (.ref b87), (.ref b87), (.ref b84), (.ref b84)])) (fun _ k => XS.bipush X108.here hx rfl (hb hby at_187) k) ?_
        obtain ⟨cl111, Ar111, qq111, S111, M111, Hh111, G111⟩ := id (V108)
        have hin111 : ¬ ((7 : Int32) < 0 ∨ cl111.slots.size ≤ ((7 : Int32)).toNatClampNeg) := inb_of S111 ⟨by decide, by decide⟩
        obtain ⟨T111, h111, X111, e111, W111, st111⟩ := stC X108 hx hZ e108 Ar111 (j := (7 : Int32)) hin111 (g := (mkF m 189 #[.val (.int p0), .val (.int (p0 &&& (3 : Int32))), .unset, .unset, .unset] [(.int (97 : Int32)), (.int (7 : Int32)), (.ref b87), (.ref b87), (.ref b84), (.ref b84)])) rfl rfl (hb hby at_189)
        have O112 : Old Z n0 h111 := O109.wr W111 gg87
        have K113 : Keep h0 h111 [] := K110.wr W111 (Or.inr sz87)
        have N111 := Fr.snoc X111 N108 gg87
        have V111 : Arv Z h111 b87 k87 .char (11 : Int32) [(.int (nar .char (72 : Int32))), (.int (nar .char (97 : Int32))), (.int (nar .char (108 : Int32))), (.int (nar .char (102 : Int32))), (.int (nar .char (45 : Int32))), (.int (nar .char (89 : Int32))), (.int (nar .char (101 : Int32))), (.int (nar .char (97 : Int32))), (.int (0 : Int32)), (.int (0 : Int32)), (.int (0 : Int32))] (.int (0 : Int32)) := Arv.set Ar111 qq111 S111 M111 Hh111 G111 (fits_nar_char _) W111 7 rfl (Nat.le_of_ble_eq_true rfl)
        refine run_fwd (T' := T111) (g' := (mkF m 190 #[.val (.int p0), .val (.int (p0 &&& (3 : Int32))), .unset, .unset, .unset] [(.ref b87), (.ref b84), (.ref b84)])) (fun _ k => st111 _ k) ?_
        refine run_fwd (T' := T111) (g' := (mkF m 191 #[.val (.int p0), .val (.int (p0 &&& (3 : Int32))), .unset, .unset, .unset] [(.ref b87), (.ref b87), (.ref b84), (.ref b84)])) (fun _ k => XS.dup X111.here hx rfl (hb hby at_190) rfl rfl k) ?_
        refine run_fwd (T' := T111) (g' := (mkF m 193 #[.val (.int p0), .val (.int (p0 &&& (3 : Int32))), .unset, .unset, .unset] [(.int (8 : Int32)), (.ref b87), (.ref b87), (.ref b84), (.ref b84)])) (fun _ k => XS.bipush X111.here hx rfl (hb hby at_191) k) ?_
        refine run_fwd (T' := T111) (g' := (mkF m 195 #[.val (.int p0), .val (.int (p0 &&& (3 : Int32))), .unset, .unset, .unset] [(.int (114 : Int32)), (.int (8 : Int32)), (.ref b87), (.ref b87), (.ref b84), (.ref b84)])) (fun _ k => XS.bipush X111.here hx rfl (hb hby at_193) k) ?_
        obtain ⟨cl114, Ar114, qq114, S114, M114, Hh114, G114⟩ := id (V111)
        have hin114 : ¬ ((8 : Int32) < 0 ∨ cl114.slots.size ≤ ((8 : Int32)).toNatClampNeg) := inb_of S114 ⟨by decide, by decide⟩
        obtain ⟨T114, h114, X114, e114, W114, st114⟩ := stC X111 hx hZ e111 Ar114 (j := (8 : Int32)) hin114 (g := (mkF m 195 #[.val (.int p0), .val (.int (p0 &&& (3 : Int32))), .unset, .unset, .unset] [(.int (114 : Int32)), (.int (8 : Int32)), (.ref b87), (.ref b87), (.ref b84), (.ref b84)])) rfl rfl (hb hby at_195)
        have O115 : Old Z n0 h114 := O112.wr W114 gg87
        have K116 : Keep h0 h114 [] := K113.wr W114 (Or.inr sz87)
        have N114 := Fr.snoc X114 N111 gg87
        have V114 : Arv Z h114 b87 k87 .char (11 : Int32) [(.int (nar .char (72 : Int32))), (.int (nar .char (97 : Int32))), (.int (nar .char (108 : Int32))), (.int (nar .char (102 : Int32))), (.int (nar .char (45 : Int32))), (.int (nar .char (89 : Int32))), (.int (nar .char (101 : Int32))), (.int (nar .char (97 : Int32))), (.int (nar .char (114 : Int32))), (.int (0 : Int32)), (.int (0 : Int32))] (.int (0 : Int32)) := Arv.set Ar114 qq114 S114 M114 Hh114 G114 (fits_nar_char _) W114 8 rfl (Nat.le_of_ble_eq_true rfl)
        refine run_fwd (T' := T114) (g' := (mkF m 196 #[.val (.int p0), .val (.int (p0 &&& (3 : Int32))), .unset, .unset, .unset] [(.ref b87), (.ref b84), (.ref b84)])) (fun _ k => st114 _ k) ?_
        refine run_fwd (T' := T114) (g' := (mkF m 197 #[.val (.int p0), .val (.int (p0 &&& (3 : Int32))), .unset, .unset, .unset] [(.ref b87), (.ref b87), (.ref b84), (.ref b84)])) (fun _ k => XS.dup X114.here hx rfl (hb hby at_196) rfl rfl k) ?_
        refine run_fwd (T' := T114) (g' := (mkF m 199 #[.val (.int p0), .val (.int (p0 &&& (3 : Int32))), .unset, .unset, .unset] [(.int (9 : Int32)), (.ref b87), (.ref b87), (.ref b84), (.ref b84)])) (fun _ k => XS.bipush X114.here hx rfl (hb hby at_197) k) ?_
        refine run_fwd (T' := T114) (g' := (mkF m 201 #[.val (.int p0), .val (.int (p0 &&& (3 : Int32))), .unset, .unset, .unset] [(.int (108 : Int32)), (.int (9 : Int32)), (.ref b87), (.ref b87), (.ref b84), (.ref b84)])) (fun _ k => XS.bipush X114.here hx rfl (hb hby at_199) k) ?_
        obtain ⟨cl117, Ar117, qq117, S117, M117, Hh117, G117⟩ := id (V114)
        have hin117 : ¬ ((9 : Int32) < 0 ∨ cl117.slots.size ≤ ((9 : Int32)).toNatClampNeg) := inb_of S117 ⟨by decide, by decide⟩
        obtain ⟨T117, h117, X117, e117, W117, st117⟩ := stC X114 hx hZ e114 Ar117 (j := (9 : Int32)) hin117 (g := (mkF m 201 #[.val (.int p0), .val (.int (p0 &&& (3 : Int32))), .unset, .unset, .unset] [(.int (108 : Int32)), (.int (9 : Int32)), (.ref b87), (.ref b87), (.ref b84), (.ref b84)])) rfl rfl (hb hby at_201)
        have O118 : Old Z n0 h117 := O115.wr W117 gg87
        have K119 : Keep h0 h117 [] := K116.wr W117 (Or.inr sz87)
        have N117 := Fr.snoc X117 N114 gg87
        have V117 : Arv Z h117 b87 k87 .char (11 : Int32) [(.int (nar .char (72 : Int32))), (.int (nar .char (97 : Int32))), (.int (nar .char (108 : Int32))), (.int (nar .char (102 : Int32))), (.int (nar .char (45 : Int32))), (.int (nar .char (89 : Int32))), (.int (nar .char (101 : Int32))), (.int (nar .char (97 : Int32))), (.int (nar .char (114 : Int32))), (.int (nar .char (108 : Int32))), (.int (0 : Int32))] (.int (0 : Int32)) := Arv.set Ar117 qq117 S117 M117 Hh117 G117 (fits_nar_char _) W117 9 rfl (Nat.le_of_ble_eq_true rfl)
        refine run_fwd (T' := T117) (g' := (mkF m 202 #[.val (.int p0), .val (.int (p0 &&& (3 : Int32))), .unset, .unset, .unset] [(.ref b87), (.ref b84), (.ref b84)])) (fun _ k => st117 _ k) ?_
        refine run_fwd (T' := T117) (g' := (mkF m 203 #[.val (.int p0), .val (.int (p0 &&& (3 : Int32))), .unset, .unset, .unset] [(.ref b87), (.ref b87), (.ref b84), (.ref b84)])) (fun _ k => XS.dup X117.here hx rfl (hb hby at_202) rfl rfl k) ?_
        refine run_fwd (T' := T117) (g' := (mkF m 205 #[.val (.int p0), .val (.int (p0 &&& (3 : Int32))), .unset, .unset, .unset] [(.int (10 : Int32)), (.ref b87), (.ref b87), (.ref b84), (.ref b84)])) (fun _ k => XS.bipush X117.here hx rfl (hb hby at_203) k) ?_
        refine run_fwd (T' := T117) (g' := (mkF m 207 #[.val (.int p0), .val (.int (p0 &&& (3 : Int32))), .unset, .unset, .unset] [(.int (121 : Int32)), (.int (10 : Int32)), (.ref b87), (.ref b87), (.ref b84), (.ref b84)])) (fun _ k => XS.bipush X117.here hx rfl (hb hby at_205) k) ?_
        obtain ⟨cl120, Ar120, qq120, S120, M120, Hh120, G120⟩ := id (V117)
        have hin120 : ¬ ((10 : Int32) < 0 ∨ cl120.slots.size ≤ ((10 : Int32)).toNatClampNeg) := inb_of S120 ⟨by decide, by decide⟩
        obtain ⟨T120, h120, X120, e120, W120, st120⟩ := stC X117 hx hZ e117 Ar120 (j := (10 : Int32)) hin120 (g := (mkF m 207 #[.val (.int p0), .val (.int (p0 &&& (3 : Int32))), .unset, .unset, .unset] [(.int (121 : Int32)), (.int (10 : Int32)), (.ref b87), (.ref b87), (.ref b84), (.ref b84)])) rfl rfl (hb hby at_207)
        have O121 : Old Z n0 h120 := O118.wr W120 gg87
        have K122 : Keep h0 h120 [] := K119.wr W120 (Or.inr sz87)
        have N120 := Fr.snoc X120 N117 gg87
        have V120 : Arv Z h120 b87 k87 .char (11 : Int32) [(.int (nar .char (72 : Int32))), (.int (nar .char (97 : Int32))), (.int (nar .char (108 : Int32))), (.int (nar .char (102 : Int32))), (.int (nar .char (45 : Int32))), (.int (nar .char (89 : Int32))), (.int (nar .char (101 : Int32))), (.int (nar .char (97 : Int32))), (.int (nar .char (114 : Int32))), (.int (nar .char (108 : Int32))), (.int (nar .char (121 : Int32)))] (.int (0 : Int32)) := Arv.set Ar120 qq120 S120 M120 Hh120 G120 (fits_nar_char _) W120 10 rfl (Nat.le_of_ble_eq_true rfl)
        refine run_fwd (T' := T120) (g' := (mkF m 208 #[.val (.int p0), .val (.int (p0 &&& (3 : Int32))), .unset, .unset, .unset] [(.ref b87), (.ref b84), (.ref b84)])) (fun _ k => st120 _ k) ?_
        have f124 : Exa Z h120 b84 "java/lang/String" := ((((((((((((A84.ext E87).wr W90).wr W93).wr W96).wr W99).wr W102).wr W105).wr W108).wr W111).wr W114).wr W117).wr W120)
        have f125 : Fld Z h120 b84 "java/lang/String" "value" "[B" .null := ((((((((((((D84_value.ext E87).other W90 (Or.inl (Nat.ne_of_lt (Nat.lt_of_lt_of_le D84_value.lt (Nat.le_of_eq g87.symm))))).other W93 (Or.inl (Nat.ne_of_lt (Nat.lt_of_lt_of_le D84_value.lt (Nat.le_of_eq g87.symm))))).other W96 (Or.inl (Nat.ne_of_lt (Nat.lt_of_lt_of_le D84_value.lt (Nat.le_of_eq g87.symm))))).other W99 (Or.inl (Nat.ne_of_lt (Nat.lt_of_lt_of_le D84_value.lt (Nat.le_of_eq g87.symm))))).other W102 (Or.inl (Nat.ne_of_lt (Nat.lt_of_lt_of_le D84_value.lt (Nat.le_of_eq g87.symm))))).other W105 (Or.inl (Nat.ne_of_lt (Nat.lt_of_lt_of_le D84_value.lt (Nat.le_of_eq g87.symm))))).other W108 (Or.inl (Nat.ne_of_lt (Nat.lt_of_lt_of_le D84_value.lt (Nat.le_of_eq g87.symm))))).other W111 (Or.inl (Nat.ne_of_lt (Nat.lt_of_lt_of_le D84_value.lt (Nat.le_of_eq g87.symm))))).other W114 (Or.inl (Nat.ne_of_lt (Nat.lt_of_lt_of_le D84_value.lt (Nat.le_of_eq g87.symm))))).other W117 (Or.inl (Nat.ne_of_lt (Nat.lt_of_lt_of_le D84_value.lt (Nat.le_of_eq g87.symm))))).other W120 (Or.inl (Nat.ne_of_lt (Nat.lt_of_lt_of_le D84_value.lt (Nat.le_of_eq g87.symm)))))
        have f126 : Fld Z h120 b84 "java/lang/String" "coder" "B" (.int (0 : Int32)) := ((((((((((((D84_coder.ext E87).other W90 (Or.inl (Nat.ne_of_lt (Nat.lt_of_lt_of_le D84_value.lt (Nat.le_of_eq g87.symm))))).other W93 (Or.inl (Nat.ne_of_lt (Nat.lt_of_lt_of_le D84_value.lt (Nat.le_of_eq g87.symm))))).other W96 (Or.inl (Nat.ne_of_lt (Nat.lt_of_lt_of_le D84_value.lt (Nat.le_of_eq g87.symm))))).other W99 (Or.inl (Nat.ne_of_lt (Nat.lt_of_lt_of_le D84_value.lt (Nat.le_of_eq g87.symm))))).other W102 (Or.inl (Nat.ne_of_lt (Nat.lt_of_lt_of_le D84_value.lt (Nat.le_of_eq g87.symm))))).other W105 (Or.inl (Nat.ne_of_lt (Nat.lt_of_lt_of_le D84_value.lt (Nat.le_of_eq g87.symm))))).other W108 (Or.inl (Nat.ne_of_lt (Nat.lt_of_lt_of_le D84_value.lt (Nat.le_of_eq g87.symm))))).other W111 (Or.inl (Nat.ne_of_lt (Nat.lt_of_lt_of_le D84_value.lt (Nat.le_of_eq g87.symm))))).other W114 (Or.inl (Nat.ne_of_lt (Nat.lt_of_lt_of_le D84_value.lt (Nat.le_of_eq g87.symm))))).other W117 (Or.inl (Nat.ne_of_lt (Nat.lt_of_lt_of_le D84_value.lt (Nat.le_of_eq g87.symm))))).other W120 (Or.inl (Nat.ne_of_lt (Nat.lt_of_lt_of_le D84_value.lt (Nat.le_of_eq g87.symm)))))
        obtain ⟨T123, v123, L123, X123, hQ123, st123⟩ := own_gotV X120 (X120.specialBack hx (y := (⟨"java/lang/String", "<init>", "([C)V"⟩ : MethodName)) rfl hown (mvT hZ (hw _ (List.mem_of_getElem? (i := 4) rfl))) (mvT hZ (hw _ (List.mem_of_getElem? (i := 5) rfl))) (mvT hZ (hw _ (List.mem_of_getElem? (i := 6) rfl))) (by decide) (backOf (W := 1) (rmC l Z aV hw [] b84 b87 (11 : Int32) k87 11 own_n2 cs h120 n0 O121 gg84 f124 f125 f126 V120 Si23 (hcs) ((Ne.symm (Nat.ne_of_lt (Nat.lt_of_lt_of_le D84_value.lt (Nat.le_of_eq g87.symm))))) (by decide) (by decide) (by decide)) hZ (hw _ (List.mem_of_getElem? (i := 6) rfl)) (hw _ (List.mem_of_getElem? (i := 2) rfl)) (by decide) (by decide)) (g := (mkF m 208 #[.val (.int p0), .val (.int (p0 &&& (3 : Int32))), .unset, .unset, .unset] [(.ref b87), (.ref b84), (.ref b84)])) rfl (by rw [hml]; rfl) (Steps.refl _) (a := b84) (argsL := [(.ref b87)]) (rest := [(.ref b84)]) (lenOf pd__28_5bC_29V rfl) rfl (by show 2 * 0 + _ ≤ _; exact Nat.le_of_eq rfl) (hb hby at_208) (fun _ _ => ⟨rfl, e120, (by decide : 2 + 1 ≤ _), (by decide : 15 + 16 ≤ _)⟩))
        obtain ⟨t_123, kt_123, rfl, N123q, Q123_0, Q123_1, Q123_2, Q123_3, Q123_4, Q123_5⟩ := hQ123
        have N123 := Fr.app N120 N123q
        obtain ⟨h123, e123⟩ : ∃ z, T123.heap = z := ⟨_, rfl⟩
        rw [e123] at Q123_0 Q123_1 Q123_2 Q123_3 Q123_4
        have O127 : Old Z n0 h123 := O121.keep Q123_0 (allS gg84 all0)
        have K128 : Keep h0 h123 [] := K122.trans Q123_0 (allS (Or.inr sz84) all0)
        have gg123_5 : n0 ≤ t_123 := Nat.le_trans (own_le O121) Q123_5
        have sz123_5 : h0.size ≤ t_123 := (Nat.le_trans K122.1 Q123_5)
        refine run_fwd (T' := T123) (g' := (mkF m 211 #[.val (.int p0), .val (.int (p0 &&& (3 : Int32))), .unset, .unset, .unset] [(.ref b84)])) (fun _ k => st123.trans k) ?_
        refine run_fwd (T' := T123) (g' := (mkF m 212 #[.val (.int p0), .val (.int (p0 &&& (3 : Int32))), .val (.ref b84), .unset, .unset] [])) (fun _ k => XS.astoreN X123.here hx rfl (hb hby at_211) rfl rfl (l' := #[.val (.int p0), .val (.int (p0 &&& (3 : Int32))), .val (.ref b84), .unset, .unset]) rfl k) ?_
        obtain ⟨T129, X129, e129, st129⟩ := getS2 X123 hx hZ hown (host := "") (Or.inl (hw _ (List.mem_of_getElem? (i := 67) rfl))) Via.refl e123 (Si27.ext O127.2) (g := (mkF m 212 #[.val (.int p0), .val (.int (p0 &&& (3 : Int32))), .val (.ref b84), .unset, .unset] [])) rfl (hb hby at_212)
        refine run_fwd (T' := T129) (g' := (mkF m 215 #[.val (.int p0), .val (.int (p0 &&& (3 : Int32))), .val (.ref b84), .unset, .unset] [(.ref en2)])) (fun _ k => st129 _ k) ?_
        refine run_fwd (T' := T129) (g' := (mkF m 216 #[.val (.int p0), .val (.int (p0 &&& (3 : Int32))), .val (.ref b84), .val (.ref en2), .unset] [])) (fun _ k => XS.astoreN X129.here hx rfl (hb hby at_215) rfl rfl (l' := #[.val (.int p0), .val (.int (p0 &&& (3 : Int32))), .val (.ref b84), .val (.ref en2), .unset]) rfl k) ?_
        refine run_fwd (T' := T129) (g' := (mkF m 265 #[.val (.int p0), .val (.int (p0 &&& (3 : Int32))), .val (.ref b84), .val (.ref en2), .unset] [])) (fun _ k => XS.goto X129.here hx rfl (pc0 := 216) (pc' := 265) rfl (hb hby at_216) (by decide) (by decide) k) ?_
        refine run_fwd (T' := T129) (g' := (mkF m 266 #[.val (.int p0), .val (.int (p0 &&& (3 : Int32))), .val (.ref b84), .val (.ref en2), .unset] [(.ref b84)])) (fun _ k => XS.aloadN X129.here hx rfl (hb hby at_265) rfl rfl k) ?_
        obtain ⟨T130, v130, L130, X130, hQ130, st130⟩ := own_gotS X129 (Jvm.LawKit.callS X129 hx (y := (⟨"com/example/recurr/recurr/BillingFrequency", "parse", "(Ljava/lang/String;)Lcom/example/recurr/recurr/BillingFrequency;"⟩ : MethodName)) hown (mvT hZ (hw _ (List.mem_of_getElem? (i := 33) rfl))) (mvT hZ (hw _ (List.mem_of_getElem? (i := 34) rfl))) (mvT hZ (hw _ (List.mem_of_getElem? (i := 31) rfl))) (mvT hZ (hw _ (List.mem_of_getElem? (i := 35) rfl))) (by decide) (backOf (W := 0) (rmP2 l Z aV hw [] b84 vv kv en0 en1 en2 en3 sn0 tn0 kn0 sn1 tn1 kn1 sn2 tn2 kn2 sn3 tn3 kn3 t_123 kt_123 (11 : Int32) 11 (own_by own_n2) cs h123 n0 O127 Si0 OVi1 OEi2 OFi3 OEi4 OFi5 OFi6 OVi7 OFi8 OEi9 OFi10 OFi11 OVi12 OFi13 OEi14 OFi15 OFi16 OVi17 OFi18 OEi19 OFi20 OFi21 OVi22 Si23 (hcs) gg84 Q123_1 Q123_2 Q123_3 Q123_4 (by decide) (by decide) (by decide) (by decide)) hZ (hw _ (List.mem_of_getElem? (i := 35) rfl)) (hw _ (List.mem_of_getElem? (i := 31) rfl)) (by decide) (by decide)) (g := (mkF m 266 #[.val (.int p0), .val (.int (p0 &&& (3 : Int32))), .val (.ref b84), .val (.ref en2), .unset] [(.ref b84)])) rfl (by rw [hml]; rfl) (argsL := [(.ref b84)]) (rest := []) (lenOf pd__28Ljava_2flang_2fString_3b_29Lcom_2fexample_2frecurr_2frecurr_2fBillingFrequency_3b rfl) rfl (by show 2 * 0 + _ ≤ _; exact Nat.le_of_eq rfl) (hb hby at_266) (fun _ _ => ⟨rfl, e129, (by decide : 3 + 1 ≤ _), (by decide : 31 + 4 ≤ _)⟩))
        obtain ⟨rfl, N130q, Q130_0⟩ := hQ130
        have N130 := Fr.app N123 N130q
        obtain ⟨h130, e130⟩ : ∃ z, T130.heap = z := ⟨_, rfl⟩
        rw [e130] at Q130_0
        have O131 : Old Z n0 h130 := O127.keep Q130_0 all0
        have K132 : Keep h0 h130 [] := K128.trans Q130_0 all0
        refine run_fwd (T' := T130) (g' := (mkF m 269 #[.val (.int p0), .val (.int (p0 &&& (3 : Int32))), .val (.ref b84), .val (.ref en2), .unset] [(.ref en2)])) (fun _ k => st130 _ k) ?_
        refine run_fwd (T' := T130) (g' := (mkF m 271 #[.val (.int p0), .val (.int (p0 &&& (3 : Int32))), .val (.ref b84), .val (.ref en2), .val (.ref en2)] [])) (fun _ k => XS.astore X130.here hx rfl (hb hby at_269) rfl rfl (l' := #[.val (.int p0), .val (.int (p0 &&& (3 : Int32))), .val (.ref b84), .val (.ref en2), .val (.ref en2)]) rfl k) ?_
        refine run_fwd (T' := T130) (g' := (mkF m 273 #[.val (.int p0), .val (.int (p0 &&& (3 : Int32))), .val (.ref b84), .val (.ref en2), .val (.ref en2)] [(.ref en2)])) (fun _ k => XS.aload X130.here hx rfl (hb hby at_271) rfl rfl k) ?_
        refine run_fwd (T' := T130) (g' := (mkF m 274 #[.val (.int p0), .val (.int (p0 &&& (3 : Int32))), .val (.ref b84), .val (.ref en2), .val (.ref en2)] [(.ref en2), (.ref en2)])) (fun _ k => XS.aloadN X130.here hx rfl (hb hby at_273) rfl rfl k) ?_
        refine run_fwd (T' := T130) (g' := (mkF m 277 #[.val (.int p0), .val (.int (p0 &&& (3 : Int32))), .val (.ref b84), .val (.ref en2), .val (.ref en2)] [])) (fun _ k => Jvm.RoadKit.acmp (g := (mkF m 274 #[.val (.int p0), .val (.int (p0 &&& (3 : Int32))), .val (.ref b84), .val (.ref en2), .val (.ref en2)] [(.ref en2), (.ref en2)])) X130 hx rfl rfl rfl (pc0 := 274) (pc' := 277) (same := true) rfl (hb hby at_274) rfl (decide_eq_true rfl) (by decide) (by decide) k) ?_
        refine run_fwd (T' := T130) (g' := (mkF m 278 #[.val (.int p0), .val (.int (p0 &&& (3 : Int32))), .val (.ref b84), .val (.ref en2), .val (.ref en2)] [(.int (1 : Int32))])) (fun _ k => XS.iconst X130.here hx rfl (hb hby at_277) k) ?_
        refine run_fwd (T' := T130) (g' := (mkF m 282 #[.val (.int p0), .val (.int (p0 &&& (3 : Int32))), .val (.ref b84), .val (.ref en2), .val (.ref en2)] [(.int (1 : Int32))])) (fun _ k => XS.goto X130.here hx rfl (pc0 := 278) (pc' := 282) rfl (hb hby at_278) (by decide) (by decide) k) ?_
        exact run_ret X130 hx Bd.returns Bd.notSynchronized rfl (Or.inl ⟨rfl, by simp, _, rfl⟩) (hb hby at_282) (by rw [e130]; exact ⟨rfl, N130⟩) (by decide) (by decide)
      ·
        refine run_fwd (T' := s₁) (g' := (mkF m 219 #[.val (.int p0), .val (.int (p0 &&& (3 : Int32))), .unset, .unset, .unset] [])) (fun _ k => XS.icmpYes X0.here hx rfl (pc0 := 137) (pc' := 219) rfl (hb hby at_137) rfl (feq hc137_83).2 (by decide) (by decide) k) ?_
        obtain ⟨T133, h133, X133, e133, E133, A133, D133, U133, st133⟩ := newO X0 hx hZ hown (hw _ (List.mem_of_getElem? (i := 0) rfl)) (hw _ (List.mem_of_getElem? (i := 1) rfl)) (hw _ (List.mem_of_getElem? (i := 2) rfl)) e0 (g := (mkF m 219 #[.val (.int p0), .val (.int (p0 &&& (3 : Int32))), .unset, .unset, .unset] [])) rfl (hb hby at_219) (by decide) (by decide)
        obtain ⟨b133, g133⟩ : ∃ z, z = h0.size := ⟨_, rfl⟩
        rw [← g133] at A133 D133 U133 st133
        have gg133 : n0 ≤ b133 := Nat.le_trans (own_le O0) (Nat.le_of_eq g133.symm)
        have sz133 : h0.size ≤ b133 := Nat.le_trans (Keep.refl h0 []).1 (Nat.le_of_eq g133.symm)
        have O134 : Old Z n0 h133 := O0.ext E133
        have K135 : Keep h0 h133 [] := (Keep.refl h0 []).ext E133
        have D133_coder : Fld Z h133 b133 "java/lang/String" "coder" "B" (.int (0 : Int32)) := D133 (Or.inr (hw _ (List.mem_of_getElem? (i := 27) rfl))) (ty := .byte) (by decide)
        have D133_value : Fld Z h133 b133 "java/lang/String" "value" "[B" .null := D133 (Or.inr (hw _ (List.mem_of_getElem? (i := 29) rfl))) (ty := (.array .byte)) (by decide)
        refine run_fwd (T' := T133) (g' := (mkF m 222 #[.val (.int p0), .val (.int (p0 &&& (3 : Int32))), .unset, .unset, .unset] [(.ref b133)])) (fun _ k => st133 _ k) ?_
        refine run_fwd (T' := T133) (g' := (mkF m 223 #[.val (.int p0), .val (.int (p0 &&& (3 : Int32))), .unset, .unset, .unset] [(.ref b133), (.ref b133)])) (fun _ k => XS.dup X133.here hx rfl (hb hby at_222) rfl rfl k) ?_
        refine run_fwd (T' := T133) (g' := (mkF m 225 #[.val (.int p0), .val (.int (p0 &&& (3 : Int32))), .unset, .unset, .unset] [(.int (6 : Int32)), (.ref b133), (.ref b133)])) (fun _ k => XS.bipush X133.here hx rfl (hb hby at_223) k) ?_
        obtain ⟨T136, h136, k136, X136, e136, E136, A136, st136⟩ := newP X133 hx hZ (hw _ (List.mem_of_getElem? (i := 3) rfl)) e133 (g := (mkF m 225 #[.val (.int p0), .val (.int (p0 &&& (3 : Int32))), .unset, .unset, .unset] [(.int (6 : Int32)), (.ref b133), (.ref b133)])) rfl (hb hby at_225) rfl (by decide) (cap := 6) (by decide) (by decide) (by decide) (by decide)
        obtain ⟨b136, g136⟩ : ∃ z, z = h133.size := ⟨_, rfl⟩
        rw [← g136] at A136 st136
        have gg136 : n0 ≤ b136 := Nat.le_trans (own_le O134) (Nat.le_of_eq g136.symm)
        have sz136 : h0.size ≤ b136 := Nat.le_trans K135.1 (Nat.le_of_eq g136.symm)
        have O137 : Old Z n0 h136 := O134.ext E136
        have K138 : Keep h0 h136 [] := K135.ext E136
        have V136 : Arv Z h136 b136 k136 .char (6 : Int32) [(.int (0 : Int32)), (.int (0 : Int32)), (.int (0 : Int32)), (.int (0 : Int32)), (.int (0 : Int32)), (.int (0 : Int32))] (.int (0 : Int32)) := (Arv.new A136 (by decide)).pad (pad_rep [] (.int (0 : Int32)) 6)
        refine run_fwd (T' := T136) (g' := (mkF m 227 #[.val (.int p0), .val (.int (p0 &&& (3 : Int32))), .unset, .unset, .unset] [(.ref b136), (.ref b133), (.ref b133)])) (fun _ k => st136 _ k) ?_
        refine run_fwd (T' := T136) (g' := (mkF m 228 #[.val (.int p0), .val (.int (p0 &&& (3 : Int32))), .unset, .unset, .unset] [(.ref b136), (.ref b136), (.ref b133), (.ref b133)])) (fun _ k => XS.dup X136.here hx rfl (hb hby at_227) rfl rfl k) ?_
        refine run_fwd (T' := T136) (g' := (mkF m 229 #[.val (.int p0), .val (.int (p0 &&& (3 : Int32))), .unset, .unset, .unset] [(.int (0 : Int32)), (.ref b136), (.ref b136), (.ref b133), (.ref b133)])) (fun _ k => XS.iconst X136.here hx rfl (hb hby at_228) k) ?_
        refine run_fwd (T' := T136) (g' := (mkF m 231 #[.val (.int p0), .val (.int (p0 &&& (3 : Int32))), .unset, .unset, .unset] [(.int (89 : Int32)), (.int (0 : Int32)), (.ref b136), (.ref b136), (.ref b133), (.ref b133)])) (fun _ k => XS.bipush X136.here hx rfl (hb hby at_229) k) ?_
        obtain ⟨cl139, Ar139, qq139, S139, M139, Hh139, G139⟩ := id (V136)
        have hin139 : ¬ ((0 : Int32) < 0 ∨ cl139.slots.size ≤ ((0 : Int32)).toNatClampNeg) := inb_of S139 ⟨by decide, by decide⟩
        obtain ⟨T139, h139, X139, e139, W139, st139⟩ := stC X136 hx hZ e136 Ar139 (j := (0 : Int32)) hin139 (g := (mkF m 231 #[.val (.int p0), .val (.int (p0 &&& (3 : Int32))), .unset, .unset, .unset] [(.int (89 : Int32)), (.int (0 : Int32)), (.ref b136), (.ref b136), (.ref b133), (.ref b133)])) rfl rfl (hb hby at_231)
        have O140 : Old Z n0 h139 := O137.wr W139 gg136
        have K141 : Keep h0 h139 [] := K138.wr W139 (Or.inr sz136)
        have N139 := Fr.snoc X139 N0 gg136
        have V139 : Arv Z h139 b136 k136 .char (6 : Int32) [(.int (nar .char (89 : Int32))), (.int (0 : Int32)), (.int (0 : Int32)), (.int (0 : Int32)), (.int (0 : Int32)), (.int (0 : Int32))] (.int (0 : Int32)) := Arv.set Ar139 qq139 S139 M139 Hh139 G139 (fits_nar_char _) W139 0 rfl (Nat.le_of_ble_eq_true rfl)
        refine run_fwd (T' := T139) (g' := (mkF m 232 #[.val (.int p0), .val (.int (p0 &&& (3 : Int32))), .unset, .unset, .unset] [(.ref b136), (.ref b133), (.ref b133)])) (fun _ k => st139 _ k) ?_
        refine run_fwd (T' := T139) (g' := (mkF m 233 #[.val (.int p0), .val (.int (p0 &&& (3 : Int32))), .unset, .unset, .unset] [(.ref b136), (.ref b136), (.ref b133), (.ref b133)])) (fun _ k => XS.dup X139.here hx rfl (hb hby at_232) rfl rfl k) ?_
        refine run_fwd (T' := T139) (g' := (mkF m 234 #[.val (.int p0), .val (.int (p0 &&& (3 : Int32))), .unset, .unset, .unset] [(.int (1 : Int32)), (.ref b136), (.ref b136), (.ref b133), (.ref b133)])) (fun _ k => XS.iconst X139.here hx rfl (hb hby at_233) k) ?_
        refine run_fwd (T' := T139) (g' := (mkF m 236 #[.val (.int p0), .val (.int (p0 &&& (3 : Int32))), .unset, .unset, .unset] [(.int (101 : Int32)), (.int (1 : Int32)), (.ref b136), (.ref b136), (.ref b133), (.ref b133)])) (fun _ k => XS.bipush X139.here hx rfl (hb hby at_234) k) ?_
        obtain ⟨cl142, Ar142, qq142, S142, M142, Hh142, G142⟩ := id (V139)
        have hin142 : ¬ ((1 : Int32) < 0 ∨ cl142.slots.size ≤ ((1 : Int32)).toNatClampNeg) := inb_of S142 ⟨by decide, by decide⟩
        obtain ⟨T142, h142, X142, e142, W142, st142⟩ := stC X139 hx hZ e139 Ar142 (j := (1 : Int32)) hin142 (g := (mkF m 236 #[.val (.int p0), .val (.int (p0 &&& (3 : Int32))), .unset, .unset, .unset] [(.int (101 : Int32)), (.int (1 : Int32)), (.ref b136), (.ref b136), (.ref b133), (.ref b133)])) rfl rfl (hb hby at_236)
        have O143 : Old Z n0 h142 := O140.wr W142 gg136
        have K144 : Keep h0 h142 [] := K141.wr W142 (Or.inr sz136)
        have N142 := Fr.snoc X142 N139 gg136
        have V142 : Arv Z h142 b136 k136 .char (6 : Int32) [(.int (nar .char (89 : Int32))), (.int (nar .char (101 : Int32))), (.int (0 : Int32)), (.int (0 : Int32)), (.int (0 : Int32)), (.int (0 : Int32))] (.int (0 : Int32)) := Arv.set Ar142 qq142 S142 M142 Hh142 G142 (fits_nar_char _) W142 1 rfl (Nat.le_of_ble_eq_true rfl)
        refine run_fwd (T' := T142) (g' := (mkF m 237 #[.val (.int p0), .val (.int (p0 &&& (3 : Int32))), .unset, .unset, .unset] [(.ref b136), (.ref b133), (.ref b133)])) (fun _ k => st142 _ k) ?_
        refine run_fwd (T' := T142) (g' := (mkF m 238 #[.val (.int p0), .val (.int (p0 &&& (3 : Int32))), .unset, .unset, .unset] [(.ref b136), (.ref b136), (.ref b133), (.ref b133)])) (fun _ k => XS.dup X142.here hx rfl (hb hby at_237) rfl rfl k) ?_
        refine run_fwd (T' := T142) (g' := (mkF m 239 #[.val (.int p0), .val (.int (p0 &&& (3 : Int32))), .unset, .unset, .unset] [(.int (2 : Int32)), (.ref b136), (.ref b136), (.ref b133), (.ref b133)])) (fun _ k => XS.iconst X142.here hx rfl (hb hby at_238) k) ?_
        refine run_fwd (T' := T142) (g' := (mkF m 241 #[.val (.int p0), .val (.int (p0 &&& (3 : Int32))), .unset, .unset, .unset] [(.int (97 : Int32)), (.int (2 : Int32)), (.ref b136), (.ref b136), (.ref b133), (.ref b133)])) (fun _ k => XS.bipush X142.here hx rfl (hb hby at_239) k) ?_
        obtain ⟨cl145, Ar145, qq145, S145, M145, Hh145, G145⟩ := id (V142)
        have hin145 : ¬ ((2 : Int32) < 0 ∨ cl145.slots.size ≤ ((2 : Int32)).toNatClampNeg) := inb_of S145 ⟨by decide, by decide⟩
        obtain ⟨T145, h145, X145, e145, W145, st145⟩ := stC X142 hx hZ e142 Ar145 (j := (2 : Int32)) hin145 (g := (mkF m 241 #[.val (.int p0), .val (.int (p0 &&& (3 : Int32))), .unset, .unset, .unset] [(.int (97 : Int32)), (.int (2 : Int32)), (.ref b136), (.ref b136), (.ref b133), (.ref b133)])) rfl rfl (hb hby at_241)
        have O146 : Old Z n0 h145 := O143.wr W145 gg136
        have K147 : Keep h0 h145 [] := K144.wr W145 (Or.inr sz136)
        have N145 := Fr.snoc X145 N142 gg136
        have V145 : Arv Z h145 b136 k136 .char (6 : Int32) [(.int (nar .char (89 : Int32))), (.int (nar .char (101 : Int32))), (.int (nar .char (97 : Int32))), (.int (0 : Int32)), (.int (0 : Int32)), (.int (0 : Int32))] (.int (0 : Int32)) := Arv.set Ar145 qq145 S145 M145 Hh145 G145 (fits_nar_char _) W145 2 rfl (Nat.le_of_ble_eq_true rfl)
        refine run_fwd (T' := T145) (g' := (mkF m 242 #[.val (.int p0), .val (.int (p0 &&& (3 : Int32))), .unset, .unset, .unset] [(.ref b136), (.ref b133), (.ref b133)])) (fun _ k => st145 _ k) ?_
        refine run_fwd (T' := T145) (g' := (mkF m 243 #[.val (.int p0), .val (.int (p0 &&& (3 : Int32))), .unset, .unset, .unset] [(.ref b136), (.ref b136), (.ref b133), (.ref b133)])) (fun _ k => XS.dup X145.here hx rfl (hb hby at_242) rfl rfl k) ?_
        refine run_fwd (T' := T145) (g' := (mkF m 244 #[.val (.int p0), .val (.int (p0 &&& (3 : Int32))), .unset, .unset, .unset] [(.int (3 : Int32)), (.ref b136), (.ref b136), (.ref b133), (.ref b133)])) (fun _ k => XS.iconst X145.here hx rfl (hb hby at_243) k) ?_
        refine run_fwd (T' := T145) (g' := (mkF m 246 #[.val (.int p0), .val (.int (p0 &&& (3 : Int32))), .unset, .unset, .unset] [(.int (114 : Int32)), (.int (3 : Int32)), (.ref b136), (.ref b136), (.ref b133), (.ref b133)])) (fun _ k => XS.bipush X145.here hx rfl (hb hby at_244) k) ?_
        obtain ⟨cl148, Ar148, qq148, S148, M148, Hh148, G148⟩ := id (V145)
        have hin148 : ¬ ((3 : Int32) < 0 ∨ cl148.slots.size ≤ ((3 : Int32)).toNatClampNeg) := inb_of S148 ⟨by decide, by decide⟩
        obtain ⟨T148, h148, X148, e148, W148, st148⟩ := stC X145 hx hZ e145 Ar148 (j := (3 : Int32)) hin148 (g := (mkF m 246 #[.val (.int p0), .val (.int (p0 &&& (3 : Int32))), .unset, .unset, .unset] [(.int (114 : Int32)), (.int (3 : Int32)), (.ref b136), (.ref b136), (.ref b133), (.ref b133)])) rfl rfl (hb hby at_246)
        have O149 : Old Z n0 h148 := O146.wr W148 gg136
        have K150 : Keep h0 h148 [] := K147.wr W148 (Or.inr sz136)
        have N148 := Fr.snoc X148 N145 gg136
        have V148 : Arv Z h148 b136 k136 .char (6 : Int32) [(.int (nar .char (89 : Int32))), (.int (nar .char (101 : Int32))), (.int (nar .char (97 : Int32))), (.int (nar .char (114 : Int32))), (.int (0 : Int32)), (.int (0 : Int32))] (.int (0 : Int32)) := Arv.set Ar148 qq148 S148 M148 Hh148 G148 (fits_nar_char _) W148 3 rfl (Nat.le_of_ble_eq_true rfl)
        refine run_fwd (T' := T148) (g' := (mkF m 247 #[.val (.int p0), .val (.int (p0 &&& (3 : Int32))), .unset, .unset, .unset] [(.ref b136), (.ref b133), (.ref b133)])) (fun _ k => st148 _ k) ?_
        refine run_fwd (T' := T148) (g' := (mkF m 248 #[.val (.int p0), .val (.int (p0 &&& (3 : Int32))), .unset, .unset, .unset] [(.ref b136), (.ref b136), (.ref b133), (.ref b133)])) (fun _ k => XS.dup X148.here hx rfl (hb hby at_247) rfl rfl k) ?_
        refine run_fwd (T' := T148) (g' := (mkF m 249 #[.val (.int p0), .val (.int (p0 &&& (3 : Int32))), .unset, .unset, .unset] [(.int (4 : Int32)), (.ref b136), (.ref b136), (.ref b133), (.ref b133)])) (fun _ k => XS.iconst X148.here hx rfl (hb hby at_248) k) ?_
        refine run_fwd (T' := T148) (g' := (mkF m 251 #[.val (.int p0), .val (.int (p0 &&& (3 : Int32))), .unset, .unset, .unset] [(.int (108 : Int32)), (.int (4 : Int32)), (.ref b136), (.ref b136), (.ref b133), (.ref b133)])) (fun _ k => XS.bipush X148.here hx rfl (hb hby at_249) k) ?_
        obtain ⟨cl151, Ar151, qq151, S151, M151, Hh151, G151⟩ := id (V148)
        have hin151 : ¬ ((4 : Int32) < 0 ∨ cl151.slots.size ≤ ((4 : Int32)).toNatClampNeg) := inb_of S151 ⟨by decide, by decide⟩
        obtain ⟨T151, h151, X151, e151, W151, st151⟩ := stC X148 hx hZ e148 Ar151 (j := (4 : Int32)) hin151 (g := (mkF m 251 #[.val (.int p0), .val (.int (p0 &&& (3 : Int32))), .unset, .unset, .unset] [(.int (108 : Int32)), (.int (4 : Int32)), (.ref b136), (.ref b136), (.ref b133), (.ref b133)])) rfl rfl (hb hby at_251)
        have O152 : Old Z n0 h151 := O149.wr W151 gg136
        have K153 : Keep h0 h151 [] := K150.wr W151 (Or.inr sz136)
        have N151 := Fr.snoc X151 N148 gg136
        have V151 : Arv Z h151 b136 k136 .char (6 : Int32) [(.int (nar .char (89 : Int32))), (.int (nar .char (101 : Int32))), (.int (nar .char (97 : Int32))), (.int (nar .char (114 : Int32))), (.int (nar .char (108 : Int32))), (.int (0 : Int32))] (.int (0 : Int32)) := Arv.set Ar151 qq151 S151 M151 Hh151 G151 (fits_nar_char _) W151 4 rfl (Nat.le_of_ble_eq_true rfl)
        refine run_fwd (T' := T151) (g' := (mkF m 252 #[.val (.int p0), .val (.int (p0 &&& (3 : Int32))), .unset, .unset, .unset] [(.ref b136), (.ref b133), (.ref b133)])) (fun _ k => st151 _ k) ?_
        refine run_fwd (T' := T151) (g' := (mkF m 253 #[.val (.int p0), .val (.int (p0 &&& (3 : Int32))), .unset, .unset, .unset] [(.ref b136), (.ref b136), (.ref b133), (.ref b133)])) (fun _ k => XS.dup X151.here hx rfl (hb hby at_252) rfl rfl k) ?_
        refine run_fwd (T' := T151) (g' := (mkF m 254 #[.val (.int p0), .val (.int (p0 &&& (3 : Int32))), .unset, .unset, .unset] [(.int (5 : Int32)), (.ref b136), (.ref b136), (.ref b133), (.ref b133)])) (fun _ k => XS.iconst X151.here hx rfl (hb hby at_253) k) ?_
        refine run_fwd (T' := T151) (g' := (mkF m 256 #[.val (.int p0), .val (.int (p0 &&& (3 : Int32))), .unset, .unset, .unset] [(.int (121 : Int32)), (.int (5 : Int32)), (.ref b136), (.ref b136), (.ref b133), (.ref b133)])) (fun _ k => XS.bipush X151.here hx rfl (hb hby at_254) k) ?_
        obtain ⟨cl154, Ar154, qq154, S154, M154, Hh154, G154⟩ := id (V151)
        have hin154 : ¬ ((5 : Int32) < 0 ∨ cl154.slots.size ≤ ((5 : Int32)).toNatClampNeg) := inb_of S154 ⟨by decide, by decide⟩
        obtain ⟨T154, h154, X154, e154, W154, st154⟩ := stC X151 hx hZ e151 Ar154 (j := (5 : Int32)) hin154 (g := (mkF m 256 #[.val (.int p0), .val (.int (p0 &&& (3 : Int32))), .unset, .unset, .unset] [(.int (121 : Int32)), (.int (5 : Int32)), (.ref b136), (.ref b136), (.ref b133), (.ref b133)])) rfl rfl (hb hby at_256)
        have O155 : Old Z n0 h154 := O152.wr W154 gg136
        have K156 : Keep h0 h154 [] := K153.wr W154 (Or.inr sz136)
        have N154 := Fr.snoc X154 N151 gg136
        have V154 : Arv Z h154 b136 k136 .char (6 : Int32) [(.int (nar .char (89 : Int32))), (.int (nar .char (101 : Int32))), (.int (nar .char (97 : Int32))), (.int (nar .char (114 : Int32))), (.int (nar .char (108 : Int32))), (.int (nar .char (121 : Int32)))] (.int (0 : Int32)) := Arv.set Ar154 qq154 S154 M154 Hh154 G154 (fits_nar_char _) W154 5 rfl (Nat.le_of_ble_eq_true rfl)
        refine run_fwd (T' := T154) (g' := (mkF m 257 #[.val (.int p0), .val (.int (p0 &&& (3 : Int32))), .unset, .unset, .unset] [(.ref b136), (.ref b133), (.ref b133)])) (fun _ k => st154 _ k) ?_
        have f158 : Exa Z h154 b133 "java/lang/String" := (((((((A133.ext E136).wr W139).wr W142).wr W145).wr W148).wr W151).wr W154)
        have f159 : Fld Z h154 b133 "java/lang/String" "value" "[B" .null := (((((((D133_value.ext E136).other W139 (Or.inl (Nat.ne_of_lt (Nat.lt_of_lt_of_le D133_value.lt (Nat.le_of_eq g136.symm))))).other W142 (Or.inl (Nat.ne_of_lt (Nat.lt_of_lt_of_le D133_value.lt (Nat.le_of_eq g136.symm))))).other W145 (Or.inl (Nat.ne_of_lt (Nat.lt_of_lt_of_le D133_value.lt (Nat.le_of_eq g136.symm))))).other W148 (Or.inl (Nat.ne_of_lt (Nat.lt_of_lt_of_le D133_value.lt (Nat.le_of_eq g136.symm))))).other W151 (Or.inl (Nat.ne_of_lt (Nat.lt_of_lt_of_le D133_value.lt (Nat.le_of_eq g136.symm))))).other W154 (Or.inl (Nat.ne_of_lt (Nat.lt_of_lt_of_le D133_value.lt (Nat.le_of_eq g136.symm)))))
        have f160 : Fld Z h154 b133 "java/lang/String" "coder" "B" (.int (0 : Int32)) := (((((((D133_coder.ext E136).other W139 (Or.inl (Nat.ne_of_lt (Nat.lt_of_lt_of_le D133_value.lt (Nat.le_of_eq g136.symm))))).other W142 (Or.inl (Nat.ne_of_lt (Nat.lt_of_lt_of_le D133_value.lt (Nat.le_of_eq g136.symm))))).other W145 (Or.inl (Nat.ne_of_lt (Nat.lt_of_lt_of_le D133_value.lt (Nat.le_of_eq g136.symm))))).other W148 (Or.inl (Nat.ne_of_lt (Nat.lt_of_lt_of_le D133_value.lt (Nat.le_of_eq g136.symm))))).other W151 (Or.inl (Nat.ne_of_lt (Nat.lt_of_lt_of_le D133_value.lt (Nat.le_of_eq g136.symm))))).other W154 (Or.inl (Nat.ne_of_lt (Nat.lt_of_lt_of_le D133_value.lt (Nat.le_of_eq g136.symm)))))
        obtain ⟨T157, v157, L157, X157, hQ157, st157⟩ := own_gotV X154 (X154.specialBack hx (y := (⟨"java/lang/String", "<init>", "([C)V"⟩ : MethodName)) rfl hown (mvT hZ (hw _ (List.mem_of_getElem? (i := 4) rfl))) (mvT hZ (hw _ (List.mem_of_getElem? (i := 5) rfl))) (mvT hZ (hw _ (List.mem_of_getElem? (i := 6) rfl))) (by decide) (backOf (W := 1) (rmC l Z aV hw [] b133 b136 (6 : Int32) k136 6 own_n3 cs h154 n0 O155 gg133 f158 f159 f160 V154 Si23 (hcs) ((Ne.symm (Nat.ne_of_lt (Nat.lt_of_lt_of_le D133_value.lt (Nat.le_of_eq g136.symm))))) (by decide) (by decide) (by decide)) hZ (hw _ (List.mem_of_getElem? (i := 6) rfl)) (hw _ (List.mem_of_getElem? (i := 2) rfl)) (by decide) (by decide)) (g := (mkF m 257 #[.val (.int p0), .val (.int (p0 &&& (3 : Int32))), .unset, .unset, .unset] [(.ref b136), (.ref b133), (.ref b133)])) rfl (by rw [hml]; rfl) (Steps.refl _) (a := b133) (argsL := [(.ref b136)]) (rest := [(.ref b133)]) (lenOf pd__28_5bC_29V rfl) rfl (by show 2 * 0 + _ ≤ _; exact Nat.le_of_eq rfl) (hb hby at_257) (fun _ _ => ⟨rfl, e154, (by decide : 2 + 1 ≤ _), (by decide : 10 + 16 ≤ _)⟩))
        obtain ⟨t_157, kt_157, rfl, N157q, Q157_0, Q157_1, Q157_2, Q157_3, Q157_4, Q157_5⟩ := hQ157
        have N157 := Fr.app N154 N157q
        obtain ⟨h157, e157⟩ : ∃ z, T157.heap = z := ⟨_, rfl⟩
        rw [e157] at Q157_0 Q157_1 Q157_2 Q157_3 Q157_4
        have O161 : Old Z n0 h157 := O155.keep Q157_0 (allS gg133 all0)
        have K162 : Keep h0 h157 [] := K156.trans Q157_0 (allS (Or.inr sz133) all0)
        have gg157_5 : n0 ≤ t_157 := Nat.le_trans (own_le O155) Q157_5
        have sz157_5 : h0.size ≤ t_157 := (Nat.le_trans K156.1 Q157_5)
        refine run_fwd (T' := T157) (g' := (mkF m 260 #[.val (.int p0), .val (.int (p0 &&& (3 : Int32))), .unset, .unset, .unset] [(.ref b133)])) (fun _ k => st157.trans k) ?_
        refine run_fwd (T' := T157) (g' := (mkF m 261 #[.val (.int p0), .val (.int (p0 &&& (3 : Int32))), .val (.ref b133), .unset, .unset] [])) (fun _ k => XS.astoreN X157.here hx rfl (hb hby at_260) rfl rfl (l' := #[.val (.int p0), .val (.int (p0 &&& (3 : Int32))), .val (.ref b133), .unset, .unset]) rfl k) ?_
        obtain ⟨T163, X163, e163, st163⟩ := getS2 X157 hx hZ hown (host := "") (Or.inl (hw _ (List.mem_of_getElem? (i := 66) rfl))) Via.refl e157 (Si28.ext O161.2) (g := (mkF m 261 #[.val (.int p0), .val (.int (p0 &&& (3 : Int32))), .val (.ref b133), .unset, .unset] [])) rfl (hb hby at_261)
        refine run_fwd (T' := T163) (g' := (mkF m 264 #[.val (.int p0), .val (.int (p0 &&& (3 : Int32))), .val (.ref b133), .unset, .unset] [(.ref en3)])) (fun _ k => st163 _ k) ?_
        refine run_fwd (T' := T163) (g' := (mkF m 265 #[.val (.int p0), .val (.int (p0 &&& (3 : Int32))), .val (.ref b133), .val (.ref en3), .unset] [])) (fun _ k => XS.astoreN X163.here hx rfl (hb hby at_264) rfl rfl (l' := #[.val (.int p0), .val (.int (p0 &&& (3 : Int32))), .val (.ref b133), .val (.ref en3), .unset]) rfl k) ?_
        refine run_fwd (T' := T163) (g' := (mkF m 266 #[.val (.int p0), .val (.int (p0 &&& (3 : Int32))), .val (.ref b133), .val (.ref en3), .unset] [(.ref b133)])) (fun _ k => XS.aloadN X163.here hx rfl (hb hby at_265) rfl rfl k) ?_
        obtain ⟨T164, v164, L164, X164, hQ164, st164⟩ := own_gotS X163 (Jvm.LawKit.callS X163 hx (y := (⟨"com/example/recurr/recurr/BillingFrequency", "parse", "(Ljava/lang/String;)Lcom/example/recurr/recurr/BillingFrequency;"⟩ : MethodName)) hown (mvT hZ (hw _ (List.mem_of_getElem? (i := 33) rfl))) (mvT hZ (hw _ (List.mem_of_getElem? (i := 34) rfl))) (mvT hZ (hw _ (List.mem_of_getElem? (i := 31) rfl))) (mvT hZ (hw _ (List.mem_of_getElem? (i := 35) rfl))) (by decide) (backOf (W := 0) (rmP3 l Z aV hw [] b133 vv kv en0 en1 en2 en3 sn0 tn0 kn0 sn1 tn1 kn1 sn2 tn2 kn2 sn3 tn3 kn3 t_157 kt_157 (6 : Int32) 6 (own_by own_n3) cs h157 n0 O161 Si0 OVi1 OEi2 OFi3 OEi4 OFi5 OFi6 OVi7 OFi8 OEi9 OFi10 OFi11 OVi12 OFi13 OEi14 OFi15 OFi16 OVi17 OFi18 OEi19 OFi20 OFi21 OVi22 Si23 (hcs) gg133 Q157_1 Q157_2 Q157_3 Q157_4 (by decide) (by decide) (by decide) (by decide) (by decide)) hZ (hw _ (List.mem_of_getElem? (i := 35) rfl)) (hw _ (List.mem_of_getElem? (i := 31) rfl)) (by decide) (by decide)) (g := (mkF m 266 #[.val (.int p0), .val (.int (p0 &&& (3 : Int32))), .val (.ref b133), .val (.ref en3), .unset] [(.ref b133)])) rfl (by rw [hml]; rfl) (argsL := [(.ref b133)]) (rest := []) (lenOf pd__28Ljava_2flang_2fString_3b_29Lcom_2fexample_2frecurr_2frecurr_2fBillingFrequency_3b rfl) rfl (by show 2 * 0 + _ ≤ _; exact Nat.le_of_eq rfl) (hb hby at_266) (fun _ _ => ⟨rfl, e163, (by decide : 3 + 1 ≤ _), (by decide : 26 + 4 ≤ _)⟩))
        obtain ⟨rfl, N164q, Q164_0⟩ := hQ164
        have N164 := Fr.app N157 N164q
        obtain ⟨h164, e164⟩ : ∃ z, T164.heap = z := ⟨_, rfl⟩
        rw [e164] at Q164_0
        have O165 : Old Z n0 h164 := O161.keep Q164_0 all0
        have K166 : Keep h0 h164 [] := K162.trans Q164_0 all0
        refine run_fwd (T' := T164) (g' := (mkF m 269 #[.val (.int p0), .val (.int (p0 &&& (3 : Int32))), .val (.ref b133), .val (.ref en3), .unset] [(.ref en3)])) (fun _ k => st164 _ k) ?_
        refine run_fwd (T' := T164) (g' := (mkF m 271 #[.val (.int p0), .val (.int (p0 &&& (3 : Int32))), .val (.ref b133), .val (.ref en3), .val (.ref en3)] [])) (fun _ k => XS.astore X164.here hx rfl (hb hby at_269) rfl rfl (l' := #[.val (.int p0), .val (.int (p0 &&& (3 : Int32))), .val (.ref b133), .val (.ref en3), .val (.ref en3)]) rfl k) ?_
        refine run_fwd (T' := T164) (g' := (mkF m 273 #[.val (.int p0), .val (.int (p0 &&& (3 : Int32))), .val (.ref b133), .val (.ref en3), .val (.ref en3)] [(.ref en3)])) (fun _ k => XS.aload X164.here hx rfl (hb hby at_271) rfl rfl k) ?_
        refine run_fwd (T' := T164) (g' := (mkF m 274 #[.val (.int p0), .val (.int (p0 &&& (3 : Int32))), .val (.ref b133), .val (.ref en3), .val (.ref en3)] [(.ref en3), (.ref en3)])) (fun _ k => XS.aloadN X164.here hx rfl (hb hby at_273) rfl rfl k) ?_
        refine run_fwd (T' := T164) (g' := (mkF m 277 #[.val (.int p0), .val (.int (p0 &&& (3 : Int32))), .val (.ref b133), .val (.ref en3), .val (.ref en3)] [])) (fun _ k => Jvm.RoadKit.acmp (g := (mkF m 274 #[.val (.int p0), .val (.int (p0 &&& (3 : Int32))), .val (.ref b133), .val (.ref en3), .val (.ref en3)] [(.ref en3), (.ref en3)])) X164 hx rfl rfl rfl (pc0 := 274) (pc' := 277) (same := true) rfl (hb hby at_274) rfl (decide_eq_true rfl) (by decide) (by decide) k) ?_
        refine run_fwd (T' := T164) (g' := (mkF m 278 #[.val (.int p0), .val (.int (p0 &&& (3 : Int32))), .val (.ref b133), .val (.ref en3), .val (.ref en3)] [(.int (1 : Int32))])) (fun _ k => XS.iconst X164.here hx rfl (hb hby at_277) k) ?_
        refine run_fwd (T' := T164) (g' := (mkF m 282 #[.val (.int p0), .val (.int (p0 &&& (3 : Int32))), .val (.ref b133), .val (.ref en3), .val (.ref en3)] [(.int (1 : Int32))])) (fun _ k => XS.goto X164.here hx rfl (pc0 := 278) (pc' := 282) rfl (hb hby at_278) (by decide) (by decide) k) ?_
        exact run_ret X164 hx Bd.returns Bd.notSynchronized rfl (Or.inl ⟨rfl, by simp, _, rfl⟩) (hb hby at_282) (by rw [e164]; exact ⟨rfl, N164⟩) (by decide) (by decide)
set_option maxRecDepth 65536 in
set_option maxHeartbeats 40000000 in
theorem comes_1 {Post : Tables → Env → Array Value → State → Outcome → State → Prop} (hpost : ∀ tb e args s v u, (limb_1_1.after args s (.returned v) u = true ∧ limb_1_2.after args s (.returned v) u = true ∧ True) → FrameEnd s (.returned v) u (Jvm.fieldLocs frame_1_writes args s ++ Jvm.arrayLocs frame_1_arrays args s ++ Jvm.staticLocs frame_1_statics s) 16 128 → Post tb e args s (.returned v) u) :
    ArmFor flags0 classFile x code maxLocals ret World_1 tables_1 room_1 Calls_1 rest_1 Pre_1 Post := by
  intro l hfl _ _ p e ha hc hk s m args below hf hA hF happ hP
  obtain ⟨hcalls, hrest, hpre⟩ := hP
  obtain ⟨-, -, -, hnamed, -, -, -, hat⟩ := (Spec.applies_iff hf).mp happ
  obtain ⟨hg, hn⟩ := and_e (Cond.before_iff.mp (show (Jvm.Cond.and given_1 narrow_1).before args s = true from hpre))
  obtain ⟨g1, g2⟩ := and_e hg
  obtain ⟨w0, rfl⟩ : ∃ w0 : Value, args = #[w0] := by
    have hs : args.size = 1 := by simpa [Cond.value, given_1] using g1
    obtain ⟨L⟩ := args
    match L, hs with
    | [w0], _ => exact ⟨w0, rfl⟩
  have hw := fun d (hd : d ∈ tables_1) => atoms_spec (ws := Jvm.Cond.code x code maxLocals ret :: tables_1) hat d (List.mem_cons_of_mem _ hd)
  obtain ⟨hsets, hown0⟩ := atoms_of _ (rest_1_c_eq ▸ (show rest_1_c.before _ s = true from hrest))
  obtain ⟨i0, ei0⟩ := is_v g2
  obtain rfl : w0 = (.int i0) := Option.some.inj ei0
  have hfit : Fit s := fun {y c} hc i hi => by
    obtain ⟨ha, rfl⟩ := Array.getElem?_eq_some_iff.mp hc
    have q := List.all_eq_true.mp ((Array.all_eq_true_iff_forall_mem.mp hF) _ (Array.getElem_mem ha)) i (List.mem_range.mpr hi)
    simpa [Array.getElem?_eq_getElem hi] using q
  obtain ⟨cs, ecs⟩ := is_v (Cond.before_iff.mp (hsets _ (List.mem_of_getElem? (i := 1) rfl)))
  have SC := Sta.start ecs (Or.inl (hsets _ (List.mem_of_getElem? (i := 0) rfl)))
  have hcs := own_nei ecs (Cond.before_iff.mp (hsets _ (List.mem_of_getElem? (i := 2) rfl)))
  obtain ⟨c1, hn⟩ := and_e hn
  obtain ⟨c2, hn⟩ := and_e hn
  obtain ⟨c3, hn⟩ := and_e hn
  obtain ⟨c4, hn⟩ := and_e hn
  obtain ⟨c5, hn⟩ := and_e hn
  obtain ⟨c6, hn⟩ := and_e hn
  obtain ⟨c7, hn⟩ := and_e hn
  obtain ⟨c8, hn⟩ := and_e hn
  obtain ⟨c9, hn⟩ := and_e hn
  obtain ⟨c10, hn⟩ := and_e hn
  obtain ⟨c11, hn⟩ := and_e hn
  obtain ⟨c12, hn⟩ := and_e hn
  obtain ⟨c13, hn⟩ := and_e hn
  obtain ⟨c14, hn⟩ := and_e hn
  obtain ⟨c15, hn⟩ := and_e hn
  obtain ⟨c16, hn⟩ := and_e hn
  obtain ⟨c17, hn⟩ := and_e hn
  obtain ⟨c18, hn⟩ := and_e hn
  obtain ⟨c19, hn⟩ := and_e hn
  obtain ⟨c20, hn⟩ := and_e hn
  obtain ⟨c21, hn⟩ := and_e hn
  obtain ⟨c22, hn⟩ := and_e hn
  obtain ⟨c23, hn⟩ := and_e hn
  obtain ⟨c24, hn⟩ := and_e hn
  obtain ⟨c25, hn⟩ := and_e hn
  obtain ⟨c26, hn⟩ := and_e hn
  obtain ⟨c27, hn⟩ := and_e hn
  obtain ⟨c28, hn⟩ := and_e hn
  obtain ⟨c29, hn⟩ := and_e hn
  obtain ⟨c30, hn⟩ := and_e hn
  obtain ⟨c31, hn⟩ := and_e hn
  obtain ⟨c32, hn⟩ := and_e hn
  obtain ⟨c33, hn⟩ := and_e hn
  obtain ⟨c34, hn⟩ := and_e hn
  obtain ⟨c35, hn⟩ := and_e hn
  obtain ⟨c36, hn⟩ := and_e hn
  obtain ⟨c37, hn⟩ := and_e hn
  obtain ⟨c38, hn⟩ := and_e hn
  obtain ⟨c39, hn⟩ := and_e hn
  obtain ⟨c40, hn⟩ := and_e hn
  obtain ⟨c41, hn⟩ := and_e hn
  obtain ⟨c42, hn⟩ := and_e hn
  obtain ⟨c43, hn⟩ := and_e hn
  obtain ⟨c44, hn⟩ := and_e hn
  obtain ⟨c45, hn⟩ := and_e hn
  obtain ⟨c46, hn⟩ := and_e hn
  obtain ⟨c47, hn⟩ := and_e hn
  obtain ⟨c48, hn⟩ := and_e hn
  obtain ⟨c49, hn⟩ := and_e hn
  obtain ⟨c50, hn⟩ := and_e hn
  obtain ⟨c51, hn⟩ := and_e hn
  obtain ⟨c52, hn⟩ := and_e hn
  obtain ⟨c53, hn⟩ := and_e hn
  obtain ⟨c54, hn⟩ := and_e hn
  obtain ⟨c55, hn⟩ := and_e hn
  obtain ⟨c56, hn⟩ := and_e hn
  obtain ⟨c57, hn⟩ := and_e hn
  obtain ⟨c58, hn⟩ := and_e hn
  obtain ⟨c59, hn⟩ := and_e hn
  obtain ⟨en0, ee0, SE0, XE0⟩ := own_sta c1 (Or.inr ⟨(hw _ (List.mem_of_getElem? (i := 31) rfl)), (hw _ (List.mem_of_getElem? (i := 32) rfl))⟩)
  obtain ⟨en1, ee1, SE1, XE1⟩ := own_sta c6 (Or.inr ⟨(hw _ (List.mem_of_getElem? (i := 31) rfl)), (hw _ (List.mem_of_getElem? (i := 48) rfl))⟩)
  obtain ⟨en2, ee2, SE2, XE2⟩ := own_sta c8 (Or.inr ⟨(hw _ (List.mem_of_getElem? (i := 31) rfl)), (hw _ (List.mem_of_getElem? (i := 49) rfl))⟩)
  obtain ⟨en3, ee3, SE3, XE3⟩ := own_sta c10 (Or.inr ⟨(hw _ (List.mem_of_getElem? (i := 31) rfl)), (hw _ (List.mem_of_getElem? (i := 50) rfl))⟩)
  obtain ⟨vv, ev, SV, XV⟩ := own_sta c3 (Or.inl (hw _ (List.mem_of_getElem? (i := 51) rfl)))
  obtain ⟨clv, AV⟩ := Arr.start ev c2
  obtain ⟨lv, lv'⟩ := own_len ev AV c4
  have VV : Arv s s.heap vv clv.cls (.object "com/example/recurr/recurr/BillingFrequency") (4 : Int32) [(.ref en0), (.ref en1), (.ref en2), (.ref en3)] .null := Arv.start hfit AV lv lv' (by decide) rfl ⟨own_elr ev AV ee0 c5, own_elr ev AV ee1 c7, own_elr ev AV ee2 c9, own_elr ev AV ee3 c11, trivial⟩
  obtain ⟨sn0, es0, FN0, XS0⟩ := own_nm ee0 c12
  have FC0 := own_fld es0 c13
  obtain ⟨tn0, cl0, et0, FV0, AT0⟩ := own_arr es0 c14
  obtain ⟨l0, l0'⟩ := own_len et0 AT0 c15
  obtain ⟨sn1, es1, FN1, XS1⟩ := own_nm ee1 c16
  have FC1 := own_fld es1 c17
  obtain ⟨tn1, cl1, et1, FV1, AT1⟩ := own_arr es1 c18
  obtain ⟨l1, l1'⟩ := own_len et1 AT1 c19
  obtain ⟨sn2, es2, FN2, XS2⟩ := own_nm ee2 c20
  have FC2 := own_fld es2 c21
  obtain ⟨tn2, cl2, et2, FV2, AT2⟩ := own_arr es2 c22
  obtain ⟨l2, l2'⟩ := own_len et2 AT2 c23
  obtain ⟨sn3, es3, FN3, XS3⟩ := own_nm ee3 c24
  have FC3 := own_fld es3 c25
  obtain ⟨tn3, cl3, et3, FV3, AT3⟩ := own_arr es3 c26
  obtain ⟨l3, l3'⟩ := own_len et3 AT3 c27
  have VT0 : Arv s s.heap tn0 cl0.cls .byte (7 : Int32) (own_tab own_n0 7) (.int (0 : Int32)) := Arv.start (vs := [.int 77, .int 111, .int 110, .int 116, .int 104, .int 108, .int 121]) hfit AT0 l0 l0' (by decide) rfl ⟨own_el et0 AT0 c28, own_el et0 AT0 c29, own_el et0 AT0 c30, own_el et0 AT0 c31, own_el et0 AT0 c32, own_el et0 AT0 c33, own_el et0 AT0 c34, trivial⟩
  have VT1 : Arv s s.heap tn1 cl1.cls .byte (9 : Int32) (own_tab own_n1 9) (.int (0 : Int32)) := Arv.start (vs := [.int 81, .int 117, .int 97, .int 114, .int 116, .int 101, .int 114, .int 108, .int 121]) hfit AT1 l1 l1' (by decide) rfl ⟨own_el et1 AT1 c35, own_el et1 AT1 c36, own_el et1 AT1 c37, own_el et1 AT1 c38, own_el et1 AT1 c39, own_el et1 AT1 c40, own_el et1 AT1 c41, own_el et1 AT1 c42, own_el et1 AT1 c43, trivial⟩
  have VT2 : Arv s s.heap tn2 cl2.cls .byte (11 : Int32) (own_tab own_n2 11) (.int (0 : Int32)) := Arv.start (vs := [.int 72, .int 97, .int 108, .int 102, .int 45, .int 89, .int 101, .int 97, .int 114, .int 108, .int 121]) hfit AT2 l2 l2' (by decide) rfl ⟨own_el et2 AT2 c44, own_el et2 AT2 c45, own_el et2 AT2 c46, own_el et2 AT2 c47, own_el et2 AT2 c48, own_el et2 AT2 c49, own_el et2 AT2 c50, own_el et2 AT2 c51, own_el et2 AT2 c52, own_el et2 AT2 c53, own_el et2 AT2 c54, trivial⟩
  have VT3 : Arv s s.heap tn3 cl3.cls .byte (6 : Int32) (own_tab own_n3 6) (.int (0 : Int32)) := Arv.start (vs := [.int 89, .int 101, .int 97, .int 114, .int 108, .int 121]) hfit AT3 l3 l3' (by decide) rfl ⟨own_el et3 AT3 c55, own_el et3 AT3 c56, own_el et3 AT3 c57, own_el et3 AT3 c58, own_el et3 AT3 c59, own_el et3 AT3 hn, trivial⟩
  obtain ⟨n, o, h1, h2, h3, _, L, rfl, ⟨rfl, N⟩, hq⟩ := rm0 l s _ hw tables_1 i0 vv clv.cls en0 en1 en2 en3 sn0 tn0 cl0.cls sn1 tn1 cl1.cls sn2 tn2 cl2.cls sn3 tn3 cl3.cls cs s.heap s.heap.size (Old.start s) SV VV XV FN0 XS0 FC0 FV0 VT0 FN1 XS1 FC1 FV1 VT1 FN2 XS2 FC2 FV2 VT2 FN3 XS3 FC3 FV3 VT3 SC hcs SE0 SE1 SE2 SE3 p e ha hc hk s m _ below hf ((Spec.applies_iff_loose hf).mp happ).1 ⟨rfl, State.Warmed39.refl s, rfl⟩ trivial
  refine ⟨n, _, h1, h2, h3, hpost _ _ _ _ _ _ ⟨Cond.after_iff.mpr rfl, Cond.after_iff.mpr (eq_i res_at (Term.int_eval (1)) rfl), trivial⟩ ⟨hq.1, hq.2.1, (hq.2.2.sift fun y hy => Or.inr (N y hy)).mono (by decide) (by decide)⟩⟩
theorem main_1_1 : Claimed_1_1 := comes_1 fun _ _ _ _ _ _ h hF => ⟨h.1, hF⟩
theorem main_1_2 : Claimed_1_2 := comes_1 fun _ _ _ _ _ _ h hF => ⟨h.2.1, hF⟩
end Jvm.Pilot.@@N@@
namespace Jvm.Pilot.@@N@@
open Jvm Jvm.ClassFile Sem Op Lib Jvm.Free Jvm.Stand Jvm.Pilot.@@N@@.Jvm.D
/-! MADE BY PROGRAM (witnessworld.py) out of the Statement's table words and the real class files: 22 classes; the members and pool entries that the words name. The judged class is class 1, her method 1. -/
namespace start1
open Jvm.ClassFile
def u (s : String) : CpInfo := .utf8 (stringToUtf16 s)
/-- a pool by its gaps: so many unusable entries, then the entry; so many at the end -/
def gap : Nat → List CpInfo → List CpInfo
  | 0, r => r
  | n + 1, r => .unusable :: gap n r
def poolList (es : List (Nat × CpInfo)) (last : Nat) : List CpInfo := es.foldr (fun e r => gap e.1 (e.2 :: r)) (gap last [])
def pool (es : List (Nat × CpInfo)) (last : Nat) : Array CpInfo := ⟨poolList es last⟩
def fileOf (pool : Array CpInfo) (this : Nat) (attrs : Array Attribute := #[]) (ms : Array MethodInfo := #[]) (fl : Nat := 33) (sup : Nat := 0) (ifs : Array Nat := #[]) (fds : Array FieldInfo := #[]) : ClassFile where
  minorVersion := 0
  majorVersion := 65
  constantPool := pool
  accessFlags := fl
  thisClass := this
  superClass := sup
  interfaces := ifs
  fields := fds
  methods := ms
  attributes := attrs
def plain (name : String) (sup : Option ClassId) : Class where
  name := name
  kind := .ordinary
  loader := none
  accessFlags := 33
  super := sup
  interfaces := #[]
  cf := none
  fields := #[]
  methods := #[]
  instanceTypes := #[]
  staticTypes := #[]
  resolved := #[]
  callSites := []
  init := .initialized
  statics := none
  mirror := none

def pool0 : Array CpInfo := pool [(5, u "<init>"), (0, u "()V"), (1, .class_ 10), (1, u "java/lang/Object"), (85, u "clone"), (0, u "()Ljava/lang/Object;")] 26

def k0c0 : Code := { maxStack := 0, maxLocals := 1, code := object_method_1_code, exceptionTable := #[], attributes := #[] }
def k0m0 : Method := { name := "<init>", desc := "()V", sig := { parameters := [], returnType := none }, accessFlags := 1, code := some k0c0 }
def k0m1 : Method := { name := "clone", desc := "()Ljava/lang/Object;", sig := { parameters := [], returnType := some (.object "java/lang/Object") }, accessFlags := 260, code := none }
/-- java/lang/Object -/
def k0 : Class := { plain "java/lang/Object" none with
  accessFlags := 33
  interfaces := #[]
  cf := some (fileOf pool0 8 #[] #[{ accessFlags := 1, nameIndex := 5, descriptorIndex := 6, attributes := #[] }, { accessFlags := 260, nameIndex := 96, descriptorIndex := 97, attributes := #[] }] 33 0 #[] #[])
  fields := #[]
  methods := #[k0m0, k0m1]
  instanceTypes := #[]
  staticTypes := #[]
  resolved := Array.replicate 124 none
  statics := none }

def pool1 : Array CpInfo := pool [(2, .class_ 4), (1, u "java/lang/Object"), (0, u "<init>"), (0, u "()V"), (0, .class_ 8), (0, u "java/lang/String"), (0, .methodref 7 10), (0, .nameAndType 5 11), (0, u "([C)V"), (0, .fieldref 13 14), (0, .class_ 15), (0, .nameAndType 16 17), (0, u "com/example/recurr/recurr/BillingFrequency"), (0, u "MONTHLY"), (0, u "Lcom/example/recurr/recurr/BillingFrequency;"), (0, .fieldref 13 19), (0, .nameAndType 20 17), (0, u "QUARTERLY"), (0, .fieldref 13 22), (0, .nameAndType 23 17), (0, u "HALF_YEARLY"), (0, .fieldref 13 25), (0, .nameAndType 26 17), (0, u "YEARLY"), (0, .methodref 13 28), (0, .nameAndType 29 30), (0, u "parse"), (0, u "(Ljava/lang/String;)Lcom/example/recurr/recurr/BillingFrequency;"), (0, .class_ 32), (0, u "com/example/recurr/recurr/BillingFrequencyParsePinLaw"), (2, u "law"), (0, u "(I)Z")] 3

def k1m0 : Method := { name := "<init>", desc := "()V", sig := { parameters := [], returnType := none }, accessFlags := 2, code := none }
def k1c1 : Code := { maxStack := 6, maxLocals := 5, code := code, exceptionTable := #[], attributes := #[] }
def k1m1 : Method := { name := "law", desc := "(I)Z", sig := { parameters := [.int], returnType := some .boolean }, accessFlags := 9, code := some k1c1 }
/-- com/example/recurr/recurr/BillingFrequencyParsePinLaw -/
def k1 : Class := { plain "com/example/recurr/recurr/BillingFrequencyParsePinLaw" (some 0) with
  accessFlags := 49
  interfaces := #[]
  cf := some (fileOf pool1 31 #[] #[{ accessFlags := 2, nameIndex := 5, descriptorIndex := 6, attributes := #[] }, { accessFlags := 9, nameIndex := 35, descriptorIndex := 36, attributes := #[] }] 49 2 #[] #[])
  fields := #[]
  methods := #[k1m0, k1m1]
  instanceTypes := #[]
  staticTypes := #[]
  resolved := Array.replicate 40 none
  statics := none }

def pool2 : Array CpInfo := pool [(1, .class_ 2), (0, u "java/io/Serializable"), (0, .class_ 4), (0, u "java/lang/Object")] 2

/-- java/io/Serializable -/
def k2 : Class := { plain "java/io/Serializable" (some 0) with
  accessFlags := 1537
  interfaces := #[]
  cf := some (fileOf pool2 1 #[] #[] 1537 3 #[] #[])
  fields := #[]
  methods := #[]
  instanceTypes := #[]
  staticTypes := #[]
  resolved := Array.replicate 7 none
  statics := none }

def pool3 : Array CpInfo := pool [(1, .class_ 2), (0, u "java/lang/Comparable"), (0, .class_ 4), (0, u "java/lang/Object")] 7

/-- java/lang/Comparable -/
def k3 : Class := { plain "java/lang/Comparable" (some 0) with
  accessFlags := 1537
  interfaces := #[]
  cf := some (fileOf pool3 1 #[] #[] 1537 3 #[] #[])
  fields := #[]
  methods := #[]
  instanceTypes := #[]
  staticTypes := #[]
  resolved := Array.replicate 12 none
  statics := none }

def pool4 : Array CpInfo := pool [(2, .class_ 4), (1, u "java/lang/CharSequence"), (42, .class_ 48), (0, u "java/lang/CharSequence$1CodePointIterator"), (10, .class_ 60), (0, u "java/lang/CharSequence$1CharIterator"), (5, .class_ 67), (0, u "java/lang/Object")] 63

/-- java/lang/CharSequence -/
def k4 : Class := { plain "java/lang/CharSequence" (some 0) with
  accessFlags := 1537
  interfaces := #[]
  cf := some (fileOf pool4 2 #[.nestMembers #[47, 59]] #[] 1537 66 #[] #[])
  fields := #[]
  methods := #[]
  instanceTypes := #[]
  staticTypes := #[]
  resolved := Array.replicate 131 none
  statics := none }

def pool5 : Array CpInfo := pool [(1, .class_ 2), (0, u "java/lang/constant/Constable"), (0, .class_ 4), (0, u "java/lang/Object")] 6

/-- java/lang/constant/Constable -/
def k5 : Class := { plain "java/lang/constant/Constable" (some 0) with
  accessFlags := 1537
  interfaces := #[]
  cf := some (fileOf pool5 1 #[] #[] 1537 3 #[] #[])
  fields := #[]
  methods := #[]
  instanceTypes := #[]
  staticTypes := #[]
  resolved := Array.replicate 11 none
  statics := none }

def pool6 : Array CpInfo := pool [(1, .class_ 2), (0, u "java/lang/constant/ConstantDesc"), (0, .class_ 4), (0, u "java/lang/Object")] 32

/-- java/lang/constant/ConstantDesc -/
def k6 : Class := { plain "java/lang/constant/ConstantDesc" (some 0) with
  accessFlags := 1537
  interfaces := #[]
  cf := some (fileOf pool6 1 #[] #[] 1537 3 #[] #[])
  fields := #[]
  methods := #[]
  instanceTypes := #[]
  staticTypes := #[]
  resolved := Array.replicate 37 none
  statics := none }

def pool7 : Array CpInfo := pool [(1, .methodref 2 3), (0, .class_ 4), (0, .nameAndType 5 6), (0, u "java/lang/Object"), (0, u "<init>"), (0, u "()V"), (2, .fieldref 10 11), (0, .class_ 12), (0, .nameAndType 13 14), (0, u "java/lang/String"), (0, u "value"), (0, u "[B"), (0, .fieldref 10 16), (0, .nameAndType 17 18), (0, u "coder"), (0, u "B"), (2, u "hash"), (0, u "I"), (2, u "hashIsZero"), (0, u "Z"), (0, .methodref 10 28), (0, .nameAndType 5 29), (0, u "([CIILjava/lang/Void;)V"), (8, .fieldref 10 39), (0, .nameAndType 40 26), (0, u "COMPACT_STRINGS"), (1, .class_ 44), (1, u "java/lang/StringUTF16"), (0, u "compress"), (1, .methodref 42 48), (0, .nameAndType 49 50), (0, u "coderFromArrayLen"), (0, u "([BI)B"), (56, .class_ 109), (1, u "java/lang/StringLatin1"), (67, .methodref 42 178), (0, .nameAndType 45 179), (0, u "([CII)[B"), (361, .methodref 107 542), (0, .nameAndType 543 544), (0, u "equals"), (0, u "([B[B)Z"), (28, u "(Ljava/lang/Object;)Z"), (1, .class_ 576), (0, u "java/lang/CharSequence"), (22, u "CASE_INSENSITIVE_ORDER"), (0, u "Ljava/util/Comparator;"), (409, u "([C)V"), (90, u "serialPersistentFields"), (0, u "[Ljava/io/ObjectStreamField;"), (0, .class_ 1104), (0, u "java/lang/String$CaseInsensitiveComparator"), (1, .class_ 1107), (0, u "java/io/Serializable"), (0, .class_ 1109), (0, u "java/lang/Comparable"), (0, .class_ 1111), (0, u "java/lang/constant/Constable"), (0, .class_ 1113), (0, u "java/lang/constant/ConstantDesc"), (2, u "serialVersionUID"), (0, u "J"), (3, u "REPL"), (0, u "C"), (2, u "LATIN1"), (1, u "UTF16")] 323

def k7m0 : Method := { name := "<init>", desc := "()V", sig := { parameters := [], returnType := none }, accessFlags := 1, code := none }
def k7c1 : Code := { maxStack := 5, maxLocals := 2, code := jdk_42_method_3_code, exceptionTable := #[], attributes := #[] }
def k7m1 : Method := { name := "<init>", desc := "([C)V", sig := { parameters := [(.array .char)], returnType := none }, accessFlags := 1, code := some k7c1 }
def k7c2 : Code := { maxStack := 2, maxLocals := 3, code := jdk_42_method_66_code, exceptionTable := #[], attributes := #[] }
def k7m2 : Method := { name := "equals", desc := "(Ljava/lang/Object;)Z", sig := { parameters := [(.object "java/lang/Object")], returnType := some .boolean }, accessFlags := 1, code := some k7c2 }
def k7c3 : Code := { maxStack := 4, maxLocals := 6, code := jdk_42_method_149_code, exceptionTable := #[], attributes := #[] }
def k7m3 : Method := { name := "<init>", desc := "([CIILjava/lang/Void;)V", sig := { parameters := [(.array .char), .int, .int, (.object "java/lang/Void")], returnType := none }, accessFlags := 2, code := some k7c3 }
/-- java/lang/String -/
def k7 : Class := { plain "java/lang/String" (some 0) with
  accessFlags := 49
  interfaces := #[2, 3, 4, 5, 6]
  cf := some (fileOf pool7 10 #[.nestMembers #[1103]] #[{ accessFlags := 1, nameIndex := 5, descriptorIndex := 6, attributes := #[] }, { accessFlags := 1, nameIndex := 5, descriptorIndex := 1010, attributes := #[] }, { accessFlags := 1, nameIndex := 543, descriptorIndex := 573, attributes := #[] }, { accessFlags := 2, nameIndex := 5, descriptorIndex := 29, attributes := #[] }] 49 2 #[1106, 1108, 575, 1110, 1112] #[{ accessFlags := 18, nameIndex := 13, descriptorIndex := 14, attributes := #[] }, { accessFlags := 18, nameIndex := 17, descriptorIndex := 18, attributes := #[] }, { accessFlags := 2, nameIndex := 21, descriptorIndex := 22, attributes := #[] }, { accessFlags := 2, nameIndex := 25, descriptorIndex := 26, attributes := #[] }, { accessFlags := 26, nameIndex := 1116, descriptorIndex := 1117, attributes := #[] }, { accessFlags := 24, nameIndex := 40, descriptorIndex := 26, attributes := #[] }, { accessFlags := 26, nameIndex := 1101, descriptorIndex := 1102, attributes := #[] }, { accessFlags := 26, nameIndex := 1121, descriptorIndex := 1122, attributes := #[] }, { accessFlags := 25, nameIndex := 599, descriptorIndex := 600, attributes := #[] }, { accessFlags := 24, nameIndex := 1125, descriptorIndex := 18, attributes := #[] }, { accessFlags := 24, nameIndex := 1127, descriptorIndex := 18, attributes := #[] }])
  fields := #[{ name := "value", type := (.array .byte), accessFlags := 18, slot := 0, constantValue := 0 }, { name := "coder", type := .byte, accessFlags := 18, slot := 1, constantValue := 0 }, { name := "hash", type := .int, accessFlags := 2, slot := 2, constantValue := 0 }, { name := "hashIsZero", type := .boolean, accessFlags := 2, slot := 3, constantValue := 0 }, { name := "serialVersionUID", type := .long, accessFlags := 26, slot := 0, constantValue := 0 }, { name := "COMPACT_STRINGS", type := .boolean, accessFlags := 24, slot := 1, constantValue := 0 }, { name := "serialPersistentFields", type := (.array (.object "java/io/ObjectStreamField")), accessFlags := 26, slot := 2, constantValue := 0 }, { name := "REPL", type := .char, accessFlags := 26, slot := 3, constantValue := 0 }, { name := "CASE_INSENSITIVE_ORDER", type := (.object "java/util/Comparator"), accessFlags := 25, slot := 4, constantValue := 0 }, { name := "LATIN1", type := .byte, accessFlags := 24, slot := 5, constantValue := 0 }, { name := "UTF16", type := .byte, accessFlags := 24, slot := 6, constantValue := 0 }]
  methods := #[k7m0, k7m1, k7m2, k7m3]
  instanceTypes := #[(.array .byte), .byte, .int, .boolean]
  staticTypes := #[.long, .boolean, (.array (.object "java/io/ObjectStreamField")), .char, (.object "java/util/Comparator"), .byte, .byte]
  resolved := Array.replicate 1451 none
  statics := some 0 }

def pool8 : Array CpInfo := pool [(6, .class_ 8), (1, u "java/lang/Object"), (0, u "<init>"), (0, u "()V"), (1, .class_ 14), (1, u "java/lang/StringUTF16"), (31, u "$assertionsDisabled"), (0, u "Z"), (13, u "HI_BYTE_SHIFT"), (0, u "I"), (2, u "LO_BYTE_SHIFT"), (49, .methodref 12 116), (0, .nameAndType 117 118), (0, u "compress"), (0, u "([CI[BII)I"), (3, u "([CII)[B"), (138, u "coderFromArrayLen"), (0, u "([BI)B"), (106, .class_ 371), (1, u "java/lang/StringUTF16$LinesSpliterator"), (58, u "MAX_LENGTH"), (196, .class_ 628), (0, u "java/lang/StringUTF16$CodePointsSpliterator"), (0, .class_ 630), (0, u "java/lang/StringUTF16$CharsSpliterator")] 4

def k8m0 : Method := { name := "<init>", desc := "()V", sig := { parameters := [], returnType := none }, accessFlags := 0, code := none }
def k8c1 : Code := { maxStack := 2, maxLocals := 2, code := jdk_52_method_15_code, exceptionTable := #[], attributes := #[] }
def k8m1 : Method := { name := "coderFromArrayLen", desc := "([BI)B", sig := { parameters := [(.array .byte), .int], returnType := some .byte }, accessFlags := 8, code := some k8c1 }
def k8c2 : Code := { maxStack := 5, maxLocals := 6, code := jdk_52_method_16_code, exceptionTable := #[], attributes := #[] }
def k8m2 : Method := { name := "compress", desc := "([CII)[B", sig := { parameters := [(.array .char), .int, .int], returnType := some (.array .byte) }, accessFlags := 9, code := some k8c2 }
def k8c3 : Code := { maxStack := 3, maxLocals := 7, code := jdk_52_method_21_code, exceptionTable := #[], attributes := #[] }
def k8m3 : Method := { name := "compress", desc := "([CI[BII)I", sig := { parameters := [(.array .char), .int, (.array .byte), .int, .int], returnType := some .int }, accessFlags := 9, code := some k8c3 }
/-- java/lang/StringUTF16 -/
def k8 : Class := { plain "java/lang/StringUTF16" (some 0) with
  accessFlags := 48
  interfaces := #[]
  cf := some (fileOf pool8 12 #[.nestMembers #[627, 629, 369]] #[{ accessFlags := 0, nameIndex := 9, descriptorIndex := 10, attributes := #[] }, { accessFlags := 8, nameIndex := 261, descriptorIndex := 262, attributes := #[] }, { accessFlags := 9, nameIndex := 117, descriptorIndex := 122, attributes := #[] }, { accessFlags := 9, nameIndex := 117, descriptorIndex := 118, attributes := #[] }] 48 6 #[] #[{ accessFlags := 26, nameIndex := 61, descriptorIndex := 62, attributes := #[] }, { accessFlags := 26, nameIndex := 65, descriptorIndex := 62, attributes := #[] }, { accessFlags := 24, nameIndex := 430, descriptorIndex := 62, attributes := #[] }, { accessFlags := 4120, nameIndex := 46, descriptorIndex := 47, attributes := #[] }])
  fields := #[{ name := "HI_BYTE_SHIFT", type := .int, accessFlags := 26, slot := 0, constantValue := 0 }, { name := "LO_BYTE_SHIFT", type := .int, accessFlags := 26, slot := 1, constantValue := 0 }, { name := "MAX_LENGTH", type := .int, accessFlags := 24, slot := 2, constantValue := 0 }, { name := "$assertionsDisabled", type := .boolean, accessFlags := 4120, slot := 3, constantValue := 0 }]
  methods := #[k8m0, k8m1, k8m2, k8m3]
  instanceTypes := #[]
  staticTypes := #[.int, .int, .int, .boolean]
  resolved := Array.replicate 635 none
  statics := none }

def pool9 : Array CpInfo := pool [(2, .class_ 4), (1, u "java/lang/Enum"), (0, u "name"), (0, u "Ljava/lang/String;"), (2, u "ordinal"), (0, u "I"), (1, .class_ 14), (1, u "java/lang/Object"), (4, u "hash"), (86, .class_ 108), (1, u "java/lang/Enum$EnumDesc"), (2, .class_ 112), (0, u "java/lang/constant/Constable"), (0, .class_ 114), (0, u "java/lang/Comparable"), (0, .class_ 116), (0, u "java/io/Serializable")] 87

/-- java/lang/Enum -/
def k9 : Class := { plain "java/lang/Enum" (some 0) with
  accessFlags := 1057
  interfaces := #[5, 3, 2]
  cf := some (fileOf pool9 2 #[.nestMembers #[106]] #[] 1057 12 #[111, 113, 115] #[{ accessFlags := 18, nameIndex := 5, descriptorIndex := 6, attributes := #[] }, { accessFlags := 18, nameIndex := 9, descriptorIndex := 10, attributes := #[] }, { accessFlags := 2, nameIndex := 19, descriptorIndex := 10, attributes := #[] }])
  fields := #[{ name := "name", type := (.object "java/lang/String"), accessFlags := 18, slot := 0, constantValue := 0 }, { name := "ordinal", type := .int, accessFlags := 18, slot := 1, constantValue := 0 }, { name := "hash", type := .int, accessFlags := 2, slot := 2, constantValue := 0 }]
  methods := #[]
  instanceTypes := #[(.object "java/lang/String"), .int, .int]
  staticTypes := #[]
  resolved := Array.replicate 204 none
  statics := none }

def pool10 : Array CpInfo := pool [(1, .class_ 2), (0, u "com/example/recurr/recurr/BillingFrequency"), (2, u "MONTHLY"), (0, u "Lcom/example/recurr/recurr/BillingFrequency;"), (2, u "QUARTERLY"), (2, u "HALF_YEARLY"), (2, u "YEARLY"), (0, .fieldref 1 17), (0, .nameAndType 18 19), (0, u "$VALUES"), (0, u "[Lcom/example/recurr/recurr/BillingFrequency;"), (0, .methodref 21 22), (0, .class_ 19), (0, .nameAndType 23 24), (0, u "clone"), (0, u "()Ljava/lang/Object;"), (1, .class_ 28), (1, u "java/lang/Enum"), (6, .fieldref 1 36), (0, .nameAndType 37 38), (0, u "name"), (0, u "Ljava/lang/String;"), (2, u "months"), (0, u "I"), (0, .methodref 1 44), (0, .nameAndType 45 46), (0, u "values"), (0, u "()[Lcom/example/recurr/recurr/BillingFrequency;"), (0, .methodref 48 49), (0, .class_ 50), (0, .nameAndType 51 52), (0, u "java/lang/String"), (0, u "equals"), (0, u "(Ljava/lang/Object;)Z"), (55, u "NAMES"), (5, u "(Ljava/lang/String;)Lcom/example/recurr/recurr/BillingFrequency;"), (2, u "parse")] 26

def k10c0 : Code := { maxStack := 1, maxLocals := 0, code := prog_4_method_1_code, exceptionTable := #[], attributes := #[] }
def k10m0 : Method := { name := "values", desc := "()[Lcom/example/recurr/recurr/BillingFrequency;", sig := { parameters := [], returnType := some (.array (.object "com/example/recurr/recurr/BillingFrequency")) }, accessFlags := 9, code := some k10c0 }
def k10c1 : Code := { maxStack := 3, maxLocals := 5, code := prog_4_method_4_code, exceptionTable := #[], attributes := #[] }
def k10m1 : Method := { name := "parse", desc := "(Ljava/lang/String;)Lcom/example/recurr/recurr/BillingFrequency;", sig := { parameters := [(.object "java/lang/String")], returnType := some (.object "com/example/recurr/recurr/BillingFrequency") }, accessFlags := 9, code := some k10c1 }
/-- com/example/recurr/recurr/BillingFrequency -/
def k10 : Class := { plain "com/example/recurr/recurr/BillingFrequency" (some 9) with
  accessFlags := 16433
  interfaces := #[]
  cf := some (fileOf pool10 1 #[] #[{ accessFlags := 9, nameIndex := 45, descriptorIndex := 46, attributes := #[] }, { accessFlags := 9, nameIndex := 117, descriptorIndex := 114, attributes := #[] }] 16433 26 #[] #[{ accessFlags := 16409, nameIndex := 5, descriptorIndex := 6, attributes := #[] }, { accessFlags := 16409, nameIndex := 9, descriptorIndex := 6, attributes := #[] }, { accessFlags := 16409, nameIndex := 12, descriptorIndex := 6, attributes := #[] }, { accessFlags := 16409, nameIndex := 15, descriptorIndex := 6, attributes := #[] }, { accessFlags := 24, nameIndex := 108, descriptorIndex := 38, attributes := #[] }, { accessFlags := 18, nameIndex := 37, descriptorIndex := 38, attributes := #[] }, { accessFlags := 18, nameIndex := 41, descriptorIndex := 42, attributes := #[] }, { accessFlags := 4122, nameIndex := 18, descriptorIndex := 19, attributes := #[] }])
  fields := #[{ name := "MONTHLY", type := (.object "com/example/recurr/recurr/BillingFrequency"), accessFlags := 16409, slot := 0, constantValue := 0 }, { name := "QUARTERLY", type := (.object "com/example/recurr/recurr/BillingFrequency"), accessFlags := 16409, slot := 1, constantValue := 0 }, { name := "HALF_YEARLY", type := (.object "com/example/recurr/recurr/BillingFrequency"), accessFlags := 16409, slot := 2, constantValue := 0 }, { name := "YEARLY", type := (.object "com/example/recurr/recurr/BillingFrequency"), accessFlags := 16409, slot := 3, constantValue := 0 }, { name := "NAMES", type := (.object "java/lang/String"), accessFlags := 24, slot := 4, constantValue := 0 }, { name := "name", type := (.object "java/lang/String"), accessFlags := 18, slot := 3, constantValue := 0 }, { name := "months", type := .int, accessFlags := 18, slot := 4, constantValue := 0 }, { name := "$VALUES", type := (.array (.object "com/example/recurr/recurr/BillingFrequency")), accessFlags := 4122, slot := 5, constantValue := 0 }]
  methods := #[k10m0, k10m1]
  instanceTypes := #[(.object "java/lang/String"), .int, .int, (.object "java/lang/String"), .int]
  staticTypes := #[(.object "com/example/recurr/recurr/BillingFrequency"), (.object "com/example/recurr/recurr/BillingFrequency"), (.object "com/example/recurr/recurr/BillingFrequency"), (.object "com/example/recurr/recurr/BillingFrequency"), (.object "java/lang/String"), (.array (.object "com/example/recurr/recurr/BillingFrequency"))]
  resolved := Array.replicate 144 none
  statics := some 1 }

def pool11 : Array CpInfo := pool [(1, .class_ 2), (0, u "java/lang/Cloneable"), (0, .class_ 4), (0, u "java/lang/Object")] 2

/-- java/lang/Cloneable -/
def k11 : Class := { plain "java/lang/Cloneable" (some 0) with
  accessFlags := 1537
  interfaces := #[]
  cf := some (fileOf pool11 1 #[] #[] 1537 3 #[] #[])
  fields := #[]
  methods := #[]
  instanceTypes := #[]
  staticTypes := #[]
  resolved := Array.replicate 7 none
  statics := none }

def pool12 : Array CpInfo := pool [(4, .class_ 6), (1, u "java/lang/Object"), (0, u "<init>"), (0, u "()V"), (5, .class_ 16), (1, u "java/lang/StringLatin1"), (104, u "$assertionsDisabled"), (0, u "Z"), (98, .class_ 223), (1, u "java/lang/StringLatin1$LinesSpliterator"), (57, u "equals"), (0, u "([B[B)Z"), (107, .class_ 391), (0, u "java/lang/StringLatin1$CharsSpliterator")] 3

def k12m0 : Method := { name := "<init>", desc := "()V", sig := { parameters := [], returnType := none }, accessFlags := 0, code := none }
def k12c1 : Code := { maxStack := 3, maxLocals := 3, code := jdk_43_method_13_code, exceptionTable := #[], attributes := #[] }
def k12m1 : Method := { name := "equals", desc := "([B[B)Z", sig := { parameters := [(.array .byte), (.array .byte)], returnType := some .boolean }, accessFlags := 9, code := some k12c1 }
/-- java/lang/StringLatin1 -/
def k12 : Class := { plain "java/lang/StringLatin1" (some 0) with
  accessFlags := 48
  interfaces := #[]
  cf := some (fileOf pool12 14 #[.nestMembers #[390, 221]] #[{ accessFlags := 0, nameIndex := 7, descriptorIndex := 8, attributes := #[] }, { accessFlags := 9, nameIndex := 281, descriptorIndex := 282, attributes := #[] }] 48 4 #[] #[{ accessFlags := 4120, nameIndex := 121, descriptorIndex := 122, attributes := #[] }])
  fields := #[{ name := "$assertionsDisabled", type := .boolean, accessFlags := 4120, slot := 0, constantValue := 0 }]
  methods := #[k12m0, k12m1]
  instanceTypes := #[]
  staticTypes := #[.boolean]
  resolved := Array.replicate 395 none
  statics := none }

def pool13 : Array CpInfo := pool [(2, .class_ 4), (1, u "java/lang/Object"), (0, u "<init>"), (0, u "()V"), (17, .class_ 26), (1, u "jdk/internal/util/Preconditions"), (28, .class_ 56), (0, u "jdk/internal/util/Preconditions$4"), (57, .class_ 115), (0, u "jdk/internal/util/Preconditions$1"), (7, u "SIOOBE_FORMATTER"), (0, u "Ljava/util/function/BiFunction;"), (0, .class_ 126), (0, u "jdk/internal/util/Preconditions$2"), (3, u "AIOOBE_FORMATTER"), (0, .class_ 132), (0, u "jdk/internal/util/Preconditions$3"), (3, u "IOOBE_FORMATTER")] 57

def k13m0 : Method := { name := "<init>", desc := "()V", sig := { parameters := [], returnType := none }, accessFlags := 1, code := none }
/-- jdk/internal/util/Preconditions -/
def k13 : Class := { plain "jdk/internal/util/Preconditions" (some 0) with
  accessFlags := 33
  interfaces := #[]
  cf := some (fileOf pool13 24 #[.nestMembers #[55, 131, 125, 114]] #[{ accessFlags := 1, nameIndex := 5, descriptorIndex := 6, attributes := #[] }] 33 2 #[] #[{ accessFlags := 25, nameIndex := 123, descriptorIndex := 124, attributes := #[] }, { accessFlags := 25, nameIndex := 130, descriptorIndex := 124, attributes := #[] }, { accessFlags := 25, nameIndex := 136, descriptorIndex := 124, attributes := #[] }])
  fields := #[{ name := "SIOOBE_FORMATTER", type := (.object "java/util/function/BiFunction"), accessFlags := 25, slot := 0, constantValue := 0 }, { name := "AIOOBE_FORMATTER", type := (.object "java/util/function/BiFunction"), accessFlags := 25, slot := 1, constantValue := 0 }, { name := "IOOBE_FORMATTER", type := (.object "java/util/function/BiFunction"), accessFlags := 25, slot := 2, constantValue := 0 }]
  methods := #[k13m0]
  instanceTypes := #[]
  staticTypes := #[(.object "java/util/function/BiFunction"), (.object "java/util/function/BiFunction"), (.object "java/util/function/BiFunction")]
  resolved := Array.replicate 194 none
  statics := some 2 }

def pool14 : Array CpInfo := pool [(9, u "<init>"), (6, .class_ 18), (1, u "java/lang/Object"), (0, u "()V"), (1, .class_ 23), (1, u "jdk/internal/util/ArraysSupport"), (0, u "LOG2_ARRAY_LONG_INDEX_SCALE"), (0, u "I"), (2, u "U"), (0, u "Ljdk/internal/misc/Unsafe;"), (8, u "BIG_ENDIAN"), (0, u "Z"), (8, u "LOG2_BYTE_BIT_SIZE"), (4, u "LOG2_ARRAY_INT_INDEX_SCALE"), (54, u "JLA"), (0, u "Ljdk/internal/access/JavaLangAccess;"), (11, u "LOG2_ARRAY_BOOLEAN_INDEX_SCALE"), (9, u "LOG2_ARRAY_BYTE_INDEX_SCALE"), (5, u "LOG2_ARRAY_CHAR_INDEX_SCALE"), (5, u "LOG2_ARRAY_SHORT_INDEX_SCALE"), (18, u "LOG2_ARRAY_FLOAT_INDEX_SCALE"), (24, u "LOG2_ARRAY_DOUBLE_INDEX_SCALE"), (89, u "T_BOOLEAN"), (2, u "T_CHAR"), (1, u "T_FLOAT"), (1, u "T_DOUBLE"), (1, u "T_BYTE"), (1, u "T_SHORT"), (1, u "T_INT"), (1, u "T_LONG"), (1, u "SOFT_MAX_ARRAY_LENGTH")] 83

def k14m0 : Method := { name := "<init>", desc := "()V", sig := { parameters := [], returnType := none }, accessFlags := 2, code := none }
/-- jdk/internal/util/ArraysSupport -/
def k14 : Class := { plain "jdk/internal/util/ArraysSupport" (some 0) with
  accessFlags := 33
  interfaces := #[]
  cf := some (fileOf pool14 21 #[] #[{ accessFlags := 2, nameIndex := 9, descriptorIndex := 19, attributes := #[] }] 33 16 #[] #[{ accessFlags := 24, nameIndex := 28, descriptorIndex := 29, attributes := #[] }, { accessFlags := 26, nameIndex := 38, descriptorIndex := 39, attributes := #[] }, { accessFlags := 25, nameIndex := 121, descriptorIndex := 25, attributes := #[] }, { accessFlags := 25, nameIndex := 131, descriptorIndex := 25, attributes := #[] }, { accessFlags := 25, nameIndex := 137, descriptorIndex := 25, attributes := #[] }, { accessFlags := 25, nameIndex := 143, descriptorIndex := 25, attributes := #[] }, { accessFlags := 25, nameIndex := 53, descriptorIndex := 25, attributes := #[] }, { accessFlags := 25, nameIndex := 24, descriptorIndex := 25, attributes := #[] }, { accessFlags := 25, nameIndex := 162, descriptorIndex := 25, attributes := #[] }, { accessFlags := 25, nameIndex := 187, descriptorIndex := 25, attributes := #[] }, { accessFlags := 26, nameIndex := 48, descriptorIndex := 25, attributes := #[] }, { accessFlags := 25, nameIndex := 277, descriptorIndex := 25, attributes := #[] }, { accessFlags := 25, nameIndex := 280, descriptorIndex := 25, attributes := #[] }, { accessFlags := 25, nameIndex := 282, descriptorIndex := 25, attributes := #[] }, { accessFlags := 25, nameIndex := 284, descriptorIndex := 25, attributes := #[] }, { accessFlags := 25, nameIndex := 286, descriptorIndex := 25, attributes := #[] }, { accessFlags := 25, nameIndex := 288, descriptorIndex := 25, attributes := #[] }, { accessFlags := 25, nameIndex := 290, descriptorIndex := 25, attributes := #[] }, { accessFlags := 25, nameIndex := 292, descriptorIndex := 25, attributes := #[] }, { accessFlags := 26, nameIndex := 108, descriptorIndex := 109, attributes := #[] }, { accessFlags := 25, nameIndex := 294, descriptorIndex := 25, attributes := #[] }])
  fields := #[{ name := "U", type := (.object "jdk/internal/misc/Unsafe"), accessFlags := 24, slot := 0, constantValue := 0 }, { name := "BIG_ENDIAN", type := .boolean, accessFlags := 26, slot := 1, constantValue := 0 }, { name := "LOG2_ARRAY_BOOLEAN_INDEX_SCALE", type := .int, accessFlags := 25, slot := 2, constantValue := 0 }, { name := "LOG2_ARRAY_BYTE_INDEX_SCALE", type := .int, accessFlags := 25, slot := 3, constantValue := 0 }, { name := "LOG2_ARRAY_CHAR_INDEX_SCALE", type := .int, accessFlags := 25, slot := 4, constantValue := 0 }, { name := "LOG2_ARRAY_SHORT_INDEX_SCALE", type := .int, accessFlags := 25, slot := 5, constantValue := 0 }, { name := "LOG2_ARRAY_INT_INDEX_SCALE", type := .int, accessFlags := 25, slot := 6, constantValue := 0 }, { name := "LOG2_ARRAY_LONG_INDEX_SCALE", type := .int, accessFlags := 25, slot := 7, constantValue := 0 }, { name := "LOG2_ARRAY_FLOAT_INDEX_SCALE", type := .int, accessFlags := 25, slot := 8, constantValue := 0 }, { name := "LOG2_ARRAY_DOUBLE_INDEX_SCALE", type := .int, accessFlags := 25, slot := 9, constantValue := 0 }, { name := "LOG2_BYTE_BIT_SIZE", type := .int, accessFlags := 26, slot := 10, constantValue := 0 }, { name := "T_BOOLEAN", type := .int, accessFlags := 25, slot := 11, constantValue := 0 }, { name := "T_CHAR", type := .int, accessFlags := 25, slot := 12, constantValue := 0 }, { name := "T_FLOAT", type := .int, accessFlags := 25, slot := 13, constantValue := 0 }, { name := "T_DOUBLE", type := .int, accessFlags := 25, slot := 14, constantValue := 0 }, { name := "T_BYTE", type := .int, accessFlags := 25, slot := 15, constantValue := 0 }, { name := "T_SHORT", type := .int, accessFlags := 25, slot := 16, constantValue := 0 }, { name := "T_INT", type := .int, accessFlags := 25, slot := 17, constantValue := 0 }, { name := "T_LONG", type := .int, accessFlags := 25, slot := 18, constantValue := 0 }, { name := "JLA", type := (.object "jdk/internal/access/JavaLangAccess"), accessFlags := 26, slot := 19, constantValue := 0 }, { name := "SOFT_MAX_ARRAY_LENGTH", type := .int, accessFlags := 25, slot := 20, constantValue := 0 }]
  methods := #[k14m0]
  instanceTypes := #[]
  staticTypes := #[(.object "jdk/internal/misc/Unsafe"), .boolean, .int, .int, .int, .int, .int, .int, .int, .int, .int, .int, .int, .int, .int, .int, .int, .int, .int, (.object "jdk/internal/access/JavaLangAccess"), .int]
  resolved := Array.replicate 378 none
  statics := none }

/-- the primitive byte -/
def k15 : Class := { plain "byte" none with kind := .primitive 'B', accessFlags := 0x411 }
/-- [B -/
def k16 : Class := { plain "[B" (some 0) with kind := .array 15 .byte, interfaces := #[11, 2], accessFlags := 1041 }

/-- the primitive char -/
def k17 : Class := { plain "char" none with kind := .primitive 'C', accessFlags := 0x411 }
/-- [C -/
def k18 : Class := { plain "[C" (some 0) with kind := .array 17 .char, interfaces := #[11, 2], accessFlags := 1041 }

/-- the primitive int -/
def k19 : Class := { plain "int" none with kind := .primitive 'I', accessFlags := 0x411 }
/-- [I -/
def k20 : Class := { plain "[I" (some 0) with kind := .array 19 .int, interfaces := #[11, 2], accessFlags := 1041 }

/-- [Lcom/example/recurr/recurr/BillingFrequency; -/
def k21 : Class := { plain "[Lcom/example/recurr/recurr/BillingFrequency;" (some 0) with kind := .array 10 (.object "com/example/recurr/recurr/BillingFrequency"), interfaces := #[11, 2], accessFlags := 1041 }

def heap : Heap := #[{ cls := 7, slots := #[.long 0, .int 1, .null, .int 0, .null, .int 0, .int 0], vm := .statics 7 },
  { cls := 10, slots := #[.ref 12, .ref 13, .ref 14, .ref 15, .null, .ref 3], vm := .statics 10 },
  { cls := 13, slots := #[.null, .null, .null], vm := .statics 13 },
  { cls := 21, slots := #[.ref 12, .ref 13, .ref 14, .ref 15], vm := .none },
  { cls := 16, slots := #[.int 77, .int 111, .int 110, .int 116, .int 104, .int 108, .int 121], vm := .none },
  { cls := 16, slots := #[.int 81, .int 117, .int 97, .int 114, .int 116, .int 101, .int 114, .int 108, .int 121], vm := .none },
  { cls := 16, slots := #[.int 72, .int 97, .int 108, .int 102, .int 45, .int 89, .int 101, .int 97, .int 114, .int 108, .int 121], vm := .none },
  { cls := 16, slots := #[.int 89, .int 101, .int 97, .int 114, .int 108, .int 121], vm := .none },
  { cls := 7, slots := #[.ref 4, .int 0, .int 0, .int 0], vm := .none },
  { cls := 7, slots := #[.ref 5, .int 0, .int 0, .int 0], vm := .none },
  { cls := 7, slots := #[.ref 6, .int 0, .int 0, .int 0], vm := .none },
  { cls := 7, slots := #[.ref 7, .int 0, .int 0, .int 0], vm := .none },
  { cls := 10, slots := #[.null, .int 0, .int 0, .ref 8, .int 1], vm := .none },
  { cls := 10, slots := #[.null, .int 1, .int 0, .ref 9, .int 3], vm := .none },
  { cls := 10, slots := #[.null, .int 2, .int 0, .ref 10, .int 6], vm := .none },
  { cls := 10, slots := #[.null, .int 3, .int 0, .ref 11, .int 12], vm := .none }]
def classes : Array Class := #[k0, k1, k2, k3, k4, k5, k6, k7, k8, k9, k10, k11, k12, k13, k14, k15, k16, k17, k18, k19, k20, k21]
def interned : List (Array UInt16 × Addr) := []
def slotsUsed : Nat := 89
def theMethod : MethodId := ⟨1, 1⟩
def args0 : Array Value := #[.int 0]
def aboutOver (below : List Frame) : State where
  vm := { classes := classes, interned := interned.toArray }
  heap := heap
  slotsUsed := slotsUsed
  threads := #[{ frames := .invoking theMethod args0 :: below }]
def below0 : List Frame := [.native { method := ⟨0, 0⟩, args := #[] }]
def about1 : State := aboutOver below0
def p0 : Program := .bare "" "" ""
def e0 : Env := launch0.env 0 0 0
theorem w_frames : about1.frames = Frame.invoking theMethod args0 :: below0 := rfl
set_option maxRecDepth 65536 in
theorem w_args : argsFit about1.vm theMethod args0 = true := by decide +kernel
set_option maxRecDepth 65536 in
theorem w_heap : heapFits about1 = true := by decide +kernel
set_option maxRecDepth 65536 in
theorem w_runnable : about1.curStatus? = some .runnable := by decide +kernel
set_option maxRecDepth 65536 in
theorem w_alone : about1.alone = true := by decide +kernel
set_option maxRecDepth 65536 in
theorem w_named : about1.methodNamed? x = some theMethod := by decide +kernel
set_option maxRecDepth 65536 in
theorem w_hears : about1.hears theMethod below0 = true := by decide +kernel
set_option maxRecDepth 65536 in
theorem w_ripe : about1.ripe theMethod args0 below0 = true := by decide +kernel
theorem w_running : about1.status = .running := rfl
set_option maxRecDepth 65536 in
theorem w_room : about1.hasRoom e0.platform room_1 = true :=
  launch0.hasRoom_least _ room_1 (by decide +kernel) (by decide +kernel) (by decide +kernel) (by decide +kernel) (by decide +kernel) (by decide +kernel)
theorem allAtoms_all (ts : List Jvm.Cond) (a : Array Jvm.Value) (st : Jvm.State) : (allAtoms ts).before a st = ts.all (fun c => c.before a st) := by
  induction ts with
  | nil => rfl
  | cons c t ih =>
    show (Jvm.Cond.and c (allAtoms t)).before a st = _
    rw [Jvm.Cond.before_and, ih, List.all_cons]
def words1 : List Jvm.Cond := Jvm.Cond.code x code maxLocals ret :: tables_1
/-- a 'code' word, met by the world's own term for the bytes: nothing is compared byte by byte -/
theorem code_word {y : MethodName} {bytes : ByteArray} {mx : Nat} {rt : Option FieldType} {a : Array Value} {s : State} {m : MethodId} {meth : Method} {c : Code} (h1 : s.methodNamed? y = some m) (h2 : s.vm.method? m = some meth) (h3 : meth.code = some c) (h4 : c.code = bytes)
    (h5 : (c.maxLocals == mx && c.exceptionTable.isEmpty && decide (c.maxStack ≤ mostOperands) && decide (meth.sig.returnType = rt) && !meth.locks && decide (parseMethodDescriptor y.desc = some meth.sig)) = true) : (Jvm.Cond.code y bytes mx rt).before a s = true := by
  simp only [Bool.and_eq_true, beq_iff_eq, Bool.not_eq_true', decide_eq_true_eq] at h5
  obtain ⟨⟨⟨⟨⟨g1, g2⟩, g3⟩, g4⟩, g5⟩, g6⟩ := h5
  simp [Cond.before, Cond.holds, Cond.value, h1, h2, h3, h4, g1, g2, g3, g4, g5, g6]
def isCode : Jvm.Cond → Bool
  | .code _ _ _ _ => true
  | _ => false
theorem all_split {L : List Jvm.Cond} {P : Jvm.Cond → Bool} (h1 : L.all (fun c => isCode c || P c) = true) (h2 : ∀ c ∈ L.filter isCode, P c = true) : L.all P = true := by
  refine List.all_eq_true.mpr fun c hc => ?_
  have h := List.all_eq_true.mp h1 c hc
  rcases Bool.eq_false_or_eq_true (isCode c) with hi | hi
  · exact h2 c (List.mem_filter.mpr ⟨hc, hi⟩)
  · simpa [hi] using h
set_option maxRecDepth 65536 in
theorem w_c0 : (Jvm.Cond.code x code maxLocals ret).before args0 about1 = true := code_word (m := ⟨1, 1⟩) (meth := k1m1) (c := k1c1) (by decide +kernel) rfl rfl rfl (by decide +kernel)
set_option maxRecDepth 65536 in
theorem w_c1 : (Jvm.Cond.code ({ cls := "java/lang/String", name := "<init>", desc := "([C)V" } : Jvm.MethodName) jdk_42_method_3_code (2 : Nat) (Option.none : Option Jvm.ClassFile.FieldType)).before args0 about1 = true := code_word (m := ⟨7, 1⟩) (meth := k7m1) (c := k7c1) (by decide +kernel) rfl rfl rfl (by decide +kernel)
set_option maxRecDepth 65536 in
theorem w_c2 : (Jvm.Cond.code ({ cls := "java/lang/String", name := "<init>", desc := "([CIILjava/lang/Void;)V" } : Jvm.MethodName) jdk_42_method_149_code (6 : Nat) (Option.none : Option Jvm.ClassFile.FieldType)).before args0 about1 = true := code_word (m := ⟨7, 3⟩) (meth := k7m3) (c := k7c3) (by decide +kernel) rfl rfl rfl (by decide +kernel)
set_option maxRecDepth 65536 in
theorem w_c3 : (Jvm.Cond.code ({ cls := "java/lang/Object", name := "<init>", desc := "()V" } : Jvm.MethodName) object_method_1_code (1 : Nat) (Option.none : Option Jvm.ClassFile.FieldType)).before args0 about1 = true := code_word (m := ⟨0, 0⟩) (meth := k0m0) (c := k0c0) (by decide +kernel) rfl rfl rfl (by decide +kernel)
set_option maxRecDepth 65536 in
theorem w_c4 : (Jvm.Cond.code ({ cls := "java/lang/StringUTF16", name := "compress", desc := "([CII)[B" } : Jvm.MethodName) jdk_52_method_16_code (6 : Nat) (Option.some (Jvm.ClassFile.FieldType.array Jvm.ClassFile.FieldType.byte))).before args0 about1 = true := code_word (m := ⟨8, 2⟩) (meth := k8m2) (c := k8c2) (by decide +kernel) rfl rfl rfl (by decide +kernel)
set_option maxRecDepth 65536 in
theorem w_c5 : (Jvm.Cond.code ({ cls := "java/lang/StringUTF16", name := "compress", desc := "([CI[BII)I" } : Jvm.MethodName) jdk_52_method_21_code (7 : Nat) (Option.some Jvm.ClassFile.FieldType.int)).before args0 about1 = true := code_word (m := ⟨8, 3⟩) (meth := k8m3) (c := k8c3) (by decide +kernel) rfl rfl rfl (by decide +kernel)
set_option maxRecDepth 65536 in
theorem w_c6 : (Jvm.Cond.code ({ cls := "java/lang/StringUTF16", name := "coderFromArrayLen", desc := "([BI)B" } : Jvm.MethodName) jdk_52_method_15_code (2 : Nat) (Option.some Jvm.ClassFile.FieldType.byte)).before args0 about1 = true := code_word (m := ⟨8, 1⟩) (meth := k8m1) (c := k8c1) (by decide +kernel) rfl rfl rfl (by decide +kernel)
set_option maxRecDepth 65536 in
theorem w_c7 : (Jvm.Cond.code ({ cls := "com/example/recurr/recurr/BillingFrequency", name := "parse", desc := "(Ljava/lang/String;)Lcom/example/recurr/recurr/BillingFrequency;" } : Jvm.MethodName) prog_4_method_4_code (5 : Nat) (Option.some (Jvm.ClassFile.FieldType.object "com/example/recurr/recurr/BillingFrequency"))).before args0 about1 = true := code_word (m := ⟨10, 1⟩) (meth := k10m1) (c := k10c1) (by decide +kernel) rfl rfl rfl (by decide +kernel)
set_option maxRecDepth 65536 in
theorem w_c8 : (Jvm.Cond.code ({ cls := "com/example/recurr/recurr/BillingFrequency", name := "values", desc := "()[Lcom/example/recurr/recurr/BillingFrequency;" } : Jvm.MethodName) prog_4_method_1_code (0 : Nat) (Option.some (Jvm.ClassFile.FieldType.array (Jvm.ClassFile.FieldType.object "com/example/recurr/recurr/BillingFrequency")))).before args0 about1 = true := code_word (m := ⟨10, 0⟩) (meth := k10m0) (c := k10c0) (by decide +kernel) rfl rfl rfl (by decide +kernel)
set_option maxRecDepth 65536 in
theorem w_c9 : (Jvm.Cond.code ({ cls := "java/lang/String", name := "equals", desc := "(Ljava/lang/Object;)Z" } : Jvm.MethodName) jdk_42_method_66_code (3 : Nat) (Option.some Jvm.ClassFile.FieldType.boolean)).before args0 about1 = true := code_word (m := ⟨7, 2⟩) (meth := k7m2) (c := k7c2) (by decide +kernel) rfl rfl rfl (by decide +kernel)
set_option maxRecDepth 65536 in
theorem w_c10 : (Jvm.Cond.code ({ cls := "java/lang/StringLatin1", name := "equals", desc := "([B[B)Z" } : Jvm.MethodName) jdk_43_method_13_code (3 : Nat) (Option.some Jvm.ClassFile.FieldType.boolean)).before args0 about1 = true := code_word (m := ⟨12, 1⟩) (meth := k12m1) (c := k12c1) (by decide +kernel) rfl rfl rfl (by decide +kernel)
def codes1 : List Jvm.Cond := [Jvm.Cond.code x code maxLocals ret, Jvm.Cond.code ({ cls := "java/lang/String", name := "<init>", desc := "([C)V" } : Jvm.MethodName) jdk_42_method_3_code (2 : Nat) (Option.none : Option Jvm.ClassFile.FieldType), Jvm.Cond.code ({ cls := "java/lang/String", name := "<init>", desc := "([CIILjava/lang/Void;)V" } : Jvm.MethodName) jdk_42_method_149_code (6 : Nat) (Option.none : Option Jvm.ClassFile.FieldType), Jvm.Cond.code ({ cls := "java/lang/Object", name := "<init>", desc := "()V" } : Jvm.MethodName) object_method_1_code (1 : Nat) (Option.none : Option Jvm.ClassFile.FieldType), Jvm.Cond.code ({ cls := "java/lang/StringUTF16", name := "compress", desc := "([CII)[B" } : Jvm.MethodName) jdk_52_method_16_code (6 : Nat) (Option.some (Jvm.ClassFile.FieldType.array Jvm.ClassFile.FieldType.byte)), Jvm.Cond.code ({ cls := "java/lang/StringUTF16", name := "compress", desc := "([CI[BII)I" } : Jvm.MethodName) jdk_52_method_21_code (7 : Nat) (Option.some Jvm.ClassFile.FieldType.int), Jvm.Cond.code ({ cls := "java/lang/StringUTF16", name := "coderFromArrayLen", desc := "([BI)B" } : Jvm.MethodName) jdk_52_method_15_code (2 : Nat) (Option.some Jvm.ClassFile.FieldType.byte), Jvm.Cond.code ({ cls := "com/example/recurr/recurr/BillingFrequency", name := "parse", desc := "(Ljava/lang/String;)Lcom/example/recurr/recurr/BillingFrequency;" } : Jvm.MethodName) prog_4_method_4_code (5 : Nat) (Option.some (Jvm.ClassFile.FieldType.object "com/example/recurr/recurr/BillingFrequency")), Jvm.Cond.code ({ cls := "com/example/recurr/recurr/BillingFrequency", name := "values", desc := "()[Lcom/example/recurr/recurr/BillingFrequency;" } : Jvm.MethodName) prog_4_method_1_code (0 : Nat) (Option.some (Jvm.ClassFile.FieldType.array (Jvm.ClassFile.FieldType.object "com/example/recurr/recurr/BillingFrequency"))), Jvm.Cond.code ({ cls := "java/lang/String", name := "equals", desc := "(Ljava/lang/Object;)Z" } : Jvm.MethodName) jdk_42_method_66_code (3 : Nat) (Option.some Jvm.ClassFile.FieldType.boolean), Jvm.Cond.code ({ cls := "java/lang/StringLatin1", name := "equals", desc := "([B[B)Z" } : Jvm.MethodName) jdk_43_method_13_code (3 : Nat) (Option.some Jvm.ClassFile.FieldType.boolean)]
set_option maxRecDepth 65536 in
theorem codes_eq : words1.filter isCode = codes1 := rfl
theorem w_codes : ∀ c ∈ words1.filter isCode, c.before args0 about1 = true := by
  rw [codes_eq]
  intro c hc
  simp only [codes1, List.mem_cons, List.not_mem_nil, or_false] at hc
  rcases hc with rfl | rfl | rfl | rfl | rfl | rfl | rfl | rfl | rfl | rfl | rfl
  · exact w_c0
  · exact w_c1
  · exact w_c2
  · exact w_c3
  · exact w_c4
  · exact w_c5
  · exact w_c6
  · exact w_c7
  · exact w_c8
  · exact w_c9
  · exact w_c10
set_option maxRecDepth 65536 in
theorem w_t1 : (words1.take 24).all (fun c => isCode c || c.before args0 about1) = true := by decide +kernel
set_option maxRecDepth 65536 in
theorem w_t2 : ((words1.drop 24).take 24).all (fun c => isCode c || c.before args0 about1) = true := by decide +kernel
set_option maxRecDepth 65536 in
theorem w_t3 : ((words1.drop 24).drop 24).all (fun c => isCode c || c.before args0 about1) = true := by decide +kernel
theorem w_tables : (allAtoms (Jvm.Cond.code x code maxLocals ret :: tables_1)).before args0 about1 = true := by
  rw [allAtoms_all]
  show words1.all (fun c => c.before args0 about1) = true
  refine all_split ?_ w_codes
  rw [← List.take_append_drop 24 words1, List.all_append, w_t1, ← List.take_append_drop 24 (words1.drop 24), List.all_append, w_t2, w_t3]
  rfl
set_option maxRecDepth 65536 in
theorem w_rest : rest_1_c.before args0 about1 = true := by decide +kernel
set_option maxRecDepth 65536 in
theorem w_case : (Jvm.Cond.and given_1 narrow_1).before args0 about1 = true := by decide +kernel
theorem w_applies : (headSpec (Jvm.Cond.code x code maxLocals ret :: tables_1) room_1).applies x e0.platform about1 = true :=
  (Spec.applies_iff w_frames).mpr ⟨w_running, w_runnable, w_alone, w_named, w_hears, w_ripe, w_room, w_tables⟩
theorem atStart : AtStart classFile x code maxLocals ret World_1 tables_1 room_1 Calls_1 rest_1 Pre_1 launch0 p0 e0 about1 theMethod args0 below0 :=
  ⟨lists_1, trivial, launch0.admits_env _ _ _, launch0.least_env, fairChoices_fair.cas, fairChoices_fair.clock, w_frames, w_args, w_heap, w_applies, trivial, w_rest, w_case⟩
end start1
theorem witness_1 : WitnessClaimed_1 := ⟨start1.p0, start1.e0, start1.about1, start1.theMethod, start1.args0, start1.below0, start1.atStart⟩
end Jvm.Pilot.@@N@@
