import JvmDerived
import JvmDerived.Pilot.@@N@@Statement
import JvmDerived.Pilot.@@N@@Code
set_option linter.unusedVariables false
set_option linter.unusedSimpArgs false

namespace Jvm.Pilot.@@N@@
open Jvm Jvm.ClassFile Sem Op Lib Jvm.Free Jvm.Stand Jvm.LawKit Jvm.RoadKit Bundle Jvm.Pilot.@@N@@.Jvm.D
section OwnKit
def Run (tb : Tables) (e : Env) (below : List Frame) (W : Outcome → State → Prop) (T : State) (g : JFrame) : Prop := ∃ s₂ o, Steps tb e below (T.setTop g) s₂ ∧ s₂.status = .running ∧ Ended s₂ below o ∧ W o s₂
abbrev Wd (s : State) (Q : Option Value → Heap → List Loc → Prop) (k n : Nat) : Outcome → State → Prop := fun o U => ∃ v L, o = .returned v ∧ Q v U.heap L ∧ FrameEnd s o U L k n
theorem run_fwd {tb : Tables} {e : Env} {below : List Frame} {W : Outcome → State → Prop} {T T' : State} {g g' : JFrame} (st : ∀ t, Steps tb e below (T'.setTop g') t → Steps tb e below (T.setTop g) t) (h : Run tb e below W T' g') : Run tb e below W T g := by
  obtain ⟨t, o, h1, h2⟩ := h
  exact ⟨t, o, st t h1, h2⟩
variable {p : Program} {l : Launch} {e : Env} {R : Room} {s : State} {m : MethodId} {args : Array Value} {below : List Frame} {meth : Method} {c : Code} {T : State} {locs : List Loc} {cells slots : Nat}
theorem run_ret (X : Stand p l e R s m args below meth c T locs cells slots) (hx : p.tables.exec = Jvm.exec) {pc : Nat} {Ls : Array Slot} {w : Value} {t : FieldType} {i : Instr} {rest : List Value} {Q : Option Value → Heap → List Loc → Prop} {k n : Nat} (hret : meth.sig.returnType = some t) (hlk : meth.locks = false) (hn : narrow t w = w)
    (hi : (i = .ireturn ∧ (t = .int ∨ t = .boolean ∨ t = .byte ∨ t = .char ∨ t = .short) ∧ ∃ z, w = .int z) ∨ (i = .lreturn ∧ t = .long ∧ ∃ z, w = .long z) ∨ (i = .dreturn ∧ t = .double ∧ ∃ z, w = .double z) ∨ (i = .freturn ∧ t = .float ∧ ∃ z, w = .float z) ∨ (i = .areturn ∧ t.isReference = true ∧ w.isRef = true))
    (hd : decode c.code pc = .ok (i, 1)) (hQ : Q (some w) T.heap locs) (hk : cells ≤ k) (hs : slots ≤ n) : Run p.tables e below (Wd s Q k n) T (mkF m pc Ls (w :: rest)) := by
  obtain ⟨fs, hr, hrun, hended, hW, hsame⟩ := X.leave (v := some w) (fun h => by rw [hret] at h; cases h) hlk
  exact ⟨_, _, retOut X hx hret hn hi hd hr, hrun, hended, _, _, rfl, hQ, ⟨_, rfl⟩, hW, hsame.mono hk hs⟩
theorem run_retN (X : Stand p l e R s m args below meth c T locs cells slots) (hx : p.tables.exec = Jvm.exec) {pc : Nat} {Ls : Array Slot} {z : Int32} {t : FieldType} {rest : List Value} {Q : Option Value → Heap → List Loc → Prop} {k n : Nat} (hret : meth.sig.returnType = some t) (hlk : meth.locks = false) (ht : t = .boolean ∨ t = .byte ∨ t = .char ∨ t = .short)
    (hd : decode c.code pc = .ok (.ireturn, 1)) (hQ : Q (some (.int (nar t z))) T.heap locs) (hk : cells ≤ k) (hs : slots ≤ n) : Run p.tables e below (Wd s Q k n) T (mkF m pc Ls (.int z :: rest)) := by
  obtain ⟨fs, hr, hrun, hended, hW, hsame⟩ := X.leave (v := some (.int (nar t z))) (fun h => by rw [hret] at h; cases h) hlk
  exact ⟨_, _, retN X hx hret ht hd hr, hrun, hended, _, _, rfl, hQ, ⟨_, rfl⟩, hW, hsame.mono hk hs⟩
theorem run_ret0 (X : Stand p l e R s m args below meth c T locs cells slots) (hx : p.tables.exec = Jvm.exec) {pc : Nat} {Ls : Array Slot} {Q : Option Value → Heap → List Loc → Prop} {k n : Nat} (hret : meth.sig.returnType = none) (hlk : meth.locks = false)
    (hd : decode c.code pc = .ok (.return_, 1)) (hQ : Q none T.heap locs) (hk : cells ≤ k) (hs : slots ≤ n) : Run p.tables e below (Wd s Q k n) T (mkF m pc Ls []) := by
  obtain ⟨fs, hr, hrun, hended, hW, hsame⟩ := X.leave (v := none) (fun _ => rfl) hlk
  exact ⟨_, _, X.returnOut hx hret hd hr, hrun, hended, _, _, rfl, hQ, ⟨_, rfl⟩, hW, hsame.mono hk hs⟩
abbrev WdW (s : State) (Q : Option Value → Heap → List Loc → Prop) (k n : Nat) : Outcome → State → Prop := fun o U => ∃ v L, o = .returned v ∧ Q v U.heap L ∧ ReturnedEndW s o U L k n
theorem run_retW {vm1 : Vm} {n1 : Nat} (X : Stand p l e R (s.setVm vm1) m args below meth c T locs cells slots) (hx : p.tables.exec = Jvm.exec) (hS : s.Since vm1 n1) (hn1 : n1 ≤ T.heap.size) {pc : Nat} {Ls : Array Slot} {w : Value} {t : FieldType} {i : Instr} {rest : List Value} {Q : Option Value → Heap → List Loc → Prop} {k n : Nat} (hret : meth.sig.returnType = some t) (hlk : meth.locks = false) (hn : narrow t w = w)
    (hi : (i = .ireturn ∧ (t = .int ∨ t = .boolean ∨ t = .byte ∨ t = .char ∨ t = .short) ∧ ∃ z, w = .int z) ∨ (i = .lreturn ∧ t = .long ∧ ∃ z, w = .long z) ∨ (i = .dreturn ∧ t = .double ∧ ∃ z, w = .double z) ∨ (i = .freturn ∧ t = .float ∧ ∃ z, w = .float z) ∨ (i = .areturn ∧ t.isReference = true ∧ w.isRef = true))
    (hd : decode c.code pc = .ok (i, 1)) (hQ : Q (some w) T.heap locs) (hk : cells ≤ k) (hs : slots ≤ n) : Run p.tables e below (WdW s Q k n) T (mkF m pc Ls (w :: rest)) := by
  obtain ⟨fs, hr, hrun, hended, hE⟩ := X.leaveW hS hn1 (v := some w) (fun h => by rw [hret] at h; cases h) hlk
  exact ⟨_, _, retOut X hx hret hn hi hd hr, hrun, hended, _, _, rfl, hQ, hE.1, hE.2.1, hE.2.2.1, hE.2.2.2.mono hk hs⟩
theorem own_le {Z : State} {n0 : Nat} {h : Heap} (O : Old Z n0 h) : n0 ≤ h.size := O.1 ▸ O.2.1
end OwnKit
def own_pick (a : Int64) (p : Int32) : Int64 := if (p &&& (7 : Int32)) = (0 : Int32) then (1 : Int64) else if (p &&& (7 : Int32)) = (1 : Int32) then (999999999999999 : Int64) else if (p &&& (7 : Int32)) = (2 : Int32) then ((1 : Int64) + (a &&& (7 : Int64))) else if (p &&& (7 : Int32)) = (3 : Int32) then ((999999999999999 : Int64) - (a &&& (7 : Int64))) else ((1 : Int64) + ((a &&& (9223372036854775807 : Int64)) - ((a &&& (9223372036854775807 : Int64)) / (999999999999999 : Int64)) * (999999999999999 : Int64)))
def own_cmp (x y : Int64) : Int32 := if x < y then (-1 : Int32) else if x = y then (0 : Int32) else (1 : Int32)
def own_sign (x : Int64) : Int32 := if x < (0 : Int64) then (-1 : Int32) else if (0 : Int64) < x then (1 : Int32) else (0 : Int32)
def own_same (x y : Int64) : Int32 := if x = y then (1 : Int32) else (0 : Int32)
theorem own_rng (a : Int64) (p : Int32) : ¬ own_pick a p < (1 : Int64) ∧ ¬ (999999999999999 : Int64) < own_pick a p := by
  have h7 := c_maskL a 7 3 (by decide) (by decide)
  have hm := c_maskL a (9223372036854775807 : Int64) 63 (by decide) (by decide)
  have hr := (c_lrem (a &&& (9223372036854775807 : Int64)) (999999999999999 : Int64) 999999999999999 (by decide)).1 (by rw [hm]; omega)
  have e1 : (1 : Int64).toInt = 1 := by decide
  have eB : (999999999999999 : Int64).toInt = 999999999999999 := by decide
  unfold own_pick
  split
  · decide
  · split
    · decide
    · split
      · rw [Int64.lt_iff_toInt_lt, Int64.lt_iff_toInt_lt, Jvm.Free.XT.add64 (by unfold Jvm.Free.XT.fits64; omega), h7, e1, eB]; omega
      · split
        · rw [Int64.lt_iff_toInt_lt, Int64.lt_iff_toInt_lt, Jvm.Free.XT.sub64 (by unfold Jvm.Free.XT.fits64; omega), h7, e1, eB]; omega
        · rw [Int64.lt_iff_toInt_lt, Int64.lt_iff_toInt_lt, Jvm.Free.XT.add64 (by unfold Jvm.Free.XT.fits64; omega), hr, e1, eB]; omega
theorem own_end (v w : Int64) (h1 : v < w) : own_sign ((own_cmp v w).toInt64) = (-1 : Int32) := by rw [own_cmp, if_pos h1]; decide
theorem own_end0 (v w : Int64) (h1 : ¬ v < w) (h2 : w < v) : own_sign ((own_cmp v w).toInt64) = (1 : Int32) := by
  rw [own_cmp, if_neg h1, if_neg (fun q => by subst q; exact h1 h2)]; decide
theorem own_end1 (v w : Int64) (h1 : ¬ v < w) (h2 : ¬ w < v) : own_sign ((own_cmp v w).toInt64) = (0 : Int32) := by
  have q : v = w := by rw [← Int64.toInt_inj]; rw [Int64.lt_iff_toInt_lt] at h1 h2; omega
  rw [own_cmp, if_neg h1, if_pos q]; decide
theorem d1_0 : decode method_2_code 0 = .ok (.iload_n 2, 1) := by decide +kernel
theorem d1_1 : decode method_2_code 1 = .ok (.bipush 7, 2) := by decide +kernel
theorem d1_3 : decode method_2_code 3 = .ok (.iand, 1) := by decide +kernel
theorem d1_4 : decode method_2_code 4 = .ok (.istore_n 3, 1) := by decide +kernel
theorem d1_5 : decode method_2_code 5 = .ok (.iload_n 3, 1) := by decide +kernel
theorem d1_6 : decode method_2_code 6 = .ok (.ifCond .ne 5, 3) := by decide +kernel
theorem d1_9 : decode method_2_code 9 = .ok (.lconst 1, 1) := by decide +kernel
theorem d1_10 : decode method_2_code 10 = .ok (.lreturn, 1) := by decide +kernel
theorem d1_11 : decode method_2_code 11 = .ok (.iload_n 3, 1) := by decide +kernel
theorem d1_12 : decode method_2_code 12 = .ok (.iconst 1, 1) := by decide +kernel
theorem d1_13 : decode method_2_code 13 = .ok (.if_icmp .ne 7, 3) := by decide +kernel
theorem d1_16 : decode method_2_code 16 = .ok (.ldc2_w 7, 3) := by decide +kernel
theorem d1_19 : decode method_2_code 19 = .ok (.lreturn, 1) := by decide +kernel
theorem d1_20 : decode method_2_code 20 = .ok (.iload_n 3, 1) := by decide +kernel
theorem d1_21 : decode method_2_code 21 = .ok (.iconst 2, 1) := by decide +kernel
theorem d1_22 : decode method_2_code 22 = .ok (.if_icmp .ne 11, 3) := by decide +kernel
theorem d1_25 : decode method_2_code 25 = .ok (.lconst 1, 1) := by decide +kernel
theorem d1_26 : decode method_2_code 26 = .ok (.lload_n 0, 1) := by decide +kernel
theorem d1_27 : decode method_2_code 27 = .ok (.ldc2_w 9, 3) := by decide +kernel
theorem d1_30 : decode method_2_code 30 = .ok (.land, 1) := by decide +kernel
theorem d1_31 : decode method_2_code 31 = .ok (.ladd, 1) := by decide +kernel
theorem d1_32 : decode method_2_code 32 = .ok (.lreturn, 1) := by decide +kernel
theorem d1_33 : decode method_2_code 33 = .ok (.iload_n 3, 1) := by decide +kernel
theorem d1_34 : decode method_2_code 34 = .ok (.iconst 3, 1) := by decide +kernel
theorem d1_35 : decode method_2_code 35 = .ok (.if_icmp .ne 13, 3) := by decide +kernel
theorem d1_38 : decode method_2_code 38 = .ok (.ldc2_w 7, 3) := by decide +kernel
theorem d1_41 : decode method_2_code 41 = .ok (.lload_n 0, 1) := by decide +kernel
theorem d1_42 : decode method_2_code 42 = .ok (.ldc2_w 9, 3) := by decide +kernel
theorem d1_45 : decode method_2_code 45 = .ok (.land, 1) := by decide +kernel
theorem d1_46 : decode method_2_code 46 = .ok (.lsub, 1) := by decide +kernel
theorem d1_47 : decode method_2_code 47 = .ok (.lreturn, 1) := by decide +kernel
theorem d1_48 : decode method_2_code 48 = .ok (.lconst 1, 1) := by decide +kernel
theorem d1_49 : decode method_2_code 49 = .ok (.lload_n 0, 1) := by decide +kernel
theorem d1_50 : decode method_2_code 50 = .ok (.ldc2_w 13, 3) := by decide +kernel
theorem d1_53 : decode method_2_code 53 = .ok (.land, 1) := by decide +kernel
theorem d1_54 : decode method_2_code 54 = .ok (.ldc2_w 7, 3) := by decide +kernel
theorem d1_57 : decode method_2_code 57 = .ok (.lrem, 1) := by decide +kernel
theorem d1_58 : decode method_2_code 58 = .ok (.ladd, 1) := by decide +kernel
theorem d1_59 : decode method_2_code 59 = .ok (.lreturn, 1) := by decide +kernel
theorem pn_com_example_horatius_horatius_FenceOfPinLaw : plainName "com/example/horatius/horatius/FenceOfPinLaw" = true := by first | (simp [plainName, overriddenIn]; done) | decide +kernel
theorem ef_rm1 (m : MethodId) (x0 : Int64) (x1 : Int32) : entryFrame m #[(.long x0), (.int x1)] 4 = mkF m 0 #[.val (.long x0), .second, .val (.int x1), .unset] [] := by first | (simp [entryFrame, mkF, argsToLocals, Value.category]; done) | rfl
def Qrm1 (Z : State) (q0 : Int64) (p1 : Int32) (r : Int64) (h0 : Heap) (n0 : Nat) (v : Option Value) (h : Heap) (L : List Loc) : Prop := v = some (.long r) ∧ Fr n0 L ∧ h = h0
set_option maxRecDepth 65536 in
set_option maxHeartbeats 40000000 in
theorem rm1 (l : Launch) (Z : State) (aV : Array Value) (hw : ∀ d ∈ tables_1, d.before aV Z = true) (ws : List Jvm.Cond) (q0 : Int64) (p1 : Int32) (r : Int64) (h0 : Heap) (n0 : Nat) (O0 : Old Z n0 h0) (hr : own_pick q0 p1 = r) :
    MetFree l (⟨"com/example/horatius/horatius/FenceOfPinLaw", "pick", "(JI)J"⟩ : MethodName) (head1 (Jvm.Cond.code (⟨"com/example/horatius/horatius/FenceOfPinLaw", "pick", "(JI)J"⟩ : MethodName) method_2_code 4 (some .long) :: ws) ({ frames := 0, cells := 0, slots := 0, locals := 0 } : Room)) (fun a U => a = #[(.long q0), (.int p1)] ∧ Z.Warmed39 U.vm ∧ U.heap = h0) (fun _ _ _ _ _ => True) (fun _ U o U' => ∃ v L, o = .returned v ∧ Qrm1 Z q0 p1 r h0 n0 v U'.heap L ∧ FrameEnd U o U' L ({ frames := 0, cells := 0, slots := 0, locals := 0 } : Room).cells ({ frames := 0, cells := 0, slots := 0, locals := 0 } : Room).slots) := by
  refine MetFree.of_bodySF (plainFor_of_name pn_com_example_horatius_horatius_FenceOfPinLaw) hisR ?_
  intro p e s m args below meth c s₁ Bd hml0 hP hK
  obtain ⟨rfl, hZ, hh⟩ := hP
  have hx := Bd.exec
  have hby := Bd.bytes
  have hml : c.maxLocals = 4 := hml0
  have hown : s.vm.findClass "com/example/horatius/horatius/FenceOfPinLaw" = some m.cls := findClass_of_methodNamed Bd.named
  have hnm := (name_of_methodNamed Bd.named Bd.method).1
  have X0 : Stand p l e ({ frames := 0, cells := 0, slots := 0, locals := 0 } : Room) s m #[(.long q0), (.int p1)] below meth c s₁ [] 0 0 := Stand.of_body Bd
  have e0 : s₁.heap = h0 := by rw [← hh, Bd.state]; rfl
  have N0 := Fr.nil n0
  show Run p.tables e below (Wd s (Qrm1 Z q0 p1 r h0 n0) ({ frames := 0, cells := 0, slots := 0, locals := 0 } : Room).cells ({ frames := 0, cells := 0, slots := 0, locals := 0 } : Room).slots) s₁ (entryFrame m #[(.long q0), (.int p1)] 4)
  rw [ef_rm1 m q0 p1]
  refine run_fwd (T' := s₁) (g' := (mkF m 1 #[.val (.long q0), .second, .val (.int p1), .unset] [(.int p1)])) (fun _ k => XS.iloadN X0.here hx rfl (hb hby d1_0) rfl k) ?_
  refine run_fwd (T' := s₁) (g' := (mkF m 3 #[.val (.long q0), .second, .val (.int p1), .unset] [(.int (7 : Int32)), (.int p1)])) (fun _ k => XS.bipush X0.here hx rfl (hb hby d1_1) k) ?_
  refine run_fwd (T' := s₁) (g' := (mkF m 4 #[.val (.long q0), .second, .val (.int p1), .unset] [(.int (p1 &&& (7 : Int32)))])) (fun _ k => XS.iand X0.here hx rfl (hb hby d1_3) rfl k) ?_
  refine run_fwd (T' := s₁) (g' := (mkF m 5 #[.val (.long q0), .second, .val (.int p1), .val (.int (p1 &&& (7 : Int32)))] [])) (fun _ k => XS.istoreN X0.here hx rfl (hb hby d1_4) rfl (l' := #[.val (.long q0), .second, .val (.int p1), .val (.int (p1 &&& (7 : Int32)))]) rfl k) ?_
  refine run_fwd (T' := s₁) (g' := (mkF m 6 #[.val (.long q0), .second, .val (.int p1), .val (.int (p1 &&& (7 : Int32)))] [(.int (p1 &&& (7 : Int32)))])) (fun _ k => XS.iloadN X0.here hx rfl (hb hby d1_5) rfl k) ?_
  by_cases hc6_1 : (p1 &&& (7 : Int32)) = (0 : Int32)
  ·
    refine run_fwd (T' := s₁) (g' := (mkF m 9 #[.val (.long q0), .second, .val (.int p1), .val (.int (p1 &&& (7 : Int32)))] [])) (fun _ k => XS.ifNo X0.here hx rfl (hb hby d1_6) rfl ((if0 _ _).trans (teq hc6_1).2) k) ?_
    refine run_fwd (T' := s₁) (g' := (mkF m 10 #[.val (.long q0), .second, .val (.int p1), .val (.int (p1 &&& (7 : Int32)))] [(.long (1 : Int64))])) (fun _ k => XS.lconst X0.here hx rfl (hb hby d1_9) k) ?_
    exact run_ret X0 hx Bd.returns Bd.notSynchronized rfl (Or.inr (Or.inl ⟨rfl, rfl, _, rfl⟩)) (hb hby d1_10) (by rw [e0]; exact ⟨by rw [← hr, own_pick, if_pos hc6_1], N0, rfl⟩) (by decide) (by decide)
  ·
    refine run_fwd (T' := s₁) (g' := (mkF m 11 #[.val (.long q0), .second, .val (.int p1), .val (.int (p1 &&& (7 : Int32)))] [])) (fun _ k => XS.ifYes X0.here hx rfl (pc0 := 6) (pc' := 11) rfl (hb hby d1_6) rfl ((if0 _ _).trans (feq hc6_1).2) (by decide) (by decide) k) ?_
    refine run_fwd (T' := s₁) (g' := (mkF m 12 #[.val (.long q0), .second, .val (.int p1), .val (.int (p1 &&& (7 : Int32)))] [(.int (p1 &&& (7 : Int32)))])) (fun _ k => XS.iloadN X0.here hx rfl (hb hby d1_11) rfl k) ?_
    refine run_fwd (T' := s₁) (g' := (mkF m 13 #[.val (.long q0), .second, .val (.int p1), .val (.int (p1 &&& (7 : Int32)))] [(.int (1 : Int32)), (.int (p1 &&& (7 : Int32)))])) (fun _ k => XS.iconst X0.here hx rfl (hb hby d1_12) k) ?_
    by_cases hc13_2 : (p1 &&& (7 : Int32)) = (1 : Int32)
    ·
      refine run_fwd (T' := s₁) (g' := (mkF m 16 #[.val (.long q0), .second, .val (.int p1), .val (.int (p1 &&& (7 : Int32)))] [])) (fun _ k => XS.icmpNo X0.here hx rfl (hb hby d1_13) rfl (teq hc13_2).2 k) ?_
      refine run_fwd (T' := s₁) (g' := (mkF m 19 #[.val (.long q0), .second, .val (.int p1), .val (.int (p1 &&& (7 : Int32)))] [(.long (999999999999999 : Int64))])) (fun _ k => X0.ldc2Long hx hown (mvT hZ (hw _ (List.mem_of_getElem? (i := 43) rfl))) (g := (mkF m 16 #[.val (.long q0), .second, .val (.int p1), .val (.int (p1 &&& (7 : Int32)))] [])) rfl (hb hby d1_16) _ k) ?_
      exact run_ret X0 hx Bd.returns Bd.notSynchronized rfl (Or.inr (Or.inl ⟨rfl, rfl, _, rfl⟩)) (hb hby d1_19) (by rw [e0]; exact ⟨by rw [← hr, own_pick, if_neg hc6_1, if_pos hc13_2], N0, rfl⟩) (by decide) (by decide)
    ·
      refine run_fwd (T' := s₁) (g' := (mkF m 20 #[.val (.long q0), .second, .val (.int p1), .val (.int (p1 &&& (7 : Int32)))] [])) (fun _ k => XS.icmpYes X0.here hx rfl (pc0 := 13) (pc' := 20) rfl (hb hby d1_13) rfl (feq hc13_2).2 (by decide) (by decide) k) ?_
      refine run_fwd (T' := s₁) (g' := (mkF m 21 #[.val (.long q0), .second, .val (.int p1), .val (.int (p1 &&& (7 : Int32)))] [(.int (p1 &&& (7 : Int32)))])) (fun _ k => XS.iloadN X0.here hx rfl (hb hby d1_20) rfl k) ?_
      refine run_fwd (T' := s₁) (g' := (mkF m 22 #[.val (.long q0), .second, .val (.int p1), .val (.int (p1 &&& (7 : Int32)))] [(.int (2 : Int32)), (.int (p1 &&& (7 : Int32)))])) (fun _ k => XS.iconst X0.here hx rfl (hb hby d1_21) k) ?_
      by_cases hc22_3 : (p1 &&& (7 : Int32)) = (2 : Int32)
      ·
        refine run_fwd (T' := s₁) (g' := (mkF m 25 #[.val (.long q0), .second, .val (.int p1), .val (.int (p1 &&& (7 : Int32)))] [])) (fun _ k => XS.icmpNo X0.here hx rfl (hb hby d1_22) rfl (teq hc22_3).2 k) ?_
        refine run_fwd (T' := s₁) (g' := (mkF m 26 #[.val (.long q0), .second, .val (.int p1), .val (.int (p1 &&& (7 : Int32)))] [(.long (1 : Int64))])) (fun _ k => XS.lconst X0.here hx rfl (hb hby d1_25) k) ?_
        refine run_fwd (T' := s₁) (g' := (mkF m 27 #[.val (.long q0), .second, .val (.int p1), .val (.int (p1 &&& (7 : Int32)))] [(.long q0), (.long (1 : Int64))])) (fun _ k => XS.lloadN X0.here hx rfl (hb hby d1_26) rfl k) ?_
        refine run_fwd (T' := s₁) (g' := (mkF m 30 #[.val (.long q0), .second, .val (.int p1), .val (.int (p1 &&& (7 : Int32)))] [(.long (7 : Int64)), (.long q0), (.long (1 : Int64))])) (fun _ k => X0.ldc2Long hx hown (mvT hZ (hw _ (List.mem_of_getElem? (i := 44) rfl))) (g := (mkF m 27 #[.val (.long q0), .second, .val (.int p1), .val (.int (p1 &&& (7 : Int32)))] [(.long q0), (.long (1 : Int64))])) rfl (hb hby d1_27) _ k) ?_
        refine run_fwd (T' := s₁) (g' := (mkF m 31 #[.val (.long q0), .second, .val (.int p1), .val (.int (p1 &&& (7 : Int32)))] [(.long (q0 &&& (7 : Int64))), (.long (1 : Int64))])) (fun _ k => XS.land X0.here hx rfl (hb hby d1_30) rfl k) ?_
        refine run_fwd (T' := s₁) (g' := (mkF m 32 #[.val (.long q0), .second, .val (.int p1), .val (.int (p1 &&& (7 : Int32)))] [(.long ((1 : Int64) + (q0 &&& (7 : Int64))))])) (fun _ k => XS.ladd X0.here hx rfl (hb hby d1_31) rfl k) ?_
        exact run_ret X0 hx Bd.returns Bd.notSynchronized rfl (Or.inr (Or.inl ⟨rfl, rfl, _, rfl⟩)) (hb hby d1_32) (by rw [e0]; exact ⟨by rw [← hr, own_pick, if_neg hc6_1, if_neg hc13_2, if_pos hc22_3], N0, rfl⟩) (by decide) (by decide)
      ·
        refine run_fwd (T' := s₁) (g' := (mkF m 33 #[.val (.long q0), .second, .val (.int p1), .val (.int (p1 &&& (7 : Int32)))] [])) (fun _ k => XS.icmpYes X0.here hx rfl (pc0 := 22) (pc' := 33) rfl (hb hby d1_22) rfl (feq hc22_3).2 (by decide) (by decide) k) ?_
        refine run_fwd (T' := s₁) (g' := (mkF m 34 #[.val (.long q0), .second, .val (.int p1), .val (.int (p1 &&& (7 : Int32)))] [(.int (p1 &&& (7 : Int32)))])) (fun _ k => XS.iloadN X0.here hx rfl (hb hby d1_33) rfl k) ?_
        refine run_fwd (T' := s₁) (g' := (mkF m 35 #[.val (.long q0), .second, .val (.int p1), .val (.int (p1 &&& (7 : Int32)))] [(.int (3 : Int32)), (.int (p1 &&& (7 : Int32)))])) (fun _ k => XS.iconst X0.here hx rfl (hb hby d1_34) k) ?_
        by_cases hc35_4 : (p1 &&& (7 : Int32)) = (3 : Int32)
        ·
          refine run_fwd (T' := s₁) (g' := (mkF m 38 #[.val (.long q0), .second, .val (.int p1), .val (.int (p1 &&& (7 : Int32)))] [])) (fun _ k => XS.icmpNo X0.here hx rfl (hb hby d1_35) rfl (teq hc35_4).2 k) ?_
          refine run_fwd (T' := s₁) (g' := (mkF m 41 #[.val (.long q0), .second, .val (.int p1), .val (.int (p1 &&& (7 : Int32)))] [(.long (999999999999999 : Int64))])) (fun _ k => X0.ldc2Long hx hown (mvT hZ (hw _ (List.mem_of_getElem? (i := 43) rfl))) (g := (mkF m 38 #[.val (.long q0), .second, .val (.int p1), .val (.int (p1 &&& (7 : Int32)))] [])) rfl (hb hby d1_38) _ k) ?_
          refine run_fwd (T' := s₁) (g' := (mkF m 42 #[.val (.long q0), .second, .val (.int p1), .val (.int (p1 &&& (7 : Int32)))] [(.long q0), (.long (999999999999999 : Int64))])) (fun _ k => XS.lloadN X0.here hx rfl (hb hby d1_41) rfl k) ?_
          refine run_fwd (T' := s₁) (g' := (mkF m 45 #[.val (.long q0), .second, .val (.int p1), .val (.int (p1 &&& (7 : Int32)))] [(.long (7 : Int64)), (.long q0), (.long (999999999999999 : Int64))])) (fun _ k => X0.ldc2Long hx hown (mvT hZ (hw _ (List.mem_of_getElem? (i := 44) rfl))) (g := (mkF m 42 #[.val (.long q0), .second, .val (.int p1), .val (.int (p1 &&& (7 : Int32)))] [(.long q0), (.long (999999999999999 : Int64))])) rfl (hb hby d1_42) _ k) ?_
          refine run_fwd (T' := s₁) (g' := (mkF m 46 #[.val (.long q0), .second, .val (.int p1), .val (.int (p1 &&& (7 : Int32)))] [(.long (q0 &&& (7 : Int64))), (.long (999999999999999 : Int64))])) (fun _ k => XS.land X0.here hx rfl (hb hby d1_45) rfl k) ?_
          refine run_fwd (T' := s₁) (g' := (mkF m 47 #[.val (.long q0), .second, .val (.int p1), .val (.int (p1 &&& (7 : Int32)))] [(.long ((999999999999999 : Int64) - (q0 &&& (7 : Int64))))])) (fun _ k => XS.lsub X0.here hx rfl (hb hby d1_46) rfl k) ?_
          exact run_ret X0 hx Bd.returns Bd.notSynchronized rfl (Or.inr (Or.inl ⟨rfl, rfl, _, rfl⟩)) (hb hby d1_47) (by rw [e0]; exact ⟨by rw [← hr, own_pick, if_neg hc6_1, if_neg hc13_2, if_neg hc22_3, if_pos hc35_4], N0, rfl⟩) (by decide) (by decide)
        ·
          refine run_fwd (T' := s₁) (g' := (mkF m 48 #[.val (.long q0), .second, .val (.int p1), .val (.int (p1 &&& (7 : Int32)))] [])) (fun _ k => XS.icmpYes X0.here hx rfl (pc0 := 35) (pc' := 48) rfl (hb hby d1_35) rfl (feq hc35_4).2 (by decide) (by decide) k) ?_
          refine run_fwd (T' := s₁) (g' := (mkF m 49 #[.val (.long q0), .second, .val (.int p1), .val (.int (p1 &&& (7 : Int32)))] [(.long (1 : Int64))])) (fun _ k => XS.lconst X0.here hx rfl (hb hby d1_48) k) ?_
          refine run_fwd (T' := s₁) (g' := (mkF m 50 #[.val (.long q0), .second, .val (.int p1), .val (.int (p1 &&& (7 : Int32)))] [(.long q0), (.long (1 : Int64))])) (fun _ k => XS.lloadN X0.here hx rfl (hb hby d1_49) rfl k) ?_
          refine run_fwd (T' := s₁) (g' := (mkF m 53 #[.val (.long q0), .second, .val (.int p1), .val (.int (p1 &&& (7 : Int32)))] [(.long (9223372036854775807 : Int64)), (.long q0), (.long (1 : Int64))])) (fun _ k => X0.ldc2Long hx hown (mvT hZ (hw _ (List.mem_of_getElem? (i := 42) rfl))) (g := (mkF m 50 #[.val (.long q0), .second, .val (.int p1), .val (.int (p1 &&& (7 : Int32)))] [(.long q0), (.long (1 : Int64))])) rfl (hb hby d1_50) _ k) ?_
          refine run_fwd (T' := s₁) (g' := (mkF m 54 #[.val (.long q0), .second, .val (.int p1), .val (.int (p1 &&& (7 : Int32)))] [(.long (q0 &&& (9223372036854775807 : Int64))), (.long (1 : Int64))])) (fun _ k => XS.land X0.here hx rfl (hb hby d1_53) rfl k) ?_
          refine run_fwd (T' := s₁) (g' := (mkF m 57 #[.val (.long q0), .second, .val (.int p1), .val (.int (p1 &&& (7 : Int32)))] [(.long (999999999999999 : Int64)), (.long (q0 &&& (9223372036854775807 : Int64))), (.long (1 : Int64))])) (fun _ k => X0.ldc2Long hx hown (mvT hZ (hw _ (List.mem_of_getElem? (i := 43) rfl))) (g := (mkF m 54 #[.val (.long q0), .second, .val (.int p1), .val (.int (p1 &&& (7 : Int32)))] [(.long (q0 &&& (9223372036854775807 : Int64))), (.long (1 : Int64))])) rfl (hb hby d1_54) _ k) ?_
          refine run_fwd (T' := s₁) (g' := (mkF m 58 #[.val (.long q0), .second, .val (.int p1), .val (.int (p1 &&& (7 : Int32)))] [(.long ((q0 &&& (9223372036854775807 : Int64)) - ((q0 &&& (9223372036854775807 : Int64)) / (999999999999999 : Int64)) * (999999999999999 : Int64))), (.long (1 : Int64))])) (fun _ k => XS.lrem X0.here hx rfl (hb hby d1_57) rfl (by decide) k) ?_
          refine run_fwd (T' := s₁) (g' := (mkF m 59 #[.val (.long q0), .second, .val (.int p1), .val (.int (p1 &&& (7 : Int32)))] [(.long ((1 : Int64) + ((q0 &&& (9223372036854775807 : Int64)) - ((q0 &&& (9223372036854775807 : Int64)) / (999999999999999 : Int64)) * (999999999999999 : Int64))))])) (fun _ k => XS.ladd X0.here hx rfl (hb hby d1_58) rfl k) ?_
          exact run_ret X0 hx Bd.returns Bd.notSynchronized rfl (Or.inr (Or.inl ⟨rfl, rfl, _, rfl⟩)) (hb hby d1_59) (by rw [e0]; exact ⟨by rw [← hr, own_pick, if_neg hc6_1, if_neg hc13_2, if_neg hc22_3, if_neg hc35_4], N0, rfl⟩) (by decide) (by decide)
theorem d3_0 : decode prog_7_method_1_code 0 = .ok (.aload_n 0, 1) := by decide +kernel
theorem d3_1 : decode prog_7_method_1_code 1 = .ok (.invokespecial 1, 3) := by decide +kernel
theorem d3_4 : decode prog_7_method_1_code 4 = .ok (.aload_n 0, 1) := by decide +kernel
theorem d3_5 : decode prog_7_method_1_code 5 = .ok (.lload_n 1, 1) := by decide +kernel
theorem d3_6 : decode prog_7_method_1_code 6 = .ok (.putfield 7, 3) := by decide +kernel
theorem d3_9 : decode prog_7_method_1_code 9 = .ok (.return_, 1) := by decide +kernel
theorem pn_com_example_horatius_horatius_Fence : plainName "com/example/horatius/horatius/Fence" = true := by first | (simp [plainName, overriddenIn]; done) | decide +kernel
theorem ef_rm3 (m : MethodId) (x0 : Addr) (x1 : Int64) : entryFrame m #[(.ref x0), (.long x1)] 3 = mkF m 0 #[.val (.ref x0), .val (.long x1), .second] [] := by first | (simp [entryFrame, mkF, argsToLocals, Value.category]; done) | rfl
def Qrm3 (Z : State) (a0 : Addr) (q1 : Int64) (h0 : Heap) (n0 : Nat) (v : Option Value) (h : Heap) (L : List Loc) : Prop := v = none ∧ Fr n0 L ∧ Keep h0 h [a0] ∧ Exa Z h a0 "com/example/horatius/horatius/Fence" ∧ Fld Z h a0 "com/example/horatius/horatius/Fence" "value" "J" (.long q1)
set_option maxRecDepth 65536 in
set_option maxHeartbeats 40000000 in
theorem rm3 (l : Launch) (Z : State) (aV : Array Value) (hw : ∀ d ∈ tables_1, d.before aV Z = true) (ws : List Jvm.Cond) (a0 : Addr) (q1 : Int64) (h0 : Heap) (n0 : Nat) (O0 : Old Z n0 h0) (gi0 : n0 ≤ a0) (Ei1 : Exa Z h0 a0 "com/example/horatius/horatius/Fence") (Fi2 : Fld Z h0 a0 "com/example/horatius/horatius/Fence" "value" "J" (.long (0 : Int64))) :
    MetFree l (⟨"com/example/horatius/horatius/Fence", "<init>", "(J)V"⟩ : MethodName) (head1 (Jvm.Cond.code (⟨"com/example/horatius/horatius/Fence", "<init>", "(J)V"⟩ : MethodName) prog_7_method_1_code 3 none :: ws) ({ frames := 1, cells := 0, slots := 0, locals := 12 } : Room)) (fun a U => a = #[(.ref a0), (.long q1)] ∧ Z.Warmed39 U.vm ∧ U.heap = h0) (fun _ _ _ _ _ => True) (fun _ U o U' => ∃ v L, o = .returned v ∧ Qrm3 Z a0 q1 h0 n0 v U'.heap L ∧ FrameEnd U o U' L ({ frames := 1, cells := 0, slots := 0, locals := 12 } : Room).cells ({ frames := 1, cells := 0, slots := 0, locals := 12 } : Room).slots) := by
  refine MetFree.of_bodySF (plainFor_of_name pn_com_example_horatius_horatius_Fence) hisR ?_
  intro p e s m args below meth c s₁ Bd hml0 hP hK
  obtain ⟨rfl, hZ, hh⟩ := hP
  have hx := Bd.exec
  have hby := Bd.bytes
  have hml : c.maxLocals = 3 := hml0
  have hown : s.vm.findClass "com/example/horatius/horatius/Fence" = some m.cls := findClass_of_methodNamed Bd.named
  have hnm := (name_of_methodNamed Bd.named Bd.method).1
  have X0 : Stand p l e ({ frames := 1, cells := 0, slots := 0, locals := 12 } : Room) s m #[(.ref a0), (.long q1)] below meth c s₁ [] 0 0 := Stand.of_body Bd
  have e0 : s₁.heap = h0 := by rw [← hh, Bd.state]; rfl
  have N0 := Fr.nil n0
  show Run p.tables e below (Wd s (Qrm3 Z a0 q1 h0 n0) ({ frames := 1, cells := 0, slots := 0, locals := 12 } : Room).cells ({ frames := 1, cells := 0, slots := 0, locals := 12 } : Room).slots) s₁ (entryFrame m #[(.ref a0), (.long q1)] 3)
  rw [ef_rm3 m a0 q1]
  refine run_fwd (T' := s₁) (g' := (mkF m 1 #[.val (.ref a0), .val (.long q1), .second] [(.ref a0)])) (fun _ k => XS.aloadN X0.here hx rfl (hb hby d3_0) rfl rfl k) ?_
  obtain ⟨T1, X1, e1, st1⟩ := initO X0 hx hZ hown (hw _ (List.mem_of_getElem? (i := 14) rfl)) (hw _ (List.mem_of_getElem? (i := 15) rfl)) (hw _ (List.mem_of_getElem? (i := 16) rfl)) e0 (g := (mkF m 1 #[.val (.ref a0), .val (.long q1), .second] [(.ref a0)])) rfl (by rw [hml]; rfl) rfl (hb hby d3_1) (by decide) (W := 0) (by show 2 * 0 + _ ≤ _; exact Nat.le_of_eq rfl) (by decide)
  refine run_fwd (T' := T1) (g' := (mkF m 4 #[.val (.ref a0), .val (.long q1), .second] [])) (fun _ k => st1 _ k) ?_
  refine run_fwd (T' := T1) (g' := (mkF m 5 #[.val (.ref a0), .val (.long q1), .second] [(.ref a0)])) (fun _ k => XS.aloadN X1.here hx rfl (hb hby d3_4) rfl rfl k) ?_
  refine run_fwd (T' := T1) (g' := (mkF m 6 #[.val (.ref a0), .val (.long q1), .second] [(.long q1), (.ref a0)])) (fun _ k => XS.lloadN X1.here hx rfl (hb hby d3_5) rfl k) ?_
  obtain ⟨T2, h2, X2, e2, W2, st2⟩ := putF X1 hx hZ hown (host := "") (Or.inl (hw _ (List.mem_of_getElem? (i := 17) rfl))) Via.refl e1 Fi2 Ei1 (Or.inr ⟨(hw _ (List.mem_of_getElem? (i := 18) rfl)), rfl, hnm⟩) (hw _ (List.mem_of_getElem? (i := 10) rfl)) (ty := .long) (by decide) rfl rfl (g := (mkF m 6 #[.val (.ref a0), .val (.long q1), .second] [(.long q1), (.ref a0)])) rfl rfl (hb hby d3_6)
  have O3 : Old Z n0 h2 := O0.wr W2 gi0
  have K4 : Keep h0 h2 [a0] := (Keep.refl h0 [a0]).wr W2 (Or.inl (List.mem_of_getElem? (i := 0) rfl))
  have N2 := Fr.snoc X2 N0 gi0
  have Fw2 : Fld Z h2 a0 "com/example/horatius/horatius/Fence" "value" "J" (.long q1) := Fi2.same W2
  refine run_fwd (T' := T2) (g' := (mkF m 9 #[.val (.ref a0), .val (.long q1), .second] [])) (fun _ k => st2 _ k) ?_
  exact run_ret0 X2 hx Bd.returns Bd.notSynchronized (hb hby d3_9) (by rw [e2]; exact ⟨rfl, N2, K4, (Ei1.wr W2), Fw2⟩) (by decide) (by decide)
theorem d2_0 : decode prog_7_method_2_code 0 = .ok (.lload_n 0, 1) := by decide +kernel
theorem d2_1 : decode prog_7_method_2_code 1 = .ok (.lconst 1, 1) := by decide +kernel
theorem d2_2 : decode prog_7_method_2_code 2 = .ok (.lcmp, 1) := by decide +kernel
theorem d2_3 : decode prog_7_method_2_code 3 = .ok (.ifCond .lt 11, 3) := by decide +kernel
theorem d2_6 : decode prog_7_method_2_code 6 = .ok (.lload_n 0, 1) := by decide +kernel
theorem d2_7 : decode prog_7_method_2_code 7 = .ok (.ldc2_w 13, 3) := by decide +kernel
theorem d2_10 : decode prog_7_method_2_code 10 = .ok (.lcmp, 1) := by decide +kernel
theorem d2_11 : decode prog_7_method_2_code 11 = .ok (.ifCond .le 17, 3) := by decide +kernel
theorem d2_28 : decode prog_7_method_2_code 28 = .ok (.new 8, 3) := by decide +kernel
theorem d2_31 : decode prog_7_method_2_code 31 = .ok (.dup, 1) := by decide +kernel
theorem d2_32 : decode prog_7_method_2_code 32 = .ok (.lload_n 0, 1) := by decide +kernel
theorem d2_33 : decode prog_7_method_2_code 33 = .ok (.invokespecial 24, 3) := by decide +kernel
theorem pd__28J_29V : parseMethodDescriptor "(J)V" = some ⟨[.long], none⟩ := by decide +kernel
theorem d2_36 : decode prog_7_method_2_code 36 = .ok (.areturn, 1) := by decide +kernel
theorem ef_rm2 (m : MethodId) (x0 : Int64) : entryFrame m #[(.long x0)] 2 = mkF m 0 #[.val (.long x0), .second] [] := by first | (simp [entryFrame, mkF, argsToLocals, Value.category]; done) | rfl
def Qrm2 (Z : State) (q0 : Int64) (h0 : Heap) (n0 : Nat) (v : Option Value) (h : Heap) (L : List Loc) : Prop := ∃ (b : Addr), v = some (.ref b) ∧ Fr n0 L ∧ Keep h0 h [] ∧ h0.size ≤ b ∧ Exa Z h b "com/example/horatius/horatius/Fence" ∧ Fld Z h b "com/example/horatius/horatius/Fence" "value" "J" (.long q0)
set_option maxRecDepth 65536 in
set_option maxHeartbeats 40000000 in
theorem rm2 (l : Launch) (Z : State) (aV : Array Value) (hw : ∀ d ∈ tables_1, d.before aV Z = true) (ws : List Jvm.Cond) (q0 : Int64) (h0 : Heap) (n0 : Nat) (O0 : Old Z n0 h0) (h1 : ¬ q0 < (1 : Int64)) (h2 : ¬ (999999999999999 : Int64) < q0) :
    MetFree l (⟨"com/example/horatius/horatius/Fence", "of", "(J)Lcom/example/horatius/horatius/Fence;"⟩ : MethodName) (head1 (Jvm.Cond.code (⟨"com/example/horatius/horatius/Fence", "of", "(J)Lcom/example/horatius/horatius/Fence;"⟩ : MethodName) prog_7_method_2_code 2 (some (.object "com/example/horatius/horatius/Fence")) :: ws) ({ frames := 2, cells := 1, slots := 1, locals := 27 } : Room)) (fun a U => a = #[(.long q0)] ∧ Z.Warmed39 U.vm ∧ U.heap = h0) (fun _ _ _ _ _ => True) (fun _ U o U' => ∃ v L, o = .returned v ∧ Qrm2 Z q0 h0 n0 v U'.heap L ∧ FrameEnd U o U' L ({ frames := 2, cells := 1, slots := 1, locals := 27 } : Room).cells ({ frames := 2, cells := 1, slots := 1, locals := 27 } : Room).slots) := by
  refine MetFree.of_bodySF (plainFor_of_name pn_com_example_horatius_horatius_Fence) hisR ?_
  intro p e s m args below meth c s₁ Bd hml0 hP hK
  obtain ⟨rfl, hZ, hh⟩ := hP
  have hx := Bd.exec
  have hby := Bd.bytes
  have hml : c.maxLocals = 2 := hml0
  have hown : s.vm.findClass "com/example/horatius/horatius/Fence" = some m.cls := findClass_of_methodNamed Bd.named
  have hnm := (name_of_methodNamed Bd.named Bd.method).1
  have X0 : Stand p l e ({ frames := 2, cells := 1, slots := 1, locals := 27 } : Room) s m #[(.long q0)] below meth c s₁ [] 0 0 := Stand.of_body Bd
  have e0 : s₁.heap = h0 := by rw [← hh, Bd.state]; rfl
  have N0 := Fr.nil n0
  show Run p.tables e below (Wd s (Qrm2 Z q0 h0 n0) ({ frames := 2, cells := 1, slots := 1, locals := 27 } : Room).cells ({ frames := 2, cells := 1, slots := 1, locals := 27 } : Room).slots) s₁ (entryFrame m #[(.long q0)] 2)
  rw [ef_rm2 m q0]
  refine run_fwd (T' := s₁) (g' := (mkF m 1 #[.val (.long q0), .second] [(.long q0)])) (fun _ k => XS.lloadN X0.here hx rfl (hb hby d2_0) rfl k) ?_
  refine run_fwd (T' := s₁) (g' := (mkF m 2 #[.val (.long q0), .second] [(.long (1 : Int64)), (.long q0)])) (fun _ k => XS.lconst X0.here hx rfl (hb hby d2_1) k) ?_
  refine run_fwd (T' := s₁) (g' := (mkF m 3 #[.val (.long q0), .second] [(.int (lcmpW q0 (1 : Int64)))])) (fun _ k => XS.lcmp X0.here hx rfl (hb hby d2_2) rfl k) ?_
  have hc3_1 : ¬ (q0 < (1 : Int64)) := h1
  refine run_fwd (T' := s₁) (g' := (mkF m 6 #[.val (.long q0), .second] [])) (fun _ k => XS.ifNo X0.here hx rfl (hb hby d2_3) rfl ((if0 _ _).trans (flt (fun z => hc3_1 ((lw_lt q0 (1 : Int64)).mp z))).1) k) ?_
  refine run_fwd (T' := s₁) (g' := (mkF m 7 #[.val (.long q0), .second] [(.long q0)])) (fun _ k => XS.lloadN X0.here hx rfl (hb hby d2_6) rfl k) ?_
  refine run_fwd (T' := s₁) (g' := (mkF m 10 #[.val (.long q0), .second] [(.long (999999999999999 : Int64)), (.long q0)])) (fun _ k => X0.ldc2Long hx hown (mvT hZ (hw _ (List.mem_of_getElem? (i := 8) rfl))) (g := (mkF m 7 #[.val (.long q0), .second] [(.long q0)])) rfl (hb hby d2_7) _ k) ?_
  refine run_fwd (T' := s₁) (g' := (mkF m 11 #[.val (.long q0), .second] [(.int (lcmpW q0 (999999999999999 : Int64)))])) (fun _ k => XS.lcmp X0.here hx rfl (hb hby d2_10) rfl k) ?_
  have hc11_2 : ¬ ((999999999999999 : Int64) < q0) := h2
  refine run_fwd (T' := s₁) (g' := (mkF m 28 #[.val (.long q0), .second] [])) (fun _ k => XS.ifYes X0.here hx rfl (pc0 := 11) (pc' := 28) rfl (hb hby d2_11) rfl ((if0 _ _).trans (flt (fun z => hc11_2 ((lw_gt q0 (999999999999999 : Int64)).mp z))).2.2.2) (by decide) (by decide) k) ?_
  obtain ⟨T3, h3, X3, e3, E3, A3, D3, U3, st3⟩ := newO X0 hx hZ hown (hw _ (List.mem_of_getElem? (i := 9) rfl)) (hw _ (List.mem_of_getElem? (i := 10) rfl)) (hw _ (List.mem_of_getElem? (i := 6) rfl)) e0 (g := (mkF m 28 #[.val (.long q0), .second] [])) rfl (hb hby d2_28) (by decide) (by decide)
  obtain ⟨b3, g3⟩ : ∃ z, z = h0.size := ⟨_, rfl⟩
  rw [← g3] at A3 D3 U3 st3
  have gg3 : n0 ≤ b3 := Nat.le_trans (own_le O0) (Nat.le_of_eq g3.symm)
  have sz3 : h0.size ≤ b3 := Nat.le_trans (Keep.refl h0 []).1 (Nat.le_of_eq g3.symm)
  have O4 : Old Z n0 h3 := O0.ext E3
  have K5 : Keep h0 h3 [] := (Keep.refl h0 []).ext E3
  have D3_value : Fld Z h3 b3 "com/example/horatius/horatius/Fence" "value" "J" (.long (0 : Int64)) := D3 (Or.inr (hw _ (List.mem_of_getElem? (i := 18) rfl))) (ty := .long) (by decide)
  refine run_fwd (T' := T3) (g' := (mkF m 31 #[.val (.long q0), .second] [(.ref b3)])) (fun _ k => st3 _ k) ?_
  refine run_fwd (T' := T3) (g' := (mkF m 32 #[.val (.long q0), .second] [(.ref b3), (.ref b3)])) (fun _ k => XS.dup X3.here hx rfl (hb hby d2_31) rfl rfl k) ?_
  refine run_fwd (T' := T3) (g' := (mkF m 33 #[.val (.long q0), .second] [(.long q0), (.ref b3), (.ref b3)])) (fun _ k => XS.lloadN X3.here hx rfl (hb hby d2_32) rfl k) ?_
  obtain ⟨_, _, ⟨T6, L6, kk6, nn6⟩, -, X6, ⟨Lc6, hQ6, l6, y6, z6⟩, st6⟩ := X3.specialBack hx (y := (⟨"com/example/horatius/horatius/Fence", "<init>", "(J)V"⟩ : MethodName)) rfl hown (mvT hZ (hw _ (List.mem_of_getElem? (i := 11) rfl))) (mvT hZ (hw _ (List.mem_of_getElem? (i := 12) rfl))) (mvT hZ (hw _ (List.mem_of_getElem? (i := 13) rfl))) (by decide) (backOf (W := 1) (rm3 l Z aV hw [] b3 q0 h3 n0 O4 gg3 A3 D3_value) hZ (hw _ (List.mem_of_getElem? (i := 13) rfl)) (hw _ (List.mem_of_getElem? (i := 6) rfl)) (by decide) (by decide)) (g := (mkF m 33 #[.val (.long q0), .second] [(.long q0), (.ref b3), (.ref b3)])) rfl (by rw [hml]; rfl) (Steps.refl _) (a := b3) (argsL := [(.long q0)]) (rest := [(.ref b3)]) (lenOf pd__28J_29V rfl) rfl (by show 2 * 0 + _ ≤ _; exact Nat.le_of_eq rfl) (hb hby d2_33) (fun _ _ => ⟨rfl, e3, (by decide : 1 + 0 ≤ _), (by decide : 1 + 0 ≤ _)⟩)
  dsimp only [Pt.U, Pt.locs, Pt.cells, Pt.slots] at X6 l6 y6 z6 st6 hQ6
  subst l6 y6 z6
  obtain ⟨rfl, N6q, Q6_0, Q6_1, Q6_2⟩ := hQ6
  have N6 := Fr.app N0 N6q
  obtain ⟨h6, e6⟩ : ∃ z, T6.heap = z := ⟨_, rfl⟩
  rw [e6] at Q6_0 Q6_1 Q6_2
  have O7 : Old Z n0 h6 := O4.keep Q6_0 (allS gg3 all0)
  have K8 : Keep h0 h6 [] := K5.trans Q6_0 (allS (Or.inr sz3) all0)
  refine run_fwd (T' := T6) (g' := (mkF m 36 #[.val (.long q0), .second] [(.ref b3)])) (fun _ k => st6.trans k) ?_
  exact run_ret X6 hx Bd.returns Bd.notSynchronized rfl (Or.inr (Or.inr (Or.inr (Or.inr ⟨rfl, rfl, rfl⟩)))) (hb hby d2_36) (by rw [e6]; exact ⟨b3, rfl, N6, K8, sz3, Q6_1, Q6_2⟩) (by decide) (by decide)
theorem d5_0 : decode prog_7_method_3_code 0 = .ok (.aload_n 0, 1) := by decide +kernel
theorem d5_1 : decode prog_7_method_3_code 1 = .ok (.getfield 7, 3) := by decide +kernel
theorem d5_4 : decode prog_7_method_3_code 4 = .ok (.lreturn, 1) := by decide +kernel
theorem ef_rm5 (m : MethodId) (x0 : Addr) : entryFrame m #[(.ref x0)] 1 = mkF m 0 #[.val (.ref x0)] [] := by first | (simp [entryFrame, mkF, argsToLocals, Value.category]; done) | rfl
def Qrm5 (Z : State) (a0 : Addr) (w : Int64) (h0 : Heap) (n0 : Nat) (v : Option Value) (h : Heap) (L : List Loc) : Prop := v = some (.long w) ∧ Fr n0 L ∧ h = h0
set_option maxRecDepth 65536 in
set_option maxHeartbeats 40000000 in
theorem rm5 (l : Launch) (Z : State) (aV : Array Value) (hw : ∀ d ∈ tables_1, d.before aV Z = true) (ws : List Jvm.Cond) (a0 : Addr) (w : Int64) (h0 : Heap) (n0 : Nat) (O0 : Old Z n0 h0) (Fi0 : Fld Z h0 a0 "com/example/horatius/horatius/Fence" "value" "J" (.long w)) :
    MetFree l (⟨"com/example/horatius/horatius/Fence", "value", "()J"⟩ : MethodName) (head1 (Jvm.Cond.code (⟨"com/example/horatius/horatius/Fence", "value", "()J"⟩ : MethodName) prog_7_method_3_code 1 (some .long) :: ws) ({ frames := 0, cells := 0, slots := 0, locals := 0 } : Room)) (fun a U => a = #[(.ref a0)] ∧ Z.Warmed39 U.vm ∧ U.heap = h0) (fun _ _ _ _ _ => True) (fun _ U o U' => ∃ v L, o = .returned v ∧ Qrm5 Z a0 w h0 n0 v U'.heap L ∧ FrameEnd U o U' L ({ frames := 0, cells := 0, slots := 0, locals := 0 } : Room).cells ({ frames := 0, cells := 0, slots := 0, locals := 0 } : Room).slots) := by
  refine MetFree.of_bodySF (plainFor_of_name pn_com_example_horatius_horatius_Fence) hisR ?_
  intro p e s m args below meth c s₁ Bd hml0 hP hK
  obtain ⟨rfl, hZ, hh⟩ := hP
  have hx := Bd.exec
  have hby := Bd.bytes
  have hml : c.maxLocals = 1 := hml0
  have hown : s.vm.findClass "com/example/horatius/horatius/Fence" = some m.cls := findClass_of_methodNamed Bd.named
  have hnm := (name_of_methodNamed Bd.named Bd.method).1
  have X0 : Stand p l e ({ frames := 0, cells := 0, slots := 0, locals := 0 } : Room) s m #[(.ref a0)] below meth c s₁ [] 0 0 := Stand.of_body Bd
  have e0 : s₁.heap = h0 := by rw [← hh, Bd.state]; rfl
  have N0 := Fr.nil n0
  show Run p.tables e below (Wd s (Qrm5 Z a0 w h0 n0) ({ frames := 0, cells := 0, slots := 0, locals := 0 } : Room).cells ({ frames := 0, cells := 0, slots := 0, locals := 0 } : Room).slots) s₁ (entryFrame m #[(.ref a0)] 1)
  rw [ef_rm5 m a0]
  refine run_fwd (T' := s₁) (g' := (mkF m 1 #[.val (.ref a0)] [(.ref a0)])) (fun _ k => XS.aloadN X0.here hx rfl (hb hby d5_0) rfl rfl k) ?_
  obtain ⟨T1, X1, e1, st1⟩ := getF X0 hx hZ hown (host := "") (Or.inl (hw _ (List.mem_of_getElem? (i := 17) rfl))) Via.refl e0 Fi0 (g := (mkF m 1 #[.val (.ref a0)] [(.ref a0)])) rfl rfl (hb hby d5_1)
  refine run_fwd (T' := T1) (g' := (mkF m 4 #[.val (.ref a0)] [(.long w)])) (fun _ k => st1 _ k) ?_
  exact run_ret X1 hx Bd.returns Bd.notSynchronized rfl (Or.inr (Or.inl ⟨rfl, rfl, _, rfl⟩)) (hb hby d5_4) (by rw [e1]; exact ⟨rfl, N0, rfl⟩) (by decide) (by decide)
theorem d6_0 : decode prog_7_method_5_code 0 = .ok (.aload_n 1, 1) := by decide +kernel
theorem d6_1 : decode prog_7_method_5_code 1 = .ok (.instanceof 8, 3) := by decide +kernel
theorem d6_4 : decode prog_7_method_5_code 4 = .ok (.ifCond .eq 24, 3) := by decide +kernel
theorem d6_7 : decode prog_7_method_5_code 7 = .ok (.aload_n 1, 1) := by decide +kernel
theorem d6_8 : decode prog_7_method_5_code 8 = .ok (.checkcast 8, 3) := by decide +kernel
theorem d6_11 : decode prog_7_method_5_code 11 = .ok (.astore_n 2, 1) := by decide +kernel
theorem d6_12 : decode prog_7_method_5_code 12 = .ok (.aload_n 2, 1) := by decide +kernel
theorem d6_13 : decode prog_7_method_5_code 13 = .ok (.getfield 7, 3) := by decide +kernel
theorem d6_16 : decode prog_7_method_5_code 16 = .ok (.aload_n 0, 1) := by decide +kernel
theorem d6_17 : decode prog_7_method_5_code 17 = .ok (.getfield 7, 3) := by decide +kernel
theorem d6_20 : decode prog_7_method_5_code 20 = .ok (.lcmp, 1) := by decide +kernel
theorem d6_21 : decode prog_7_method_5_code 21 = .ok (.ifCond .ne 7, 3) := by decide +kernel
theorem d6_24 : decode prog_7_method_5_code 24 = .ok (.iconst 1, 1) := by decide +kernel
theorem d6_25 : decode prog_7_method_5_code 25 = .ok (.goto 4, 3) := by decide +kernel
theorem d6_29 : decode prog_7_method_5_code 29 = .ok (.ireturn, 1) := by decide +kernel
theorem d6_28 : decode prog_7_method_5_code 28 = .ok (.iconst 0, 1) := by decide +kernel
theorem ef_rm6 (m : MethodId) (x0 : Addr) (x1 : Addr) : entryFrame m #[(.ref x0), (.ref x1)] 3 = mkF m 0 #[.val (.ref x0), .val (.ref x1), .unset] [] := by first | (simp [entryFrame, mkF, argsToLocals, Value.category]; done) | rfl
def Qrm6 (Z : State) (a0 : Addr) (a1 : Addr) (x : Int64) (y : Int64) (h0 : Heap) (n0 : Nat) (v : Option Value) (h : Heap) (L : List Loc) : Prop := v = some (.int (own_same y x)) ∧ Fr n0 L ∧ h = h0
set_option maxRecDepth 65536 in
set_option maxHeartbeats 40000000 in
theorem rm6 (l : Launch) (Z : State) (aV : Array Value) (hw : ∀ d ∈ tables_1, d.before aV Z = true) (ws : List Jvm.Cond) (a0 : Addr) (a1 : Addr) (x : Int64) (y : Int64) (h0 : Heap) (n0 : Nat) (O0 : Old Z n0 h0) (Ei0 : Exa Z h0 a1 "com/example/horatius/horatius/Fence") (Fi1 : Fld Z h0 a0 "com/example/horatius/horatius/Fence" "value" "J" (.long x)) (Fi2 : Fld Z h0 a1 "com/example/horatius/horatius/Fence" "value" "J" (.long y)) :
    MetFree l (⟨"com/example/horatius/horatius/Fence", "equals", "(Ljava/lang/Object;)Z"⟩ : MethodName) (head1 (Jvm.Cond.code (⟨"com/example/horatius/horatius/Fence", "equals", "(Ljava/lang/Object;)Z"⟩ : MethodName) prog_7_method_5_code 3 (some .boolean) :: ws) ({ frames := 0, cells := 0, slots := 0, locals := 0 } : Room)) (fun a U => a = #[(.ref a0), (.ref a1)] ∧ Z.Warmed39 U.vm ∧ U.heap = h0) (fun _ _ _ _ _ => True) (fun _ U o U' => ∃ v L, o = .returned v ∧ Qrm6 Z a0 a1 x y h0 n0 v U'.heap L ∧ FrameEnd U o U' L ({ frames := 0, cells := 0, slots := 0, locals := 0 } : Room).cells ({ frames := 0, cells := 0, slots := 0, locals := 0 } : Room).slots) := by
  refine MetFree.of_bodySF (plainFor_of_name pn_com_example_horatius_horatius_Fence) hisR ?_
  intro p e s m args below meth c s₁ Bd hml0 hP hK
  obtain ⟨rfl, hZ, hh⟩ := hP
  have hx := Bd.exec
  have hby := Bd.bytes
  have hml : c.maxLocals = 3 := hml0
  have hown : s.vm.findClass "com/example/horatius/horatius/Fence" = some m.cls := findClass_of_methodNamed Bd.named
  have hnm := (name_of_methodNamed Bd.named Bd.method).1
  have X0 : Stand p l e ({ frames := 0, cells := 0, slots := 0, locals := 0 } : Room) s m #[(.ref a0), (.ref a1)] below meth c s₁ [] 0 0 := Stand.of_body Bd
  have e0 : s₁.heap = h0 := by rw [← hh, Bd.state]; rfl
  have N0 := Fr.nil n0
  show Run p.tables e below (Wd s (Qrm6 Z a0 a1 x y h0 n0) ({ frames := 0, cells := 0, slots := 0, locals := 0 } : Room).cells ({ frames := 0, cells := 0, slots := 0, locals := 0 } : Room).slots) s₁ (entryFrame m #[(.ref a0), (.ref a1)] 3)
  rw [ef_rm6 m a0 a1]
  refine run_fwd (T' := s₁) (g' := (mkF m 1 #[.val (.ref a0), .val (.ref a1), .unset] [(.ref a1)])) (fun _ k => XS.aloadN X0.here hx rfl (hb hby d6_0) rfl rfl k) ?_
  obtain ⟨T1, X1, e1, st1⟩ := instY X0 hx hZ hown (hw _ (List.mem_of_getElem? (i := 9) rfl)) e0 (Ins.self Ei0) (g := (mkF m 1 #[.val (.ref a0), .val (.ref a1), .unset] [(.ref a1)])) rfl rfl (hb hby d6_1)
  refine run_fwd (T' := T1) (g' := (mkF m 4 #[.val (.ref a0), .val (.ref a1), .unset] [(.int (1 : Int32))])) (fun _ k => st1 _ k) ?_
  have hc4_2 : ¬ ((1 : Int32) = (0 : Int32)) := (by decide)
  refine run_fwd (T' := T1) (g' := (mkF m 7 #[.val (.ref a0), .val (.ref a1), .unset] [])) (fun _ k => XS.ifNo X1.here hx rfl (hb hby d6_4) rfl ((if0 _ _).trans (feq hc4_2).1) k) ?_
  refine run_fwd (T' := T1) (g' := (mkF m 8 #[.val (.ref a0), .val (.ref a1), .unset] [(.ref a1)])) (fun _ k => XS.aloadN X1.here hx rfl (hb hby d6_7) rfl rfl k) ?_
  obtain ⟨T3, X3, e3, st3⟩ := castY X1 hx hZ hown (hw _ (List.mem_of_getElem? (i := 9) rfl)) e1 (Ins.self Ei0) (g := (mkF m 8 #[.val (.ref a0), .val (.ref a1), .unset] [(.ref a1)])) rfl rfl (hb hby d6_8)
  refine run_fwd (T' := T3) (g' := (mkF m 11 #[.val (.ref a0), .val (.ref a1), .unset] [(.ref a1)])) (fun _ k => st3 _ k) ?_
  refine run_fwd (T' := T3) (g' := (mkF m 12 #[.val (.ref a0), .val (.ref a1), .val (.ref a1)] [])) (fun _ k => XS.astoreN X3.here hx rfl (hb hby d6_11) rfl rfl (l' := #[.val (.ref a0), .val (.ref a1), .val (.ref a1)]) rfl k) ?_
  refine run_fwd (T' := T3) (g' := (mkF m 13 #[.val (.ref a0), .val (.ref a1), .val (.ref a1)] [(.ref a1)])) (fun _ k => XS.aloadN X3.here hx rfl (hb hby d6_12) rfl rfl k) ?_
  obtain ⟨T4, X4, e4, st4⟩ := getF X3 hx hZ hown (host := "") (Or.inl (hw _ (List.mem_of_getElem? (i := 17) rfl))) Via.refl e3 Fi2 (g := (mkF m 13 #[.val (.ref a0), .val (.ref a1), .val (.ref a1)] [(.ref a1)])) rfl rfl (hb hby d6_13)
  refine run_fwd (T' := T4) (g' := (mkF m 16 #[.val (.ref a0), .val (.ref a1), .val (.ref a1)] [(.long y)])) (fun _ k => st4 _ k) ?_
  refine run_fwd (T' := T4) (g' := (mkF m 17 #[.val (.ref a0), .val (.ref a1), .val (.ref a1)] [(.ref a0), (.long y)])) (fun _ k => XS.aloadN X4.here hx rfl (hb hby d6_16) rfl rfl k) ?_
  obtain ⟨T5, X5, e5, st5⟩ := getF X4 hx hZ hown (host := "") (Or.inl (hw _ (List.mem_of_getElem? (i := 17) rfl))) Via.refl e4 Fi1 (g := (mkF m 17 #[.val (.ref a0), .val (.ref a1), .val (.ref a1)] [(.ref a0), (.long y)])) rfl rfl (hb hby d6_17)
  refine run_fwd (T' := T5) (g' := (mkF m 20 #[.val (.ref a0), .val (.ref a1), .val (.ref a1)] [(.long x), (.long y)])) (fun _ k => st5 _ k) ?_
  refine run_fwd (T' := T5) (g' := (mkF m 21 #[.val (.ref a0), .val (.ref a1), .val (.ref a1)] [(.int (lcmpW y x))])) (fun _ k => XS.lcmp X5.here hx rfl (hb hby d6_20) rfl k) ?_
  by_cases hc21_6 : y = x
  ·
    refine run_fwd (T' := T5) (g' := (mkF m 24 #[.val (.ref a0), .val (.ref a1), .val (.ref a1)] [])) (fun _ k => XS.ifNo X5.here hx rfl (hb hby d6_21) rfl ((if0 _ _).trans (teq ((lw_eq y x).mpr hc21_6)).2) k) ?_
    refine run_fwd (T' := T5) (g' := (mkF m 25 #[.val (.ref a0), .val (.ref a1), .val (.ref a1)] [(.int (1 : Int32))])) (fun _ k => XS.iconst X5.here hx rfl (hb hby d6_24) k) ?_
    refine run_fwd (T' := T5) (g' := (mkF m 29 #[.val (.ref a0), .val (.ref a1), .val (.ref a1)] [(.int (1 : Int32))])) (fun _ k => XS.goto X5.here hx rfl (pc0 := 25) (pc' := 29) rfl (hb hby d6_25) (by decide) (by decide) k) ?_
    exact run_ret X5 hx Bd.returns Bd.notSynchronized rfl (Or.inl ⟨rfl, by simp, _, rfl⟩) (hb hby d6_29) (by rw [e5]; exact ⟨by rw [own_same, if_pos hc21_6], N0, rfl⟩) (by decide) (by decide)
  ·
    refine run_fwd (T' := T5) (g' := (mkF m 28 #[.val (.ref a0), .val (.ref a1), .val (.ref a1)] [])) (fun _ k => XS.ifYes X5.here hx rfl (pc0 := 21) (pc' := 28) rfl (hb hby d6_21) rfl ((if0 _ _).trans (feq (fun z => hc21_6 ((lw_eq y x).mp z))).2) (by decide) (by decide) k) ?_
    refine run_fwd (T' := T5) (g' := (mkF m 29 #[.val (.ref a0), .val (.ref a1), .val (.ref a1)] [(.int (0 : Int32))])) (fun _ k => XS.iconst X5.here hx rfl (hb hby d6_28) k) ?_
    exact run_ret X5 hx Bd.returns Bd.notSynchronized rfl (Or.inl ⟨rfl, by simp, _, rfl⟩) (hb hby d6_29) (by rw [e5]; exact ⟨by rw [own_same, if_neg hc21_6], N0, rfl⟩) (by decide) (by decide)
theorem d8_0 : decode jdk_35_method_42_code 0 = .ok (.lload_n 0, 1) := by decide +kernel
theorem d8_1 : decode jdk_35_method_42_code 1 = .ok (.lload_n 2, 1) := by decide +kernel
theorem d8_2 : decode jdk_35_method_42_code 2 = .ok (.lcmp, 1) := by decide +kernel
theorem d8_3 : decode jdk_35_method_42_code 3 = .ok (.ifCond .ge 7, 3) := by decide +kernel
theorem d8_6 : decode jdk_35_method_42_code 6 = .ok (.iconst (-1), 1) := by decide +kernel
theorem d8_7 : decode jdk_35_method_42_code 7 = .ok (.goto 14, 3) := by decide +kernel
theorem d8_21 : decode jdk_35_method_42_code 21 = .ok (.ireturn, 1) := by decide +kernel
theorem d8_10 : decode jdk_35_method_42_code 10 = .ok (.lload_n 0, 1) := by decide +kernel
theorem d8_11 : decode jdk_35_method_42_code 11 = .ok (.lload_n 2, 1) := by decide +kernel
theorem d8_12 : decode jdk_35_method_42_code 12 = .ok (.lcmp, 1) := by decide +kernel
theorem d8_13 : decode jdk_35_method_42_code 13 = .ok (.ifCond .ne 7, 3) := by decide +kernel
theorem d8_16 : decode jdk_35_method_42_code 16 = .ok (.iconst 0, 1) := by decide +kernel
theorem d8_17 : decode jdk_35_method_42_code 17 = .ok (.goto 4, 3) := by decide +kernel
theorem d8_20 : decode jdk_35_method_42_code 20 = .ok (.iconst 1, 1) := by decide +kernel
theorem pn_java_lang_Long : plainName "java/lang/Long" = true := by first | (simp [plainName, overriddenIn]; done) | decide +kernel
theorem ef_rm8 (m : MethodId) (x0 : Int64) (x1 : Int64) : entryFrame m #[(.long x0), (.long x1)] 4 = mkF m 0 #[.val (.long x0), .second, .val (.long x1), .second] [] := by first | (simp [entryFrame, mkF, argsToLocals, Value.category]; done) | rfl
def Qrm8 (Z : State) (q0 : Int64) (q1 : Int64) (h0 : Heap) (n0 : Nat) (v : Option Value) (h : Heap) (L : List Loc) : Prop := v = some (.int (own_cmp q0 q1)) ∧ Fr n0 L ∧ h = h0
set_option maxRecDepth 65536 in
set_option maxHeartbeats 40000000 in
theorem rm8 (l : Launch) (Z : State) (aV : Array Value) (hw : ∀ d ∈ tables_1, d.before aV Z = true) (ws : List Jvm.Cond) (q0 : Int64) (q1 : Int64) (h0 : Heap) (n0 : Nat) (O0 : Old Z n0 h0) :
    MetFree l (⟨"java/lang/Long", "compare", "(JJ)I"⟩ : MethodName) (head1 (Jvm.Cond.code (⟨"java/lang/Long", "compare", "(JJ)I"⟩ : MethodName) jdk_35_method_42_code 4 (some .int) :: ws) ({ frames := 0, cells := 0, slots := 0, locals := 0 } : Room)) (fun a U => a = #[(.long q0), (.long q1)] ∧ Z.Warmed39 U.vm ∧ U.heap = h0) (fun _ _ _ _ _ => True) (fun _ U o U' => ∃ v L, o = .returned v ∧ Qrm8 Z q0 q1 h0 n0 v U'.heap L ∧ FrameEnd U o U' L ({ frames := 0, cells := 0, slots := 0, locals := 0 } : Room).cells ({ frames := 0, cells := 0, slots := 0, locals := 0 } : Room).slots) := by
  refine MetFree.of_bodySF (plainFor_of_name pn_java_lang_Long) hisR ?_
  intro p e s m args below meth c s₁ Bd hml0 hP hK
  obtain ⟨rfl, hZ, hh⟩ := hP
  have hx := Bd.exec
  have hby := Bd.bytes
  have hml : c.maxLocals = 4 := hml0
  have hown : s.vm.findClass "java/lang/Long" = some m.cls := findClass_of_methodNamed Bd.named
  have hnm := (name_of_methodNamed Bd.named Bd.method).1
  have X0 : Stand p l e ({ frames := 0, cells := 0, slots := 0, locals := 0 } : Room) s m #[(.long q0), (.long q1)] below meth c s₁ [] 0 0 := Stand.of_body Bd
  have e0 : s₁.heap = h0 := by rw [← hh, Bd.state]; rfl
  have N0 := Fr.nil n0
  show Run p.tables e below (Wd s (Qrm8 Z q0 q1 h0 n0) ({ frames := 0, cells := 0, slots := 0, locals := 0 } : Room).cells ({ frames := 0, cells := 0, slots := 0, locals := 0 } : Room).slots) s₁ (entryFrame m #[(.long q0), (.long q1)] 4)
  rw [ef_rm8 m q0 q1]
  refine run_fwd (T' := s₁) (g' := (mkF m 1 #[.val (.long q0), .second, .val (.long q1), .second] [(.long q0)])) (fun _ k => XS.lloadN X0.here hx rfl (hb hby d8_0) rfl k) ?_
  refine run_fwd (T' := s₁) (g' := (mkF m 2 #[.val (.long q0), .second, .val (.long q1), .second] [(.long q1), (.long q0)])) (fun _ k => XS.lloadN X0.here hx rfl (hb hby d8_1) rfl k) ?_
  refine run_fwd (T' := s₁) (g' := (mkF m 3 #[.val (.long q0), .second, .val (.long q1), .second] [(.int (lcmpW q0 q1))])) (fun _ k => XS.lcmp X0.here hx rfl (hb hby d8_2) rfl k) ?_
  by_cases hc3_1 : q0 < q1
  ·
    refine run_fwd (T' := s₁) (g' := (mkF m 6 #[.val (.long q0), .second, .val (.long q1), .second] [])) (fun _ k => XS.ifNo X0.here hx rfl (hb hby d8_3) rfl ((if0 _ _).trans (tlt ((lw_lt q0 q1).mpr hc3_1)).2.1) k) ?_
    refine run_fwd (T' := s₁) (g' := (mkF m 7 #[.val (.long q0), .second, .val (.long q1), .second] [(.int (-1 : Int32))])) (fun _ k => XS.iconst X0.here hx rfl (hb hby d8_6) k) ?_
    refine run_fwd (T' := s₁) (g' := (mkF m 21 #[.val (.long q0), .second, .val (.long q1), .second] [(.int (-1 : Int32))])) (fun _ k => XS.goto X0.here hx rfl (pc0 := 7) (pc' := 21) rfl (hb hby d8_7) (by decide) (by decide) k) ?_
    exact run_ret X0 hx Bd.returns Bd.notSynchronized rfl (Or.inl ⟨rfl, by simp, _, rfl⟩) (hb hby d8_21) (by rw [e0]; exact ⟨by rw [own_cmp, if_pos hc3_1], N0, rfl⟩) (by decide) (by decide)
  ·
    refine run_fwd (T' := s₁) (g' := (mkF m 10 #[.val (.long q0), .second, .val (.long q1), .second] [])) (fun _ k => XS.ifYes X0.here hx rfl (pc0 := 3) (pc' := 10) rfl (hb hby d8_3) rfl ((if0 _ _).trans (flt (fun z => hc3_1 ((lw_lt q0 q1).mp z))).2.1) (by decide) (by decide) k) ?_
    refine run_fwd (T' := s₁) (g' := (mkF m 11 #[.val (.long q0), .second, .val (.long q1), .second] [(.long q0)])) (fun _ k => XS.lloadN X0.here hx rfl (hb hby d8_10) rfl k) ?_
    refine run_fwd (T' := s₁) (g' := (mkF m 12 #[.val (.long q0), .second, .val (.long q1), .second] [(.long q1), (.long q0)])) (fun _ k => XS.lloadN X0.here hx rfl (hb hby d8_11) rfl k) ?_
    refine run_fwd (T' := s₁) (g' := (mkF m 13 #[.val (.long q0), .second, .val (.long q1), .second] [(.int (lcmpW q0 q1))])) (fun _ k => XS.lcmp X0.here hx rfl (hb hby d8_12) rfl k) ?_
    by_cases hc13_2 : q0 = q1
    ·
      refine run_fwd (T' := s₁) (g' := (mkF m 16 #[.val (.long q0), .second, .val (.long q1), .second] [])) (fun _ k => XS.ifNo X0.here hx rfl (hb hby d8_13) rfl ((if0 _ _).trans (teq ((lw_eq q0 q1).mpr hc13_2)).2) k) ?_
      refine run_fwd (T' := s₁) (g' := (mkF m 17 #[.val (.long q0), .second, .val (.long q1), .second] [(.int (0 : Int32))])) (fun _ k => XS.iconst X0.here hx rfl (hb hby d8_16) k) ?_
      refine run_fwd (T' := s₁) (g' := (mkF m 21 #[.val (.long q0), .second, .val (.long q1), .second] [(.int (0 : Int32))])) (fun _ k => XS.goto X0.here hx rfl (pc0 := 17) (pc' := 21) rfl (hb hby d8_17) (by decide) (by decide) k) ?_
      exact run_ret X0 hx Bd.returns Bd.notSynchronized rfl (Or.inl ⟨rfl, by simp, _, rfl⟩) (hb hby d8_21) (by rw [e0]; exact ⟨by rw [own_cmp, if_neg hc3_1, if_pos hc13_2], N0, rfl⟩) (by decide) (by decide)
    ·
      refine run_fwd (T' := s₁) (g' := (mkF m 20 #[.val (.long q0), .second, .val (.long q1), .second] [])) (fun _ k => XS.ifYes X0.here hx rfl (pc0 := 13) (pc' := 20) rfl (hb hby d8_13) rfl ((if0 _ _).trans (feq (fun z => hc13_2 ((lw_eq q0 q1).mp z))).2) (by decide) (by decide) k) ?_
      refine run_fwd (T' := s₁) (g' := (mkF m 21 #[.val (.long q0), .second, .val (.long q1), .second] [(.int (1 : Int32))])) (fun _ k => XS.iconst X0.here hx rfl (hb hby d8_20) k) ?_
      exact run_ret X0 hx Bd.returns Bd.notSynchronized rfl (Or.inl ⟨rfl, by simp, _, rfl⟩) (hb hby d8_21) (by rw [e0]; exact ⟨by rw [own_cmp, if_neg hc3_1, if_neg hc13_2], N0, rfl⟩) (by decide) (by decide)
theorem d7_0 : decode prog_7_method_4_code 0 = .ok (.aload_n 0, 1) := by decide +kernel
theorem d7_1 : decode prog_7_method_4_code 1 = .ok (.getfield 7, 3) := by decide +kernel
theorem d7_4 : decode prog_7_method_4_code 4 = .ok (.aload_n 1, 1) := by decide +kernel
theorem d7_5 : decode prog_7_method_4_code 5 = .ok (.getfield 7, 3) := by decide +kernel
theorem d7_8 : decode prog_7_method_4_code 8 = .ok (.invokestatic 27, 3) := by decide +kernel
theorem pd__28JJ_29I : parseMethodDescriptor "(JJ)I" = some ⟨[.long, .long], some .int⟩ := by decide +kernel
theorem d7_11 : decode prog_7_method_4_code 11 = .ok (.ireturn, 1) := by decide +kernel
theorem ef_rm7 (m : MethodId) (x0 : Addr) (x1 : Addr) : entryFrame m #[(.ref x0), (.ref x1)] 2 = mkF m 0 #[.val (.ref x0), .val (.ref x1)] [] := by first | (simp [entryFrame, mkF, argsToLocals, Value.category]; done) | rfl
def Qrm7 (Z : State) (a0 : Addr) (a1 : Addr) (x : Int64) (y : Int64) (h0 : Heap) (n0 : Nat) (v : Option Value) (h : Heap) (L : List Loc) : Prop := v = some (.int (own_cmp x y)) ∧ Fr n0 L ∧ h = h0
set_option maxRecDepth 65536 in
set_option maxHeartbeats 40000000 in
theorem rm7 (l : Launch) (Z : State) (aV : Array Value) (hw : ∀ d ∈ tables_1, d.before aV Z = true) (ws : List Jvm.Cond) (a0 : Addr) (a1 : Addr) (x : Int64) (y : Int64) (h0 : Heap) (n0 : Nat) (O0 : Old Z n0 h0) (Fi0 : Fld Z h0 a0 "com/example/horatius/horatius/Fence" "value" "J" (.long x)) (Fi1 : Fld Z h0 a1 "com/example/horatius/horatius/Fence" "value" "J" (.long y)) :
    MetFree l (⟨"com/example/horatius/horatius/Fence", "compareTo", "(Lcom/example/horatius/horatius/Fence;)I"⟩ : MethodName) (head1 (Jvm.Cond.code (⟨"com/example/horatius/horatius/Fence", "compareTo", "(Lcom/example/horatius/horatius/Fence;)I"⟩ : MethodName) prog_7_method_4_code 2 (some .int) :: ws) ({ frames := 1, cells := 0, slots := 0, locals := 15 } : Room)) (fun a U => a = #[(.ref a0), (.ref a1)] ∧ Z.Warmed39 U.vm ∧ U.heap = h0) (fun _ _ _ _ _ => True) (fun _ U o U' => ∃ v L, o = .returned v ∧ Qrm7 Z a0 a1 x y h0 n0 v U'.heap L ∧ FrameEnd U o U' L ({ frames := 1, cells := 0, slots := 0, locals := 15 } : Room).cells ({ frames := 1, cells := 0, slots := 0, locals := 15 } : Room).slots) := by
  refine MetFree.of_bodySF (plainFor_of_name pn_com_example_horatius_horatius_Fence) hisR ?_
  intro p e s m args below meth c s₁ Bd hml0 hP hK
  obtain ⟨rfl, hZ, hh⟩ := hP
  have hx := Bd.exec
  have hby := Bd.bytes
  have hml : c.maxLocals = 2 := hml0
  have hown : s.vm.findClass "com/example/horatius/horatius/Fence" = some m.cls := findClass_of_methodNamed Bd.named
  have hnm := (name_of_methodNamed Bd.named Bd.method).1
  have X0 : Stand p l e ({ frames := 1, cells := 0, slots := 0, locals := 15 } : Room) s m #[(.ref a0), (.ref a1)] below meth c s₁ [] 0 0 := Stand.of_body Bd
  have e0 : s₁.heap = h0 := by rw [← hh, Bd.state]; rfl
  have N0 := Fr.nil n0
  show Run p.tables e below (Wd s (Qrm7 Z a0 a1 x y h0 n0) ({ frames := 1, cells := 0, slots := 0, locals := 15 } : Room).cells ({ frames := 1, cells := 0, slots := 0, locals := 15 } : Room).slots) s₁ (entryFrame m #[(.ref a0), (.ref a1)] 2)
  rw [ef_rm7 m a0 a1]
  refine run_fwd (T' := s₁) (g' := (mkF m 1 #[.val (.ref a0), .val (.ref a1)] [(.ref a0)])) (fun _ k => XS.aloadN X0.here hx rfl (hb hby d7_0) rfl rfl k) ?_
  obtain ⟨T1, X1, e1, st1⟩ := getF X0 hx hZ hown (host := "") (Or.inl (hw _ (List.mem_of_getElem? (i := 17) rfl))) Via.refl e0 Fi0 (g := (mkF m 1 #[.val (.ref a0), .val (.ref a1)] [(.ref a0)])) rfl rfl (hb hby d7_1)
  refine run_fwd (T' := T1) (g' := (mkF m 4 #[.val (.ref a0), .val (.ref a1)] [(.long x)])) (fun _ k => st1 _ k) ?_
  refine run_fwd (T' := T1) (g' := (mkF m 5 #[.val (.ref a0), .val (.ref a1)] [(.ref a1), (.long x)])) (fun _ k => XS.aloadN X1.here hx rfl (hb hby d7_4) rfl rfl k) ?_
  obtain ⟨T2, X2, e2, st2⟩ := getF X1 hx hZ hown (host := "") (Or.inl (hw _ (List.mem_of_getElem? (i := 17) rfl))) Via.refl e1 Fi1 (g := (mkF m 5 #[.val (.ref a0), .val (.ref a1)] [(.ref a1), (.long x)])) rfl rfl (hb hby d7_5)
  refine run_fwd (T' := T2) (g' := (mkF m 8 #[.val (.ref a0), .val (.ref a1)] [(.long y), (.long x)])) (fun _ k => st2 _ k) ?_
  obtain ⟨_, _, ⟨T3, L3, kk3, nn3⟩, -, X3, ⟨Lc3, hQ3, l3, y3, z3⟩, st3⟩ := Jvm.LawKit.callS X2 hx (y := (⟨"java/lang/Long", "compare", "(JJ)I"⟩ : MethodName)) hown (mvT hZ (hw _ (List.mem_of_getElem? (i := 35) rfl))) (mvT hZ (hw _ (List.mem_of_getElem? (i := 36) rfl))) (mvT hZ (hw _ (List.mem_of_getElem? (i := 37) rfl))) (mvT hZ (hw _ (List.mem_of_getElem? (i := 38) rfl))) (by decide) (backOf (W := 0) (rm8 l Z aV hw [] x y h0 n0 O0 ) hZ (hw _ (List.mem_of_getElem? (i := 38) rfl)) (hw _ (List.mem_of_getElem? (i := 37) rfl)) (by decide) (by decide)) (g := (mkF m 8 #[.val (.ref a0), .val (.ref a1)] [(.long y), (.long x)])) rfl (by rw [hml]; rfl) (argsL := [(.long x), (.long y)]) (rest := []) (lenOf pd__28JJ_29I rfl) rfl (by show 2 * 0 + _ ≤ _; exact Nat.le_of_eq rfl) (hb hby d7_8) (fun _ _ => ⟨rfl, e2, (by decide : 0 + 0 ≤ _), (by decide : 0 + 0 ≤ _)⟩)
  dsimp only [Pt.U, Pt.locs, Pt.cells, Pt.slots] at X3 l3 y3 z3 st3 hQ3
  subst l3 y3 z3
  obtain ⟨rfl, N3q, Q3_0⟩ := hQ3
  have N3 := Fr.app N0 N3q
  refine run_fwd (T' := T3) (g' := (mkF m 11 #[.val (.ref a0), .val (.ref a1)] [(.int (own_cmp x y))])) (fun _ k => st3 _ k) ?_
  exact run_ret X3 hx Bd.returns Bd.notSynchronized rfl (Or.inl ⟨rfl, by simp, _, rfl⟩) (hb hby d7_11) (by rw [Q3_0]; exact ⟨rfl, N3, rfl⟩) (by decide) (by decide)
theorem d9_0 : decode method_3_code 0 = .ok (.lload_n 0, 1) := by decide +kernel
theorem d9_1 : decode method_3_code 1 = .ok (.lconst 0, 1) := by decide +kernel
theorem d9_2 : decode method_3_code 2 = .ok (.lcmp, 1) := by decide +kernel
theorem d9_3 : decode method_3_code 3 = .ok (.ifCond .ge 5, 3) := by decide +kernel
theorem d9_6 : decode method_3_code 6 = .ok (.iconst (-1), 1) := by decide +kernel
theorem d9_7 : decode method_3_code 7 = .ok (.ireturn, 1) := by decide +kernel
theorem d9_8 : decode method_3_code 8 = .ok (.lload_n 0, 1) := by decide +kernel
theorem d9_9 : decode method_3_code 9 = .ok (.lconst 0, 1) := by decide +kernel
theorem d9_10 : decode method_3_code 10 = .ok (.lcmp, 1) := by decide +kernel
theorem d9_11 : decode method_3_code 11 = .ok (.ifCond .le 5, 3) := by decide +kernel
theorem d9_14 : decode method_3_code 14 = .ok (.iconst 1, 1) := by decide +kernel
theorem d9_15 : decode method_3_code 15 = .ok (.ireturn, 1) := by decide +kernel
theorem d9_16 : decode method_3_code 16 = .ok (.iconst 0, 1) := by decide +kernel
theorem d9_17 : decode method_3_code 17 = .ok (.ireturn, 1) := by decide +kernel
theorem ef_rm9 (m : MethodId) (x0 : Int64) : entryFrame m #[(.long x0)] 2 = mkF m 0 #[.val (.long x0), .second] [] := by first | (simp [entryFrame, mkF, argsToLocals, Value.category]; done) | rfl
def Qrm9 (Z : State) (q0 : Int64) (h0 : Heap) (n0 : Nat) (v : Option Value) (h : Heap) (L : List Loc) : Prop := v = some (.int (own_sign q0)) ∧ Fr n0 L ∧ h = h0
set_option maxRecDepth 65536 in
set_option maxHeartbeats 40000000 in
theorem rm9 (l : Launch) (Z : State) (aV : Array Value) (hw : ∀ d ∈ tables_1, d.before aV Z = true) (ws : List Jvm.Cond) (q0 : Int64) (h0 : Heap) (n0 : Nat) (O0 : Old Z n0 h0) :
    MetFree l (⟨"com/example/horatius/horatius/FenceOfPinLaw", "sign", "(J)I"⟩ : MethodName) (head1 (Jvm.Cond.code (⟨"com/example/horatius/horatius/FenceOfPinLaw", "sign", "(J)I"⟩ : MethodName) method_3_code 2 (some .int) :: ws) ({ frames := 0, cells := 0, slots := 0, locals := 0 } : Room)) (fun a U => a = #[(.long q0)] ∧ Z.Warmed39 U.vm ∧ U.heap = h0) (fun _ _ _ _ _ => True) (fun _ U o U' => ∃ v L, o = .returned v ∧ Qrm9 Z q0 h0 n0 v U'.heap L ∧ FrameEnd U o U' L ({ frames := 0, cells := 0, slots := 0, locals := 0 } : Room).cells ({ frames := 0, cells := 0, slots := 0, locals := 0 } : Room).slots) := by
  refine MetFree.of_bodySF (plainFor_of_name pn_com_example_horatius_horatius_FenceOfPinLaw) hisR ?_
  intro p e s m args below meth c s₁ Bd hml0 hP hK
  obtain ⟨rfl, hZ, hh⟩ := hP
  have hx := Bd.exec
  have hby := Bd.bytes
  have hml : c.maxLocals = 2 := hml0
  have hown : s.vm.findClass "com/example/horatius/horatius/FenceOfPinLaw" = some m.cls := findClass_of_methodNamed Bd.named
  have hnm := (name_of_methodNamed Bd.named Bd.method).1
  have X0 : Stand p l e ({ frames := 0, cells := 0, slots := 0, locals := 0 } : Room) s m #[(.long q0)] below meth c s₁ [] 0 0 := Stand.of_body Bd
  have e0 : s₁.heap = h0 := by rw [← hh, Bd.state]; rfl
  have N0 := Fr.nil n0
  show Run p.tables e below (Wd s (Qrm9 Z q0 h0 n0) ({ frames := 0, cells := 0, slots := 0, locals := 0 } : Room).cells ({ frames := 0, cells := 0, slots := 0, locals := 0 } : Room).slots) s₁ (entryFrame m #[(.long q0)] 2)
  rw [ef_rm9 m q0]
  refine run_fwd (T' := s₁) (g' := (mkF m 1 #[.val (.long q0), .second] [(.long q0)])) (fun _ k => XS.lloadN X0.here hx rfl (hb hby d9_0) rfl k) ?_
  refine run_fwd (T' := s₁) (g' := (mkF m 2 #[.val (.long q0), .second] [(.long (0 : Int64)), (.long q0)])) (fun _ k => XS.lconst X0.here hx rfl (hb hby d9_1) k) ?_
  refine run_fwd (T' := s₁) (g' := (mkF m 3 #[.val (.long q0), .second] [(.int (lcmpW q0 (0 : Int64)))])) (fun _ k => XS.lcmp X0.here hx rfl (hb hby d9_2) rfl k) ?_
  by_cases hc3_1 : q0 < (0 : Int64)
  ·
    refine run_fwd (T' := s₁) (g' := (mkF m 6 #[.val (.long q0), .second] [])) (fun _ k => XS.ifNo X0.here hx rfl (hb hby d9_3) rfl ((if0 _ _).trans (tlt ((lw_lt q0 (0 : Int64)).mpr hc3_1)).2.1) k) ?_
    refine run_fwd (T' := s₁) (g' := (mkF m 7 #[.val (.long q0), .second] [(.int (-1 : Int32))])) (fun _ k => XS.iconst X0.here hx rfl (hb hby d9_6) k) ?_
    exact run_ret X0 hx Bd.returns Bd.notSynchronized rfl (Or.inl ⟨rfl, by simp, _, rfl⟩) (hb hby d9_7) (by rw [e0]; exact ⟨by rw [own_sign, if_pos hc3_1], N0, rfl⟩) (by decide) (by decide)
  ·
    refine run_fwd (T' := s₁) (g' := (mkF m 8 #[.val (.long q0), .second] [])) (fun _ k => XS.ifYes X0.here hx rfl (pc0 := 3) (pc' := 8) rfl (hb hby d9_3) rfl ((if0 _ _).trans (flt (fun z => hc3_1 ((lw_lt q0 (0 : Int64)).mp z))).2.1) (by decide) (by decide) k) ?_
    refine run_fwd (T' := s₁) (g' := (mkF m 9 #[.val (.long q0), .second] [(.long q0)])) (fun _ k => XS.lloadN X0.here hx rfl (hb hby d9_8) rfl k) ?_
    refine run_fwd (T' := s₁) (g' := (mkF m 10 #[.val (.long q0), .second] [(.long (0 : Int64)), (.long q0)])) (fun _ k => XS.lconst X0.here hx rfl (hb hby d9_9) k) ?_
    refine run_fwd (T' := s₁) (g' := (mkF m 11 #[.val (.long q0), .second] [(.int (lcmpW q0 (0 : Int64)))])) (fun _ k => XS.lcmp X0.here hx rfl (hb hby d9_10) rfl k) ?_
    by_cases hc11_2 : (0 : Int64) < q0
    ·
      refine run_fwd (T' := s₁) (g' := (mkF m 14 #[.val (.long q0), .second] [])) (fun _ k => XS.ifNo X0.here hx rfl (hb hby d9_11) rfl ((if0 _ _).trans (tlt ((lw_gt q0 (0 : Int64)).mpr hc11_2)).2.2.2) k) ?_
      refine run_fwd (T' := s₁) (g' := (mkF m 15 #[.val (.long q0), .second] [(.int (1 : Int32))])) (fun _ k => XS.iconst X0.here hx rfl (hb hby d9_14) k) ?_
      exact run_ret X0 hx Bd.returns Bd.notSynchronized rfl (Or.inl ⟨rfl, by simp, _, rfl⟩) (hb hby d9_15) (by rw [e0]; exact ⟨by rw [own_sign, if_neg hc3_1, if_pos hc11_2], N0, rfl⟩) (by decide) (by decide)
    ·
      refine run_fwd (T' := s₁) (g' := (mkF m 16 #[.val (.long q0), .second] [])) (fun _ k => XS.ifYes X0.here hx rfl (pc0 := 11) (pc' := 16) rfl (hb hby d9_11) rfl ((if0 _ _).trans (flt (fun z => hc11_2 ((lw_gt q0 (0 : Int64)).mp z))).2.2.2) (by decide) (by decide) k) ?_
      refine run_fwd (T' := s₁) (g' := (mkF m 17 #[.val (.long q0), .second] [(.int (0 : Int32))])) (fun _ k => XS.iconst X0.here hx rfl (hb hby d9_16) k) ?_
      exact run_ret X0 hx Bd.returns Bd.notSynchronized rfl (Or.inl ⟨rfl, by simp, _, rfl⟩) (hb hby d9_17) (by rw [e0]; exact ⟨by rw [own_sign, if_neg hc3_1, if_neg hc11_2], N0, rfl⟩) (by decide) (by decide)
theorem pd__28JI_29J : parseMethodDescriptor "(JI)J" = some ⟨[.long, .int], some .long⟩ := by decide +kernel
theorem pd__28J_29Lcom_2fexample_2fhoratius_2fhoratius_2fFence_3b : parseMethodDescriptor "(J)Lcom/example/horatius/horatius/Fence;" = some ⟨[.long], some (.object "com/example/horatius/horatius/Fence")⟩ := by decide +kernel
theorem pd__28_29J : parseMethodDescriptor "()J" = some ⟨[], some .long⟩ := by decide +kernel
theorem pd__28Ljava_2flang_2fObject_3b_29Z : parseMethodDescriptor "(Ljava/lang/Object;)Z" = some ⟨[(.object "java/lang/Object")], some .boolean⟩ := by decide +kernel
theorem pd__28Lcom_2fexample_2fhoratius_2fhoratius_2fFence_3b_29I : parseMethodDescriptor "(Lcom/example/horatius/horatius/Fence;)I" = some ⟨[(.object "com/example/horatius/horatius/Fence")], some .int⟩ := by decide +kernel
theorem pd__28J_29I : parseMethodDescriptor "(J)I" = some ⟨[.long], some .int⟩ := by decide +kernel
theorem ef_rm0 (m : MethodId) (x0 : Int64) (x1 : Int64) (x2 : Int32) : entryFrame m #[(.long x0), (.long x1), (.int x2)] maxLocals = mkF m 0 #[.val (.long x0), .second, .val (.long x1), .second, .val (.int x2), .unset, .unset, .unset, .unset, .unset, .unset, .unset] [] := by first | (simp [entryFrame, mkF, argsToLocals, Value.category, maxLocals]; done) | rfl
def Qrm0 (Z : State) (q0 : Int64) (q1 : Int64) (p2 : Int32) (vv : Int64) (ww : Int64) (h0 : Heap) (n0 : Nat) (v : Option Value) (h : Heap) (L : List Loc) : Prop := v = some (.int (1 : Int32)) ∧ Fr n0 L
set_option maxRecDepth 65536 in
set_option maxHeartbeats 40000000 in
theorem rm0 (l : Launch) (Z : State) (aV : Array Value) (hw : ∀ d ∈ tables_1, d.before aV Z = true) (ws : List Jvm.Cond) (q0 : Int64) (q1 : Int64) (p2 : Int32) (vv : Int64) (ww : Int64) (h0 : Heap) (n0 : Nat) (O0 : Old Z n0 h0) (hv : own_pick q0 p2 = vv) (hw' : own_pick q1 (p2 >>> ((3 : Int32) &&& 31)) = ww) :
    MetFree l x (head1 (Jvm.Cond.code x code maxLocals ret :: ws) room_1) (fun a U => a = #[(.long q0), (.long q1), (.int p2)] ∧ Z.Warmed39 U.vm ∧ U.heap = h0) (fun _ _ _ _ _ => True) (fun _ U o U' => ∃ v L, o = .returned v ∧ Qrm0 Z q0 q1 p2 vv ww h0 n0 v U'.heap L ∧ FrameEnd U o U' L room_1.cells room_1.slots) := by
  refine MetFree.of_bodySF (plainFor_of_name pn_com_example_horatius_horatius_FenceOfPinLaw) hisR ?_
  intro p e s m args below meth c s₁ Bd hml0 hP hK
  obtain ⟨rfl, hZ, hh⟩ := hP
  have hx := Bd.exec
  have hby := Bd.bytes
  have hml : c.maxLocals = 12 := hml0
  have hown : s.vm.findClass "com/example/horatius/horatius/FenceOfPinLaw" = some m.cls := findClass_of_methodNamed Bd.named
  have hnm := (name_of_methodNamed Bd.named Bd.method).1
  have X0 : Stand p l e room_1 s m #[(.long q0), (.long q1), (.int p2)] below meth c s₁ [] 0 0 := Stand.of_body Bd
  have e0 : s₁.heap = h0 := by rw [← hh, Bd.state]; rfl
  have N0 := Fr.nil n0
  show Run p.tables e below (Wd s (Qrm0 Z q0 q1 p2 vv ww h0 n0) room_1.cells room_1.slots) s₁ (entryFrame m #[(.long q0), (.long q1), (.int p2)] maxLocals)
  rw [ef_rm0 m q0 q1 p2]
  refine run_fwd (T' := s₁) (g' := (mkF m 1 #[.val (.long q0), .second, .val (.long q1), .second, .val (.int p2), .unset, .unset, .unset, .unset, .unset, .unset, .unset] [(.long q0)])) (fun _ k => XS.lloadN X0.here hx rfl (hb hby at_0) rfl k) ?_
  refine run_fwd (T' := s₁) (g' := (mkF m 3 #[.val (.long q0), .second, .val (.long q1), .second, .val (.int p2), .unset, .unset, .unset, .unset, .unset, .unset, .unset] [(.int p2), (.long q0)])) (fun _ k => XS.iload X0.here hx rfl (hb hby at_1) rfl k) ?_
  obtain ⟨_, _, ⟨T1, L1, kk1, nn1⟩, -, X1, ⟨Lc1, hQ1, l1, y1, z1⟩, st1⟩ := Jvm.LawKit.callS X0 hx (y := (⟨"com/example/horatius/horatius/FenceOfPinLaw", "pick", "(JI)J"⟩ : MethodName)) hown (mvT hZ (hw _ (List.mem_of_getElem? (i := 0) rfl))) (mvT hZ (hw _ (List.mem_of_getElem? (i := 1) rfl))) (mvT hZ (hw _ (List.mem_of_getElem? (i := 2) rfl))) (mvT hZ (hw _ (List.mem_of_getElem? (i := 3) rfl))) (by decide) (backOf (W := 0) (rm1 l Z aV hw [] q0 p2 vv h0 n0 O0 (hv)) hZ (hw _ (List.mem_of_getElem? (i := 3) rfl)) (hw _ (List.mem_of_getElem? (i := 2) rfl)) (by decide) (by decide)) (g := (mkF m 3 #[.val (.long q0), .second, .val (.long q1), .second, .val (.int p2), .unset, .unset, .unset, .unset, .unset, .unset, .unset] [(.int p2), (.long q0)])) rfl (by rw [hml]; rfl) (argsL := [(.long q0), (.int p2)]) (rest := []) (lenOf pd__28JI_29J rfl) rfl (by show 2 * 0 + _ ≤ _; exact Nat.le_of_eq rfl) (hb hby at_3) (fun _ _ => ⟨rfl, e0, (by decide : 0 + 0 ≤ _), (by decide : 0 + 0 ≤ _)⟩)
  dsimp only [Pt.U, Pt.locs, Pt.cells, Pt.slots] at X1 l1 y1 z1 st1 hQ1
  subst l1 y1 z1
  obtain ⟨rfl, N1q, Q1_0⟩ := hQ1
  have N1 := Fr.app N0 N1q
  refine run_fwd (T' := T1) (g' := (mkF m 6 #[.val (.long q0), .second, .val (.long q1), .second, .val (.int p2), .unset, .unset, .unset, .unset, .unset, .unset, .unset] [(.long vv)])) (fun _ k => st1 _ k) ?_
  refine run_fwd (T' := T1) (g' := (mkF m 8 #[.val (.long q0), .second, .val (.long q1), .second, .val (.int p2), .val (.long vv), .second, .unset, .unset, .unset, .unset, .unset] [])) (fun _ k => XS.lstore X1.here hx rfl (hb hby at_6) rfl (l' := #[.val (.long q0), .second, .val (.long q1), .second, .val (.int p2), .val (.long vv), .second, .unset, .unset, .unset, .unset, .unset]) rfl k) ?_
  refine run_fwd (T' := T1) (g' := (mkF m 9 #[.val (.long q0), .second, .val (.long q1), .second, .val (.int p2), .val (.long vv), .second, .unset, .unset, .unset, .unset, .unset] [(.long q1)])) (fun _ k => XS.lloadN X1.here hx rfl (hb hby at_8) rfl k) ?_
  refine run_fwd (T' := T1) (g' := (mkF m 11 #[.val (.long q0), .second, .val (.long q1), .second, .val (.int p2), .val (.long vv), .second, .unset, .unset, .unset, .unset, .unset] [(.int p2), (.long q1)])) (fun _ k => XS.iload X1.here hx rfl (hb hby at_9) rfl k) ?_
  refine run_fwd (T' := T1) (g' := (mkF m 12 #[.val (.long q0), .second, .val (.long q1), .second, .val (.int p2), .val (.long vv), .second, .unset, .unset, .unset, .unset, .unset] [(.int (3 : Int32)), (.int p2), (.long q1)])) (fun _ k => XS.iconst X1.here hx rfl (hb hby at_11) k) ?_
  refine run_fwd (T' := T1) (g' := (mkF m 13 #[.val (.long q0), .second, .val (.long q1), .second, .val (.int p2), .val (.long vv), .second, .unset, .unset, .unset, .unset, .unset] [(.int (p2 >>> ((3 : Int32) &&& 31))), (.long q1)])) (fun _ k => XS.ishr X1.here hx rfl (hb hby at_12) rfl k) ?_
  obtain ⟨_, _, ⟨T2, L2, kk2, nn2⟩, -, X2, ⟨Lc2, hQ2, l2, y2, z2⟩, st2⟩ := Jvm.LawKit.callS X1 hx (y := (⟨"com/example/horatius/horatius/FenceOfPinLaw", "pick", "(JI)J"⟩ : MethodName)) hown (mvT hZ (hw _ (List.mem_of_getElem? (i := 0) rfl))) (mvT hZ (hw _ (List.mem_of_getElem? (i := 1) rfl))) (mvT hZ (hw _ (List.mem_of_getElem? (i := 2) rfl))) (mvT hZ (hw _ (List.mem_of_getElem? (i := 3) rfl))) (by decide) (backOf (W := 0) (rm1 l Z aV hw [] q1 (p2 >>> ((3 : Int32) &&& 31)) ww h0 n0 O0 (hw')) hZ (hw _ (List.mem_of_getElem? (i := 3) rfl)) (hw _ (List.mem_of_getElem? (i := 2) rfl)) (by decide) (by decide)) (g := (mkF m 13 #[.val (.long q0), .second, .val (.long q1), .second, .val (.int p2), .val (.long vv), .second, .unset, .unset, .unset, .unset, .unset] [(.int (p2 >>> ((3 : Int32) &&& 31))), (.long q1)])) rfl (by rw [hml]; rfl) (argsL := [(.long q1), (.int (p2 >>> ((3 : Int32) &&& 31)))]) (rest := []) (lenOf pd__28JI_29J rfl) rfl (by show 2 * 0 + _ ≤ _; exact Nat.le_of_eq rfl) (hb hby at_13) (fun _ _ => ⟨rfl, Q1_0, (by decide : 0 + 0 ≤ _), (by decide : 0 + 0 ≤ _)⟩)
  dsimp only [Pt.U, Pt.locs, Pt.cells, Pt.slots] at X2 l2 y2 z2 st2 hQ2
  subst l2 y2 z2
  obtain ⟨rfl, N2q, Q2_0⟩ := hQ2
  have N2 := Fr.app N1 N2q
  refine run_fwd (T' := T2) (g' := (mkF m 16 #[.val (.long q0), .second, .val (.long q1), .second, .val (.int p2), .val (.long vv), .second, .unset, .unset, .unset, .unset, .unset] [(.long ww)])) (fun _ k => st2 _ k) ?_
  refine run_fwd (T' := T2) (g' := (mkF m 18 #[.val (.long q0), .second, .val (.long q1), .second, .val (.int p2), .val (.long vv), .second, .val (.long ww), .second, .unset, .unset, .unset] [])) (fun _ k => XS.lstore X2.here hx rfl (hb hby at_16) rfl (l' := #[.val (.long q0), .second, .val (.long q1), .second, .val (.int p2), .val (.long vv), .second, .val (.long ww), .second, .unset, .unset, .unset]) rfl k) ?_
  refine run_fwd (T' := T2) (g' := (mkF m 20 #[.val (.long q0), .second, .val (.long q1), .second, .val (.int p2), .val (.long vv), .second, .val (.long ww), .second, .unset, .unset, .unset] [(.long vv)])) (fun _ k => XS.lload X2.here hx rfl (hb hby at_18) rfl k) ?_
  obtain ⟨_, _, ⟨T3, L3, kk3, nn3⟩, -, X3, ⟨Lc3, hQ3, l3, y3, z3⟩, st3⟩ := Jvm.LawKit.callS X2 hx (y := (⟨"com/example/horatius/horatius/Fence", "of", "(J)Lcom/example/horatius/horatius/Fence;"⟩ : MethodName)) hown (mvT hZ (hw _ (List.mem_of_getElem? (i := 4) rfl))) (mvT hZ (hw _ (List.mem_of_getElem? (i := 5) rfl))) (mvT hZ (hw _ (List.mem_of_getElem? (i := 6) rfl))) (mvT hZ (hw _ (List.mem_of_getElem? (i := 7) rfl))) (by decide) (backOf (W := 0) (rm2 l Z aV hw [] vv h0 n0 O0 (hv ▸ (own_rng _ _).1) (hv ▸ (own_rng _ _).2)) hZ (hw _ (List.mem_of_getElem? (i := 7) rfl)) (hw _ (List.mem_of_getElem? (i := 6) rfl)) (by decide) (by decide)) (g := (mkF m 20 #[.val (.long q0), .second, .val (.long q1), .second, .val (.int p2), .val (.long vv), .second, .val (.long ww), .second, .unset, .unset, .unset] [(.long vv)])) rfl (by rw [hml]; rfl) (argsL := [(.long vv)]) (rest := []) (lenOf pd__28J_29Lcom_2fexample_2fhoratius_2fhoratius_2fFence_3b rfl) rfl (by show 2 * 0 + _ ≤ _; exact Nat.le_of_eq rfl) (hb hby at_20) (fun _ _ => ⟨rfl, Q2_0, (by decide : 0 + 1 ≤ _), (by decide : 0 + 1 ≤ _)⟩)
  dsimp only [Pt.U, Pt.locs, Pt.cells, Pt.slots] at X3 l3 y3 z3 st3 hQ3
  subst l3 y3 z3
  obtain ⟨b_3, rfl, N3q, Q3_0, Q3_1, Q3_2, Q3_3⟩ := hQ3
  have N3 := Fr.app N2 N3q
  obtain ⟨h3, e3⟩ : ∃ z, T3.heap = z := ⟨_, rfl⟩
  rw [e3] at Q3_0 Q3_2 Q3_3
  have O4 : Old Z n0 h3 := O0.keep Q3_0 all0
  have K5 : Keep h0 h3 [] := (Keep.refl h0 []).trans Q3_0 all0
  have gg3_1 : n0 ≤ b_3 := Nat.le_trans (own_le O0) Q3_1
  have sz3_1 : h0.size ≤ b_3 := (Nat.le_trans (Keep.refl h0 []).1 Q3_1)
  refine run_fwd (T' := T3) (g' := (mkF m 23 #[.val (.long q0), .second, .val (.long q1), .second, .val (.int p2), .val (.long vv), .second, .val (.long ww), .second, .unset, .unset, .unset] [(.ref b_3)])) (fun _ k => st3 _ k) ?_
  refine run_fwd (T' := T3) (g' := (mkF m 25 #[.val (.long q0), .second, .val (.long q1), .second, .val (.int p2), .val (.long vv), .second, .val (.long ww), .second, .val (.ref b_3), .unset, .unset] [])) (fun _ k => XS.astore X3.here hx rfl (hb hby at_23) rfl rfl (l' := #[.val (.long q0), .second, .val (.long q1), .second, .val (.int p2), .val (.long vv), .second, .val (.long ww), .second, .val (.ref b_3), .unset, .unset]) rfl k) ?_
  refine run_fwd (T' := T3) (g' := (mkF m 27 #[.val (.long q0), .second, .val (.long q1), .second, .val (.int p2), .val (.long vv), .second, .val (.long ww), .second, .val (.ref b_3), .unset, .unset] [(.long ww)])) (fun _ k => XS.lload X3.here hx rfl (hb hby at_25) rfl k) ?_
  obtain ⟨_, _, ⟨T6, L6, kk6, nn6⟩, -, X6, ⟨Lc6, hQ6, l6, y6, z6⟩, st6⟩ := Jvm.LawKit.callS X3 hx (y := (⟨"com/example/horatius/horatius/Fence", "of", "(J)Lcom/example/horatius/horatius/Fence;"⟩ : MethodName)) hown (mvT hZ (hw _ (List.mem_of_getElem? (i := 4) rfl))) (mvT hZ (hw _ (List.mem_of_getElem? (i := 5) rfl))) (mvT hZ (hw _ (List.mem_of_getElem? (i := 6) rfl))) (mvT hZ (hw _ (List.mem_of_getElem? (i := 7) rfl))) (by decide) (backOf (W := 0) (rm2 l Z aV hw [] ww h3 n0 O4 (hw' ▸ (own_rng _ _).1) (hw' ▸ (own_rng _ _).2)) hZ (hw _ (List.mem_of_getElem? (i := 7) rfl)) (hw _ (List.mem_of_getElem? (i := 6) rfl)) (by decide) (by decide)) (g := (mkF m 27 #[.val (.long q0), .second, .val (.long q1), .second, .val (.int p2), .val (.long vv), .second, .val (.long ww), .second, .val (.ref b_3), .unset, .unset] [(.long ww)])) rfl (by rw [hml]; rfl) (argsL := [(.long ww)]) (rest := []) (lenOf pd__28J_29Lcom_2fexample_2fhoratius_2fhoratius_2fFence_3b rfl) rfl (by show 2 * 0 + _ ≤ _; exact Nat.le_of_eq rfl) (hb hby at_27) (fun _ _ => ⟨rfl, e3, (by decide : 1 + 1 ≤ _), (by decide : 1 + 1 ≤ _)⟩)
  dsimp only [Pt.U, Pt.locs, Pt.cells, Pt.slots] at X6 l6 y6 z6 st6 hQ6
  subst l6 y6 z6
  obtain ⟨b_6, rfl, N6q, Q6_0, Q6_1, Q6_2, Q6_3⟩ := hQ6
  have N6 := Fr.app N3 N6q
  obtain ⟨h6, e6⟩ : ∃ z, T6.heap = z := ⟨_, rfl⟩
  rw [e6] at Q6_0 Q6_2 Q6_3
  have O7 : Old Z n0 h6 := O4.keep Q6_0 all0
  have K8 : Keep h0 h6 [] := K5.trans Q6_0 all0
  have gg6_1 : n0 ≤ b_6 := Nat.le_trans (own_le O4) Q6_1
  have sz6_1 : h0.size ≤ b_6 := (Nat.le_trans K5.1 Q6_1)
  refine run_fwd (T' := T6) (g' := (mkF m 30 #[.val (.long q0), .second, .val (.long q1), .second, .val (.int p2), .val (.long vv), .second, .val (.long ww), .second, .val (.ref b_3), .unset, .unset] [(.ref b_6)])) (fun _ k => st6 _ k) ?_
  refine run_fwd (T' := T6) (g' := (mkF m 32 #[.val (.long q0), .second, .val (.long q1), .second, .val (.int p2), .val (.long vv), .second, .val (.long ww), .second, .val (.ref b_3), .val (.ref b_6), .unset] [])) (fun _ k => XS.astore X6.here hx rfl (hb hby at_30) rfl rfl (l' := #[.val (.long q0), .second, .val (.long q1), .second, .val (.int p2), .val (.long vv), .second, .val (.long ww), .second, .val (.ref b_3), .val (.ref b_6), .unset]) rfl k) ?_
  refine run_fwd (T' := T6) (g' := (mkF m 34 #[.val (.long q0), .second, .val (.long q1), .second, .val (.int p2), .val (.long vv), .second, .val (.long ww), .second, .val (.ref b_3), .val (.ref b_6), .unset] [(.ref b_3)])) (fun _ k => XS.aload X6.here hx rfl (hb hby at_32) rfl rfl k) ?_
  have f10 : Fld Z h6 b_3 "com/example/horatius/horatius/Fence" "value" "J" (.long vv) := (Q3_3.keep Q6_0 nin0)
  have f11 : Exa Z h6 b_3 "com/example/horatius/horatius/Fence" := (Q3_2.keep Q6_0)
  obtain ⟨cq9, kq9, q9a, q9b, q9c⟩ := isOf hZ e6 f11
  obtain ⟨_, _, ⟨T9, L9, kk9, nn9⟩, -, X9, ⟨Lc9, hQ9, l9, y9, z9⟩, st9⟩ := X6.virtualBack hx (y := (⟨"com/example/horatius/horatius/Fence", "value", "()J"⟩ : MethodName)) (z := (⟨"com/example/horatius/horatius/Fence", "value", "()J"⟩ : MethodName)) hown (mvT hZ (hw _ (List.mem_of_getElem? (i := 19) rfl))) (mvT hZ (hw _ (List.mem_of_getElem? (i := 20) rfl))) (notFace_of_selects (args := #[]) (mvT hZ (hw _ (List.mem_of_getElem? (i := 22) rfl)))) (mvT hZ (hw _ (List.mem_of_getElem? (i := 22) rfl))) (mvT hZ (hw _ (List.mem_of_getElem? (i := 21) rfl))) (by decide) (backOf (W := 0) (rm5 l Z aV hw [] b_3 vv h6 n0 O7 f10) hZ (hw _ (List.mem_of_getElem? (i := 23) rfl)) (hw _ (List.mem_of_getElem? (i := 6) rfl)) (by decide) (by decide)) q9a q9c (g := (mkF m 34 #[.val (.long q0), .second, .val (.long q1), .second, .val (.int p2), .val (.long vv), .second, .val (.long ww), .second, .val (.ref b_3), .val (.ref b_6), .unset] [(.ref b_3)])) rfl (by rw [hml]; rfl) (Steps.refl _) (argsL := []) (rest := []) (lenOf pd__28_29J rfl) rfl (by show 2 * 0 + _ ≤ _; exact Nat.le_of_eq rfl) (hb hby at_34) (fun _ _ => ⟨rfl, e6, (by decide : 2 + 0 ≤ _), (by decide : 2 + 0 ≤ _)⟩)
  dsimp only [Pt.U, Pt.locs, Pt.cells, Pt.slots] at X9 l9 y9 z9 st9 hQ9
  subst l9 y9 z9
  obtain ⟨rfl, N9q, Q9_0⟩ := hQ9
  have N9 := Fr.app N6 N9q
  refine run_fwd (T' := T9) (g' := (mkF m 37 #[.val (.long q0), .second, .val (.long q1), .second, .val (.int p2), .val (.long vv), .second, .val (.long ww), .second, .val (.ref b_3), .val (.ref b_6), .unset] [(.long vv)])) (fun _ k => st9.trans k) ?_
  refine run_fwd (T' := T9) (g' := (mkF m 39 #[.val (.long q0), .second, .val (.long q1), .second, .val (.int p2), .val (.long vv), .second, .val (.long ww), .second, .val (.ref b_3), .val (.ref b_6), .unset] [(.long vv), (.long vv)])) (fun _ k => XS.lload X9.here hx rfl (hb hby at_37) rfl k) ?_
  refine run_fwd (T' := T9) (g' := (mkF m 40 #[.val (.long q0), .second, .val (.long q1), .second, .val (.int p2), .val (.long vv), .second, .val (.long ww), .second, .val (.ref b_3), .val (.ref b_6), .unset] [(.int (lcmpW vv vv))])) (fun _ k => XS.lcmp X9.here hx rfl (hb hby at_39) rfl k) ?_
  have hc40_12 : vv = vv := rfl
  refine run_fwd (T' := T9) (g' := (mkF m 45 #[.val (.long q0), .second, .val (.long q1), .second, .val (.int p2), .val (.long vv), .second, .val (.long ww), .second, .val (.ref b_3), .val (.ref b_6), .unset] [])) (fun _ k => XS.ifYes X9.here hx rfl (pc0 := 40) (pc' := 45) rfl (hb hby at_40) rfl ((if0 _ _).trans (teq ((lw_eq vv vv).mpr hc40_12)).1) (by decide) (by decide) k) ?_
  refine run_fwd (T' := T9) (g' := (mkF m 47 #[.val (.long q0), .second, .val (.long q1), .second, .val (.int p2), .val (.long vv), .second, .val (.long ww), .second, .val (.ref b_3), .val (.ref b_6), .unset] [(.ref b_6)])) (fun _ k => XS.aload X9.here hx rfl (hb hby at_45) rfl rfl k) ?_
  obtain ⟨cq13, kq13, q13a, q13b, q13c⟩ := isOf hZ Q9_0 Q6_2
  obtain ⟨_, _, ⟨T13, L13, kk13, nn13⟩, -, X13, ⟨Lc13, hQ13, l13, y13, z13⟩, st13⟩ := X9.virtualBack hx (y := (⟨"com/example/horatius/horatius/Fence", "value", "()J"⟩ : MethodName)) (z := (⟨"com/example/horatius/horatius/Fence", "value", "()J"⟩ : MethodName)) hown (mvT hZ (hw _ (List.mem_of_getElem? (i := 19) rfl))) (mvT hZ (hw _ (List.mem_of_getElem? (i := 20) rfl))) (notFace_of_selects (args := #[]) (mvT hZ (hw _ (List.mem_of_getElem? (i := 22) rfl)))) (mvT hZ (hw _ (List.mem_of_getElem? (i := 22) rfl))) (mvT hZ (hw _ (List.mem_of_getElem? (i := 21) rfl))) (by decide) (backOf (W := 0) (rm5 l Z aV hw [] b_6 ww h6 n0 O7 Q6_3) hZ (hw _ (List.mem_of_getElem? (i := 23) rfl)) (hw _ (List.mem_of_getElem? (i := 6) rfl)) (by decide) (by decide)) q13a q13c (g := (mkF m 47 #[.val (.long q0), .second, .val (.long q1), .second, .val (.int p2), .val (.long vv), .second, .val (.long ww), .second, .val (.ref b_3), .val (.ref b_6), .unset] [(.ref b_6)])) rfl (by rw [hml]; rfl) (Steps.refl _) (argsL := []) (rest := []) (lenOf pd__28_29J rfl) rfl (by show 2 * 0 + _ ≤ _; exact Nat.le_of_eq rfl) (hb hby at_47) (fun _ _ => ⟨rfl, Q9_0, (by decide : 2 + 0 ≤ _), (by decide : 2 + 0 ≤ _)⟩)
  dsimp only [Pt.U, Pt.locs, Pt.cells, Pt.slots] at X13 l13 y13 z13 st13 hQ13
  subst l13 y13 z13
  obtain ⟨rfl, N13q, Q13_0⟩ := hQ13
  have N13 := Fr.app N9 N13q
  refine run_fwd (T' := T13) (g' := (mkF m 50 #[.val (.long q0), .second, .val (.long q1), .second, .val (.int p2), .val (.long vv), .second, .val (.long ww), .second, .val (.ref b_3), .val (.ref b_6), .unset] [(.long ww)])) (fun _ k => st13.trans k) ?_
  refine run_fwd (T' := T13) (g' := (mkF m 52 #[.val (.long q0), .second, .val (.long q1), .second, .val (.int p2), .val (.long vv), .second, .val (.long ww), .second, .val (.ref b_3), .val (.ref b_6), .unset] [(.long ww), (.long ww)])) (fun _ k => XS.lload X13.here hx rfl (hb hby at_50) rfl k) ?_
  refine run_fwd (T' := T13) (g' := (mkF m 53 #[.val (.long q0), .second, .val (.long q1), .second, .val (.int p2), .val (.long vv), .second, .val (.long ww), .second, .val (.ref b_3), .val (.ref b_6), .unset] [(.int (lcmpW ww ww))])) (fun _ k => XS.lcmp X13.here hx rfl (hb hby at_52) rfl k) ?_
  have hc53_14 : ww = ww := rfl
  refine run_fwd (T' := T13) (g' := (mkF m 58 #[.val (.long q0), .second, .val (.long q1), .second, .val (.int p2), .val (.long vv), .second, .val (.long ww), .second, .val (.ref b_3), .val (.ref b_6), .unset] [])) (fun _ k => XS.ifYes X13.here hx rfl (pc0 := 53) (pc' := 58) rfl (hb hby at_53) rfl ((if0 _ _).trans (teq ((lw_eq ww ww).mpr hc53_14)).1) (by decide) (by decide) k) ?_
  refine run_fwd (T' := T13) (g' := (mkF m 60 #[.val (.long q0), .second, .val (.long q1), .second, .val (.int p2), .val (.long vv), .second, .val (.long ww), .second, .val (.ref b_3), .val (.ref b_6), .unset] [(.ref b_3)])) (fun _ k => XS.aload X13.here hx rfl (hb hby at_58) rfl rfl k) ?_
  refine run_fwd (T' := T13) (g' := (mkF m 62 #[.val (.long q0), .second, .val (.long q1), .second, .val (.int p2), .val (.long vv), .second, .val (.long ww), .second, .val (.ref b_3), .val (.ref b_6), .unset] [(.ref b_6), (.ref b_3)])) (fun _ k => XS.aload X13.here hx rfl (hb hby at_60) rfl rfl k) ?_
  obtain ⟨cq15, kq15, q15a, q15b, q15c⟩ := isOf hZ Q13_0 f11
  obtain ⟨_, _, ⟨T15, L15, kk15, nn15⟩, -, X15, ⟨Lc15, hQ15, l15, y15, z15⟩, st15⟩ := X13.virtualBack hx (y := (⟨"com/example/horatius/horatius/Fence", "equals", "(Ljava/lang/Object;)Z"⟩ : MethodName)) (z := (⟨"com/example/horatius/horatius/Fence", "equals", "(Ljava/lang/Object;)Z"⟩ : MethodName)) hown (mvT hZ (hw _ (List.mem_of_getElem? (i := 24) rfl))) (mvT hZ (hw _ (List.mem_of_getElem? (i := 25) rfl))) (notFace_of_selects (args := #[]) (mvT hZ (hw _ (List.mem_of_getElem? (i := 27) rfl)))) (mvT hZ (hw _ (List.mem_of_getElem? (i := 27) rfl))) (mvT hZ (hw _ (List.mem_of_getElem? (i := 26) rfl))) (by decide) (backOf (W := 0) (rm6 l Z aV hw [] b_3 b_6 vv ww h6 n0 O7 Q6_2 f10 Q6_3) hZ (hw _ (List.mem_of_getElem? (i := 28) rfl)) (hw _ (List.mem_of_getElem? (i := 6) rfl)) (by decide) (by decide)) q15a q15c (g := (mkF m 62 #[.val (.long q0), .second, .val (.long q1), .second, .val (.int p2), .val (.long vv), .second, .val (.long ww), .second, .val (.ref b_3), .val (.ref b_6), .unset] [(.ref b_6), (.ref b_3)])) rfl (by rw [hml]; rfl) (Steps.refl _) (argsL := [(.ref b_6)]) (rest := []) (lenOf pd__28Ljava_2flang_2fObject_3b_29Z rfl) rfl (by show 2 * 0 + _ ≤ _; exact Nat.le_of_eq rfl) (hb hby at_62) (fun _ _ => ⟨rfl, Q13_0, (by decide : 2 + 0 ≤ _), (by decide : 2 + 0 ≤ _)⟩)
  dsimp only [Pt.U, Pt.locs, Pt.cells, Pt.slots] at X15 l15 y15 z15 st15 hQ15
  subst l15 y15 z15
  obtain ⟨rfl, N15q, Q15_0⟩ := hQ15
  have N15 := Fr.app N13 N15q
  refine run_fwd (T' := T15) (g' := (mkF m 65 #[.val (.long q0), .second, .val (.long q1), .second, .val (.int p2), .val (.long vv), .second, .val (.long ww), .second, .val (.ref b_3), .val (.ref b_6), .unset] [(.int (own_same ww vv))])) (fun _ k => st15.trans k) ?_
  refine run_fwd (T' := T15) (g' := (mkF m 67 #[.val (.long q0), .second, .val (.long q1), .second, .val (.int p2), .val (.long vv), .second, .val (.long ww), .second, .val (.ref b_3), .val (.ref b_6), .unset] [(.long vv), (.int (own_same ww vv))])) (fun _ k => XS.lload X15.here hx rfl (hb hby at_65) rfl k) ?_
  refine run_fwd (T' := T15) (g' := (mkF m 69 #[.val (.long q0), .second, .val (.long q1), .second, .val (.int p2), .val (.long vv), .second, .val (.long ww), .second, .val (.ref b_3), .val (.ref b_6), .unset] [(.long ww), (.long vv), (.int (own_same ww vv))])) (fun _ k => XS.lload X15.here hx rfl (hb hby at_67) rfl k) ?_
  refine run_fwd (T' := T15) (g' := (mkF m 70 #[.val (.long q0), .second, .val (.long q1), .second, .val (.int p2), .val (.long vv), .second, .val (.long ww), .second, .val (.ref b_3), .val (.ref b_6), .unset] [(.int (lcmpW vv ww)), (.int (own_same ww vv))])) (fun _ k => XS.lcmp X15.here hx rfl (hb hby at_69) rfl k) ?_
  by_cases hc70_16 : vv = ww
  ·
    refine run_fwd (T' := T15) (g' := (mkF m 73 #[.val (.long q0), .second, .val (.long q1), .second, .val (.int p2), .val (.long vv), .second, .val (.long ww), .second, .val (.ref b_3), .val (.ref b_6), .unset] [(.int (own_same ww vv))])) (fun _ k => XS.ifNo X15.here hx rfl (hb hby at_70) rfl ((if0 _ _).trans (teq ((lw_eq vv ww).mpr hc70_16)).2) k) ?_
    refine run_fwd (T' := T15) (g' := (mkF m 74 #[.val (.long q0), .second, .val (.long q1), .second, .val (.int p2), .val (.long vv), .second, .val (.long ww), .second, .val (.ref b_3), .val (.ref b_6), .unset] [(.int (1 : Int32)), (.int (own_same ww vv))])) (fun _ k => XS.iconst X15.here hx rfl (hb hby at_73) k) ?_
    refine run_fwd (T' := T15) (g' := (mkF m 78 #[.val (.long q0), .second, .val (.long q1), .second, .val (.int p2), .val (.long vv), .second, .val (.long ww), .second, .val (.ref b_3), .val (.ref b_6), .unset] [(.int (1 : Int32)), (.int (own_same ww vv))])) (fun _ k => XS.goto X15.here hx rfl (pc0 := 74) (pc' := 78) rfl (hb hby at_74) (by decide) (by decide) k) ?_
    have hc78_17 : (own_same ww vv) = (1 : Int32) := by rw [own_same, if_pos hc70_16.symm]
    refine run_fwd (T' := T15) (g' := (mkF m 83 #[.val (.long q0), .second, .val (.long q1), .second, .val (.int p2), .val (.long vv), .second, .val (.long ww), .second, .val (.ref b_3), .val (.ref b_6), .unset] [])) (fun _ k => XS.icmpYes X15.here hx rfl (pc0 := 78) (pc' := 83) rfl (hb hby at_78) rfl (teq hc78_17).1 (by decide) (by decide) k) ?_
    refine run_fwd (T' := T15) (g' := (mkF m 85 #[.val (.long q0), .second, .val (.long q1), .second, .val (.int p2), .val (.long vv), .second, .val (.long ww), .second, .val (.ref b_3), .val (.ref b_6), .unset] [(.long vv)])) (fun _ k => XS.lload X15.here hx rfl (hb hby at_83) rfl k) ?_
    refine run_fwd (T' := T15) (g' := (mkF m 87 #[.val (.long q0), .second, .val (.long q1), .second, .val (.int p2), .val (.long vv), .second, .val (.long ww), .second, .val (.ref b_3), .val (.ref b_6), .unset] [(.long ww), (.long vv)])) (fun _ k => XS.lload X15.here hx rfl (hb hby at_85) rfl k) ?_
    refine run_fwd (T' := T15) (g' := (mkF m 88 #[.val (.long q0), .second, .val (.long q1), .second, .val (.int p2), .val (.long vv), .second, .val (.long ww), .second, .val (.ref b_3), .val (.ref b_6), .unset] [(.int (lcmpW vv ww))])) (fun _ k => XS.lcmp X15.here hx rfl (hb hby at_87) rfl k) ?_
    by_cases hc88_18 : vv < ww
    ·
      refine run_fwd (T' := T15) (g' := (mkF m 91 #[.val (.long q0), .second, .val (.long q1), .second, .val (.int p2), .val (.long vv), .second, .val (.long ww), .second, .val (.ref b_3), .val (.ref b_6), .unset] [])) (fun _ k => XS.ifNo X15.here hx rfl (hb hby at_88) rfl ((if0 _ _).trans (tlt ((lw_lt vv ww).mpr hc88_18)).2.1) k) ?_
      refine run_fwd (T' := T15) (g' := (mkF m 92 #[.val (.long q0), .second, .val (.long q1), .second, .val (.int p2), .val (.long vv), .second, .val (.long ww), .second, .val (.ref b_3), .val (.ref b_6), .unset] [(.int (-1 : Int32))])) (fun _ k => XS.iconst X15.here hx rfl (hb hby at_91) k) ?_
      refine run_fwd (T' := T15) (g' := (mkF m 108 #[.val (.long q0), .second, .val (.long q1), .second, .val (.int p2), .val (.long vv), .second, .val (.long ww), .second, .val (.ref b_3), .val (.ref b_6), .unset] [(.int (-1 : Int32))])) (fun _ k => XS.goto X15.here hx rfl (pc0 := 92) (pc' := 108) rfl (hb hby at_92) (by decide) (by decide) k) ?_
      refine run_fwd (T' := T15) (g' := (mkF m 110 #[.val (.long q0), .second, .val (.long q1), .second, .val (.int p2), .val (.long vv), .second, .val (.long ww), .second, .val (.ref b_3), .val (.ref b_6), .val (.int (-1 : Int32))] [])) (fun _ k => XS.istore X15.here hx rfl (hb hby at_108) rfl (l' := #[.val (.long q0), .second, .val (.long q1), .second, .val (.int p2), .val (.long vv), .second, .val (.long ww), .second, .val (.ref b_3), .val (.ref b_6), .val (.int (-1 : Int32))]) rfl k) ?_
      refine run_fwd (T' := T15) (g' := (mkF m 112 #[.val (.long q0), .second, .val (.long q1), .second, .val (.int p2), .val (.long vv), .second, .val (.long ww), .second, .val (.ref b_3), .val (.ref b_6), .val (.int (-1 : Int32))] [(.ref b_3)])) (fun _ k => XS.aload X15.here hx rfl (hb hby at_110) rfl rfl k) ?_
      refine run_fwd (T' := T15) (g' := (mkF m 114 #[.val (.long q0), .second, .val (.long q1), .second, .val (.int p2), .val (.long vv), .second, .val (.long ww), .second, .val (.ref b_3), .val (.ref b_6), .val (.int (-1 : Int32))] [(.ref b_6), (.ref b_3)])) (fun _ k => XS.aload X15.here hx rfl (hb hby at_112) rfl rfl k) ?_
      obtain ⟨cq19, kq19, q19a, q19b, q19c⟩ := isOf hZ Q15_0 f11
      obtain ⟨_, _, ⟨T19, L19, kk19, nn19⟩, -, X19, ⟨Lc19, hQ19, l19, y19, z19⟩, st19⟩ := X15.virtualBack hx (y := (⟨"com/example/horatius/horatius/Fence", "compareTo", "(Lcom/example/horatius/horatius/Fence;)I"⟩ : MethodName)) (z := (⟨"com/example/horatius/horatius/Fence", "compareTo", "(Lcom/example/horatius/horatius/Fence;)I"⟩ : MethodName)) hown (mvT hZ (hw _ (List.mem_of_getElem? (i := 30) rfl))) (mvT hZ (hw _ (List.mem_of_getElem? (i := 31) rfl))) (notFace_of_selects (args := #[]) (mvT hZ (hw _ (List.mem_of_getElem? (i := 33) rfl)))) (mvT hZ (hw _ (List.mem_of_getElem? (i := 33) rfl))) (mvT hZ (hw _ (List.mem_of_getElem? (i := 32) rfl))) (by decide) (backOf (W := 0) (rm7 l Z aV hw [] b_3 b_6 vv ww h6 n0 O7 f10 Q6_3) hZ (hw _ (List.mem_of_getElem? (i := 34) rfl)) (hw _ (List.mem_of_getElem? (i := 6) rfl)) (by decide) (by decide)) q19a q19c (g := (mkF m 114 #[.val (.long q0), .second, .val (.long q1), .second, .val (.int p2), .val (.long vv), .second, .val (.long ww), .second, .val (.ref b_3), .val (.ref b_6), .val (.int (-1 : Int32))] [(.ref b_6), (.ref b_3)])) rfl (by rw [hml]; rfl) (Steps.refl _) (argsL := [(.ref b_6)]) (rest := []) (lenOf pd__28Lcom_2fexample_2fhoratius_2fhoratius_2fFence_3b_29I rfl) rfl (by show 2 * 0 + _ ≤ _; exact Nat.le_of_eq rfl) (hb hby at_114) (fun _ _ => ⟨rfl, Q15_0, (by decide : 2 + 0 ≤ _), (by decide : 2 + 0 ≤ _)⟩)
      dsimp only [Pt.U, Pt.locs, Pt.cells, Pt.slots] at X19 l19 y19 z19 st19 hQ19
      subst l19 y19 z19
      obtain ⟨rfl, N19q, Q19_0⟩ := hQ19
      have N19 := Fr.app N15 N19q
      refine run_fwd (T' := T19) (g' := (mkF m 117 #[.val (.long q0), .second, .val (.long q1), .second, .val (.int p2), .val (.long vv), .second, .val (.long ww), .second, .val (.ref b_3), .val (.ref b_6), .val (.int (-1 : Int32))] [(.int (own_cmp vv ww))])) (fun _ k => st19.trans k) ?_
      refine run_fwd (T' := T19) (g' := (mkF m 118 #[.val (.long q0), .second, .val (.long q1), .second, .val (.int p2), .val (.long vv), .second, .val (.long ww), .second, .val (.ref b_3), .val (.ref b_6), .val (.int (-1 : Int32))] [(.long ((own_cmp vv ww).toInt64))])) (fun _ k => XS.i2l X19.here hx rfl (hb hby at_117) rfl k) ?_
      obtain ⟨_, _, ⟨T20, L20, kk20, nn20⟩, -, X20, ⟨Lc20, hQ20, l20, y20, z20⟩, st20⟩ := Jvm.LawKit.callS X19 hx (y := (⟨"com/example/horatius/horatius/FenceOfPinLaw", "sign", "(J)I"⟩ : MethodName)) hown (mvT hZ (hw _ (List.mem_of_getElem? (i := 39) rfl))) (mvT hZ (hw _ (List.mem_of_getElem? (i := 40) rfl))) (mvT hZ (hw _ (List.mem_of_getElem? (i := 2) rfl))) (mvT hZ (hw _ (List.mem_of_getElem? (i := 41) rfl))) (by decide) (backOf (W := 0) (rm9 l Z aV hw [] ((own_cmp vv ww).toInt64) h6 n0 O7 ) hZ (hw _ (List.mem_of_getElem? (i := 41) rfl)) (hw _ (List.mem_of_getElem? (i := 2) rfl)) (by decide) (by decide)) (g := (mkF m 118 #[.val (.long q0), .second, .val (.long q1), .second, .val (.int p2), .val (.long vv), .second, .val (.long ww), .second, .val (.ref b_3), .val (.ref b_6), .val (.int (-1 : Int32))] [(.long ((own_cmp vv ww).toInt64))])) rfl (by rw [hml]; rfl) (argsL := [(.long ((own_cmp vv ww).toInt64))]) (rest := []) (lenOf pd__28J_29I rfl) rfl (by show 2 * 0 + _ ≤ _; exact Nat.le_of_eq rfl) (hb hby at_118) (fun _ _ => ⟨rfl, Q19_0, (by decide : 2 + 0 ≤ _), (by decide : 2 + 0 ≤ _)⟩)
      dsimp only [Pt.U, Pt.locs, Pt.cells, Pt.slots] at X20 l20 y20 z20 st20 hQ20
      subst l20 y20 z20
      obtain ⟨rfl, N20q, Q20_0⟩ := hQ20
      have N20 := Fr.app N19 N20q
      refine run_fwd (T' := T20) (g' := (mkF m 121 #[.val (.long q0), .second, .val (.long q1), .second, .val (.int p2), .val (.long vv), .second, .val (.long ww), .second, .val (.ref b_3), .val (.ref b_6), .val (.int (-1 : Int32))] [(.int (own_sign ((own_cmp vv ww).toInt64)))])) (fun _ k => st20 _ k) ?_
      refine run_fwd (T' := T20) (g' := (mkF m 123 #[.val (.long q0), .second, .val (.long q1), .second, .val (.int p2), .val (.long vv), .second, .val (.long ww), .second, .val (.ref b_3), .val (.ref b_6), .val (.int (-1 : Int32))] [(.int (-1 : Int32)), (.int (own_sign ((own_cmp vv ww).toInt64)))])) (fun _ k => XS.iload X20.here hx rfl (hb hby at_121) rfl k) ?_
      have hc123_21 : (own_sign ((own_cmp vv ww).toInt64)) = (-1 : Int32) := own_end _ _ hc88_18
      refine run_fwd (T' := T20) (g' := (mkF m 126 #[.val (.long q0), .second, .val (.long q1), .second, .val (.int p2), .val (.long vv), .second, .val (.long ww), .second, .val (.ref b_3), .val (.ref b_6), .val (.int (-1 : Int32))] [])) (fun _ k => XS.icmpNo X20.here hx rfl (hb hby at_123) rfl (teq hc123_21).2 k) ?_
      refine run_fwd (T' := T20) (g' := (mkF m 127 #[.val (.long q0), .second, .val (.long q1), .second, .val (.int p2), .val (.long vv), .second, .val (.long ww), .second, .val (.ref b_3), .val (.ref b_6), .val (.int (-1 : Int32))] [(.int (1 : Int32))])) (fun _ k => XS.iconst X20.here hx rfl (hb hby at_126) k) ?_
      refine run_fwd (T' := T20) (g' := (mkF m 131 #[.val (.long q0), .second, .val (.long q1), .second, .val (.int p2), .val (.long vv), .second, .val (.long ww), .second, .val (.ref b_3), .val (.ref b_6), .val (.int (-1 : Int32))] [(.int (1 : Int32))])) (fun _ k => XS.goto X20.here hx rfl (pc0 := 127) (pc' := 131) rfl (hb hby at_127) (by decide) (by decide) k) ?_
      exact run_ret X20 hx Bd.returns Bd.notSynchronized rfl (Or.inl ⟨rfl, by simp, _, rfl⟩) (hb hby at_131) (by rw [Q20_0]; exact ⟨rfl, N20⟩) (by decide) (by decide)
    ·
      refine run_fwd (T' := T15) (g' := (mkF m 95 #[.val (.long q0), .second, .val (.long q1), .second, .val (.int p2), .val (.long vv), .second, .val (.long ww), .second, .val (.ref b_3), .val (.ref b_6), .unset] [])) (fun _ k => XS.ifYes X15.here hx rfl (pc0 := 88) (pc' := 95) rfl (hb hby at_88) rfl ((if0 _ _).trans (flt (fun z => hc88_18 ((lw_lt vv ww).mp z))).2.1) (by decide) (by decide) k) ?_
      refine run_fwd (T' := T15) (g' := (mkF m 97 #[.val (.long q0), .second, .val (.long q1), .second, .val (.int p2), .val (.long vv), .second, .val (.long ww), .second, .val (.ref b_3), .val (.ref b_6), .unset] [(.long vv)])) (fun _ k => XS.lload X15.here hx rfl (hb hby at_95) rfl k) ?_
      refine run_fwd (T' := T15) (g' := (mkF m 99 #[.val (.long q0), .second, .val (.long q1), .second, .val (.int p2), .val (.long vv), .second, .val (.long ww), .second, .val (.ref b_3), .val (.ref b_6), .unset] [(.long ww), (.long vv)])) (fun _ k => XS.lload X15.here hx rfl (hb hby at_97) rfl k) ?_
      refine run_fwd (T' := T15) (g' := (mkF m 100 #[.val (.long q0), .second, .val (.long q1), .second, .val (.int p2), .val (.long vv), .second, .val (.long ww), .second, .val (.ref b_3), .val (.ref b_6), .unset] [(.int (lcmpW vv ww))])) (fun _ k => XS.lcmp X15.here hx rfl (hb hby at_99) rfl k) ?_
      by_cases hc100_22 : ww < vv
      ·
        refine run_fwd (T' := T15) (g' := (mkF m 103 #[.val (.long q0), .second, .val (.long q1), .second, .val (.int p2), .val (.long vv), .second, .val (.long ww), .second, .val (.ref b_3), .val (.ref b_6), .unset] [])) (fun _ k => XS.ifNo X15.here hx rfl (hb hby at_100) rfl ((if0 _ _).trans (tlt ((lw_gt vv ww).mpr hc100_22)).2.2.2) k) ?_
        refine run_fwd (T' := T15) (g' := (mkF m 104 #[.val (.long q0), .second, .val (.long q1), .second, .val (.int p2), .val (.long vv), .second, .val (.long ww), .second, .val (.ref b_3), .val (.ref b_6), .unset] [(.int (1 : Int32))])) (fun _ k => XS.iconst X15.here hx rfl (hb hby at_103) k) ?_
        refine run_fwd (T' := T15) (g' := (mkF m 108 #[.val (.long q0), .second, .val (.long q1), .second, .val (.int p2), .val (.long vv), .second, .val (.long ww), .second, .val (.ref b_3), .val (.ref b_6), .unset] [(.int (1 : Int32))])) (fun _ k => XS.goto X15.here hx rfl (pc0 := 104) (pc' := 108) rfl (hb hby at_104) (by decide) (by decide) k) ?_
        refine run_fwd (T' := T15) (g' := (mkF m 110 #[.val (.long q0), .second, .val (.long q1), .second, .val (.int p2), .val (.long vv), .second, .val (.long ww), .second, .val (.ref b_3), .val (.ref b_6), .val (.int (1 : Int32))] [])) (fun _ k => XS.istore X15.here hx rfl (hb hby at_108) rfl (l' := #[.val (.long q0), .second, .val (.long q1), .second, .val (.int p2), .val (.long vv), .second, .val (.long ww), .second, .val (.ref b_3), .val (.ref b_6), .val (.int (1 : Int32))]) rfl k) ?_
        refine run_fwd (T' := T15) (g' := (mkF m 112 #[.val (.long q0), .second, .val (.long q1), .second, .val (.int p2), .val (.long vv), .second, .val (.long ww), .second, .val (.ref b_3), .val (.ref b_6), .val (.int (1 : Int32))] [(.ref b_3)])) (fun _ k => XS.aload X15.here hx rfl (hb hby at_110) rfl rfl k) ?_
        refine run_fwd (T' := T15) (g' := (mkF m 114 #[.val (.long q0), .second, .val (.long q1), .second, .val (.int p2), .val (.long vv), .second, .val (.long ww), .second, .val (.ref b_3), .val (.ref b_6), .val (.int (1 : Int32))] [(.ref b_6), (.ref b_3)])) (fun _ k => XS.aload X15.here hx rfl (hb hby at_112) rfl rfl k) ?_
        obtain ⟨cq23, kq23, q23a, q23b, q23c⟩ := isOf hZ Q15_0 f11
        obtain ⟨_, _, ⟨T23, L23, kk23, nn23⟩, -, X23, ⟨Lc23, hQ23, l23, y23, z23⟩, st23⟩ := X15.virtualBack hx (y := (⟨"com/example/horatius/horatius/Fence", "compareTo", "(Lcom/example/horatius/horatius/Fence;)I"⟩ : MethodName)) (z := (⟨"com/example/horatius/horatius/Fence", "compareTo", "(Lcom/example/horatius/horatius/Fence;)I"⟩ : MethodName)) hown (mvT hZ (hw _ (List.mem_of_getElem? (i := 30) rfl))) (mvT hZ (hw _ (List.mem_of_getElem? (i := 31) rfl))) (notFace_of_selects (args := #[]) (mvT hZ (hw _ (List.mem_of_getElem? (i := 33) rfl)))) (mvT hZ (hw _ (List.mem_of_getElem? (i := 33) rfl))) (mvT hZ (hw _ (List.mem_of_getElem? (i := 32) rfl))) (by decide) (backOf (W := 0) (rm7 l Z aV hw [] b_3 b_6 vv ww h6 n0 O7 f10 Q6_3) hZ (hw _ (List.mem_of_getElem? (i := 34) rfl)) (hw _ (List.mem_of_getElem? (i := 6) rfl)) (by decide) (by decide)) q23a q23c (g := (mkF m 114 #[.val (.long q0), .second, .val (.long q1), .second, .val (.int p2), .val (.long vv), .second, .val (.long ww), .second, .val (.ref b_3), .val (.ref b_6), .val (.int (1 : Int32))] [(.ref b_6), (.ref b_3)])) rfl (by rw [hml]; rfl) (Steps.refl _) (argsL := [(.ref b_6)]) (rest := []) (lenOf pd__28Lcom_2fexample_2fhoratius_2fhoratius_2fFence_3b_29I rfl) rfl (by show 2 * 0 + _ ≤ _; exact Nat.le_of_eq rfl) (hb hby at_114) (fun _ _ => ⟨rfl, Q15_0, (by decide : 2 + 0 ≤ _), (by decide : 2 + 0 ≤ _)⟩)
        dsimp only [Pt.U, Pt.locs, Pt.cells, Pt.slots] at X23 l23 y23 z23 st23 hQ23
        subst l23 y23 z23
        obtain ⟨rfl, N23q, Q23_0⟩ := hQ23
        have N23 := Fr.app N15 N23q
        refine run_fwd (T' := T23) (g' := (mkF m 117 #[.val (.long q0), .second, .val (.long q1), .second, .val (.int p2), .val (.long vv), .second, .val (.long ww), .second, .val (.ref b_3), .val (.ref b_6), .val (.int (1 : Int32))] [(.int (own_cmp vv ww))])) (fun _ k => st23.trans k) ?_
        refine run_fwd (T' := T23) (g' := (mkF m 118 #[.val (.long q0), .second, .val (.long q1), .second, .val (.int p2), .val (.long vv), .second, .val (.long ww), .second, .val (.ref b_3), .val (.ref b_6), .val (.int (1 : Int32))] [(.long ((own_cmp vv ww).toInt64))])) (fun _ k => XS.i2l X23.here hx rfl (hb hby at_117) rfl k) ?_
        obtain ⟨_, _, ⟨T24, L24, kk24, nn24⟩, -, X24, ⟨Lc24, hQ24, l24, y24, z24⟩, st24⟩ := Jvm.LawKit.callS X23 hx (y := (⟨"com/example/horatius/horatius/FenceOfPinLaw", "sign", "(J)I"⟩ : MethodName)) hown (mvT hZ (hw _ (List.mem_of_getElem? (i := 39) rfl))) (mvT hZ (hw _ (List.mem_of_getElem? (i := 40) rfl))) (mvT hZ (hw _ (List.mem_of_getElem? (i := 2) rfl))) (mvT hZ (hw _ (List.mem_of_getElem? (i := 41) rfl))) (by decide) (backOf (W := 0) (rm9 l Z aV hw [] ((own_cmp vv ww).toInt64) h6 n0 O7 ) hZ (hw _ (List.mem_of_getElem? (i := 41) rfl)) (hw _ (List.mem_of_getElem? (i := 2) rfl)) (by decide) (by decide)) (g := (mkF m 118 #[.val (.long q0), .second, .val (.long q1), .second, .val (.int p2), .val (.long vv), .second, .val (.long ww), .second, .val (.ref b_3), .val (.ref b_6), .val (.int (1 : Int32))] [(.long ((own_cmp vv ww).toInt64))])) rfl (by rw [hml]; rfl) (argsL := [(.long ((own_cmp vv ww).toInt64))]) (rest := []) (lenOf pd__28J_29I rfl) rfl (by show 2 * 0 + _ ≤ _; exact Nat.le_of_eq rfl) (hb hby at_118) (fun _ _ => ⟨rfl, Q23_0, (by decide : 2 + 0 ≤ _), (by decide : 2 + 0 ≤ _)⟩)
        dsimp only [Pt.U, Pt.locs, Pt.cells, Pt.slots] at X24 l24 y24 z24 st24 hQ24
        subst l24 y24 z24
        obtain ⟨rfl, N24q, Q24_0⟩ := hQ24
        have N24 := Fr.app N23 N24q
        refine run_fwd (T' := T24) (g' := (mkF m 121 #[.val (.long q0), .second, .val (.long q1), .second, .val (.int p2), .val (.long vv), .second, .val (.long ww), .second, .val (.ref b_3), .val (.ref b_6), .val (.int (1 : Int32))] [(.int (own_sign ((own_cmp vv ww).toInt64)))])) (fun _ k => st24 _ k) ?_
        refine run_fwd (T' := T24) (g' := (mkF m 123 #[.val (.long q0), .second, .val (.long q1), .second, .val (.int p2), .val (.long vv), .second, .val (.long ww), .second, .val (.ref b_3), .val (.ref b_6), .val (.int (1 : Int32))] [(.int (1 : Int32)), (.int (own_sign ((own_cmp vv ww).toInt64)))])) (fun _ k => XS.iload X24.here hx rfl (hb hby at_121) rfl k) ?_
        have hc123_25 : (own_sign ((own_cmp vv ww).toInt64)) = (1 : Int32) := own_end0 _ _ hc88_18 hc100_22
        refine run_fwd (T' := T24) (g' := (mkF m 126 #[.val (.long q0), .second, .val (.long q1), .second, .val (.int p2), .val (.long vv), .second, .val (.long ww), .second, .val (.ref b_3), .val (.ref b_6), .val (.int (1 : Int32))] [])) (fun _ k => XS.icmpNo X24.here hx rfl (hb hby at_123) rfl (teq hc123_25).2 k) ?_
        refine run_fwd (T' := T24) (g' := (mkF m 127 #[.val (.long q0), .second, .val (.long q1), .second, .val (.int p2), .val (.long vv), .second, .val (.long ww), .second, .val (.ref b_3), .val (.ref b_6), .val (.int (1 : Int32))] [(.int (1 : Int32))])) (fun _ k => XS.iconst X24.here hx rfl (hb hby at_126) k) ?_
        refine run_fwd (T' := T24) (g' := (mkF m 131 #[.val (.long q0), .second, .val (.long q1), .second, .val (.int p2), .val (.long vv), .second, .val (.long ww), .second, .val (.ref b_3), .val (.ref b_6), .val (.int (1 : Int32))] [(.int (1 : Int32))])) (fun _ k => XS.goto X24.here hx rfl (pc0 := 127) (pc' := 131) rfl (hb hby at_127) (by decide) (by decide) k) ?_
        exact run_ret X24 hx Bd.returns Bd.notSynchronized rfl (Or.inl ⟨rfl, by simp, _, rfl⟩) (hb hby at_131) (by rw [Q24_0]; exact ⟨rfl, N24⟩) (by decide) (by decide)
      ·
        refine run_fwd (T' := T15) (g' := (mkF m 107 #[.val (.long q0), .second, .val (.long q1), .second, .val (.int p2), .val (.long vv), .second, .val (.long ww), .second, .val (.ref b_3), .val (.ref b_6), .unset] [])) (fun _ k => XS.ifYes X15.here hx rfl (pc0 := 100) (pc' := 107) rfl (hb hby at_100) rfl ((if0 _ _).trans (flt (fun z => hc100_22 ((lw_gt vv ww).mp z))).2.2.2) (by decide) (by decide) k) ?_
        refine run_fwd (T' := T15) (g' := (mkF m 108 #[.val (.long q0), .second, .val (.long q1), .second, .val (.int p2), .val (.long vv), .second, .val (.long ww), .second, .val (.ref b_3), .val (.ref b_6), .unset] [(.int (0 : Int32))])) (fun _ k => XS.iconst X15.here hx rfl (hb hby at_107) k) ?_
        refine run_fwd (T' := T15) (g' := (mkF m 110 #[.val (.long q0), .second, .val (.long q1), .second, .val (.int p2), .val (.long vv), .second, .val (.long ww), .second, .val (.ref b_3), .val (.ref b_6), .val (.int (0 : Int32))] [])) (fun _ k => XS.istore X15.here hx rfl (hb hby at_108) rfl (l' := #[.val (.long q0), .second, .val (.long q1), .second, .val (.int p2), .val (.long vv), .second, .val (.long ww), .second, .val (.ref b_3), .val (.ref b_6), .val (.int (0 : Int32))]) rfl k) ?_
        refine run_fwd (T' := T15) (g' := (mkF m 112 #[.val (.long q0), .second, .val (.long q1), .second, .val (.int p2), .val (.long vv), .second, .val (.long ww), .second, .val (.ref b_3), .val (.ref b_6), .val (.int (0 : Int32))] [(.ref b_3)])) (fun _ k => XS.aload X15.here hx rfl (hb hby at_110) rfl rfl k) ?_
        refine run_fwd (T' := T15) (g' := (mkF m 114 #[.val (.long q0), .second, .val (.long q1), .second, .val (.int p2), .val (.long vv), .second, .val (.long ww), .second, .val (.ref b_3), .val (.ref b_6), .val (.int (0 : Int32))] [(.ref b_6), (.ref b_3)])) (fun _ k => XS.aload X15.here hx rfl (hb hby at_112) rfl rfl k) ?_
        obtain ⟨cq26, kq26, q26a, q26b, q26c⟩ := isOf hZ Q15_0 f11
        obtain ⟨_, _, ⟨T26, L26, kk26, nn26⟩, -, X26, ⟨Lc26, hQ26, l26, y26, z26⟩, st26⟩ := X15.virtualBack hx (y := (⟨"com/example/horatius/horatius/Fence", "compareTo", "(Lcom/example/horatius/horatius/Fence;)I"⟩ : MethodName)) (z := (⟨"com/example/horatius/horatius/Fence", "compareTo", "(Lcom/example/horatius/horatius/Fence;)I"⟩ : MethodName)) hown (mvT hZ (hw _ (List.mem_of_getElem? (i := 30) rfl))) (mvT hZ (hw _ (List.mem_of_getElem? (i := 31) rfl))) (notFace_of_selects (args := #[]) (mvT hZ (hw _ (List.mem_of_getElem? (i := 33) rfl)))) (mvT hZ (hw _ (List.mem_of_getElem? (i := 33) rfl))) (mvT hZ (hw _ (List.mem_of_getElem? (i := 32) rfl))) (by decide) (backOf (W := 0) (rm7 l Z aV hw [] b_3 b_6 vv ww h6 n0 O7 f10 Q6_3) hZ (hw _ (List.mem_of_getElem? (i := 34) rfl)) (hw _ (List.mem_of_getElem? (i := 6) rfl)) (by decide) (by decide)) q26a q26c (g := (mkF m 114 #[.val (.long q0), .second, .val (.long q1), .second, .val (.int p2), .val (.long vv), .second, .val (.long ww), .second, .val (.ref b_3), .val (.ref b_6), .val (.int (0 : Int32))] [(.ref b_6), (.ref b_3)])) rfl (by rw [hml]; rfl) (Steps.refl _) (argsL := [(.ref b_6)]) (rest := []) (lenOf pd__28Lcom_2fexample_2fhoratius_2fhoratius_2fFence_3b_29I rfl) rfl (by show 2 * 0 + _ ≤ _; exact Nat.le_of_eq rfl) (hb hby at_114) (fun _ _ => ⟨rfl, Q15_0, (by decide : 2 + 0 ≤ _), (by decide : 2 + 0 ≤ _)⟩)
        dsimp only [Pt.U, Pt.locs, Pt.cells, Pt.slots] at X26 l26 y26 z26 st26 hQ26
        subst l26 y26 z26
        obtain ⟨rfl, N26q, Q26_0⟩ := hQ26
        have N26 := Fr.app N15 N26q
        refine run_fwd (T' := T26) (g' := (mkF m 117 #[.val (.long q0), .second, .val (.long q1), .second, .val (.int p2), .val (.long vv), .second, .val (.long ww), .second, .val (.ref b_3), .val (.ref b_6), .val (.int (0 : Int32))] [(.int (own_cmp vv ww))])) (fun _ k => st26.trans k) ?_
        refine run_fwd (T' := T26) (g' := (mkF m 118 #[.val (.long q0), .second, .val (.long q1), .second, .val (.int p2), .val (.long vv), .second, .val (.long ww), .second, .val (.ref b_3), .val (.ref b_6), .val (.int (0 : Int32))] [(.long ((own_cmp vv ww).toInt64))])) (fun _ k => XS.i2l X26.here hx rfl (hb hby at_117) rfl k) ?_
        obtain ⟨_, _, ⟨T27, L27, kk27, nn27⟩, -, X27, ⟨Lc27, hQ27, l27, y27, z27⟩, st27⟩ := Jvm.LawKit.callS X26 hx (y := (⟨"com/example/horatius/horatius/FenceOfPinLaw", "sign", "(J)I"⟩ : MethodName)) hown (mvT hZ (hw _ (List.mem_of_getElem? (i := 39) rfl))) (mvT hZ (hw _ (List.mem_of_getElem? (i := 40) rfl))) (mvT hZ (hw _ (List.mem_of_getElem? (i := 2) rfl))) (mvT hZ (hw _ (List.mem_of_getElem? (i := 41) rfl))) (by decide) (backOf (W := 0) (rm9 l Z aV hw [] ((own_cmp vv ww).toInt64) h6 n0 O7 ) hZ (hw _ (List.mem_of_getElem? (i := 41) rfl)) (hw _ (List.mem_of_getElem? (i := 2) rfl)) (by decide) (by decide)) (g := (mkF m 118 #[.val (.long q0), .second, .val (.long q1), .second, .val (.int p2), .val (.long vv), .second, .val (.long ww), .second, .val (.ref b_3), .val (.ref b_6), .val (.int (0 : Int32))] [(.long ((own_cmp vv ww).toInt64))])) rfl (by rw [hml]; rfl) (argsL := [(.long ((own_cmp vv ww).toInt64))]) (rest := []) (lenOf pd__28J_29I rfl) rfl (by show 2 * 0 + _ ≤ _; exact Nat.le_of_eq rfl) (hb hby at_118) (fun _ _ => ⟨rfl, Q26_0, (by decide : 2 + 0 ≤ _), (by decide : 2 + 0 ≤ _)⟩)
        dsimp only [Pt.U, Pt.locs, Pt.cells, Pt.slots] at X27 l27 y27 z27 st27 hQ27
        subst l27 y27 z27
        obtain ⟨rfl, N27q, Q27_0⟩ := hQ27
        have N27 := Fr.app N26 N27q
        refine run_fwd (T' := T27) (g' := (mkF m 121 #[.val (.long q0), .second, .val (.long q1), .second, .val (.int p2), .val (.long vv), .second, .val (.long ww), .second, .val (.ref b_3), .val (.ref b_6), .val (.int (0 : Int32))] [(.int (own_sign ((own_cmp vv ww).toInt64)))])) (fun _ k => st27 _ k) ?_
        refine run_fwd (T' := T27) (g' := (mkF m 123 #[.val (.long q0), .second, .val (.long q1), .second, .val (.int p2), .val (.long vv), .second, .val (.long ww), .second, .val (.ref b_3), .val (.ref b_6), .val (.int (0 : Int32))] [(.int (0 : Int32)), (.int (own_sign ((own_cmp vv ww).toInt64)))])) (fun _ k => XS.iload X27.here hx rfl (hb hby at_121) rfl k) ?_
        have hc123_28 : (own_sign ((own_cmp vv ww).toInt64)) = (0 : Int32) := own_end1 _ _ hc88_18 hc100_22
        refine run_fwd (T' := T27) (g' := (mkF m 126 #[.val (.long q0), .second, .val (.long q1), .second, .val (.int p2), .val (.long vv), .second, .val (.long ww), .second, .val (.ref b_3), .val (.ref b_6), .val (.int (0 : Int32))] [])) (fun _ k => XS.icmpNo X27.here hx rfl (hb hby at_123) rfl (teq hc123_28).2 k) ?_
        refine run_fwd (T' := T27) (g' := (mkF m 127 #[.val (.long q0), .second, .val (.long q1), .second, .val (.int p2), .val (.long vv), .second, .val (.long ww), .second, .val (.ref b_3), .val (.ref b_6), .val (.int (0 : Int32))] [(.int (1 : Int32))])) (fun _ k => XS.iconst X27.here hx rfl (hb hby at_126) k) ?_
        refine run_fwd (T' := T27) (g' := (mkF m 131 #[.val (.long q0), .second, .val (.long q1), .second, .val (.int p2), .val (.long vv), .second, .val (.long ww), .second, .val (.ref b_3), .val (.ref b_6), .val (.int (0 : Int32))] [(.int (1 : Int32))])) (fun _ k => XS.goto X27.here hx rfl (pc0 := 127) (pc' := 131) rfl (hb hby at_127) (by decide) (by decide) k) ?_
        exact run_ret X27 hx Bd.returns Bd.notSynchronized rfl (Or.inl ⟨rfl, by simp, _, rfl⟩) (hb hby at_131) (by rw [Q27_0]; exact ⟨rfl, N27⟩) (by decide) (by decide)
  ·
    refine run_fwd (T' := T15) (g' := (mkF m 77 #[.val (.long q0), .second, .val (.long q1), .second, .val (.int p2), .val (.long vv), .second, .val (.long ww), .second, .val (.ref b_3), .val (.ref b_6), .unset] [(.int (own_same ww vv))])) (fun _ k => XS.ifYes X15.here hx rfl (pc0 := 70) (pc' := 77) rfl (hb hby at_70) rfl ((if0 _ _).trans (feq (fun z => hc70_16 ((lw_eq vv ww).mp z))).2) (by decide) (by decide) k) ?_
    refine run_fwd (T' := T15) (g' := (mkF m 78 #[.val (.long q0), .second, .val (.long q1), .second, .val (.int p2), .val (.long vv), .second, .val (.long ww), .second, .val (.ref b_3), .val (.ref b_6), .unset] [(.int (0 : Int32)), (.int (own_same ww vv))])) (fun _ k => XS.iconst X15.here hx rfl (hb hby at_77) k) ?_
    have hc78_29 : (own_same ww vv) = (0 : Int32) := by rw [own_same, if_neg (fun q => hc70_16 q.symm)]
    refine run_fwd (T' := T15) (g' := (mkF m 83 #[.val (.long q0), .second, .val (.long q1), .second, .val (.int p2), .val (.long vv), .second, .val (.long ww), .second, .val (.ref b_3), .val (.ref b_6), .unset] [])) (fun _ k => XS.icmpYes X15.here hx rfl (pc0 := 78) (pc' := 83) rfl (hb hby at_78) rfl (teq hc78_29).1 (by decide) (by decide) k) ?_
    refine run_fwd (T' := T15) (g' := (mkF m 85 #[.val (.long q0), .second, .val (.long q1), .second, .val (.int p2), .val (.long vv), .second, .val (.long ww), .second, .val (.ref b_3), .val (.ref b_6), .unset] [(.long vv)])) (fun _ k => XS.lload X15.here hx rfl (hb hby at_83) rfl k) ?_
    refine run_fwd (T' := T15) (g' := (mkF m 87 #[.val (.long q0), .second, .val (.long q1), .second, .val (.int p2), .val (.long vv), .second, .val (.long ww), .second, .val (.ref b_3), .val (.ref b_6), .unset] [(.long ww), (.long vv)])) (fun _ k => XS.lload X15.here hx rfl (hb hby at_85) rfl k) ?_
    refine run_fwd (T' := T15) (g' := (mkF m 88 #[.val (.long q0), .second, .val (.long q1), .second, .val (.int p2), .val (.long vv), .second, .val (.long ww), .second, .val (.ref b_3), .val (.ref b_6), .unset] [(.int (lcmpW vv ww))])) (fun _ k => XS.lcmp X15.here hx rfl (hb hby at_87) rfl k) ?_
    by_cases hc88_30 : vv < ww
    ·
      refine run_fwd (T' := T15) (g' := (mkF m 91 #[.val (.long q0), .second, .val (.long q1), .second, .val (.int p2), .val (.long vv), .second, .val (.long ww), .second, .val (.ref b_3), .val (.ref b_6), .unset] [])) (fun _ k => XS.ifNo X15.here hx rfl (hb hby at_88) rfl ((if0 _ _).trans (tlt ((lw_lt vv ww).mpr hc88_30)).2.1) k) ?_
      refine run_fwd (T' := T15) (g' := (mkF m 92 #[.val (.long q0), .second, .val (.long q1), .second, .val (.int p2), .val (.long vv), .second, .val (.long ww), .second, .val (.ref b_3), .val (.ref b_6), .unset] [(.int (-1 : Int32))])) (fun _ k => XS.iconst X15.here hx rfl (hb hby at_91) k) ?_
      refine run_fwd (T' := T15) (g' := (mkF m 108 #[.val (.long q0), .second, .val (.long q1), .second, .val (.int p2), .val (.long vv), .second, .val (.long ww), .second, .val (.ref b_3), .val (.ref b_6), .unset] [(.int (-1 : Int32))])) (fun _ k => XS.goto X15.here hx rfl (pc0 := 92) (pc' := 108) rfl (hb hby at_92) (by decide) (by decide) k) ?_
      refine run_fwd (T' := T15) (g' := (mkF m 110 #[.val (.long q0), .second, .val (.long q1), .second, .val (.int p2), .val (.long vv), .second, .val (.long ww), .second, .val (.ref b_3), .val (.ref b_6), .val (.int (-1 : Int32))] [])) (fun _ k => XS.istore X15.here hx rfl (hb hby at_108) rfl (l' := #[.val (.long q0), .second, .val (.long q1), .second, .val (.int p2), .val (.long vv), .second, .val (.long ww), .second, .val (.ref b_3), .val (.ref b_6), .val (.int (-1 : Int32))]) rfl k) ?_
      refine run_fwd (T' := T15) (g' := (mkF m 112 #[.val (.long q0), .second, .val (.long q1), .second, .val (.int p2), .val (.long vv), .second, .val (.long ww), .second, .val (.ref b_3), .val (.ref b_6), .val (.int (-1 : Int32))] [(.ref b_3)])) (fun _ k => XS.aload X15.here hx rfl (hb hby at_110) rfl rfl k) ?_
      refine run_fwd (T' := T15) (g' := (mkF m 114 #[.val (.long q0), .second, .val (.long q1), .second, .val (.int p2), .val (.long vv), .second, .val (.long ww), .second, .val (.ref b_3), .val (.ref b_6), .val (.int (-1 : Int32))] [(.ref b_6), (.ref b_3)])) (fun _ k => XS.aload X15.here hx rfl (hb hby at_112) rfl rfl k) ?_
      obtain ⟨cq31, kq31, q31a, q31b, q31c⟩ := isOf hZ Q15_0 f11
      obtain ⟨_, _, ⟨T31, L31, kk31, nn31⟩, -, X31, ⟨Lc31, hQ31, l31, y31, z31⟩, st31⟩ := X15.virtualBack hx (y := (⟨"com/example/horatius/horatius/Fence", "compareTo", "(Lcom/example/horatius/horatius/Fence;)I"⟩ : MethodName)) (z := (⟨"com/example/horatius/horatius/Fence", "compareTo", "(Lcom/example/horatius/horatius/Fence;)I"⟩ : MethodName)) hown (mvT hZ (hw _ (List.mem_of_getElem? (i := 30) rfl))) (mvT hZ (hw _ (List.mem_of_getElem? (i := 31) rfl))) (notFace_of_selects (args := #[]) (mvT hZ (hw _ (List.mem_of_getElem? (i := 33) rfl)))) (mvT hZ (hw _ (List.mem_of_getElem? (i := 33) rfl))) (mvT hZ (hw _ (List.mem_of_getElem? (i := 32) rfl))) (by decide) (backOf (W := 0) (rm7 l Z aV hw [] b_3 b_6 vv ww h6 n0 O7 f10 Q6_3) hZ (hw _ (List.mem_of_getElem? (i := 34) rfl)) (hw _ (List.mem_of_getElem? (i := 6) rfl)) (by decide) (by decide)) q31a q31c (g := (mkF m 114 #[.val (.long q0), .second, .val (.long q1), .second, .val (.int p2), .val (.long vv), .second, .val (.long ww), .second, .val (.ref b_3), .val (.ref b_6), .val (.int (-1 : Int32))] [(.ref b_6), (.ref b_3)])) rfl (by rw [hml]; rfl) (Steps.refl _) (argsL := [(.ref b_6)]) (rest := []) (lenOf pd__28Lcom_2fexample_2fhoratius_2fhoratius_2fFence_3b_29I rfl) rfl (by show 2 * 0 + _ ≤ _; exact Nat.le_of_eq rfl) (hb hby at_114) (fun _ _ => ⟨rfl, Q15_0, (by decide : 2 + 0 ≤ _), (by decide : 2 + 0 ≤ _)⟩)
      dsimp only [Pt.U, Pt.locs, Pt.cells, Pt.slots] at X31 l31 y31 z31 st31 hQ31
      subst l31 y31 z31
      obtain ⟨rfl, N31q, Q31_0⟩ := hQ31
      have N31 := Fr.app N15 N31q
      refine run_fwd (T' := T31) (g' := (mkF m 117 #[.val (.long q0), .second, .val (.long q1), .second, .val (.int p2), .val (.long vv), .second, .val (.long ww), .second, .val (.ref b_3), .val (.ref b_6), .val (.int (-1 : Int32))] [(.int (own_cmp vv ww))])) (fun _ k => st31.trans k) ?_
      refine run_fwd (T' := T31) (g' := (mkF m 118 #[.val (.long q0), .second, .val (.long q1), .second, .val (.int p2), .val (.long vv), .second, .val (.long ww), .second, .val (.ref b_3), .val (.ref b_6), .val (.int (-1 : Int32))] [(.long ((own_cmp vv ww).toInt64))])) (fun _ k => XS.i2l X31.here hx rfl (hb hby at_117) rfl k) ?_
      obtain ⟨_, _, ⟨T32, L32, kk32, nn32⟩, -, X32, ⟨Lc32, hQ32, l32, y32, z32⟩, st32⟩ := Jvm.LawKit.callS X31 hx (y := (⟨"com/example/horatius/horatius/FenceOfPinLaw", "sign", "(J)I"⟩ : MethodName)) hown (mvT hZ (hw _ (List.mem_of_getElem? (i := 39) rfl))) (mvT hZ (hw _ (List.mem_of_getElem? (i := 40) rfl))) (mvT hZ (hw _ (List.mem_of_getElem? (i := 2) rfl))) (mvT hZ (hw _ (List.mem_of_getElem? (i := 41) rfl))) (by decide) (backOf (W := 0) (rm9 l Z aV hw [] ((own_cmp vv ww).toInt64) h6 n0 O7 ) hZ (hw _ (List.mem_of_getElem? (i := 41) rfl)) (hw _ (List.mem_of_getElem? (i := 2) rfl)) (by decide) (by decide)) (g := (mkF m 118 #[.val (.long q0), .second, .val (.long q1), .second, .val (.int p2), .val (.long vv), .second, .val (.long ww), .second, .val (.ref b_3), .val (.ref b_6), .val (.int (-1 : Int32))] [(.long ((own_cmp vv ww).toInt64))])) rfl (by rw [hml]; rfl) (argsL := [(.long ((own_cmp vv ww).toInt64))]) (rest := []) (lenOf pd__28J_29I rfl) rfl (by show 2 * 0 + _ ≤ _; exact Nat.le_of_eq rfl) (hb hby at_118) (fun _ _ => ⟨rfl, Q31_0, (by decide : 2 + 0 ≤ _), (by decide : 2 + 0 ≤ _)⟩)
      dsimp only [Pt.U, Pt.locs, Pt.cells, Pt.slots] at X32 l32 y32 z32 st32 hQ32
      subst l32 y32 z32
      obtain ⟨rfl, N32q, Q32_0⟩ := hQ32
      have N32 := Fr.app N31 N32q
      refine run_fwd (T' := T32) (g' := (mkF m 121 #[.val (.long q0), .second, .val (.long q1), .second, .val (.int p2), .val (.long vv), .second, .val (.long ww), .second, .val (.ref b_3), .val (.ref b_6), .val (.int (-1 : Int32))] [(.int (own_sign ((own_cmp vv ww).toInt64)))])) (fun _ k => st32 _ k) ?_
      refine run_fwd (T' := T32) (g' := (mkF m 123 #[.val (.long q0), .second, .val (.long q1), .second, .val (.int p2), .val (.long vv), .second, .val (.long ww), .second, .val (.ref b_3), .val (.ref b_6), .val (.int (-1 : Int32))] [(.int (-1 : Int32)), (.int (own_sign ((own_cmp vv ww).toInt64)))])) (fun _ k => XS.iload X32.here hx rfl (hb hby at_121) rfl k) ?_
      have hc123_33 : (own_sign ((own_cmp vv ww).toInt64)) = (-1 : Int32) := own_end _ _ hc88_30
      refine run_fwd (T' := T32) (g' := (mkF m 126 #[.val (.long q0), .second, .val (.long q1), .second, .val (.int p2), .val (.long vv), .second, .val (.long ww), .second, .val (.ref b_3), .val (.ref b_6), .val (.int (-1 : Int32))] [])) (fun _ k => XS.icmpNo X32.here hx rfl (hb hby at_123) rfl (teq hc123_33).2 k) ?_
      refine run_fwd (T' := T32) (g' := (mkF m 127 #[.val (.long q0), .second, .val (.long q1), .second, .val (.int p2), .val (.long vv), .second, .val (.long ww), .second, .val (.ref b_3), .val (.ref b_6), .val (.int (-1 : Int32))] [(.int (1 : Int32))])) (fun _ k => XS.iconst X32.here hx rfl (hb hby at_126) k) ?_
      refine run_fwd (T' := T32) (g' := (mkF m 131 #[.val (.long q0), .second, .val (.long q1), .second, .val (.int p2), .val (.long vv), .second, .val (.long ww), .second, .val (.ref b_3), .val (.ref b_6), .val (.int (-1 : Int32))] [(.int (1 : Int32))])) (fun _ k => XS.goto X32.here hx rfl (pc0 := 127) (pc' := 131) rfl (hb hby at_127) (by decide) (by decide) k) ?_
      exact run_ret X32 hx Bd.returns Bd.notSynchronized rfl (Or.inl ⟨rfl, by simp, _, rfl⟩) (hb hby at_131) (by rw [Q32_0]; exact ⟨rfl, N32⟩) (by decide) (by decide)
    ·
      refine run_fwd (T' := T15) (g' := (mkF m 95 #[.val (.long q0), .second, .val (.long q1), .second, .val (.int p2), .val (.long vv), .second, .val (.long ww), .second, .val (.ref b_3), .val (.ref b_6), .unset] [])) (fun _ k => XS.ifYes X15.here hx rfl (pc0 := 88) (pc' := 95) rfl (hb hby at_88) rfl ((if0 _ _).trans (flt (fun z => hc88_30 ((lw_lt vv ww).mp z))).2.1) (by decide) (by decide) k) ?_
      refine run_fwd (T' := T15) (g' := (mkF m 97 #[.val (.long q0), .second, .val (.long q1), .second, .val (.int p2), .val (.long vv), .second, .val (.long ww), .second, .val (.ref b_3), .val (.ref b_6), .unset] [(.long vv)])) (fun _ k => XS.lload X15.here hx rfl (hb hby at_95) rfl k) ?_
      refine run_fwd (T' := T15) (g' := (mkF m 99 #[.val (.long q0), .second, .val (.long q1), .second, .val (.int p2), .val (.long vv), .second, .val (.long ww), .second, .val (.ref b_3), .val (.ref b_6), .unset] [(.long ww), (.long vv)])) (fun _ k => XS.lload X15.here hx rfl (hb hby at_97) rfl k) ?_
      refine run_fwd (T' := T15) (g' := (mkF m 100 #[.val (.long q0), .second, .val (.long q1), .second, .val (.int p2), .val (.long vv), .second, .val (.long ww), .second, .val (.ref b_3), .val (.ref b_6), .unset] [(.int (lcmpW vv ww))])) (fun _ k => XS.lcmp X15.here hx rfl (hb hby at_99) rfl k) ?_
      by_cases hc100_34 : ww < vv
      ·
        refine run_fwd (T' := T15) (g' := (mkF m 103 #[.val (.long q0), .second, .val (.long q1), .second, .val (.int p2), .val (.long vv), .second, .val (.long ww), .second, .val (.ref b_3), .val (.ref b_6), .unset] [])) (fun _ k => XS.ifNo X15.here hx rfl (hb hby at_100) rfl ((if0 _ _).trans (tlt ((lw_gt vv ww).mpr hc100_34)).2.2.2) k) ?_
        refine run_fwd (T' := T15) (g' := (mkF m 104 #[.val (.long q0), .second, .val (.long q1), .second, .val (.int p2), .val (.long vv), .second, .val (.long ww), .second, .val (.ref b_3), .val (.ref b_6), .unset] [(.int (1 : Int32))])) (fun _ k => XS.iconst X15.here hx rfl (hb hby at_103) k) ?_
        refine run_fwd (T' := T15) (g' := (mkF m 108 #[.val (.long q0), .second, .val (.long q1), .second, .val (.int p2), .val (.long vv), .second, .val (.long ww), .second, .val (.ref b_3), .val (.ref b_6), .unset] [(.int (1 : Int32))])) (fun _ k => XS.goto X15.here hx rfl (pc0 := 104) (pc' := 108) rfl (hb hby at_104) (by decide) (by decide) k) ?_
        refine run_fwd (T' := T15) (g' := (mkF m 110 #[.val (.long q0), .second, .val (.long q1), .second, .val (.int p2), .val (.long vv), .second, .val (.long ww), .second, .val (.ref b_3), .val (.ref b_6), .val (.int (1 : Int32))] [])) (fun _ k => XS.istore X15.here hx rfl (hb hby at_108) rfl (l' := #[.val (.long q0), .second, .val (.long q1), .second, .val (.int p2), .val (.long vv), .second, .val (.long ww), .second, .val (.ref b_3), .val (.ref b_6), .val (.int (1 : Int32))]) rfl k) ?_
        refine run_fwd (T' := T15) (g' := (mkF m 112 #[.val (.long q0), .second, .val (.long q1), .second, .val (.int p2), .val (.long vv), .second, .val (.long ww), .second, .val (.ref b_3), .val (.ref b_6), .val (.int (1 : Int32))] [(.ref b_3)])) (fun _ k => XS.aload X15.here hx rfl (hb hby at_110) rfl rfl k) ?_
        refine run_fwd (T' := T15) (g' := (mkF m 114 #[.val (.long q0), .second, .val (.long q1), .second, .val (.int p2), .val (.long vv), .second, .val (.long ww), .second, .val (.ref b_3), .val (.ref b_6), .val (.int (1 : Int32))] [(.ref b_6), (.ref b_3)])) (fun _ k => XS.aload X15.here hx rfl (hb hby at_112) rfl rfl k) ?_
        obtain ⟨cq35, kq35, q35a, q35b, q35c⟩ := isOf hZ Q15_0 f11
        obtain ⟨_, _, ⟨T35, L35, kk35, nn35⟩, -, X35, ⟨Lc35, hQ35, l35, y35, z35⟩, st35⟩ := X15.virtualBack hx (y := (⟨"com/example/horatius/horatius/Fence", "compareTo", "(Lcom/example/horatius/horatius/Fence;)I"⟩ : MethodName)) (z := (⟨"com/example/horatius/horatius/Fence", "compareTo", "(Lcom/example/horatius/horatius/Fence;)I"⟩ : MethodName)) hown (mvT hZ (hw _ (List.mem_of_getElem? (i := 30) rfl))) (mvT hZ (hw _ (List.mem_of_getElem? (i := 31) rfl))) (notFace_of_selects (args := #[]) (mvT hZ (hw _ (List.mem_of_getElem? (i := 33) rfl)))) (mvT hZ (hw _ (List.mem_of_getElem? (i := 33) rfl))) (mvT hZ (hw _ (List.mem_of_getElem? (i := 32) rfl))) (by decide) (backOf (W := 0) (rm7 l Z aV hw [] b_3 b_6 vv ww h6 n0 O7 f10 Q6_3) hZ (hw _ (List.mem_of_getElem? (i := 34) rfl)) (hw _ (List.mem_of_getElem? (i := 6) rfl)) (by decide) (by decide)) q35a q35c (g := (mkF m 114 #[.val (.long q0), .second, .val (.long q1), .second, .val (.int p2), .val (.long vv), .second, .val (.long ww), .second, .val (.ref b_3), .val (.ref b_6), .val (.int (1 : Int32))] [(.ref b_6), (.ref b_3)])) rfl (by rw [hml]; rfl) (Steps.refl _) (argsL := [(.ref b_6)]) (rest := []) (lenOf pd__28Lcom_2fexample_2fhoratius_2fhoratius_2fFence_3b_29I rfl) rfl (by show 2 * 0 + _ ≤ _; exact Nat.le_of_eq rfl) (hb hby at_114) (fun _ _ => ⟨rfl, Q15_0, (by decide : 2 + 0 ≤ _), (by decide : 2 + 0 ≤ _)⟩)
        dsimp only [Pt.U, Pt.locs, Pt.cells, Pt.slots] at X35 l35 y35 z35 st35 hQ35
        subst l35 y35 z35
        obtain ⟨rfl, N35q, Q35_0⟩ := hQ35
        have N35 := Fr.app N15 N35q
        refine run_fwd (T' := T35) (g' := (mkF m 117 #[.val (.long q0), .second, .val (.long q1), .second, .val (.int p2), .val (.long vv), .second, .val (.long ww), .second, .val (.ref b_3), .val (.ref b_6), .val (.int (1 : Int32))] [(.int (own_cmp vv ww))])) (fun _ k => st35.trans k) ?_
        refine run_fwd (T' := T35) (g' := (mkF m 118 #[.val (.long q0), .second, .val (.long q1), .second, .val (.int p2), .val (.long vv), .second, .val (.long ww), .second, .val (.ref b_3), .val (.ref b_6), .val (.int (1 : Int32))] [(.long ((own_cmp vv ww).toInt64))])) (fun _ k => XS.i2l X35.here hx rfl (hb hby at_117) rfl k) ?_
        obtain ⟨_, _, ⟨T36, L36, kk36, nn36⟩, -, X36, ⟨Lc36, hQ36, l36, y36, z36⟩, st36⟩ := Jvm.LawKit.callS X35 hx (y := (⟨"com/example/horatius/horatius/FenceOfPinLaw", "sign", "(J)I"⟩ : MethodName)) hown (mvT hZ (hw _ (List.mem_of_getElem? (i := 39) rfl))) (mvT hZ (hw _ (List.mem_of_getElem? (i := 40) rfl))) (mvT hZ (hw _ (List.mem_of_getElem? (i := 2) rfl))) (mvT hZ (hw _ (List.mem_of_getElem? (i := 41) rfl))) (by decide) (backOf (W := 0) (rm9 l Z aV hw [] ((own_cmp vv ww).toInt64) h6 n0 O7 ) hZ (hw _ (List.mem_of_getElem? (i := 41) rfl)) (hw _ (List.mem_of_getElem? (i := 2) rfl)) (by decide) (by decide)) (g := (mkF m 118 #[.val (.long q0), .second, .val (.long q1), .second, .val (.int p2), .val (.long vv), .second, .val (.long ww), .second, .val (.ref b_3), .val (.ref b_6), .val (.int (1 : Int32))] [(.long ((own_cmp vv ww).toInt64))])) rfl (by rw [hml]; rfl) (argsL := [(.long ((own_cmp vv ww).toInt64))]) (rest := []) (lenOf pd__28J_29I rfl) rfl (by show 2 * 0 + _ ≤ _; exact Nat.le_of_eq rfl) (hb hby at_118) (fun _ _ => ⟨rfl, Q35_0, (by decide : 2 + 0 ≤ _), (by decide : 2 + 0 ≤ _)⟩)
        dsimp only [Pt.U, Pt.locs, Pt.cells, Pt.slots] at X36 l36 y36 z36 st36 hQ36
        subst l36 y36 z36
        obtain ⟨rfl, N36q, Q36_0⟩ := hQ36
        have N36 := Fr.app N35 N36q
        refine run_fwd (T' := T36) (g' := (mkF m 121 #[.val (.long q0), .second, .val (.long q1), .second, .val (.int p2), .val (.long vv), .second, .val (.long ww), .second, .val (.ref b_3), .val (.ref b_6), .val (.int (1 : Int32))] [(.int (own_sign ((own_cmp vv ww).toInt64)))])) (fun _ k => st36 _ k) ?_
        refine run_fwd (T' := T36) (g' := (mkF m 123 #[.val (.long q0), .second, .val (.long q1), .second, .val (.int p2), .val (.long vv), .second, .val (.long ww), .second, .val (.ref b_3), .val (.ref b_6), .val (.int (1 : Int32))] [(.int (1 : Int32)), (.int (own_sign ((own_cmp vv ww).toInt64)))])) (fun _ k => XS.iload X36.here hx rfl (hb hby at_121) rfl k) ?_
        have hc123_37 : (own_sign ((own_cmp vv ww).toInt64)) = (1 : Int32) := own_end0 _ _ hc88_30 hc100_34
        refine run_fwd (T' := T36) (g' := (mkF m 126 #[.val (.long q0), .second, .val (.long q1), .second, .val (.int p2), .val (.long vv), .second, .val (.long ww), .second, .val (.ref b_3), .val (.ref b_6), .val (.int (1 : Int32))] [])) (fun _ k => XS.icmpNo X36.here hx rfl (hb hby at_123) rfl (teq hc123_37).2 k) ?_
        refine run_fwd (T' := T36) (g' := (mkF m 127 #[.val (.long q0), .second, .val (.long q1), .second, .val (.int p2), .val (.long vv), .second, .val (.long ww), .second, .val (.ref b_3), .val (.ref b_6), .val (.int (1 : Int32))] [(.int (1 : Int32))])) (fun _ k => XS.iconst X36.here hx rfl (hb hby at_126) k) ?_
        refine run_fwd (T' := T36) (g' := (mkF m 131 #[.val (.long q0), .second, .val (.long q1), .second, .val (.int p2), .val (.long vv), .second, .val (.long ww), .second, .val (.ref b_3), .val (.ref b_6), .val (.int (1 : Int32))] [(.int (1 : Int32))])) (fun _ k => XS.goto X36.here hx rfl (pc0 := 127) (pc' := 131) rfl (hb hby at_127) (by decide) (by decide) k) ?_
        exact run_ret X36 hx Bd.returns Bd.notSynchronized rfl (Or.inl ⟨rfl, by simp, _, rfl⟩) (hb hby at_131) (by rw [Q36_0]; exact ⟨rfl, N36⟩) (by decide) (by decide)
      ·
        refine run_fwd (T' := T15) (g' := (mkF m 107 #[.val (.long q0), .second, .val (.long q1), .second, .val (.int p2), .val (.long vv), .second, .val (.long ww), .second, .val (.ref b_3), .val (.ref b_6), .unset] [])) (fun _ k => XS.ifYes X15.here hx rfl (pc0 := 100) (pc' := 107) rfl (hb hby at_100) rfl ((if0 _ _).trans (flt (fun z => hc100_34 ((lw_gt vv ww).mp z))).2.2.2) (by decide) (by decide) k) ?_
        refine run_fwd (T' := T15) (g' := (mkF m 108 #[.val (.long q0), .second, .val (.long q1), .second, .val (.int p2), .val (.long vv), .second, .val (.long ww), .second, .val (.ref b_3), .val (.ref b_6), .unset] [(.int (0 : Int32))])) (fun _ k => XS.iconst X15.here hx rfl (hb hby at_107) k) ?_
        refine run_fwd (T' := T15) (g' := (mkF m 110 #[.val (.long q0), .second, .val (.long q1), .second, .val (.int p2), .val (.long vv), .second, .val (.long ww), .second, .val (.ref b_3), .val (.ref b_6), .val (.int (0 : Int32))] [])) (fun _ k => XS.istore X15.here hx rfl (hb hby at_108) rfl (l' := #[.val (.long q0), .second, .val (.long q1), .second, .val (.int p2), .val (.long vv), .second, .val (.long ww), .second, .val (.ref b_3), .val (.ref b_6), .val (.int (0 : Int32))]) rfl k) ?_
        refine run_fwd (T' := T15) (g' := (mkF m 112 #[.val (.long q0), .second, .val (.long q1), .second, .val (.int p2), .val (.long vv), .second, .val (.long ww), .second, .val (.ref b_3), .val (.ref b_6), .val (.int (0 : Int32))] [(.ref b_3)])) (fun _ k => XS.aload X15.here hx rfl (hb hby at_110) rfl rfl k) ?_
        refine run_fwd (T' := T15) (g' := (mkF m 114 #[.val (.long q0), .second, .val (.long q1), .second, .val (.int p2), .val (.long vv), .second, .val (.long ww), .second, .val (.ref b_3), .val (.ref b_6), .val (.int (0 : Int32))] [(.ref b_6), (.ref b_3)])) (fun _ k => XS.aload X15.here hx rfl (hb hby at_112) rfl rfl k) ?_
        obtain ⟨cq38, kq38, q38a, q38b, q38c⟩ := isOf hZ Q15_0 f11
        obtain ⟨_, _, ⟨T38, L38, kk38, nn38⟩, -, X38, ⟨Lc38, hQ38, l38, y38, z38⟩, st38⟩ := X15.virtualBack hx (y := (⟨"com/example/horatius/horatius/Fence", "compareTo", "(Lcom/example/horatius/horatius/Fence;)I"⟩ : MethodName)) (z := (⟨"com/example/horatius/horatius/Fence", "compareTo", "(Lcom/example/horatius/horatius/Fence;)I"⟩ : MethodName)) hown (mvT hZ (hw _ (List.mem_of_getElem? (i := 30) rfl))) (mvT hZ (hw _ (List.mem_of_getElem? (i := 31) rfl))) (notFace_of_selects (args := #[]) (mvT hZ (hw _ (List.mem_of_getElem? (i := 33) rfl)))) (mvT hZ (hw _ (List.mem_of_getElem? (i := 33) rfl))) (mvT hZ (hw _ (List.mem_of_getElem? (i := 32) rfl))) (by decide) (backOf (W := 0) (rm7 l Z aV hw [] b_3 b_6 vv ww h6 n0 O7 f10 Q6_3) hZ (hw _ (List.mem_of_getElem? (i := 34) rfl)) (hw _ (List.mem_of_getElem? (i := 6) rfl)) (by decide) (by decide)) q38a q38c (g := (mkF m 114 #[.val (.long q0), .second, .val (.long q1), .second, .val (.int p2), .val (.long vv), .second, .val (.long ww), .second, .val (.ref b_3), .val (.ref b_6), .val (.int (0 : Int32))] [(.ref b_6), (.ref b_3)])) rfl (by rw [hml]; rfl) (Steps.refl _) (argsL := [(.ref b_6)]) (rest := []) (lenOf pd__28Lcom_2fexample_2fhoratius_2fhoratius_2fFence_3b_29I rfl) rfl (by show 2 * 0 + _ ≤ _; exact Nat.le_of_eq rfl) (hb hby at_114) (fun _ _ => ⟨rfl, Q15_0, (by decide : 2 + 0 ≤ _), (by decide : 2 + 0 ≤ _)⟩)
        dsimp only [Pt.U, Pt.locs, Pt.cells, Pt.slots] at X38 l38 y38 z38 st38 hQ38
        subst l38 y38 z38
        obtain ⟨rfl, N38q, Q38_0⟩ := hQ38
        have N38 := Fr.app N15 N38q
        refine run_fwd (T' := T38) (g' := (mkF m 117 #[.val (.long q0), .second, .val (.long q1), .second, .val (.int p2), .val (.long vv), .second, .val (.long ww), .second, .val (.ref b_3), .val (.ref b_6), .val (.int (0 : Int32))] [(.int (own_cmp vv ww))])) (fun _ k => st38.trans k) ?_
        refine run_fwd (T' := T38) (g' := (mkF m 118 #[.val (.long q0), .second, .val (.long q1), .second, .val (.int p2), .val (.long vv), .second, .val (.long ww), .second, .val (.ref b_3), .val (.ref b_6), .val (.int (0 : Int32))] [(.long ((own_cmp vv ww).toInt64))])) (fun _ k => XS.i2l X38.here hx rfl (hb hby at_117) rfl k) ?_
        obtain ⟨_, _, ⟨T39, L39, kk39, nn39⟩, -, X39, ⟨Lc39, hQ39, l39, y39, z39⟩, st39⟩ := Jvm.LawKit.callS X38 hx (y := (⟨"com/example/horatius/horatius/FenceOfPinLaw", "sign", "(J)I"⟩ : MethodName)) hown (mvT hZ (hw _ (List.mem_of_getElem? (i := 39) rfl))) (mvT hZ (hw _ (List.mem_of_getElem? (i := 40) rfl))) (mvT hZ (hw _ (List.mem_of_getElem? (i := 2) rfl))) (mvT hZ (hw _ (List.mem_of_getElem? (i := 41) rfl))) (by decide) (backOf (W := 0) (rm9 l Z aV hw [] ((own_cmp vv ww).toInt64) h6 n0 O7 ) hZ (hw _ (List.mem_of_getElem? (i := 41) rfl)) (hw _ (List.mem_of_getElem? (i := 2) rfl)) (by decide) (by decide)) (g := (mkF m 118 #[.val (.long q0), .second, .val (.long q1), .second, .val (.int p2), .val (.long vv), .second, .val (.long ww), .second, .val (.ref b_3), .val (.ref b_6), .val (.int (0 : Int32))] [(.long ((own_cmp vv ww).toInt64))])) rfl (by rw [hml]; rfl) (argsL := [(.long ((own_cmp vv ww).toInt64))]) (rest := []) (lenOf pd__28J_29I rfl) rfl (by show 2 * 0 + _ ≤ _; exact Nat.le_of_eq rfl) (hb hby at_118) (fun _ _ => ⟨rfl, Q38_0, (by decide : 2 + 0 ≤ _), (by decide : 2 + 0 ≤ _)⟩)
        dsimp only [Pt.U, Pt.locs, Pt.cells, Pt.slots] at X39 l39 y39 z39 st39 hQ39
        subst l39 y39 z39
        obtain ⟨rfl, N39q, Q39_0⟩ := hQ39
        have N39 := Fr.app N38 N39q
        refine run_fwd (T' := T39) (g' := (mkF m 121 #[.val (.long q0), .second, .val (.long q1), .second, .val (.int p2), .val (.long vv), .second, .val (.long ww), .second, .val (.ref b_3), .val (.ref b_6), .val (.int (0 : Int32))] [(.int (own_sign ((own_cmp vv ww).toInt64)))])) (fun _ k => st39 _ k) ?_
        refine run_fwd (T' := T39) (g' := (mkF m 123 #[.val (.long q0), .second, .val (.long q1), .second, .val (.int p2), .val (.long vv), .second, .val (.long ww), .second, .val (.ref b_3), .val (.ref b_6), .val (.int (0 : Int32))] [(.int (0 : Int32)), (.int (own_sign ((own_cmp vv ww).toInt64)))])) (fun _ k => XS.iload X39.here hx rfl (hb hby at_121) rfl k) ?_
        have hc123_40 : (own_sign ((own_cmp vv ww).toInt64)) = (0 : Int32) := own_end1 _ _ hc88_30 hc100_34
        refine run_fwd (T' := T39) (g' := (mkF m 126 #[.val (.long q0), .second, .val (.long q1), .second, .val (.int p2), .val (.long vv), .second, .val (.long ww), .second, .val (.ref b_3), .val (.ref b_6), .val (.int (0 : Int32))] [])) (fun _ k => XS.icmpNo X39.here hx rfl (hb hby at_123) rfl (teq hc123_40).2 k) ?_
        refine run_fwd (T' := T39) (g' := (mkF m 127 #[.val (.long q0), .second, .val (.long q1), .second, .val (.int p2), .val (.long vv), .second, .val (.long ww), .second, .val (.ref b_3), .val (.ref b_6), .val (.int (0 : Int32))] [(.int (1 : Int32))])) (fun _ k => XS.iconst X39.here hx rfl (hb hby at_126) k) ?_
        refine run_fwd (T' := T39) (g' := (mkF m 131 #[.val (.long q0), .second, .val (.long q1), .second, .val (.int p2), .val (.long vv), .second, .val (.long ww), .second, .val (.ref b_3), .val (.ref b_6), .val (.int (0 : Int32))] [(.int (1 : Int32))])) (fun _ k => XS.goto X39.here hx rfl (pc0 := 127) (pc' := 131) rfl (hb hby at_127) (by decide) (by decide) k) ?_
        exact run_ret X39 hx Bd.returns Bd.notSynchronized rfl (Or.inl ⟨rfl, by simp, _, rfl⟩) (hb hby at_131) (by rw [Q39_0]; exact ⟨rfl, N39⟩) (by decide) (by decide)
set_option maxRecDepth 65536 in
set_option maxHeartbeats 40000000 in
theorem comes_1 {Post : Tables → Env → Array Value → State → Outcome → State → Prop} (hpost : ∀ tb e args s v u, (limb_1_1.after args s (.returned v) u = true ∧ limb_1_2.after args s (.returned v) u = true ∧ True) → FrameEnd s (.returned v) u (Jvm.fieldLocs frame_1_writes args s ++ Jvm.arrayLocs frame_1_arrays args s ++ Jvm.staticLocs frame_1_statics s) 16 128 → Post tb e args s (.returned v) u) :
    ArmFor flags0 classFile x code maxLocals ret World_1 tables_1 room_1 Calls_1 rest_1 Pre_1 Post := by
  intro l hfl _ _ p e ha hc hk s m args below hf hA hF happ hP
  obtain ⟨hcalls, hrest, hpre⟩ := hP
  obtain ⟨-, -, -, hnamed, -, -, -, hat⟩ := (Spec.applies_iff hf).mp happ
  obtain ⟨hg, hn⟩ := and_e (Cond.before_iff.mp (show (Jvm.Cond.and given_1 narrow_1).before args s = true from hpre))
  obtain ⟨g1, g2⟩ := and_e hg
  obtain ⟨g3, g4⟩ := and_e g2
  obtain ⟨g5, g6⟩ := and_e g4
  obtain ⟨w0, w1, w2, rfl⟩ : ∃ w0 w1 w2 : Value, args = #[w0, w1, w2] := by
    have hs : args.size = 3 := by simpa [Cond.value, given_1] using g1
    obtain ⟨L⟩ := args
    match L, hs with
    | [w0, w1, w2], _ => exact ⟨w0, w1, w2, rfl⟩
  have hw := fun d (hd : d ∈ tables_1) => atoms_spec (ws := Jvm.Cond.code x code maxLocals ret :: tables_1) hat d (List.mem_cons_of_mem _ hd)
  obtain ⟨i0, ei0⟩ := isL_v g3
  obtain rfl : w0 = (.long i0) := Option.some.inj ei0
  obtain ⟨i1, ei1⟩ := isL_v g5
  obtain rfl : w1 = (.long i1) := Option.some.inj ei1
  obtain ⟨i2, ei2⟩ := is_v g6
  obtain rfl : w2 = (.int i2) := Option.some.inj ei2
  obtain ⟨n, o, h1, h2, h3, _, L, rfl, ⟨rfl, N⟩, hq⟩ := rm0 l s _ hw tables_1 i0 i1 i2 _ _ s.heap s.heap.size (Old.start s) rfl rfl p e ha hc hk s m _ below hf ((Spec.applies_iff_loose hf).mp happ).1 ⟨rfl, State.Warmed39.refl s, rfl⟩ trivial
  refine ⟨n, _, h1, h2, h3, hpost _ _ _ _ _ _ ⟨Cond.after_iff.mpr rfl, Cond.after_iff.mpr (eq_i res_at (Term.int_eval (1)) rfl), trivial⟩ ⟨hq.1, hq.2.1, (hq.2.2.sift fun y hy => Or.inr (N y hy)).mono (by decide) (by decide)⟩⟩
theorem main_1_1 : Claimed_1_1 := comes_1 fun _ _ _ _ _ _ h hF => ⟨h.1, hF⟩
theorem main_1_2 : Claimed_1_2 := comes_1 fun _ _ _ _ _ _ h hF => ⟨h.2.1, hF⟩
end Jvm.Pilot.@@N@@
namespace Jvm.Pilot.@@N@@
open Jvm Jvm.ClassFile Sem Op Lib Jvm.Free Jvm.Stand Jvm.Pilot.@@N@@.Jvm.D
/-! MADE BY PROGRAM (witnessworld.py) out of the Statement's table words and the real class files: 14 classes; the members and pool entries that the words name. The judged class is class 1, her method 3. -/
namespace start1
open Jvm.ClassFile
def u (s : String) : CpInfo := .utf8 (stringToUtf16 s)
/-- a pool by its gaps: so many unusable entries, then the entry; so many at the end -/
def gap : Nat → List CpInfo → List CpInfo
  | 0, r => r
  | n + 1, r => .unusable :: gap n r
def poolList (es : List (Nat × CpInfo)) (last : Nat) : List CpInfo := es.foldr (fun e r => gap e.1 (e.2 :: r)) (gap last [])
def pool (es : List (Nat × CpInfo)) (last : Nat) : Array CpInfo := ⟨poolList es last⟩
def fileOf (pool : Array CpInfo) (this : Nat) (attrs : Array Attribute := #[]) (ms : Array MethodInfo := #[]) (fl : Nat := 33) (sup : Nat := 0) (ifs : Array Nat := #[]) (fds : Array FieldInfo := #[]) : ClassFile where
  minorVersion := 0
  majorVersion := 65
  constantPool := pool
  accessFlags := fl
  thisClass := this
  superClass := sup
  interfaces := ifs
  fields := fds
  methods := ms
  attributes := attrs
def plain (name : String) (sup : Option ClassId) : Class where
  name := name
  kind := .ordinary
  loader := none
  accessFlags := 33
  super := sup
  interfaces := #[]
  cf := none
  fields := #[]
  methods := #[]
  instanceTypes := #[]
  staticTypes := #[]
  resolved := #[]
  callSites := []
  init := .initialized
  statics := none
  mirror := none

def pool0 : Array CpInfo := pool [(5, u "<init>"), (0, u "()V"), (1, .class_ 10), (1, u "java/lang/Object")] 113

def k0c0 : Code := { maxStack := 0, maxLocals := 1, code := object_method_1_code, exceptionTable := #[], attributes := #[] }
def k0m0 : Method := { name := "<init>", desc := "()V", sig := { parameters := [], returnType := none }, accessFlags := 1, code := some k0c0 }
/-- java/lang/Object -/
def k0 : Class := { plain "java/lang/Object" none with
  accessFlags := 33
  interfaces := #[]
  cf := some (fileOf pool0 8 #[] #[{ accessFlags := 1, nameIndex := 5, descriptorIndex := 6, attributes := #[] }] 33 0 #[] #[])
  fields := #[]
  methods := #[k0m0]
  instanceTypes := #[]
  staticTypes := #[]
  resolved := Array.replicate 124 none
  statics := none }

def pool1 : Array CpInfo := pool [(2, .class_ 4), (1, u "java/lang/Object"), (0, u "<init>"), (0, u "()V"), (0, .long 999999999999999), (1, .long 7), (3, .long 9223372036854775807), (1, .methodref 16 17), (0, .class_ 18), (0, .nameAndType 19 20), (0, u "com/example/horatius/horatius/FenceOfPinLaw"), (0, u "pick"), (0, u "(JI)J"), (0, .methodref 22 23), (0, .class_ 24), (0, .nameAndType 25 26), (0, u "com/example/horatius/horatius/Fence"), (0, u "of"), (0, u "(J)Lcom/example/horatius/horatius/Fence;"), (0, .methodref 22 28), (0, .nameAndType 29 30), (0, u "value"), (0, u "()J"), (0, .methodref 22 32), (0, .nameAndType 33 34), (0, u "equals"), (0, u "(Ljava/lang/Object;)Z"), (0, .methodref 22 36), (0, .nameAndType 37 38), (0, u "compareTo"), (0, u "(Lcom/example/horatius/horatius/Fence;)I"), (0, .methodref 16 40), (0, .nameAndType 41 42), (0, u "sign"), (0, u "(J)I"), (3, u "law"), (0, u "(JJI)Z")] 2

def k1m0 : Method := { name := "<init>", desc := "()V", sig := { parameters := [], returnType := none }, accessFlags := 1, code := none }
def k1c1 : Code := { maxStack := 6, maxLocals := 4, code := method_2_code, exceptionTable := #[], attributes := #[] }
def k1m1 : Method := { name := "pick", desc := "(JI)J", sig := { parameters := [.long, .int], returnType := some .long }, accessFlags := 10, code := some k1c1 }
def k1c2 : Code := { maxStack := 4, maxLocals := 2, code := method_3_code, exceptionTable := #[], attributes := #[] }
def k1m2 : Method := { name := "sign", desc := "(J)I", sig := { parameters := [.long], returnType := some .int }, accessFlags := 10, code := some k1c2 }
def k1c3 : Code := { maxStack := 5, maxLocals := 12, code := code, exceptionTable := #[], attributes := #[] }
def k1m3 : Method := { name := "law", desc := "(JJI)Z", sig := { parameters := [.long, .long, .int], returnType := some .boolean }, accessFlags := 9, code := some k1c3 }
/-- com/example/horatius/horatius/FenceOfPinLaw -/
def k1 : Class := { plain "com/example/horatius/horatius/FenceOfPinLaw" (some 0) with
  accessFlags := 49
  interfaces := #[]
  cf := some (fileOf pool1 16 #[] #[{ accessFlags := 1, nameIndex := 5, descriptorIndex := 6, attributes := #[] }, { accessFlags := 10, nameIndex := 19, descriptorIndex := 20, attributes := #[] }, { accessFlags := 10, nameIndex := 41, descriptorIndex := 42, attributes := #[] }, { accessFlags := 9, nameIndex := 46, descriptorIndex := 47, attributes := #[] }] 49 2 #[] #[])
  fields := #[]
  methods := #[k1m0, k1m1, k1m2, k1m3]
  instanceTypes := #[]
  staticTypes := #[]
  resolved := Array.replicate 50 none
  statics := none }

def pool2 : Array CpInfo := pool [(1, .class_ 2), (0, u "java/lang/Comparable"), (0, .class_ 4), (0, u "java/lang/Object")] 7

/-- java/lang/Comparable -/
def k2 : Class := { plain "java/lang/Comparable" (some 0) with
  accessFlags := 1537
  interfaces := #[]
  cf := some (fileOf pool2 1 #[] #[] 1537 3 #[] #[])
  fields := #[]
  methods := #[]
  instanceTypes := #[]
  staticTypes := #[]
  resolved := Array.replicate 12 none
  statics := none }

def pool3 : Array CpInfo := pool [(1, .methodref 2 3), (0, .class_ 4), (0, .nameAndType 5 6), (0, u "java/lang/Object"), (0, u "<init>"), (0, u "()V"), (0, .fieldref 8 9), (0, .class_ 10), (0, .nameAndType 11 12), (0, u "com/example/horatius/horatius/Fence"), (0, u "value"), (0, u "J"), (0, .long 999999999999999), (10, .methodref 8 25), (0, .nameAndType 5 26), (0, u "(J)V"), (0, .methodref 28 29), (0, .class_ 30), (0, .nameAndType 31 32), (0, u "java/lang/Long"), (0, u "compare"), (0, u "(JJ)I"), (24, u "compareTo"), (0, u "(Lcom/example/horatius/horatius/Fence;)I"), (0, .class_ 60), (0, u "java/lang/Comparable"), (0, u "MIN_VALUE"), (3, u "MAX_VALUE"), (0, u "DIGITS"), (0, u "I"), (3, u "of"), (0, u "(J)Lcom/example/horatius/horatius/Fence;"), (1, u "()J"), (0, u "equals"), (0, u "(Ljava/lang/Object;)Z")] 24

def k3c0 : Code := { maxStack := 3, maxLocals := 3, code := prog_7_method_1_code, exceptionTable := #[], attributes := #[] }
def k3m0 : Method := { name := "<init>", desc := "(J)V", sig := { parameters := [.long], returnType := none }, accessFlags := 2, code := some k3c0 }
def k3c1 : Code := { maxStack := 4, maxLocals := 2, code := prog_7_method_2_code, exceptionTable := #[], attributes := #[] }
def k3m1 : Method := { name := "of", desc := "(J)Lcom/example/horatius/horatius/Fence;", sig := { parameters := [.long], returnType := some (.object "com/example/horatius/horatius/Fence") }, accessFlags := 9, code := some k3c1 }
def k3c2 : Code := { maxStack := 2, maxLocals := 1, code := prog_7_method_3_code, exceptionTable := #[], attributes := #[] }
def k3m2 : Method := { name := "value", desc := "()J", sig := { parameters := [], returnType := some .long }, accessFlags := 1, code := some k3c2 }
def k3c3 : Code := { maxStack := 4, maxLocals := 2, code := prog_7_method_4_code, exceptionTable := #[], attributes := #[] }
def k3m3 : Method := { name := "compareTo", desc := "(Lcom/example/horatius/horatius/Fence;)I", sig := { parameters := [(.object "com/example/horatius/horatius/Fence")], returnType := some .int }, accessFlags := 1, code := some k3c3 }
def k3c4 : Code := { maxStack := 4, maxLocals := 3, code := prog_7_method_5_code, exceptionTable := #[], attributes := #[] }
def k3m4 : Method := { name := "equals", desc := "(Ljava/lang/Object;)Z", sig := { parameters := [(.object "java/lang/Object")], returnType := some .boolean }, accessFlags := 1, code := some k3c4 }
/-- com/example/horatius/horatius/Fence -/
def k3 : Class := { plain "com/example/horatius/horatius/Fence" (some 0) with
  accessFlags := 49
  interfaces := #[2]
  cf := some (fileOf pool3 8 #[] #[{ accessFlags := 2, nameIndex := 5, descriptorIndex := 26, attributes := #[] }, { accessFlags := 9, nameIndex := 71, descriptorIndex := 72, attributes := #[] }, { accessFlags := 1, nameIndex := 11, descriptorIndex := 74, attributes := #[] }, { accessFlags := 1, nameIndex := 57, descriptorIndex := 58, attributes := #[] }, { accessFlags := 1, nameIndex := 75, descriptorIndex := 76, attributes := #[] }] 49 2 #[59] #[{ accessFlags := 25, nameIndex := 61, descriptorIndex := 12, attributes := #[] }, { accessFlags := 25, nameIndex := 65, descriptorIndex := 12, attributes := #[] }, { accessFlags := 26, nameIndex := 66, descriptorIndex := 67, attributes := #[] }, { accessFlags := 18, nameIndex := 11, descriptorIndex := 12, attributes := #[] }])
  fields := #[{ name := "MIN_VALUE", type := .long, accessFlags := 25, slot := 0, constantValue := 0 }, { name := "MAX_VALUE", type := .long, accessFlags := 25, slot := 1, constantValue := 0 }, { name := "DIGITS", type := .int, accessFlags := 26, slot := 2, constantValue := 0 }, { name := "value", type := .long, accessFlags := 18, slot := 0, constantValue := 0 }]
  methods := #[k3m0, k3m1, k3m2, k3m3, k3m4]
  instanceTypes := #[.long]
  staticTypes := #[.long, .long, .int]
  resolved := Array.replicate 101 none
  statics := none }

def pool4 : Array CpInfo := pool [(1, .class_ 2), (0, u "java/io/Serializable"), (0, .class_ 4), (0, u "java/lang/Object")] 2

/-- java/io/Serializable -/
def k4 : Class := { plain "java/io/Serializable" (some 0) with
  accessFlags := 1537
  interfaces := #[]
  cf := some (fileOf pool4 1 #[] #[] 1537 3 #[] #[])
  fields := #[]
  methods := #[]
  instanceTypes := #[]
  staticTypes := #[]
  resolved := Array.replicate 7 none
  statics := none }

def pool5 : Array CpInfo := pool [(2, .class_ 4), (1, u "java/lang/Object"), (0, u "<init>"), (0, u "()V"), (1, .class_ 10), (1, u "java/lang/Number"), (2, .class_ 14), (0, u "java/io/Serializable"), (0, u "serialVersionUID"), (0, u "J")] 20

def k5m0 : Method := { name := "<init>", desc := "()V", sig := { parameters := [], returnType := none }, accessFlags := 1, code := none }
/-- java/lang/Number -/
def k5 : Class := { plain "java/lang/Number" (some 0) with
  accessFlags := 1057
  interfaces := #[4]
  cf := some (fileOf pool5 8 #[] #[{ accessFlags := 1, nameIndex := 5, descriptorIndex := 6, attributes := #[] }] 1057 2 #[13] #[{ accessFlags := 26, nameIndex := 15, descriptorIndex := 16, attributes := #[] }])
  fields := #[{ name := "serialVersionUID", type := .long, accessFlags := 26, slot := 0, constantValue := 0 }]
  methods := #[k5m0]
  instanceTypes := #[]
  staticTypes := #[.long]
  resolved := Array.replicate 37 none
  statics := none }

def pool6 : Array CpInfo := pool [(1, .class_ 2), (0, u "java/lang/constant/Constable"), (0, .class_ 4), (0, u "java/lang/Object")] 6

/-- java/lang/constant/Constable -/
def k6 : Class := { plain "java/lang/constant/Constable" (some 0) with
  accessFlags := 1537
  interfaces := #[]
  cf := some (fileOf pool6 1 #[] #[] 1537 3 #[] #[])
  fields := #[]
  methods := #[]
  instanceTypes := #[]
  staticTypes := #[]
  resolved := Array.replicate 11 none
  statics := none }

def pool7 : Array CpInfo := pool [(1, .class_ 2), (0, u "java/lang/constant/ConstantDesc"), (0, .class_ 4), (0, u "java/lang/Object")] 32

/-- java/lang/constant/ConstantDesc -/
def k7 : Class := { plain "java/lang/constant/ConstantDesc" (some 0) with
  accessFlags := 1537
  interfaces := #[]
  cf := some (fileOf pool7 1 #[] #[] 1537 3 #[] #[])
  fields := #[]
  methods := #[]
  instanceTypes := #[]
  staticTypes := #[]
  resolved := Array.replicate 37 none
  statics := none }

def pool8 : Array CpInfo := pool [(1, .class_ 2), (0, u "java/lang/Long"), (232, .class_ 237), (1, u "java/lang/Long$LongCache"), (33, .class_ 272), (0, u "java/lang/Number"), (2, u "value"), (0, u "J"), (27, u "compare"), (0, u "(JJ)I"), (55, u "TYPE"), (0, u "Ljava/lang/Class;"), (0, .class_ 364), (0, u "java/lang/Comparable"), (0, .class_ 366), (0, u "java/lang/constant/Constable"), (0, .class_ 368), (0, u "java/lang/constant/ConstantDesc"), (0, u "MIN_VALUE"), (1, u "MAX_VALUE"), (4, u "SIZE"), (0, u "I"), (1, u "BYTES"), (1, u "serialVersionUID")] 142

def k8c0 : Code := { maxStack := 4, maxLocals := 4, code := jdk_35_method_42_code, exceptionTable := #[], attributes := #[] }
def k8m0 : Method := { name := "compare", desc := "(JJ)I", sig := { parameters := [.long, .long], returnType := some .int }, accessFlags := 9, code := some k8c0 }
/-- java/lang/Long -/
def k8 : Class := { plain "java/lang/Long" (some 5) with
  accessFlags := 49
  interfaces := #[2, 6, 7]
  cf := some (fileOf pool8 1 #[.nestMembers #[235]] #[{ accessFlags := 9, nameIndex := 304, descriptorIndex := 305, attributes := #[] }] 49 271 #[363, 365, 367] #[{ accessFlags := 25, nameIndex := 369, descriptorIndex := 276, attributes := #[] }, { accessFlags := 25, nameIndex := 371, descriptorIndex := 276, attributes := #[] }, { accessFlags := 25, nameIndex := 361, descriptorIndex := 362, attributes := #[] }, { accessFlags := 18, nameIndex := 275, descriptorIndex := 276, attributes := #[] }, { accessFlags := 25, nameIndex := 376, descriptorIndex := 377, attributes := #[] }, { accessFlags := 25, nameIndex := 379, descriptorIndex := 377, attributes := #[] }, { accessFlags := 26, nameIndex := 381, descriptorIndex := 276, attributes := #[] }])
  fields := #[{ name := "MIN_VALUE", type := .long, accessFlags := 25, slot := 0, constantValue := 0 }, { name := "MAX_VALUE", type := .long, accessFlags := 25, slot := 1, constantValue := 0 }, { name := "TYPE", type := (.object "java/lang/Class"), accessFlags := 25, slot := 2, constantValue := 0 }, { name := "value", type := .long, accessFlags := 18, slot := 0, constantValue := 0 }, { name := "SIZE", type := .int, accessFlags := 25, slot := 3, constantValue := 0 }, { name := "BYTES", type := .int, accessFlags := 25, slot := 4, constantValue := 0 }, { name := "serialVersionUID", type := .long, accessFlags := 26, slot := 5, constantValue := 0 }]
  methods := #[k8m0]
  instanceTypes := #[.long]
  staticTypes := #[.long, .long, (.object "java/lang/Class"), .int, .int, .long]
  resolved := Array.replicate 524 none
  statics := none }

def pool9 : Array CpInfo := pool [(1, u "java/lang/Cloneable"), (0, .class_ 1), (0, u "java/lang/Object"), (0, .class_ 3)] 3

/-- java/lang/Cloneable -/
def k9 : Class := { plain "java/lang/Cloneable" (some 0) with
  accessFlags := 1537
  interfaces := #[]
  cf := some (fileOf pool9 2 #[] #[] 1537 4 #[] #[])
  fields := #[]
  methods := #[]
  instanceTypes := #[]
  staticTypes := #[]
  resolved := Array.replicate 8 none
  statics := none }

/-- the primitive byte -/
def k10 : Class := { plain "byte" none with kind := .primitive 'B', accessFlags := 0x411 }
/-- [B -/
def k11 : Class := { plain "[B" (some 0) with kind := .array 10 .byte, interfaces := #[9, 4], accessFlags := 1041 }

/-- the primitive int -/
def k12 : Class := { plain "int" none with kind := .primitive 'I', accessFlags := 0x411 }
/-- [I -/
def k13 : Class := { plain "[I" (some 0) with kind := .array 12 .int, interfaces := #[9, 4], accessFlags := 1041 }

def heap : Heap := #[]
def classes : Array Class := #[k0, k1, k2, k3, k4, k5, k6, k7, k8, k9, k10, k11, k12, k13]
def interned : List (Array UInt16 × Addr) := []
def slotsUsed : Nat := 0
def theMethod : MethodId := ⟨1, 3⟩
def args0 : Array Value := #[.long 5, .long 300, .int 9]
def aboutOver (below : List Frame) : State where
  vm := { classes := classes, interned := interned.toArray }
  heap := heap
  slotsUsed := slotsUsed
  threads := #[{ frames := .invoking theMethod args0 :: below }]
def below0 : List Frame := [.native { method := ⟨0, 0⟩, args := #[] }]
def about1 : State := aboutOver below0
def p0 : Program := .bare "" "" ""
def e0 : Env := launch0.env 0 0 0
theorem w_frames : about1.frames = Frame.invoking theMethod args0 :: below0 := rfl
set_option maxRecDepth 65536 in
theorem w_args : argsFit about1.vm theMethod args0 = true := by decide +kernel
set_option maxRecDepth 65536 in
theorem w_heap : heapFits about1 = true := by decide +kernel
set_option maxRecDepth 65536 in
theorem w_runnable : about1.curStatus? = some .runnable := by decide +kernel
set_option maxRecDepth 65536 in
theorem w_alone : about1.alone = true := by decide +kernel
set_option maxRecDepth 65536 in
theorem w_named : about1.methodNamed? x = some theMethod := by decide +kernel
set_option maxRecDepth 65536 in
theorem w_hears : about1.hears theMethod below0 = true := by decide +kernel
set_option maxRecDepth 65536 in
theorem w_ripe : about1.ripe theMethod args0 below0 = true := by decide +kernel
theorem w_running : about1.status = .running := rfl
set_option maxRecDepth 65536 in
theorem w_room : about1.hasRoom e0.platform room_1 = true :=
  launch0.hasRoom_least _ room_1 (by decide +kernel) (by decide +kernel) (by decide +kernel) (by decide +kernel) (by decide +kernel) (by decide +kernel)
theorem allAtoms_all (ts : List Jvm.Cond) (a : Array Jvm.Value) (st : Jvm.State) : (allAtoms ts).before a st = ts.all (fun c => c.before a st) := by
  induction ts with
  | nil => rfl
  | cons c t ih =>
    show (Jvm.Cond.and c (allAtoms t)).before a st = _
    rw [Jvm.Cond.before_and, ih, List.all_cons]
def words1 : List Jvm.Cond := Jvm.Cond.code x code maxLocals ret :: tables_1
/-- a 'code' word, met by the world's own term for the bytes: nothing is compared byte by byte -/
theorem code_word {y : MethodName} {bytes : ByteArray} {mx : Nat} {rt : Option FieldType} {a : Array Value} {s : State} {m : MethodId} {meth : Method} {c : Code} (h1 : s.methodNamed? y = some m) (h2 : s.vm.method? m = some meth) (h3 : meth.code = some c) (h4 : c.code = bytes)
    (h5 : (c.maxLocals == mx && c.exceptionTable.isEmpty && decide (c.maxStack ≤ mostOperands) && decide (meth.sig.returnType = rt) && !meth.locks && decide (parseMethodDescriptor y.desc = some meth.sig)) = true) : (Jvm.Cond.code y bytes mx rt).before a s = true := by
  simp only [Bool.and_eq_true, beq_iff_eq, Bool.not_eq_true', decide_eq_true_eq] at h5
  obtain ⟨⟨⟨⟨⟨g1, g2⟩, g3⟩, g4⟩, g5⟩, g6⟩ := h5
  simp [Cond.before, Cond.holds, Cond.value, h1, h2, h3, h4, g1, g2, g3, g4, g5, g6]
def isCode : Jvm.Cond → Bool
  | .code _ _ _ _ => true
  | _ => false
theorem all_split {L : List Jvm.Cond} {P : Jvm.Cond → Bool} (h1 : L.all (fun c => isCode c || P c) = true) (h2 : ∀ c ∈ L.filter isCode, P c = true) : L.all P = true := by
  refine List.all_eq_true.mpr fun c hc => ?_
  have h := List.all_eq_true.mp h1 c hc
  rcases Bool.eq_false_or_eq_true (isCode c) with hi | hi
  · exact h2 c (List.mem_filter.mpr ⟨hc, hi⟩)
  · simpa [hi] using h
set_option maxRecDepth 65536 in
theorem w_c0 : (Jvm.Cond.code x code maxLocals ret).before args0 about1 = true := code_word (m := ⟨1, 3⟩) (meth := k1m3) (c := k1c3) (by decide +kernel) rfl rfl rfl (by decide +kernel)
set_option maxRecDepth 65536 in
theorem w_c1 : (Jvm.Cond.code ({ cls := "com/example/horatius/horatius/FenceOfPinLaw", name := "pick", desc := "(JI)J" } : Jvm.MethodName) method_2_code (4 : Nat) (Option.some Jvm.ClassFile.FieldType.long)).before args0 about1 = true := code_word (m := ⟨1, 1⟩) (meth := k1m1) (c := k1c1) (by decide +kernel) rfl rfl rfl (by decide +kernel)
set_option maxRecDepth 65536 in
theorem w_c2 : (Jvm.Cond.code ({ cls := "com/example/horatius/horatius/Fence", name := "of", desc := "(J)Lcom/example/horatius/horatius/Fence;" } : Jvm.MethodName) prog_7_method_2_code (2 : Nat) (Option.some (Jvm.ClassFile.FieldType.object "com/example/horatius/horatius/Fence"))).before args0 about1 = true := code_word (m := ⟨3, 1⟩) (meth := k3m1) (c := k3c1) (by decide +kernel) rfl rfl rfl (by decide +kernel)
set_option maxRecDepth 65536 in
theorem w_c3 : (Jvm.Cond.code ({ cls := "com/example/horatius/horatius/Fence", name := "<init>", desc := "(J)V" } : Jvm.MethodName) prog_7_method_1_code (3 : Nat) (Option.none : Option Jvm.ClassFile.FieldType)).before args0 about1 = true := code_word (m := ⟨3, 0⟩) (meth := k3m0) (c := k3c0) (by decide +kernel) rfl rfl rfl (by decide +kernel)
set_option maxRecDepth 65536 in
theorem w_c4 : (Jvm.Cond.code ({ cls := "java/lang/Object", name := "<init>", desc := "()V" } : Jvm.MethodName) object_method_1_code (1 : Nat) (Option.none : Option Jvm.ClassFile.FieldType)).before args0 about1 = true := code_word (m := ⟨0, 0⟩) (meth := k0m0) (c := k0c0) (by decide +kernel) rfl rfl rfl (by decide +kernel)
set_option maxRecDepth 65536 in
theorem w_c5 : (Jvm.Cond.code ({ cls := "com/example/horatius/horatius/Fence", name := "value", desc := "()J" } : Jvm.MethodName) prog_7_method_3_code (1 : Nat) (Option.some Jvm.ClassFile.FieldType.long)).before args0 about1 = true := code_word (m := ⟨3, 2⟩) (meth := k3m2) (c := k3c2) (by decide +kernel) rfl rfl rfl (by decide +kernel)
set_option maxRecDepth 65536 in
theorem w_c6 : (Jvm.Cond.code ({ cls := "com/example/horatius/horatius/Fence", name := "equals", desc := "(Ljava/lang/Object;)Z" } : Jvm.MethodName) prog_7_method_5_code (3 : Nat) (Option.some Jvm.ClassFile.FieldType.boolean)).before args0 about1 = true := code_word (m := ⟨3, 4⟩) (meth := k3m4) (c := k3c4) (by decide +kernel) rfl rfl rfl (by decide +kernel)
set_option maxRecDepth 65536 in
theorem w_c7 : (Jvm.Cond.code ({ cls := "com/example/horatius/horatius/Fence", name := "compareTo", desc := "(Lcom/example/horatius/horatius/Fence;)I" } : Jvm.MethodName) prog_7_method_4_code (2 : Nat) (Option.some Jvm.ClassFile.FieldType.int)).before args0 about1 = true := code_word (m := ⟨3, 3⟩) (meth := k3m3) (c := k3c3) (by decide +kernel) rfl rfl rfl (by decide +kernel)
set_option maxRecDepth 65536 in
theorem w_c8 : (Jvm.Cond.code ({ cls := "java/lang/Long", name := "compare", desc := "(JJ)I" } : Jvm.MethodName) jdk_35_method_42_code (4 : Nat) (Option.some Jvm.ClassFile.FieldType.int)).before args0 about1 = true := code_word (m := ⟨8, 0⟩) (meth := k8m0) (c := k8c0) (by decide +kernel) rfl rfl rfl (by decide +kernel)
set_option maxRecDepth 65536 in
theorem w_c9 : (Jvm.Cond.code ({ cls := "com/example/horatius/horatius/FenceOfPinLaw", name := "sign", desc := "(J)I" } : Jvm.MethodName) method_3_code (2 : Nat) (Option.some Jvm.ClassFile.FieldType.int)).before args0 about1 = true := code_word (m := ⟨1, 2⟩) (meth := k1m2) (c := k1c2) (by decide +kernel) rfl rfl rfl (by decide +kernel)
def codes1 : List Jvm.Cond := [Jvm.Cond.code x code maxLocals ret, Jvm.Cond.code ({ cls := "com/example/horatius/horatius/FenceOfPinLaw", name := "pick", desc := "(JI)J" } : Jvm.MethodName) method_2_code (4 : Nat) (Option.some Jvm.ClassFile.FieldType.long), Jvm.Cond.code ({ cls := "com/example/horatius/horatius/Fence", name := "of", desc := "(J)Lcom/example/horatius/horatius/Fence;" } : Jvm.MethodName) prog_7_method_2_code (2 : Nat) (Option.some (Jvm.ClassFile.FieldType.object "com/example/horatius/horatius/Fence")), Jvm.Cond.code ({ cls := "com/example/horatius/horatius/Fence", name := "<init>", desc := "(J)V" } : Jvm.MethodName) prog_7_method_1_code (3 : Nat) (Option.none : Option Jvm.ClassFile.FieldType), Jvm.Cond.code ({ cls := "java/lang/Object", name := "<init>", desc := "()V" } : Jvm.MethodName) object_method_1_code (1 : Nat) (Option.none : Option Jvm.ClassFile.FieldType), Jvm.Cond.code ({ cls := "com/example/horatius/horatius/Fence", name := "value", desc := "()J" } : Jvm.MethodName) prog_7_method_3_code (1 : Nat) (Option.some Jvm.ClassFile.FieldType.long), Jvm.Cond.code ({ cls := "com/example/horatius/horatius/Fence", name := "equals", desc := "(Ljava/lang/Object;)Z" } : Jvm.MethodName) prog_7_method_5_code (3 : Nat) (Option.some Jvm.ClassFile.FieldType.boolean), Jvm.Cond.code ({ cls := "com/example/horatius/horatius/Fence", name := "compareTo", desc := "(Lcom/example/horatius/horatius/Fence;)I" } : Jvm.MethodName) prog_7_method_4_code (2 : Nat) (Option.some Jvm.ClassFile.FieldType.int), Jvm.Cond.code ({ cls := "java/lang/Long", name := "compare", desc := "(JJ)I" } : Jvm.MethodName) jdk_35_method_42_code (4 : Nat) (Option.some Jvm.ClassFile.FieldType.int), Jvm.Cond.code ({ cls := "com/example/horatius/horatius/FenceOfPinLaw", name := "sign", desc := "(J)I" } : Jvm.MethodName) method_3_code (2 : Nat) (Option.some Jvm.ClassFile.FieldType.int)]
set_option maxRecDepth 65536 in
theorem codes_eq : words1.filter isCode = codes1 := rfl
theorem w_codes : ∀ c ∈ words1.filter isCode, c.before args0 about1 = true := by
  rw [codes_eq]
  intro c hc
  simp only [codes1, List.mem_cons, List.not_mem_nil, or_false] at hc
  rcases hc with rfl | rfl | rfl | rfl | rfl | rfl | rfl | rfl | rfl | rfl
  · exact w_c0
  · exact w_c1
  · exact w_c2
  · exact w_c3
  · exact w_c4
  · exact w_c5
  · exact w_c6
  · exact w_c7
  · exact w_c8
  · exact w_c9
set_option maxRecDepth 65536 in
theorem w_t1 : (words1.take 24).all (fun c => isCode c || c.before args0 about1) = true := by decide +kernel
set_option maxRecDepth 65536 in
theorem w_t2 : (words1.drop 24).all (fun c => isCode c || c.before args0 about1) = true := by decide +kernel
theorem w_tables : (allAtoms (Jvm.Cond.code x code maxLocals ret :: tables_1)).before args0 about1 = true := by
  rw [allAtoms_all]
  show words1.all (fun c => c.before args0 about1) = true
  refine all_split ?_ w_codes
  rw [← List.take_append_drop 24 words1, List.all_append, w_t1, w_t2]
  rfl
set_option maxRecDepth 65536 in
theorem w_case : (Jvm.Cond.and given_1 narrow_1).before args0 about1 = true := by decide +kernel
theorem w_applies : (headSpec (Jvm.Cond.code x code maxLocals ret :: tables_1) room_1).applies x e0.platform about1 = true :=
  (Spec.applies_iff w_frames).mpr ⟨w_running, w_runnable, w_alone, w_named, w_hears, w_ripe, w_room, w_tables⟩
theorem atStart : AtStart classFile x code maxLocals ret World_1 tables_1 room_1 Calls_1 rest_1 Pre_1 launch0 p0 e0 about1 theMethod args0 below0 :=
  ⟨lists_1, trivial, launch0.admits_env _ _ _, launch0.least_env, fairChoices_fair.cas, fairChoices_fair.clock, w_frames, w_args, w_heap, w_applies, trivial, trivial, w_case⟩
end start1
theorem witness_1 : WitnessClaimed_1 := ⟨start1.p0, start1.e0, start1.about1, start1.theMethod, start1.args0, start1.below0, start1.atStart⟩
end Jvm.Pilot.@@N@@
