import JvmDerived
import JvmDerived.Pilot.@@N@@Statement
import JvmDerived.Pilot.@@N@@Code
set_option linter.unusedVariables false
set_option linter.unusedSimpArgs false

namespace Jvm.Pilot.@@N@@
open Jvm Jvm.ClassFile Sem Op Lib Jvm.Free Jvm.Stand Jvm.LawKit Jvm.RoadKit Bundle Jvm.Pilot.@@N@@.Jvm.D
section OwnKit
def Run (tb : Tables) (e : Env) (below : List Frame) (W : Outcome → State → Prop) (T : State) (g : JFrame) : Prop := ∃ s₂ o, Steps tb e below (T.setTop g) s₂ ∧ s₂.status = .running ∧ Ended s₂ below o ∧ W o s₂
abbrev Wd (s : State) (Q : Option Value → Heap → List Loc → Prop) (k n : Nat) : Outcome → State → Prop := fun o U => ∃ v L, o = .returned v ∧ Q v U.heap L ∧ FrameEnd s o U L k n
theorem run_fwd {tb : Tables} {e : Env} {below : List Frame} {W : Outcome → State → Prop} {T T' : State} {g g' : JFrame} (st : ∀ t, Steps tb e below (T'.setTop g') t → Steps tb e below (T.setTop g) t) (h : Run tb e below W T' g') : Run tb e below W T g := by
  obtain ⟨t, o, h1, h2⟩ := h
  exact ⟨t, o, st t h1, h2⟩
variable {p : Program} {l : Launch} {e : Env} {R : Room} {s : State} {m : MethodId} {args : Array Value} {below : List Frame} {meth : Method} {c : Code} {T : State} {locs : List Loc} {cells slots : Nat}
theorem run_ret (X : Stand p l e R s m args below meth c T locs cells slots) (hx : p.tables.exec = Jvm.exec) {pc : Nat} {Ls : Array Slot} {w : Value} {t : FieldType} {i : Instr} {rest : List Value} {Q : Option Value → Heap → List Loc → Prop} {k n : Nat} (hret : meth.sig.returnType = some t) (hlk : meth.locks = false) (hn : narrow t w = w)
    (hi : (i = .ireturn ∧ (t = .int ∨ t = .boolean ∨ t = .byte ∨ t = .char ∨ t = .short) ∧ ∃ z, w = .int z) ∨ (i = .lreturn ∧ t = .long ∧ ∃ z, w = .long z) ∨ (i = .dreturn ∧ t = .double ∧ ∃ z, w = .double z) ∨ (i = .freturn ∧ t = .float ∧ ∃ z, w = .float z) ∨ (i = .areturn ∧ t.isReference = true ∧ w.isRef = true))
    (hd : decode c.code pc = .ok (i, 1)) (hQ : Q (some w) T.heap locs) (hk : cells ≤ k) (hs : slots ≤ n) : Run p.tables e below (Wd s Q k n) T (mkF m pc Ls (w :: rest)) := by
  obtain ⟨fs, hr, hrun, hended, hW, hsame⟩ := X.leave (v := some w) (fun h => by rw [hret] at h; cases h) hlk
  exact ⟨_, _, retOut X hx hret hn hi hd hr, hrun, hended, _, _, rfl, hQ, ⟨_, rfl⟩, hW, hsame.mono hk hs⟩
theorem run_retN (X : Stand p l e R s m args below meth c T locs cells slots) (hx : p.tables.exec = Jvm.exec) {pc : Nat} {Ls : Array Slot} {z : Int32} {t : FieldType} {rest : List Value} {Q : Option Value → Heap → List Loc → Prop} {k n : Nat} (hret : meth.sig.returnType = some t) (hlk : meth.locks = false) (ht : t = .boolean ∨ t = .byte ∨ t = .char ∨ t = .short)
    (hd : decode c.code pc = .ok (.ireturn, 1)) (hQ : Q (some (.int (nar t z))) T.heap locs) (hk : cells ≤ k) (hs : slots ≤ n) : Run p.tables e below (Wd s Q k n) T (mkF m pc Ls (.int z :: rest)) := by
  obtain ⟨fs, hr, hrun, hended, hW, hsame⟩ := X.leave (v := some (.int (nar t z))) (fun h => by rw [hret] at h; cases h) hlk
  exact ⟨_, _, retN X hx hret ht hd hr, hrun, hended, _, _, rfl, hQ, ⟨_, rfl⟩, hW, hsame.mono hk hs⟩
theorem run_ret0 (X : Stand p l e R s m args below meth c T locs cells slots) (hx : p.tables.exec = Jvm.exec) {pc : Nat} {Ls : Array Slot} {Q : Option Value → Heap → List Loc → Prop} {k n : Nat} (hret : meth.sig.returnType = none) (hlk : meth.locks = false)
    (hd : decode c.code pc = .ok (.return_, 1)) (hQ : Q none T.heap locs) (hk : cells ≤ k) (hs : slots ≤ n) : Run p.tables e below (Wd s Q k n) T (mkF m pc Ls []) := by
  obtain ⟨fs, hr, hrun, hended, hW, hsame⟩ := X.leave (v := none) (fun _ => rfl) hlk
  exact ⟨_, _, X.returnOut hx hret hd hr, hrun, hended, _, _, rfl, hQ, ⟨_, rfl⟩, hW, hsame.mono hk hs⟩
abbrev WdW (s : State) (Q : Option Value → Heap → List Loc → Prop) (k n : Nat) : Outcome → State → Prop := fun o U => ∃ v L, o = .returned v ∧ Q v U.heap L ∧ ReturnedEndW s o U L k n
theorem run_retW {vm1 : Vm} {n1 : Nat} (X : Stand p l e R (s.setVm vm1) m args below meth c T locs cells slots) (hx : p.tables.exec = Jvm.exec) (hS : s.Since vm1 n1) (hn1 : n1 ≤ T.heap.size) {pc : Nat} {Ls : Array Slot} {w : Value} {t : FieldType} {i : Instr} {rest : List Value} {Q : Option Value → Heap → List Loc → Prop} {k n : Nat} (hret : meth.sig.returnType = some t) (hlk : meth.locks = false) (hn : narrow t w = w)
    (hi : (i = .ireturn ∧ (t = .int ∨ t = .boolean ∨ t = .byte ∨ t = .char ∨ t = .short) ∧ ∃ z, w = .int z) ∨ (i = .lreturn ∧ t = .long ∧ ∃ z, w = .long z) ∨ (i = .dreturn ∧ t = .double ∧ ∃ z, w = .double z) ∨ (i = .freturn ∧ t = .float ∧ ∃ z, w = .float z) ∨ (i = .areturn ∧ t.isReference = true ∧ w.isRef = true))
    (hd : decode c.code pc = .ok (i, 1)) (hQ : Q (some w) T.heap locs) (hk : cells ≤ k) (hs : slots ≤ n) : Run p.tables e below (WdW s Q k n) T (mkF m pc Ls (w :: rest)) := by
  obtain ⟨fs, hr, hrun, hended, hE⟩ := X.leaveW hS hn1 (v := some w) (fun h => by rw [hret] at h; cases h) hlk
  exact ⟨_, _, retOut X hx hret hn hi hd hr, hrun, hended, _, _, rfl, hQ, hE.1, hE.2.1, hE.2.2.1, hE.2.2.2.mono hk hs⟩
theorem own_le {Z : State} {n0 : Nat} {h : Heap} (O : Old Z n0 h) : n0 ≤ h.size := O.1 ▸ O.2.1
end OwnKit
theorem own_eqint {args : Array Value} {s : State} {t : Term} {k : Int32} (h : (Jvm.Cond.eq t (Term.int k)).value args s none s [] = some true) : t.eval args s none [] s = some (.int k) := by
  simp only [Cond.value, Term.eval] at h
  cases ht : t.eval args s none [] s with
  | none => simp [ht] at h
  | some x => cases x <;> simp [ht] at h ⊢ <;> exact h
theorem own_sta {args : Array Value} {s : State} {C f d K : String} (hx : (Jvm.Cond.exactly (Term.static C f d) K).value args s none s [] = some true) (hi : (Cond.initializedFor C f d).before args s = true ∨ ((Cond.initialized C).before args s = true ∧ (Cond.laysStatic C f d).before args s = true)) : ∃ a, (Term.static C f d).eval args s none [] s = some (.ref a) ∧ Sta s s.heap C f d (.ref a) ∧ Exa s s.heap a K := by
  obtain ⟨a, ha⟩ := exa_v hx
  exact ⟨a, ha, Sta.start ha hi, Exa.start ha hx⟩
theorem own_fld {args : Array Value} {s : State} {t : Term} {C n dd : String} {a : Addr} {k : Int32} (ha : t.eval args s none [] s = some (.ref a)) (hf : (Jvm.Cond.eq (Term.field t C n dd) (Term.int k)).value args s none s [] = some true) : Fld s s.heap a C n dd (.int k) :=
  Fld.start (by have q := own_eqint hf; rw [fld_at ha] at q; exact q)
def own_min (a b : Int64) : Int64 := if b < a then b else a
def own_max (a b : Int64) : Int64 := if a < b then b else a
theorem own_mm (a b : Int64) : ¬ own_max a b < own_min a b := by
  unfold own_min own_max; split <;> split <;> simp only [Int64.lt_iff_toInt_lt] at * <;> omega
theorem d1_0 : decode jdk_29_method_70_code 0 = .ok (.lload_n 0, 1) := by decide +kernel
theorem d1_1 : decode jdk_29_method_70_code 1 = .ok (.lload_n 2, 1) := by decide +kernel
theorem d1_2 : decode jdk_29_method_70_code 2 = .ok (.lcmp, 1) := by decide +kernel
theorem d1_3 : decode jdk_29_method_70_code 3 = .ok (.ifCond .gt 7, 3) := by decide +kernel
theorem d1_10 : decode jdk_29_method_70_code 10 = .ok (.lload_n 2, 1) := by decide +kernel
theorem d1_11 : decode jdk_29_method_70_code 11 = .ok (.lreturn, 1) := by decide +kernel
theorem d1_6 : decode jdk_29_method_70_code 6 = .ok (.lload_n 0, 1) := by decide +kernel
theorem d1_7 : decode jdk_29_method_70_code 7 = .ok (.goto 4, 3) := by decide +kernel
theorem ef_rm1 (m : MethodId) (x0 : Int64) (x1 : Int64) : entryFrame m #[(.long x0), (.long x1)] 4 = mkF m 0 #[.val (.long x0), .second, .val (.long x1), .second] [] := by first | (simp [entryFrame, mkF, argsToLocals, Value.category]; done) | rfl
def Qrm1 (Z : State) (q0 : Int64) (q1 : Int64) (r : Int64) (h0 : Heap) (n0 : Nat) (v : Option Value) (h : Heap) (L : List Loc) : Prop := v = some (.long r) ∧ Fr n0 L ∧ h = h0
set_option maxRecDepth 65536 in
set_option maxHeartbeats 40000000 in
theorem rm1 (l : Launch) (Z : State) (aV : Array Value) (hw : ∀ d ∈ tables_1, d.before aV Z = true) (ws : List Jvm.Cond) (q0 : Int64) (q1 : Int64) (r : Int64) (h0 : Heap) (n0 : Nat) (O0 : Old Z n0 h0) (hr : own_min q0 q1 = r) :
    MetFree l (⟨"java/lang/Math", "min", "(JJ)J"⟩ : MethodName) (head1 (Jvm.Cond.code (⟨"java/lang/Math", "min", "(JJ)J"⟩ : MethodName) jdk_29_method_70_code 4 (some .long) :: ws) ({ frames := 0, cells := 0, slots := 0, locals := 0 } : Room)) (fun a U => a = #[(.long q0), (.long q1)] ∧ Z.Warmed39 U.vm ∧ U.heap = h0) (fun _ _ _ _ _ => True) (fun _ U o U' => ∃ v L, o = .returned v ∧ Qrm1 Z q0 q1 r h0 n0 v U'.heap L ∧ FrameEnd U o U' L ({ frames := 0, cells := 0, slots := 0, locals := 0 } : Room).cells ({ frames := 0, cells := 0, slots := 0, locals := 0 } : Room).slots) := by
  refine MetFree.of_bodySF (Jvm.Free.JP.mathPlain rfl (by decide +kernel)) hisR ?_
  intro p e s m args below meth c s₁ Bd hml0 hP hK
  obtain ⟨rfl, hZ, hh⟩ := hP
  have hx := Bd.exec
  have hby := Bd.bytes
  have hml : c.maxLocals = 4 := hml0
  have hown : s.vm.findClass "java/lang/Math" = some m.cls := findClass_of_methodNamed Bd.named
  have hnm := (name_of_methodNamed Bd.named Bd.method).1
  have X0 : Stand p l e ({ frames := 0, cells := 0, slots := 0, locals := 0 } : Room) s m #[(.long q0), (.long q1)] below meth c s₁ [] 0 0 := Stand.of_body Bd
  have e0 : s₁.heap = h0 := by rw [← hh, Bd.state]; rfl
  have N0 := Fr.nil n0
  show Run p.tables e below (Wd s (Qrm1 Z q0 q1 r h0 n0) ({ frames := 0, cells := 0, slots := 0, locals := 0 } : Room).cells ({ frames := 0, cells := 0, slots := 0, locals := 0 } : Room).slots) s₁ (entryFrame m #[(.long q0), (.long q1)] 4)
  rw [ef_rm1 m q0 q1]
  refine run_fwd (T' := s₁) (g' := (mkF m 1 #[.val (.long q0), .second, .val (.long q1), .second] [(.long q0)])) (fun _ k => XS.lloadN X0.here hx rfl (hb hby d1_0) rfl k) ?_
  refine run_fwd (T' := s₁) (g' := (mkF m 2 #[.val (.long q0), .second, .val (.long q1), .second] [(.long q1), (.long q0)])) (fun _ k => XS.lloadN X0.here hx rfl (hb hby d1_1) rfl k) ?_
  refine run_fwd (T' := s₁) (g' := (mkF m 3 #[.val (.long q0), .second, .val (.long q1), .second] [(.int (lcmpW q0 q1))])) (fun _ k => XS.lcmp X0.here hx rfl (hb hby d1_2) rfl k) ?_
  by_cases hc3_1 : q1 < q0
  ·
    refine run_fwd (T' := s₁) (g' := (mkF m 10 #[.val (.long q0), .second, .val (.long q1), .second] [])) (fun _ k => XS.ifYes X0.here hx rfl (pc0 := 3) (pc' := 10) rfl (hb hby d1_3) rfl ((if0 _ _).trans (tlt ((lw_gt q0 q1).mpr hc3_1)).2.2.1) (by decide) (by decide) k) ?_
    refine run_fwd (T' := s₁) (g' := (mkF m 11 #[.val (.long q0), .second, .val (.long q1), .second] [(.long q1)])) (fun _ k => XS.lloadN X0.here hx rfl (hb hby d1_10) rfl k) ?_
    exact run_ret X0 hx Bd.returns Bd.notSynchronized rfl (Or.inr (Or.inl ⟨rfl, rfl, _, rfl⟩)) (hb hby d1_11) (by rw [e0]; exact ⟨by rw [← hr, own_min, if_pos hc3_1], N0, rfl⟩) (by decide) (by decide)
  ·
    refine run_fwd (T' := s₁) (g' := (mkF m 6 #[.val (.long q0), .second, .val (.long q1), .second] [])) (fun _ k => XS.ifNo X0.here hx rfl (hb hby d1_3) rfl ((if0 _ _).trans (flt (fun z => hc3_1 ((lw_gt q0 q1).mp z))).2.2.1) k) ?_
    refine run_fwd (T' := s₁) (g' := (mkF m 7 #[.val (.long q0), .second, .val (.long q1), .second] [(.long q0)])) (fun _ k => XS.lloadN X0.here hx rfl (hb hby d1_6) rfl k) ?_
    refine run_fwd (T' := s₁) (g' := (mkF m 11 #[.val (.long q0), .second, .val (.long q1), .second] [(.long q0)])) (fun _ k => XS.goto X0.here hx rfl (pc0 := 7) (pc' := 11) rfl (hb hby d1_7) (by decide) (by decide) k) ?_
    exact run_ret X0 hx Bd.returns Bd.notSynchronized rfl (Or.inr (Or.inl ⟨rfl, rfl, _, rfl⟩)) (hb hby d1_11) (by rw [e0]; exact ⟨by rw [← hr, own_min, if_neg hc3_1], N0, rfl⟩) (by decide) (by decide)
theorem d2_0 : decode jdk_29_method_66_code 0 = .ok (.lload_n 0, 1) := by decide +kernel
theorem d2_1 : decode jdk_29_method_66_code 1 = .ok (.lload_n 2, 1) := by decide +kernel
theorem d2_2 : decode jdk_29_method_66_code 2 = .ok (.lcmp, 1) := by decide +kernel
theorem d2_3 : decode jdk_29_method_66_code 3 = .ok (.ifCond .lt 7, 3) := by decide +kernel
theorem d2_10 : decode jdk_29_method_66_code 10 = .ok (.lload_n 2, 1) := by decide +kernel
theorem d2_11 : decode jdk_29_method_66_code 11 = .ok (.lreturn, 1) := by decide +kernel
theorem d2_6 : decode jdk_29_method_66_code 6 = .ok (.lload_n 0, 1) := by decide +kernel
theorem d2_7 : decode jdk_29_method_66_code 7 = .ok (.goto 4, 3) := by decide +kernel
theorem ef_rm2 (m : MethodId) (x0 : Int64) (x1 : Int64) : entryFrame m #[(.long x0), (.long x1)] 4 = mkF m 0 #[.val (.long x0), .second, .val (.long x1), .second] [] := by first | (simp [entryFrame, mkF, argsToLocals, Value.category]; done) | rfl
def Qrm2 (Z : State) (q0 : Int64) (q1 : Int64) (r : Int64) (h0 : Heap) (n0 : Nat) (v : Option Value) (h : Heap) (L : List Loc) : Prop := v = some (.long r) ∧ Fr n0 L ∧ h = h0
set_option maxRecDepth 65536 in
set_option maxHeartbeats 40000000 in
theorem rm2 (l : Launch) (Z : State) (aV : Array Value) (hw : ∀ d ∈ tables_1, d.before aV Z = true) (ws : List Jvm.Cond) (q0 : Int64) (q1 : Int64) (r : Int64) (h0 : Heap) (n0 : Nat) (O0 : Old Z n0 h0) (hr : own_max q0 q1 = r) :
    MetFree l (⟨"java/lang/Math", "max", "(JJ)J"⟩ : MethodName) (head1 (Jvm.Cond.code (⟨"java/lang/Math", "max", "(JJ)J"⟩ : MethodName) jdk_29_method_66_code 4 (some .long) :: ws) ({ frames := 0, cells := 0, slots := 0, locals := 0 } : Room)) (fun a U => a = #[(.long q0), (.long q1)] ∧ Z.Warmed39 U.vm ∧ U.heap = h0) (fun _ _ _ _ _ => True) (fun _ U o U' => ∃ v L, o = .returned v ∧ Qrm2 Z q0 q1 r h0 n0 v U'.heap L ∧ FrameEnd U o U' L ({ frames := 0, cells := 0, slots := 0, locals := 0 } : Room).cells ({ frames := 0, cells := 0, slots := 0, locals := 0 } : Room).slots) := by
  refine MetFree.of_bodySF (Jvm.Free.JP.mathPlain rfl (by decide +kernel)) hisR ?_
  intro p e s m args below meth c s₁ Bd hml0 hP hK
  obtain ⟨rfl, hZ, hh⟩ := hP
  have hx := Bd.exec
  have hby := Bd.bytes
  have hml : c.maxLocals = 4 := hml0
  have hown : s.vm.findClass "java/lang/Math" = some m.cls := findClass_of_methodNamed Bd.named
  have hnm := (name_of_methodNamed Bd.named Bd.method).1
  have X0 : Stand p l e ({ frames := 0, cells := 0, slots := 0, locals := 0 } : Room) s m #[(.long q0), (.long q1)] below meth c s₁ [] 0 0 := Stand.of_body Bd
  have e0 : s₁.heap = h0 := by rw [← hh, Bd.state]; rfl
  have N0 := Fr.nil n0
  show Run p.tables e below (Wd s (Qrm2 Z q0 q1 r h0 n0) ({ frames := 0, cells := 0, slots := 0, locals := 0 } : Room).cells ({ frames := 0, cells := 0, slots := 0, locals := 0 } : Room).slots) s₁ (entryFrame m #[(.long q0), (.long q1)] 4)
  rw [ef_rm2 m q0 q1]
  refine run_fwd (T' := s₁) (g' := (mkF m 1 #[.val (.long q0), .second, .val (.long q1), .second] [(.long q0)])) (fun _ k => XS.lloadN X0.here hx rfl (hb hby d2_0) rfl k) ?_
  refine run_fwd (T' := s₁) (g' := (mkF m 2 #[.val (.long q0), .second, .val (.long q1), .second] [(.long q1), (.long q0)])) (fun _ k => XS.lloadN X0.here hx rfl (hb hby d2_1) rfl k) ?_
  refine run_fwd (T' := s₁) (g' := (mkF m 3 #[.val (.long q0), .second, .val (.long q1), .second] [(.int (lcmpW q0 q1))])) (fun _ k => XS.lcmp X0.here hx rfl (hb hby d2_2) rfl k) ?_
  by_cases hc3_1 : q0 < q1
  ·
    refine run_fwd (T' := s₁) (g' := (mkF m 10 #[.val (.long q0), .second, .val (.long q1), .second] [])) (fun _ k => XS.ifYes X0.here hx rfl (pc0 := 3) (pc' := 10) rfl (hb hby d2_3) rfl ((if0 _ _).trans (tlt ((lw_lt q0 q1).mpr hc3_1)).1) (by decide) (by decide) k) ?_
    refine run_fwd (T' := s₁) (g' := (mkF m 11 #[.val (.long q0), .second, .val (.long q1), .second] [(.long q1)])) (fun _ k => XS.lloadN X0.here hx rfl (hb hby d2_10) rfl k) ?_
    exact run_ret X0 hx Bd.returns Bd.notSynchronized rfl (Or.inr (Or.inl ⟨rfl, rfl, _, rfl⟩)) (hb hby d2_11) (by rw [e0]; exact ⟨by rw [← hr, own_max, if_pos hc3_1], N0, rfl⟩) (by decide) (by decide)
  ·
    refine run_fwd (T' := s₁) (g' := (mkF m 6 #[.val (.long q0), .second, .val (.long q1), .second] [])) (fun _ k => XS.ifNo X0.here hx rfl (hb hby d2_3) rfl ((if0 _ _).trans (flt (fun z => hc3_1 ((lw_lt q0 q1).mp z))).1) k) ?_
    refine run_fwd (T' := s₁) (g' := (mkF m 7 #[.val (.long q0), .second, .val (.long q1), .second] [(.long q0)])) (fun _ k => XS.lloadN X0.here hx rfl (hb hby d2_6) rfl k) ?_
    refine run_fwd (T' := s₁) (g' := (mkF m 11 #[.val (.long q0), .second, .val (.long q1), .second] [(.long q0)])) (fun _ k => XS.goto X0.here hx rfl (pc0 := 7) (pc' := 11) rfl (hb hby d2_7) (by decide) (by decide) k) ?_
    exact run_ret X0 hx Bd.returns Bd.notSynchronized rfl (Or.inr (Or.inl ⟨rfl, rfl, _, rfl⟩)) (hb hby d2_11) (by rw [e0]; exact ⟨by rw [← hr, own_max, if_neg hc3_1], N0, rfl⟩) (by decide) (by decide)
theorem d8_0 : decode jdk_32_method_2_code 0 = .ok (.aload_n 0, 1) := by decide +kernel
theorem d8_1 : decode jdk_32_method_2_code 1 = .ok (.invokespecial 7, 3) := by decide +kernel
theorem d8_4 : decode jdk_32_method_2_code 4 = .ok (.aload_n 0, 1) := by decide +kernel
theorem d8_5 : decode jdk_32_method_2_code 5 = .ok (.aload_n 1, 1) := by decide +kernel
theorem d8_6 : decode jdk_32_method_2_code 6 = .ok (.putfield 13, 3) := by decide +kernel
theorem d8_9 : decode jdk_32_method_2_code 9 = .ok (.return_, 1) := by decide +kernel
theorem pn_java_util_Optional : plainName "java/util/Optional" = true := by first | (simp [plainName, overriddenIn]; done) | decide +kernel
theorem ef_rm8 (m : MethodId) (x0 : Addr) (x1 : Addr) : entryFrame m #[(.ref x0), (.ref x1)] 2 = mkF m 0 #[.val (.ref x0), .val (.ref x1)] [] := by first | (simp [entryFrame, mkF, argsToLocals, Value.category]; done) | rfl
def Qrm8 (Z : State) (a0 : Addr) (a1 : Addr) (h0 : Heap) (n0 : Nat) (v : Option Value) (h : Heap) (L : List Loc) : Prop := v = none ∧ Fr n0 L ∧ Keep h0 h [a0] ∧ Exa Z h a0 "java/util/Optional" ∧ Fld Z h a0 "java/util/Optional" "value" "Ljava/lang/Object;" (.ref a1)
set_option maxRecDepth 65536 in
set_option maxHeartbeats 40000000 in
theorem rm8 (l : Launch) (Z : State) (aV : Array Value) (hw : ∀ d ∈ tables_1, d.before aV Z = true) (ws : List Jvm.Cond) (a0 : Addr) (a1 : Addr) (h0 : Heap) (n0 : Nat) (O0 : Old Z n0 h0) (gi0 : n0 ≤ a0) (Ei1 : Exa Z h0 a0 "java/util/Optional") (Fi2 : Fld Z h0 a0 "java/util/Optional" "value" "Ljava/lang/Object;" .null) :
    MetFree l (⟨"java/util/Optional", "<init>", "(Ljava/lang/Object;)V"⟩ : MethodName) (head1 (Jvm.Cond.code (⟨"java/util/Optional", "<init>", "(Ljava/lang/Object;)V"⟩ : MethodName) jdk_32_method_2_code 2 none :: ws) ({ frames := 1, cells := 0, slots := 0, locals := 12 } : Room)) (fun a U => a = #[(.ref a0), (.ref a1)] ∧ Z.Warmed39 U.vm ∧ U.heap = h0) (fun _ _ _ _ _ => True) (fun _ U o U' => ∃ v L, o = .returned v ∧ Qrm8 Z a0 a1 h0 n0 v U'.heap L ∧ FrameEnd U o U' L ({ frames := 1, cells := 0, slots := 0, locals := 12 } : Room).cells ({ frames := 1, cells := 0, slots := 0, locals := 12 } : Room).slots) := by
  refine MetFree.of_bodySF (plainFor_of_name pn_java_util_Optional) hisR ?_
  intro p e s m args below meth c s₁ Bd hml0 hP hK
  obtain ⟨rfl, hZ, hh⟩ := hP
  have hx := Bd.exec
  have hby := Bd.bytes
  have hml : c.maxLocals = 2 := hml0
  have hown : s.vm.findClass "java/util/Optional" = some m.cls := findClass_of_methodNamed Bd.named
  have hnm := (name_of_methodNamed Bd.named Bd.method).1
  have X0 : Stand p l e ({ frames := 1, cells := 0, slots := 0, locals := 12 } : Room) s m #[(.ref a0), (.ref a1)] below meth c s₁ [] 0 0 := Stand.of_body Bd
  have e0 : s₁.heap = h0 := by rw [← hh, Bd.state]; rfl
  have N0 := Fr.nil n0
  show Run p.tables e below (Wd s (Qrm8 Z a0 a1 h0 n0) ({ frames := 1, cells := 0, slots := 0, locals := 12 } : Room).cells ({ frames := 1, cells := 0, slots := 0, locals := 12 } : Room).slots) s₁ (entryFrame m #[(.ref a0), (.ref a1)] 2)
  rw [ef_rm8 m a0 a1]
  refine run_fwd (T' := s₁) (g' := (mkF m 1 #[.val (.ref a0), .val (.ref a1)] [(.ref a0)])) (fun _ k => XS.aloadN X0.here hx rfl (hb hby d8_0) rfl rfl k) ?_
  obtain ⟨T1, X1, e1, st1⟩ := initO X0 hx hZ hown (hw _ (List.mem_of_getElem? (i := 38) rfl)) (hw _ (List.mem_of_getElem? (i := 39) rfl)) (hw _ (List.mem_of_getElem? (i := 40) rfl)) e0 (g := (mkF m 1 #[.val (.ref a0), .val (.ref a1)] [(.ref a0)])) rfl (by rw [hml]; rfl) rfl (hb hby d8_1) (by decide) (W := 0) (by show 2 * 0 + _ ≤ _; exact Nat.le_of_eq rfl) (by decide)
  refine run_fwd (T' := T1) (g' := (mkF m 4 #[.val (.ref a0), .val (.ref a1)] [])) (fun _ k => st1 _ k) ?_
  refine run_fwd (T' := T1) (g' := (mkF m 5 #[.val (.ref a0), .val (.ref a1)] [(.ref a0)])) (fun _ k => XS.aloadN X1.here hx rfl (hb hby d8_4) rfl rfl k) ?_
  refine run_fwd (T' := T1) (g' := (mkF m 6 #[.val (.ref a0), .val (.ref a1)] [(.ref a1), (.ref a0)])) (fun _ k => XS.aloadN X1.here hx rfl (hb hby d8_5) rfl rfl k) ?_
  obtain ⟨T2, h2, X2, e2, W2, st2⟩ := putF X1 hx hZ hown (host := "") (Or.inl (hw _ (List.mem_of_getElem? (i := 21) rfl))) Via.refl e1 Fi2 Ei1 (Or.inr ⟨(hw _ (List.mem_of_getElem? (i := 22) rfl)), rfl, hnm⟩) (hw _ (List.mem_of_getElem? (i := 29) rfl)) (ty := (.object "java/lang/Object")) (by decide) rfl rfl (g := (mkF m 6 #[.val (.ref a0), .val (.ref a1)] [(.ref a1), (.ref a0)])) rfl rfl (hb hby d8_6)
  have O3 : Old Z n0 h2 := O0.wr W2 gi0
  have K4 : Keep h0 h2 [a0] := (Keep.refl h0 [a0]).wr W2 (Or.inl (List.mem_of_getElem? (i := 0) rfl))
  have N2 := Fr.snoc X2 N0 gi0
  have Fw2 : Fld Z h2 a0 "java/util/Optional" "value" "Ljava/lang/Object;" (.ref a1) := Fi2.same W2
  refine run_fwd (T' := T2) (g' := (mkF m 9 #[.val (.ref a0), .val (.ref a1)] [])) (fun _ k => st2 _ k) ?_
  exact run_ret0 X2 hx Bd.returns Bd.notSynchronized (hb hby d8_9) (by rw [e2]; exact ⟨rfl, N2, K4, (Ei1.wr W2), Fw2⟩) (by decide) (by decide)
theorem d7_0 : decode jdk_31_method_10_code 0 = .ok (.aload_n 0, 1) := by decide +kernel
theorem d7_1 : decode jdk_31_method_10_code 1 = .ok (.ifnonnull 11, 3) := by decide +kernel
theorem d7_12 : decode jdk_31_method_10_code 12 = .ok (.aload_n 0, 1) := by decide +kernel
theorem d7_13 : decode jdk_31_method_10_code 13 = .ok (.areturn, 1) := by decide +kernel
theorem pn_java_util_Objects : plainName "java/util/Objects" = true := by first | (simp [plainName, overriddenIn]; done) | decide +kernel
theorem ef_rm7 (m : MethodId) (x0 : Addr) : entryFrame m #[(.ref x0)] 1 = mkF m 0 #[.val (.ref x0)] [] := by first | (simp [entryFrame, mkF, argsToLocals, Value.category]; done) | rfl
def Qrm7 (Z : State) (a0 : Addr) (h0 : Heap) (n0 : Nat) (v : Option Value) (h : Heap) (L : List Loc) : Prop := v = some (.ref a0) ∧ Fr n0 L ∧ h = h0
set_option maxRecDepth 65536 in
set_option maxHeartbeats 40000000 in
theorem rm7 (l : Launch) (Z : State) (aV : Array Value) (hw : ∀ d ∈ tables_1, d.before aV Z = true) (ws : List Jvm.Cond) (a0 : Addr) (h0 : Heap) (n0 : Nat) (O0 : Old Z n0 h0) :
    MetFree l (⟨"java/util/Objects", "requireNonNull", "(Ljava/lang/Object;)Ljava/lang/Object;"⟩ : MethodName) (head1 (Jvm.Cond.code (⟨"java/util/Objects", "requireNonNull", "(Ljava/lang/Object;)Ljava/lang/Object;"⟩ : MethodName) jdk_31_method_10_code 1 (some (.object "java/lang/Object")) :: ws) ({ frames := 0, cells := 0, slots := 0, locals := 0 } : Room)) (fun a U => a = #[(.ref a0)] ∧ Z.Warmed39 U.vm ∧ U.heap = h0) (fun _ _ _ _ _ => True) (fun _ U o U' => ∃ v L, o = .returned v ∧ Qrm7 Z a0 h0 n0 v U'.heap L ∧ FrameEnd U o U' L ({ frames := 0, cells := 0, slots := 0, locals := 0 } : Room).cells ({ frames := 0, cells := 0, slots := 0, locals := 0 } : Room).slots) := by
  refine MetFree.of_bodySF (plainFor_of_name pn_java_util_Objects) hisR ?_
  intro p e s m args below meth c s₁ Bd hml0 hP hK
  obtain ⟨rfl, hZ, hh⟩ := hP
  have hx := Bd.exec
  have hby := Bd.bytes
  have hml : c.maxLocals = 1 := hml0
  have hown : s.vm.findClass "java/util/Objects" = some m.cls := findClass_of_methodNamed Bd.named
  have hnm := (name_of_methodNamed Bd.named Bd.method).1
  have X0 : Stand p l e ({ frames := 0, cells := 0, slots := 0, locals := 0 } : Room) s m #[(.ref a0)] below meth c s₁ [] 0 0 := Stand.of_body Bd
  have e0 : s₁.heap = h0 := by rw [← hh, Bd.state]; rfl
  have N0 := Fr.nil n0
  show Run p.tables e below (Wd s (Qrm7 Z a0 h0 n0) ({ frames := 0, cells := 0, slots := 0, locals := 0 } : Room).cells ({ frames := 0, cells := 0, slots := 0, locals := 0 } : Room).slots) s₁ (entryFrame m #[(.ref a0)] 1)
  rw [ef_rm7 m a0]
  refine run_fwd (T' := s₁) (g' := (mkF m 1 #[.val (.ref a0)] [(.ref a0)])) (fun _ k => XS.aloadN X0.here hx rfl (hb hby d7_0) rfl rfl k) ?_
  refine run_fwd (T' := s₁) (g' := (mkF m 12 #[.val (.ref a0)] [])) (fun _ k => XS.ifnonnullYes X0.here hx rfl (pc0 := 1) (pc' := 12) rfl (hb hby d7_1) rfl (by decide) (by decide) k) ?_
  refine run_fwd (T' := s₁) (g' := (mkF m 13 #[.val (.ref a0)] [(.ref a0)])) (fun _ k => XS.aloadN X0.here hx rfl (hb hby d7_12) rfl rfl k) ?_
  exact run_ret X0 hx Bd.returns Bd.notSynchronized rfl (Or.inr (Or.inr (Or.inr (Or.inr ⟨rfl, rfl, rfl⟩)))) (hb hby d7_13) (by rw [e0]; exact ⟨rfl, N0, rfl⟩) (by decide) (by decide)
theorem d6_0 : decode jdk_32_method_3_code 0 = .ok (.new 2, 3) := by decide +kernel
theorem d6_3 : decode jdk_32_method_3_code 3 = .ok (.dup, 1) := by decide +kernel
theorem d6_4 : decode jdk_32_method_3_code 4 = .ok (.aload_n 0, 1) := by decide +kernel
theorem d6_5 : decode jdk_32_method_3_code 5 = .ok (.invokestatic 17, 3) := by decide +kernel
theorem pd__28Ljava_2flang_2fObject_3b_29Ljava_2flang_2fObject_3b : parseMethodDescriptor "(Ljava/lang/Object;)Ljava/lang/Object;" = some ⟨[(.object "java/lang/Object")], some (.object "java/lang/Object")⟩ := by decide +kernel
theorem d6_8 : decode jdk_32_method_3_code 8 = .ok (.invokespecial 23, 3) := by decide +kernel
theorem pd__28Ljava_2flang_2fObject_3b_29V : parseMethodDescriptor "(Ljava/lang/Object;)V" = some ⟨[(.object "java/lang/Object")], none⟩ := by decide +kernel
theorem d6_11 : decode jdk_32_method_3_code 11 = .ok (.areturn, 1) := by decide +kernel
theorem ef_rm6 (m : MethodId) (x0 : Addr) : entryFrame m #[(.ref x0)] 1 = mkF m 0 #[.val (.ref x0)] [] := by first | (simp [entryFrame, mkF, argsToLocals, Value.category]; done) | rfl
def Qrm6 (Z : State) (a0 : Addr) (h0 : Heap) (n0 : Nat) (v : Option Value) (h : Heap) (L : List Loc) : Prop := ∃ (b : Addr), v = some (.ref b) ∧ Fr n0 L ∧ Keep h0 h [] ∧ h0.size ≤ b ∧ Exa Z h b "java/util/Optional" ∧ Fld Z h b "java/util/Optional" "value" "Ljava/lang/Object;" (.ref a0)
set_option maxRecDepth 65536 in
set_option maxHeartbeats 40000000 in
theorem rm6 (l : Launch) (Z : State) (aV : Array Value) (hw : ∀ d ∈ tables_1, d.before aV Z = true) (ws : List Jvm.Cond) (a0 : Addr) (h0 : Heap) (n0 : Nat) (O0 : Old Z n0 h0) :
    MetFree l (⟨"java/util/Optional", "of", "(Ljava/lang/Object;)Ljava/util/Optional;"⟩ : MethodName) (head1 (Jvm.Cond.code (⟨"java/util/Optional", "of", "(Ljava/lang/Object;)Ljava/util/Optional;"⟩ : MethodName) jdk_32_method_3_code 1 (some (.object "java/util/Optional")) :: ws) ({ frames := 2, cells := 1, slots := 1, locals := 26 } : Room)) (fun a U => a = #[(.ref a0)] ∧ Z.Warmed39 U.vm ∧ U.heap = h0) (fun _ _ _ _ _ => True) (fun _ U o U' => ∃ v L, o = .returned v ∧ Qrm6 Z a0 h0 n0 v U'.heap L ∧ FrameEnd U o U' L ({ frames := 2, cells := 1, slots := 1, locals := 26 } : Room).cells ({ frames := 2, cells := 1, slots := 1, locals := 26 } : Room).slots) := by
  refine MetFree.of_bodySF (plainFor_of_name pn_java_util_Optional) hisR ?_
  intro p e s m args below meth c s₁ Bd hml0 hP hK
  obtain ⟨rfl, hZ, hh⟩ := hP
  have hx := Bd.exec
  have hby := Bd.bytes
  have hml : c.maxLocals = 1 := hml0
  have hown : s.vm.findClass "java/util/Optional" = some m.cls := findClass_of_methodNamed Bd.named
  have hnm := (name_of_methodNamed Bd.named Bd.method).1
  have X0 : Stand p l e ({ frames := 2, cells := 1, slots := 1, locals := 26 } : Room) s m #[(.ref a0)] below meth c s₁ [] 0 0 := Stand.of_body Bd
  have e0 : s₁.heap = h0 := by rw [← hh, Bd.state]; rfl
  have N0 := Fr.nil n0
  show Run p.tables e below (Wd s (Qrm6 Z a0 h0 n0) ({ frames := 2, cells := 1, slots := 1, locals := 26 } : Room).cells ({ frames := 2, cells := 1, slots := 1, locals := 26 } : Room).slots) s₁ (entryFrame m #[(.ref a0)] 1)
  rw [ef_rm6 m a0]
  obtain ⟨T1, h1, X1, e1, E1, A1, D1, U1, st1⟩ := newO X0 hx hZ hown (hw _ (List.mem_of_getElem? (i := 28) rfl)) (hw _ (List.mem_of_getElem? (i := 29) rfl)) (hw _ (List.mem_of_getElem? (i := 13) rfl)) e0 (g := (mkF m 0 #[.val (.ref a0)] [])) rfl (hb hby d6_0) (by decide) (by decide)
  obtain ⟨b1, g1⟩ : ∃ z, z = h0.size := ⟨_, rfl⟩
  rw [← g1] at A1 D1 U1 st1
  have gg1 : n0 ≤ b1 := Nat.le_trans (own_le O0) (Nat.le_of_eq g1.symm)
  have sz1 : h0.size ≤ b1 := Nat.le_trans (Keep.refl h0 []).1 (Nat.le_of_eq g1.symm)
  have O2 : Old Z n0 h1 := O0.ext E1
  have K3 : Keep h0 h1 [] := (Keep.refl h0 []).ext E1
  have D1_value : Fld Z h1 b1 "java/util/Optional" "value" "Ljava/lang/Object;" .null := D1 (Or.inr (hw _ (List.mem_of_getElem? (i := 22) rfl))) (ty := (.object "java/lang/Object")) (by decide)
  refine run_fwd (T' := T1) (g' := (mkF m 3 #[.val (.ref a0)] [(.ref b1)])) (fun _ k => st1 _ k) ?_
  refine run_fwd (T' := T1) (g' := (mkF m 4 #[.val (.ref a0)] [(.ref b1), (.ref b1)])) (fun _ k => XS.dup X1.here hx rfl (hb hby d6_3) rfl rfl k) ?_
  refine run_fwd (T' := T1) (g' := (mkF m 5 #[.val (.ref a0)] [(.ref a0), (.ref b1), (.ref b1)])) (fun _ k => XS.aloadN X1.here hx rfl (hb hby d6_4) rfl rfl k) ?_
  obtain ⟨_, _, ⟨T4, L4, kk4, nn4⟩, -, X4, ⟨Lc4, hQ4, l4, y4, z4⟩, st4⟩ := Jvm.LawKit.callS X1 hx (y := (⟨"java/util/Objects", "requireNonNull", "(Ljava/lang/Object;)Ljava/lang/Object;"⟩ : MethodName)) hown (mvT hZ (hw _ (List.mem_of_getElem? (i := 30) rfl))) (mvT hZ (hw _ (List.mem_of_getElem? (i := 31) rfl))) (mvT hZ (hw _ (List.mem_of_getElem? (i := 32) rfl))) (mvT hZ (hw _ (List.mem_of_getElem? (i := 33) rfl))) (by decide) (backOf (W := 2) (rm7 l Z aV hw [] a0 h1 n0 O2 ) hZ (hw _ (List.mem_of_getElem? (i := 33) rfl)) (hw _ (List.mem_of_getElem? (i := 32) rfl)) (by decide) (by decide)) (g := (mkF m 5 #[.val (.ref a0)] [(.ref a0), (.ref b1), (.ref b1)])) rfl (by rw [hml]; rfl) (argsL := [(.ref a0)]) (rest := [(.ref b1), (.ref b1)]) (lenOf pd__28Ljava_2flang_2fObject_3b_29Ljava_2flang_2fObject_3b rfl) rfl (by show 2 * 0 + _ ≤ _; exact Nat.le_of_eq rfl) (hb hby d6_5) (fun _ _ => ⟨rfl, e1, (by decide : 1 + 0 ≤ _), (by decide : 1 + 0 ≤ _)⟩)
  dsimp only [Pt.U, Pt.locs, Pt.cells, Pt.slots] at X4 l4 y4 z4 st4 hQ4
  subst l4 y4 z4
  obtain ⟨rfl, N4q, Q4_0⟩ := hQ4
  have N4 := Fr.app N0 N4q
  refine run_fwd (T' := T4) (g' := (mkF m 8 #[.val (.ref a0)] [(.ref a0), (.ref b1), (.ref b1)])) (fun _ k => st4 _ k) ?_
  obtain ⟨_, _, ⟨T5, L5, kk5, nn5⟩, -, X5, ⟨Lc5, hQ5, l5, y5, z5⟩, st5⟩ := X4.specialBack hx (y := (⟨"java/util/Optional", "<init>", "(Ljava/lang/Object;)V"⟩ : MethodName)) rfl hown (mvT hZ (hw _ (List.mem_of_getElem? (i := 34) rfl))) (mvT hZ (hw _ (List.mem_of_getElem? (i := 35) rfl))) (mvT hZ (hw _ (List.mem_of_getElem? (i := 37) rfl))) (by decide) (backOf (W := 1) (rm8 l Z aV hw [] b1 a0 h1 n0 O2 gg1 A1 D1_value) hZ (hw _ (List.mem_of_getElem? (i := 37) rfl)) (hw _ (List.mem_of_getElem? (i := 13) rfl)) (by decide) (by decide)) (g := (mkF m 8 #[.val (.ref a0)] [(.ref a0), (.ref b1), (.ref b1)])) rfl (by rw [hml]; rfl) (Steps.refl _) (a := b1) (argsL := [(.ref a0)]) (rest := [(.ref b1)]) (lenOf pd__28Ljava_2flang_2fObject_3b_29V rfl) rfl (by show 2 * 0 + _ ≤ _; exact Nat.le_of_eq rfl) (hb hby d6_8) (fun _ _ => ⟨rfl, Q4_0, (by decide : 1 + 0 ≤ _), (by decide : 1 + 0 ≤ _)⟩)
  dsimp only [Pt.U, Pt.locs, Pt.cells, Pt.slots] at X5 l5 y5 z5 st5 hQ5
  subst l5 y5 z5
  obtain ⟨rfl, N5q, Q5_0, Q5_1, Q5_2⟩ := hQ5
  have N5 := Fr.app N4 N5q
  obtain ⟨h5, e5⟩ : ∃ z, T5.heap = z := ⟨_, rfl⟩
  rw [e5] at Q5_0 Q5_1 Q5_2
  have O6 : Old Z n0 h5 := O2.keep Q5_0 (allS gg1 all0)
  have K7 : Keep h0 h5 [] := K3.trans Q5_0 (allS (Or.inr sz1) all0)
  refine run_fwd (T' := T5) (g' := (mkF m 11 #[.val (.ref a0)] [(.ref b1)])) (fun _ k => st5.trans k) ?_
  exact run_ret X5 hx Bd.returns Bd.notSynchronized rfl (Or.inr (Or.inr (Or.inr (Or.inr ⟨rfl, rfl, rfl⟩)))) (hb hby d6_11) (by rw [e5]; exact ⟨b1, rfl, N5, K7, sz1, Q5_1, Q5_2⟩) (by decide) (by decide)
theorem d4_0 : decode jdk_32_method_1_code 0 = .ok (.getstatic 1, 3) := by decide +kernel
theorem d4_3 : decode jdk_32_method_1_code 3 = .ok (.astore_n 0, 1) := by decide +kernel
theorem d4_4 : decode jdk_32_method_1_code 4 = .ok (.aload_n 0, 1) := by decide +kernel
theorem d4_5 : decode jdk_32_method_1_code 5 = .ok (.areturn, 1) := by decide +kernel
theorem ef_rm4 (m : MethodId)  : entryFrame m #[] 1 = mkF m 0 #[.unset] [] := by first | (simp [entryFrame, mkF, argsToLocals, Value.category]; done) | rfl
def Qrm4 (Z : State) (u : Addr) (h0 : Heap) (n0 : Nat) (v : Option Value) (h : Heap) (L : List Loc) : Prop := v = some (.ref u) ∧ Fr n0 L ∧ h = h0
set_option maxRecDepth 65536 in
set_option maxHeartbeats 40000000 in
theorem rm4 (l : Launch) (Z : State) (aV : Array Value) (hw : ∀ d ∈ tables_1, d.before aV Z = true) (ws : List Jvm.Cond) (u : Addr) (h0 : Heap) (n0 : Nat) (O0 : Old Z n0 h0) (Si0 : Sta Z Z.heap "java/util/Optional" "EMPTY" "Ljava/util/Optional;" (.ref u)) :
    MetFree l (⟨"java/util/Optional", "empty", "()Ljava/util/Optional;"⟩ : MethodName) (head1 (Jvm.Cond.code (⟨"java/util/Optional", "empty", "()Ljava/util/Optional;"⟩ : MethodName) jdk_32_method_1_code 1 (some (.object "java/util/Optional")) :: ws) ({ frames := 0, cells := 0, slots := 0, locals := 0 } : Room)) (fun a U => a = #[] ∧ Z.Warmed39 U.vm ∧ U.heap = h0) (fun _ _ _ _ _ => True) (fun _ U o U' => ∃ v L, o = .returned v ∧ Qrm4 Z u h0 n0 v U'.heap L ∧ FrameEnd U o U' L ({ frames := 0, cells := 0, slots := 0, locals := 0 } : Room).cells ({ frames := 0, cells := 0, slots := 0, locals := 0 } : Room).slots) := by
  refine MetFree.of_bodySF (plainFor_of_name pn_java_util_Optional) hisR ?_
  intro p e s m args below meth c s₁ Bd hml0 hP hK
  obtain ⟨rfl, hZ, hh⟩ := hP
  have hx := Bd.exec
  have hby := Bd.bytes
  have hml : c.maxLocals = 1 := hml0
  have hown : s.vm.findClass "java/util/Optional" = some m.cls := findClass_of_methodNamed Bd.named
  have hnm := (name_of_methodNamed Bd.named Bd.method).1
  have X0 : Stand p l e ({ frames := 0, cells := 0, slots := 0, locals := 0 } : Room) s m #[] below meth c s₁ [] 0 0 := Stand.of_body Bd
  have e0 : s₁.heap = h0 := by rw [← hh, Bd.state]; rfl
  have N0 := Fr.nil n0
  show Run p.tables e below (Wd s (Qrm4 Z u h0 n0) ({ frames := 0, cells := 0, slots := 0, locals := 0 } : Room).cells ({ frames := 0, cells := 0, slots := 0, locals := 0 } : Room).slots) s₁ (entryFrame m #[] 1)
  rw [ef_rm4 m]
  obtain ⟨T1, X1, e1, st1⟩ := getS2 X0 hx hZ hown (host := "") (Or.inl (hw _ (List.mem_of_getElem? (i := 15) rfl))) Via.refl e0 (Si0.ext O0.2) (g := (mkF m 0 #[.unset] [])) rfl (hb hby d4_0)
  refine run_fwd (T' := T1) (g' := (mkF m 3 #[.unset] [(.ref u)])) (fun _ k => st1 _ k) ?_
  refine run_fwd (T' := T1) (g' := (mkF m 4 #[.val (.ref u)] [])) (fun _ k => XS.astoreN X1.here hx rfl (hb hby d4_3) rfl rfl (l' := #[.val (.ref u)]) rfl k) ?_
  refine run_fwd (T' := T1) (g' := (mkF m 5 #[.val (.ref u)] [(.ref u)])) (fun _ k => XS.aloadN X1.here hx rfl (hb hby d4_4) rfl rfl k) ?_
  exact run_ret X1 hx Bd.returns Bd.notSynchronized rfl (Or.inr (Or.inr (Or.inr (Or.inr ⟨rfl, rfl, rfl⟩)))) (hb hby d4_5) (by rw [e1]; exact ⟨rfl, N0, rfl⟩) (by decide) (by decide)
theorem d5_0 : decode jdk_32_method_6_code 0 = .ok (.aload_n 0, 1) := by decide +kernel
theorem d5_1 : decode jdk_32_method_6_code 1 = .ok (.getfield 13, 3) := by decide +kernel
theorem d5_4 : decode jdk_32_method_6_code 4 = .ok (.ifnull 7, 3) := by decide +kernel
theorem d5_7 : decode jdk_32_method_6_code 7 = .ok (.iconst 1, 1) := by decide +kernel
theorem d5_8 : decode jdk_32_method_6_code 8 = .ok (.goto 4, 3) := by decide +kernel
theorem d5_12 : decode jdk_32_method_6_code 12 = .ok (.ireturn, 1) := by decide +kernel
theorem ef_rm5y (m : MethodId) (x0 : Addr) : entryFrame m #[(.ref x0)] 1 = mkF m 0 #[.val (.ref x0)] [] := by first | (simp [entryFrame, mkF, argsToLocals, Value.category]; done) | rfl
def Qrm5y (Z : State) (a0 : Addr) (w : Addr) (h0 : Heap) (n0 : Nat) (v : Option Value) (h : Heap) (L : List Loc) : Prop := v = some (.int (1 : Int32)) ∧ Fr n0 L ∧ h = h0
set_option maxRecDepth 65536 in
set_option maxHeartbeats 40000000 in
theorem rm5y (l : Launch) (Z : State) (aV : Array Value) (hw : ∀ d ∈ tables_1, d.before aV Z = true) (ws : List Jvm.Cond) (a0 : Addr) (w : Addr) (h0 : Heap) (n0 : Nat) (O0 : Old Z n0 h0) (Fi0 : Fld Z h0 a0 "java/util/Optional" "value" "Ljava/lang/Object;" (.ref w)) :
    MetFree l (⟨"java/util/Optional", "isPresent", "()Z"⟩ : MethodName) (head1 (Jvm.Cond.code (⟨"java/util/Optional", "isPresent", "()Z"⟩ : MethodName) jdk_32_method_6_code 1 (some .boolean) :: ws) ({ frames := 0, cells := 0, slots := 0, locals := 0 } : Room)) (fun a U => a = #[(.ref a0)] ∧ Z.Warmed39 U.vm ∧ U.heap = h0) (fun _ _ _ _ _ => True) (fun _ U o U' => ∃ v L, o = .returned v ∧ Qrm5y Z a0 w h0 n0 v U'.heap L ∧ FrameEnd U o U' L ({ frames := 0, cells := 0, slots := 0, locals := 0 } : Room).cells ({ frames := 0, cells := 0, slots := 0, locals := 0 } : Room).slots) := by
  refine MetFree.of_bodySF (plainFor_of_name pn_java_util_Optional) hisR ?_
  intro p e s m args below meth c s₁ Bd hml0 hP hK
  obtain ⟨rfl, hZ, hh⟩ := hP
  have hx := Bd.exec
  have hby := Bd.bytes
  have hml : c.maxLocals = 1 := hml0
  have hown : s.vm.findClass "java/util/Optional" = some m.cls := findClass_of_methodNamed Bd.named
  have hnm := (name_of_methodNamed Bd.named Bd.method).1
  have X0 : Stand p l e ({ frames := 0, cells := 0, slots := 0, locals := 0 } : Room) s m #[(.ref a0)] below meth c s₁ [] 0 0 := Stand.of_body Bd
  have e0 : s₁.heap = h0 := by rw [← hh, Bd.state]; rfl
  have N0 := Fr.nil n0
  show Run p.tables e below (Wd s (Qrm5y Z a0 w h0 n0) ({ frames := 0, cells := 0, slots := 0, locals := 0 } : Room).cells ({ frames := 0, cells := 0, slots := 0, locals := 0 } : Room).slots) s₁ (entryFrame m #[(.ref a0)] 1)
  rw [ef_rm5y m a0]
  refine run_fwd (T' := s₁) (g' := (mkF m 1 #[.val (.ref a0)] [(.ref a0)])) (fun _ k => XS.aloadN X0.here hx rfl (hb hby d5_0) rfl rfl k) ?_
  obtain ⟨T1, X1, e1, st1⟩ := getF X0 hx hZ hown (host := "") (Or.inl (hw _ (List.mem_of_getElem? (i := 21) rfl))) Via.refl e0 Fi0 (g := (mkF m 1 #[.val (.ref a0)] [(.ref a0)])) rfl rfl (hb hby d5_1)
  refine run_fwd (T' := T1) (g' := (mkF m 4 #[.val (.ref a0)] [(.ref w)])) (fun _ k => st1 _ k) ?_
  refine run_fwd (T' := T1) (g' := (mkF m 7 #[.val (.ref a0)] [])) (fun _ k => XS.ifnullNo X1.here hx rfl (hb hby d5_4) rfl k) ?_
  refine run_fwd (T' := T1) (g' := (mkF m 8 #[.val (.ref a0)] [(.int (1 : Int32))])) (fun _ k => XS.iconst X1.here hx rfl (hb hby d5_7) k) ?_
  refine run_fwd (T' := T1) (g' := (mkF m 12 #[.val (.ref a0)] [(.int (1 : Int32))])) (fun _ k => XS.goto X1.here hx rfl (pc0 := 8) (pc' := 12) rfl (hb hby d5_8) (by decide) (by decide) k) ?_
  exact run_ret X1 hx Bd.returns Bd.notSynchronized rfl (Or.inl ⟨rfl, by simp, _, rfl⟩) (hb hby d5_12) (by rw [e1]; exact ⟨rfl, N0, rfl⟩) (by decide) (by decide)
theorem d5_11 : decode jdk_32_method_6_code 11 = .ok (.iconst 0, 1) := by decide +kernel
theorem ef_rm5n (m : MethodId) (x0 : Addr) : entryFrame m #[(.ref x0)] 1 = mkF m 0 #[.val (.ref x0)] [] := by first | (simp [entryFrame, mkF, argsToLocals, Value.category]; done) | rfl
def Qrm5n (Z : State) (a0 : Addr) (h0 : Heap) (n0 : Nat) (v : Option Value) (h : Heap) (L : List Loc) : Prop := v = some (.int (0 : Int32)) ∧ Fr n0 L ∧ h = h0
set_option maxRecDepth 65536 in
set_option maxHeartbeats 40000000 in
theorem rm5n (l : Launch) (Z : State) (aV : Array Value) (hw : ∀ d ∈ tables_1, d.before aV Z = true) (ws : List Jvm.Cond) (a0 : Addr) (h0 : Heap) (n0 : Nat) (O0 : Old Z n0 h0) (Fi0 : Fld Z h0 a0 "java/util/Optional" "value" "Ljava/lang/Object;" .null) :
    MetFree l (⟨"java/util/Optional", "isPresent", "()Z"⟩ : MethodName) (head1 (Jvm.Cond.code (⟨"java/util/Optional", "isPresent", "()Z"⟩ : MethodName) jdk_32_method_6_code 1 (some .boolean) :: ws) ({ frames := 0, cells := 0, slots := 0, locals := 0 } : Room)) (fun a U => a = #[(.ref a0)] ∧ Z.Warmed39 U.vm ∧ U.heap = h0) (fun _ _ _ _ _ => True) (fun _ U o U' => ∃ v L, o = .returned v ∧ Qrm5n Z a0 h0 n0 v U'.heap L ∧ FrameEnd U o U' L ({ frames := 0, cells := 0, slots := 0, locals := 0 } : Room).cells ({ frames := 0, cells := 0, slots := 0, locals := 0 } : Room).slots) := by
  refine MetFree.of_bodySF (plainFor_of_name pn_java_util_Optional) hisR ?_
  intro p e s m args below meth c s₁ Bd hml0 hP hK
  obtain ⟨rfl, hZ, hh⟩ := hP
  have hx := Bd.exec
  have hby := Bd.bytes
  have hml : c.maxLocals = 1 := hml0
  have hown : s.vm.findClass "java/util/Optional" = some m.cls := findClass_of_methodNamed Bd.named
  have hnm := (name_of_methodNamed Bd.named Bd.method).1
  have X0 : Stand p l e ({ frames := 0, cells := 0, slots := 0, locals := 0 } : Room) s m #[(.ref a0)] below meth c s₁ [] 0 0 := Stand.of_body Bd
  have e0 : s₁.heap = h0 := by rw [← hh, Bd.state]; rfl
  have N0 := Fr.nil n0
  show Run p.tables e below (Wd s (Qrm5n Z a0 h0 n0) ({ frames := 0, cells := 0, slots := 0, locals := 0 } : Room).cells ({ frames := 0, cells := 0, slots := 0, locals := 0 } : Room).slots) s₁ (entryFrame m #[(.ref a0)] 1)
  rw [ef_rm5n m a0]
  refine run_fwd (T' := s₁) (g' := (mkF m 1 #[.val (.ref a0)] [(.ref a0)])) (fun _ k => XS.aloadN X0.here hx rfl (hb hby d5_0) rfl rfl k) ?_
  obtain ⟨T1, X1, e1, st1⟩ := getF X0 hx hZ hown (host := "") (Or.inl (hw _ (List.mem_of_getElem? (i := 21) rfl))) Via.refl e0 Fi0 (g := (mkF m 1 #[.val (.ref a0)] [(.ref a0)])) rfl rfl (hb hby d5_1)
  refine run_fwd (T' := T1) (g' := (mkF m 4 #[.val (.ref a0)] [.null])) (fun _ k => st1 _ k) ?_
  refine run_fwd (T' := T1) (g' := (mkF m 11 #[.val (.ref a0)] [])) (fun _ k => XS.ifnullYes X1.here hx rfl (pc0 := 4) (pc' := 11) rfl (hb hby d5_4) rfl (by decide) (by decide) k) ?_
  refine run_fwd (T' := T1) (g' := (mkF m 12 #[.val (.ref a0)] [(.int (0 : Int32))])) (fun _ k => XS.iconst X1.here hx rfl (hb hby d5_11) k) ?_
  exact run_ret X1 hx Bd.returns Bd.notSynchronized rfl (Or.inl ⟨rfl, by simp, _, rfl⟩) (hb hby d5_12) (by rw [e1]; exact ⟨rfl, N0, rfl⟩) (by decide) (by decide)
theorem d10_0 : decode jdk_32_method_5_code 0 = .ok (.aload_n 0, 1) := by decide +kernel
theorem d10_1 : decode jdk_32_method_5_code 1 = .ok (.getfield 13, 3) := by decide +kernel
theorem d10_4 : decode jdk_32_method_5_code 4 = .ok (.ifnonnull 13, 3) := by decide +kernel
theorem d10_17 : decode jdk_32_method_5_code 17 = .ok (.aload_n 0, 1) := by decide +kernel
theorem d10_18 : decode jdk_32_method_5_code 18 = .ok (.getfield 13, 3) := by decide +kernel
theorem d10_21 : decode jdk_32_method_5_code 21 = .ok (.areturn, 1) := by decide +kernel
theorem ef_rm10 (m : MethodId) (x0 : Addr) : entryFrame m #[(.ref x0)] 1 = mkF m 0 #[.val (.ref x0)] [] := by first | (simp [entryFrame, mkF, argsToLocals, Value.category]; done) | rfl
def Qrm10 (Z : State) (a0 : Addr) (w : Addr) (h0 : Heap) (n0 : Nat) (v : Option Value) (h : Heap) (L : List Loc) : Prop := v = some (.ref w) ∧ Fr n0 L ∧ h = h0
set_option maxRecDepth 65536 in
set_option maxHeartbeats 40000000 in
theorem rm10 (l : Launch) (Z : State) (aV : Array Value) (hw : ∀ d ∈ tables_1, d.before aV Z = true) (ws : List Jvm.Cond) (a0 : Addr) (w : Addr) (h0 : Heap) (n0 : Nat) (O0 : Old Z n0 h0) (Fi0 : Fld Z h0 a0 "java/util/Optional" "value" "Ljava/lang/Object;" (.ref w)) :
    MetFree l (⟨"java/util/Optional", "get", "()Ljava/lang/Object;"⟩ : MethodName) (head1 (Jvm.Cond.code (⟨"java/util/Optional", "get", "()Ljava/lang/Object;"⟩ : MethodName) jdk_32_method_5_code 1 (some (.object "java/lang/Object")) :: ws) ({ frames := 0, cells := 0, slots := 0, locals := 0 } : Room)) (fun a U => a = #[(.ref a0)] ∧ Z.Warmed39 U.vm ∧ U.heap = h0) (fun _ _ _ _ _ => True) (fun _ U o U' => ∃ v L, o = .returned v ∧ Qrm10 Z a0 w h0 n0 v U'.heap L ∧ FrameEnd U o U' L ({ frames := 0, cells := 0, slots := 0, locals := 0 } : Room).cells ({ frames := 0, cells := 0, slots := 0, locals := 0 } : Room).slots) := by
  refine MetFree.of_bodySF (plainFor_of_name pn_java_util_Optional) hisR ?_
  intro p e s m args below meth c s₁ Bd hml0 hP hK
  obtain ⟨rfl, hZ, hh⟩ := hP
  have hx := Bd.exec
  have hby := Bd.bytes
  have hml : c.maxLocals = 1 := hml0
  have hown : s.vm.findClass "java/util/Optional" = some m.cls := findClass_of_methodNamed Bd.named
  have hnm := (name_of_methodNamed Bd.named Bd.method).1
  have X0 : Stand p l e ({ frames := 0, cells := 0, slots := 0, locals := 0 } : Room) s m #[(.ref a0)] below meth c s₁ [] 0 0 := Stand.of_body Bd
  have e0 : s₁.heap = h0 := by rw [← hh, Bd.state]; rfl
  have N0 := Fr.nil n0
  show Run p.tables e below (Wd s (Qrm10 Z a0 w h0 n0) ({ frames := 0, cells := 0, slots := 0, locals := 0 } : Room).cells ({ frames := 0, cells := 0, slots := 0, locals := 0 } : Room).slots) s₁ (entryFrame m #[(.ref a0)] 1)
  rw [ef_rm10 m a0]
  refine run_fwd (T' := s₁) (g' := (mkF m 1 #[.val (.ref a0)] [(.ref a0)])) (fun _ k => XS.aloadN X0.here hx rfl (hb hby d10_0) rfl rfl k) ?_
  obtain ⟨T1, X1, e1, st1⟩ := getF X0 hx hZ hown (host := "") (Or.inl (hw _ (List.mem_of_getElem? (i := 21) rfl))) Via.refl e0 Fi0 (g := (mkF m 1 #[.val (.ref a0)] [(.ref a0)])) rfl rfl (hb hby d10_1)
  refine run_fwd (T' := T1) (g' := (mkF m 4 #[.val (.ref a0)] [(.ref w)])) (fun _ k => st1 _ k) ?_
  refine run_fwd (T' := T1) (g' := (mkF m 17 #[.val (.ref a0)] [])) (fun _ k => XS.ifnonnullYes X1.here hx rfl (pc0 := 4) (pc' := 17) rfl (hb hby d10_4) rfl (by decide) (by decide) k) ?_
  refine run_fwd (T' := T1) (g' := (mkF m 18 #[.val (.ref a0)] [(.ref a0)])) (fun _ k => XS.aloadN X1.here hx rfl (hb hby d10_17) rfl rfl k) ?_
  obtain ⟨T2, X2, e2, st2⟩ := getF X1 hx hZ hown (host := "") (Or.inl (hw _ (List.mem_of_getElem? (i := 21) rfl))) Via.refl e1 Fi0 (g := (mkF m 18 #[.val (.ref a0)] [(.ref a0)])) rfl rfl (hb hby d10_18)
  refine run_fwd (T' := T2) (g' := (mkF m 21 #[.val (.ref a0)] [(.ref w)])) (fun _ k => st2 _ k) ?_
  exact run_ret X2 hx Bd.returns Bd.notSynchronized rfl (Or.inr (Or.inr (Or.inr (Or.inr ⟨rfl, rfl, rfl⟩)))) (hb hby d10_21) (by rw [e2]; exact ⟨rfl, N0, rfl⟩) (by decide) (by decide)
theorem d3_0 : decode prog_14_method_4_code 0 = .ok (.lload_n 0, 1) := by decide +kernel
theorem d3_1 : decode prog_14_method_4_code 1 = .ok (.lload_n 2, 1) := by decide +kernel
theorem d3_2 : decode prog_14_method_4_code 2 = .ok (.lcmp, 1) := by decide +kernel
theorem d3_3 : decode prog_14_method_4_code 3 = .ok (.ifCond .ge 14, 3) := by decide +kernel
theorem d3_6 : decode prog_14_method_4_code 6 = .ok (.getstatic 3, 3) := by decide +kernel
theorem d3_9 : decode prog_14_method_4_code 9 = .ok (.invokestatic 29, 3) := by decide +kernel
theorem pd__28Ljava_2flang_2fObject_3b_29Ljava_2futil_2fOptional_3b : parseMethodDescriptor "(Ljava/lang/Object;)Ljava/util/Optional;" = some ⟨[(.object "java/lang/Object")], some (.object "java/util/Optional")⟩ := by decide +kernel
theorem d3_12 : decode prog_14_method_4_code 12 = .ok (.astore 6, 2) := by decide +kernel
theorem d3_14 : decode prog_14_method_4_code 14 = .ok (.goto 26, 3) := by decide +kernel
theorem d3_40 : decode prog_14_method_4_code 40 = .ok (.aload 6, 2) := by decide +kernel
theorem d3_42 : decode prog_14_method_4_code 42 = .ok (.areturn, 1) := by decide +kernel
theorem pn_com_example_narrow_scan_narrowscan_key_OutOfRange : plainName "com/example/narrow_scan/narrowscan/key/OutOfRange" = true := by first | (simp [plainName, overriddenIn]; done) | decide +kernel
theorem ef_rm3b (m : MethodId) (x0 : Int64) (x1 : Int64) (x2 : Int64) : entryFrame m #[(.long x0), (.long x1), (.long x2)] 7 = mkF m 0 #[.val (.long x0), .second, .val (.long x1), .second, .val (.long x2), .second, .unset] [] := by first | (simp [entryFrame, mkF, argsToLocals, Value.category]; done) | rfl
def Qrm3b (Z : State) (q0 : Int64) (q1 : Int64) (q2 : Int64) (u : Addr) (h0 : Heap) (n0 : Nat) (v : Option Value) (h : Heap) (L : List Loc) : Prop := ∃ (b : Addr), v = some (.ref b) ∧ Fr n0 L ∧ Keep h0 h [] ∧ h0.size ≤ b ∧ Exa Z h b "java/util/Optional" ∧ Fld Z h b "java/util/Optional" "value" "Ljava/lang/Object;" (.ref u)
set_option maxRecDepth 65536 in
set_option maxHeartbeats 40000000 in
theorem rm3b (l : Launch) (Z : State) (aV : Array Value) (hw : ∀ d ∈ tables_1, d.before aV Z = true) (ws : List Jvm.Cond) (q0 : Int64) (q1 : Int64) (q2 : Int64) (u : Addr) (h0 : Heap) (n0 : Nat) (O0 : Old Z n0 h0) (Si0 : Sta Z Z.heap "com/example/narrow_scan/narrowscan/key/OutOfRange" "BELOW" "Lcom/example/narrow_scan/narrowscan/key/OutOfRange;" (.ref u)) (h1 : q0 < q1) :
    MetFree l (⟨"com/example/narrow_scan/narrowscan/key/OutOfRange", "of", "(JJJ)Ljava/util/Optional;"⟩ : MethodName) (head1 (Jvm.Cond.code (⟨"com/example/narrow_scan/narrowscan/key/OutOfRange", "of", "(JJJ)Ljava/util/Optional;"⟩ : MethodName) prog_14_method_4_code 7 (some (.object "java/util/Optional")) :: ws) ({ frames := 3, cells := 1, slots := 1, locals := 38 } : Room)) (fun a U => a = #[(.long q0), (.long q1), (.long q2)] ∧ Z.Warmed39 U.vm ∧ U.heap = h0) (fun _ _ _ _ _ => True) (fun _ U o U' => ∃ v L, o = .returned v ∧ Qrm3b Z q0 q1 q2 u h0 n0 v U'.heap L ∧ FrameEnd U o U' L ({ frames := 3, cells := 1, slots := 1, locals := 38 } : Room).cells ({ frames := 3, cells := 1, slots := 1, locals := 38 } : Room).slots) := by
  refine MetFree.of_bodySF (plainFor_of_name pn_com_example_narrow_scan_narrowscan_key_OutOfRange) hisR ?_
  intro p e s m args below meth c s₁ Bd hml0 hP hK
  obtain ⟨rfl, hZ, hh⟩ := hP
  have hx := Bd.exec
  have hby := Bd.bytes
  have hml : c.maxLocals = 7 := hml0
  have hown : s.vm.findClass "com/example/narrow_scan/narrowscan/key/OutOfRange" = some m.cls := findClass_of_methodNamed Bd.named
  have hnm := (name_of_methodNamed Bd.named Bd.method).1
  have X0 : Stand p l e ({ frames := 3, cells := 1, slots := 1, locals := 38 } : Room) s m #[(.long q0), (.long q1), (.long q2)] below meth c s₁ [] 0 0 := Stand.of_body Bd
  have e0 : s₁.heap = h0 := by rw [← hh, Bd.state]; rfl
  have N0 := Fr.nil n0
  show Run p.tables e below (Wd s (Qrm3b Z q0 q1 q2 u h0 n0) ({ frames := 3, cells := 1, slots := 1, locals := 38 } : Room).cells ({ frames := 3, cells := 1, slots := 1, locals := 38 } : Room).slots) s₁ (entryFrame m #[(.long q0), (.long q1), (.long q2)] 7)
  rw [ef_rm3b m q0 q1 q2]
  refine run_fwd (T' := s₁) (g' := (mkF m 1 #[.val (.long q0), .second, .val (.long q1), .second, .val (.long q2), .second, .unset] [(.long q0)])) (fun _ k => XS.lloadN X0.here hx rfl (hb hby d3_0) rfl k) ?_
  refine run_fwd (T' := s₁) (g' := (mkF m 2 #[.val (.long q0), .second, .val (.long q1), .second, .val (.long q2), .second, .unset] [(.long q1), (.long q0)])) (fun _ k => XS.lloadN X0.here hx rfl (hb hby d3_1) rfl k) ?_
  refine run_fwd (T' := s₁) (g' := (mkF m 3 #[.val (.long q0), .second, .val (.long q1), .second, .val (.long q2), .second, .unset] [(.int (lcmpW q0 q1))])) (fun _ k => XS.lcmp X0.here hx rfl (hb hby d3_2) rfl k) ?_
  have hc3_1 : q0 < q1 := h1
  refine run_fwd (T' := s₁) (g' := (mkF m 6 #[.val (.long q0), .second, .val (.long q1), .second, .val (.long q2), .second, .unset] [])) (fun _ k => XS.ifNo X0.here hx rfl (hb hby d3_3) rfl ((if0 _ _).trans (tlt ((lw_lt q0 q1).mpr hc3_1)).2.1) k) ?_
  obtain ⟨T2, X2, e2, st2⟩ := getS2 X0 hx hZ hown (host := "") (Or.inl (hw _ (List.mem_of_getElem? (i := 23) rfl))) Via.refl e0 (Si0.ext O0.2) (g := (mkF m 6 #[.val (.long q0), .second, .val (.long q1), .second, .val (.long q2), .second, .unset] [])) rfl (hb hby d3_6)
  refine run_fwd (T' := T2) (g' := (mkF m 9 #[.val (.long q0), .second, .val (.long q1), .second, .val (.long q2), .second, .unset] [(.ref u)])) (fun _ k => st2 _ k) ?_
  obtain ⟨_, _, ⟨T3, L3, kk3, nn3⟩, -, X3, ⟨Lc3, hQ3, l3, y3, z3⟩, st3⟩ := Jvm.LawKit.callS X2 hx (y := (⟨"java/util/Optional", "of", "(Ljava/lang/Object;)Ljava/util/Optional;"⟩ : MethodName)) hown (mvT hZ (hw _ (List.mem_of_getElem? (i := 25) rfl))) (mvT hZ (hw _ (List.mem_of_getElem? (i := 26) rfl))) (mvT hZ (hw _ (List.mem_of_getElem? (i := 13) rfl))) (mvT hZ (hw _ (List.mem_of_getElem? (i := 27) rfl))) (by decide) (backOf (W := 0) (rm6 l Z aV hw [] u h0 n0 O0 ) hZ (hw _ (List.mem_of_getElem? (i := 27) rfl)) (hw _ (List.mem_of_getElem? (i := 13) rfl)) (by decide) (by decide)) (g := (mkF m 9 #[.val (.long q0), .second, .val (.long q1), .second, .val (.long q2), .second, .unset] [(.ref u)])) rfl (by rw [hml]; rfl) (argsL := [(.ref u)]) (rest := []) (lenOf pd__28Ljava_2flang_2fObject_3b_29Ljava_2futil_2fOptional_3b rfl) rfl (by show 2 * 0 + _ ≤ _; exact Nat.le_of_eq rfl) (hb hby d3_9) (fun _ _ => ⟨rfl, e2, (by decide : 0 + 1 ≤ _), (by decide : 0 + 1 ≤ _)⟩)
  dsimp only [Pt.U, Pt.locs, Pt.cells, Pt.slots] at X3 l3 y3 z3 st3 hQ3
  subst l3 y3 z3
  obtain ⟨b_3, rfl, N3q, Q3_0, Q3_1, Q3_2, Q3_3⟩ := hQ3
  have N3 := Fr.app N0 N3q
  obtain ⟨h3, e3⟩ : ∃ z, T3.heap = z := ⟨_, rfl⟩
  rw [e3] at Q3_0 Q3_2 Q3_3
  have O4 : Old Z n0 h3 := O0.keep Q3_0 all0
  have K5 : Keep h0 h3 [] := (Keep.refl h0 []).trans Q3_0 all0
  have gg3_1 : n0 ≤ b_3 := Nat.le_trans (own_le O0) Q3_1
  have sz3_1 : h0.size ≤ b_3 := (Nat.le_trans (Keep.refl h0 []).1 Q3_1)
  refine run_fwd (T' := T3) (g' := (mkF m 12 #[.val (.long q0), .second, .val (.long q1), .second, .val (.long q2), .second, .unset] [(.ref b_3)])) (fun _ k => st3 _ k) ?_
  refine run_fwd (T' := T3) (g' := (mkF m 14 #[.val (.long q0), .second, .val (.long q1), .second, .val (.long q2), .second, .val (.ref b_3)] [])) (fun _ k => XS.astore X3.here hx rfl (hb hby d3_12) rfl rfl (l' := #[.val (.long q0), .second, .val (.long q1), .second, .val (.long q2), .second, .val (.ref b_3)]) rfl k) ?_
  refine run_fwd (T' := T3) (g' := (mkF m 40 #[.val (.long q0), .second, .val (.long q1), .second, .val (.long q2), .second, .val (.ref b_3)] [])) (fun _ k => XS.goto X3.here hx rfl (pc0 := 14) (pc' := 40) rfl (hb hby d3_14) (by decide) (by decide) k) ?_
  refine run_fwd (T' := T3) (g' := (mkF m 42 #[.val (.long q0), .second, .val (.long q1), .second, .val (.long q2), .second, .val (.ref b_3)] [(.ref b_3)])) (fun _ k => XS.aload X3.here hx rfl (hb hby d3_40) rfl rfl k) ?_
  exact run_ret X3 hx Bd.returns Bd.notSynchronized rfl (Or.inr (Or.inr (Or.inr (Or.inr ⟨rfl, rfl, rfl⟩)))) (hb hby d3_42) (by rw [e3]; exact ⟨b_3, rfl, N3, K5, sz3_1, Q3_2, Q3_3⟩) (by decide) (by decide)
theorem d3_17 : decode prog_14_method_4_code 17 = .ok (.lload_n 0, 1) := by decide +kernel
theorem d3_18 : decode prog_14_method_4_code 18 = .ok (.lload 4, 2) := by decide +kernel
theorem d3_20 : decode prog_14_method_4_code 20 = .ok (.lcmp, 1) := by decide +kernel
theorem d3_21 : decode prog_14_method_4_code 21 = .ok (.ifCond .le 14, 3) := by decide +kernel
theorem d3_24 : decode prog_14_method_4_code 24 = .ok (.getstatic 7, 3) := by decide +kernel
theorem d3_27 : decode prog_14_method_4_code 27 = .ok (.invokestatic 29, 3) := by decide +kernel
theorem d3_30 : decode prog_14_method_4_code 30 = .ok (.astore 6, 2) := by decide +kernel
theorem d3_32 : decode prog_14_method_4_code 32 = .ok (.goto 8, 3) := by decide +kernel
theorem ef_rm3a (m : MethodId) (x0 : Int64) (x1 : Int64) (x2 : Int64) : entryFrame m #[(.long x0), (.long x1), (.long x2)] 7 = mkF m 0 #[.val (.long x0), .second, .val (.long x1), .second, .val (.long x2), .second, .unset] [] := by first | (simp [entryFrame, mkF, argsToLocals, Value.category]; done) | rfl
def Qrm3a (Z : State) (q0 : Int64) (q1 : Int64) (q2 : Int64) (u : Addr) (h0 : Heap) (n0 : Nat) (v : Option Value) (h : Heap) (L : List Loc) : Prop := ∃ (b : Addr), v = some (.ref b) ∧ Fr n0 L ∧ Keep h0 h [] ∧ h0.size ≤ b ∧ Exa Z h b "java/util/Optional" ∧ Fld Z h b "java/util/Optional" "value" "Ljava/lang/Object;" (.ref u)
set_option maxRecDepth 65536 in
set_option maxHeartbeats 40000000 in
theorem rm3a (l : Launch) (Z : State) (aV : Array Value) (hw : ∀ d ∈ tables_1, d.before aV Z = true) (ws : List Jvm.Cond) (q0 : Int64) (q1 : Int64) (q2 : Int64) (u : Addr) (h0 : Heap) (n0 : Nat) (O0 : Old Z n0 h0) (Si0 : Sta Z Z.heap "com/example/narrow_scan/narrowscan/key/OutOfRange" "ABOVE" "Lcom/example/narrow_scan/narrowscan/key/OutOfRange;" (.ref u)) (h1 : ¬ q0 < q1) (h2 : q2 < q0) :
    MetFree l (⟨"com/example/narrow_scan/narrowscan/key/OutOfRange", "of", "(JJJ)Ljava/util/Optional;"⟩ : MethodName) (head1 (Jvm.Cond.code (⟨"com/example/narrow_scan/narrowscan/key/OutOfRange", "of", "(JJJ)Ljava/util/Optional;"⟩ : MethodName) prog_14_method_4_code 7 (some (.object "java/util/Optional")) :: ws) ({ frames := 3, cells := 1, slots := 1, locals := 38 } : Room)) (fun a U => a = #[(.long q0), (.long q1), (.long q2)] ∧ Z.Warmed39 U.vm ∧ U.heap = h0) (fun _ _ _ _ _ => True) (fun _ U o U' => ∃ v L, o = .returned v ∧ Qrm3a Z q0 q1 q2 u h0 n0 v U'.heap L ∧ FrameEnd U o U' L ({ frames := 3, cells := 1, slots := 1, locals := 38 } : Room).cells ({ frames := 3, cells := 1, slots := 1, locals := 38 } : Room).slots) := by
  refine MetFree.of_bodySF (plainFor_of_name pn_com_example_narrow_scan_narrowscan_key_OutOfRange) hisR ?_
  intro p e s m args below meth c s₁ Bd hml0 hP hK
  obtain ⟨rfl, hZ, hh⟩ := hP
  have hx := Bd.exec
  have hby := Bd.bytes
  have hml : c.maxLocals = 7 := hml0
  have hown : s.vm.findClass "com/example/narrow_scan/narrowscan/key/OutOfRange" = some m.cls := findClass_of_methodNamed Bd.named
  have hnm := (name_of_methodNamed Bd.named Bd.method).1
  have X0 : Stand p l e ({ frames := 3, cells := 1, slots := 1, locals := 38 } : Room) s m #[(.long q0), (.long q1), (.long q2)] below meth c s₁ [] 0 0 := Stand.of_body Bd
  have e0 : s₁.heap = h0 := by rw [← hh, Bd.state]; rfl
  have N0 := Fr.nil n0
  show Run p.tables e below (Wd s (Qrm3a Z q0 q1 q2 u h0 n0) ({ frames := 3, cells := 1, slots := 1, locals := 38 } : Room).cells ({ frames := 3, cells := 1, slots := 1, locals := 38 } : Room).slots) s₁ (entryFrame m #[(.long q0), (.long q1), (.long q2)] 7)
  rw [ef_rm3a m q0 q1 q2]
  refine run_fwd (T' := s₁) (g' := (mkF m 1 #[.val (.long q0), .second, .val (.long q1), .second, .val (.long q2), .second, .unset] [(.long q0)])) (fun _ k => XS.lloadN X0.here hx rfl (hb hby d3_0) rfl k) ?_
  refine run_fwd (T' := s₁) (g' := (mkF m 2 #[.val (.long q0), .second, .val (.long q1), .second, .val (.long q2), .second, .unset] [(.long q1), (.long q0)])) (fun _ k => XS.lloadN X0.here hx rfl (hb hby d3_1) rfl k) ?_
  refine run_fwd (T' := s₁) (g' := (mkF m 3 #[.val (.long q0), .second, .val (.long q1), .second, .val (.long q2), .second, .unset] [(.int (lcmpW q0 q1))])) (fun _ k => XS.lcmp X0.here hx rfl (hb hby d3_2) rfl k) ?_
  have hc3_1 : ¬ (q0 < q1) := h1
  refine run_fwd (T' := s₁) (g' := (mkF m 17 #[.val (.long q0), .second, .val (.long q1), .second, .val (.long q2), .second, .unset] [])) (fun _ k => XS.ifYes X0.here hx rfl (pc0 := 3) (pc' := 17) rfl (hb hby d3_3) rfl ((if0 _ _).trans (flt (fun z => hc3_1 ((lw_lt q0 q1).mp z))).2.1) (by decide) (by decide) k) ?_
  refine run_fwd (T' := s₁) (g' := (mkF m 18 #[.val (.long q0), .second, .val (.long q1), .second, .val (.long q2), .second, .unset] [(.long q0)])) (fun _ k => XS.lloadN X0.here hx rfl (hb hby d3_17) rfl k) ?_
  refine run_fwd (T' := s₁) (g' := (mkF m 20 #[.val (.long q0), .second, .val (.long q1), .second, .val (.long q2), .second, .unset] [(.long q2), (.long q0)])) (fun _ k => XS.lload X0.here hx rfl (hb hby d3_18) rfl k) ?_
  refine run_fwd (T' := s₁) (g' := (mkF m 21 #[.val (.long q0), .second, .val (.long q1), .second, .val (.long q2), .second, .unset] [(.int (lcmpW q0 q2))])) (fun _ k => XS.lcmp X0.here hx rfl (hb hby d3_20) rfl k) ?_
  have hc21_2 : q2 < q0 := h2
  refine run_fwd (T' := s₁) (g' := (mkF m 24 #[.val (.long q0), .second, .val (.long q1), .second, .val (.long q2), .second, .unset] [])) (fun _ k => XS.ifNo X0.here hx rfl (hb hby d3_21) rfl ((if0 _ _).trans (tlt ((lw_gt q0 q2).mpr hc21_2)).2.2.2) k) ?_
  obtain ⟨T3, X3, e3, st3⟩ := getS2 X0 hx hZ hown (host := "") (Or.inl (hw _ (List.mem_of_getElem? (i := 49) rfl))) Via.refl e0 (Si0.ext O0.2) (g := (mkF m 24 #[.val (.long q0), .second, .val (.long q1), .second, .val (.long q2), .second, .unset] [])) rfl (hb hby d3_24)
  refine run_fwd (T' := T3) (g' := (mkF m 27 #[.val (.long q0), .second, .val (.long q1), .second, .val (.long q2), .second, .unset] [(.ref u)])) (fun _ k => st3 _ k) ?_
  obtain ⟨_, _, ⟨T4, L4, kk4, nn4⟩, -, X4, ⟨Lc4, hQ4, l4, y4, z4⟩, st4⟩ := Jvm.LawKit.callS X3 hx (y := (⟨"java/util/Optional", "of", "(Ljava/lang/Object;)Ljava/util/Optional;"⟩ : MethodName)) hown (mvT hZ (hw _ (List.mem_of_getElem? (i := 25) rfl))) (mvT hZ (hw _ (List.mem_of_getElem? (i := 26) rfl))) (mvT hZ (hw _ (List.mem_of_getElem? (i := 13) rfl))) (mvT hZ (hw _ (List.mem_of_getElem? (i := 27) rfl))) (by decide) (backOf (W := 0) (rm6 l Z aV hw [] u h0 n0 O0 ) hZ (hw _ (List.mem_of_getElem? (i := 27) rfl)) (hw _ (List.mem_of_getElem? (i := 13) rfl)) (by decide) (by decide)) (g := (mkF m 27 #[.val (.long q0), .second, .val (.long q1), .second, .val (.long q2), .second, .unset] [(.ref u)])) rfl (by rw [hml]; rfl) (argsL := [(.ref u)]) (rest := []) (lenOf pd__28Ljava_2flang_2fObject_3b_29Ljava_2futil_2fOptional_3b rfl) rfl (by show 2 * 0 + _ ≤ _; exact Nat.le_of_eq rfl) (hb hby d3_27) (fun _ _ => ⟨rfl, e3, (by decide : 0 + 1 ≤ _), (by decide : 0 + 1 ≤ _)⟩)
  dsimp only [Pt.U, Pt.locs, Pt.cells, Pt.slots] at X4 l4 y4 z4 st4 hQ4
  subst l4 y4 z4
  obtain ⟨b_4, rfl, N4q, Q4_0, Q4_1, Q4_2, Q4_3⟩ := hQ4
  have N4 := Fr.app N0 N4q
  obtain ⟨h4, e4⟩ : ∃ z, T4.heap = z := ⟨_, rfl⟩
  rw [e4] at Q4_0 Q4_2 Q4_3
  have O5 : Old Z n0 h4 := O0.keep Q4_0 all0
  have K6 : Keep h0 h4 [] := (Keep.refl h0 []).trans Q4_0 all0
  have gg4_1 : n0 ≤ b_4 := Nat.le_trans (own_le O0) Q4_1
  have sz4_1 : h0.size ≤ b_4 := (Nat.le_trans (Keep.refl h0 []).1 Q4_1)
  refine run_fwd (T' := T4) (g' := (mkF m 30 #[.val (.long q0), .second, .val (.long q1), .second, .val (.long q2), .second, .unset] [(.ref b_4)])) (fun _ k => st4 _ k) ?_
  refine run_fwd (T' := T4) (g' := (mkF m 32 #[.val (.long q0), .second, .val (.long q1), .second, .val (.long q2), .second, .val (.ref b_4)] [])) (fun _ k => XS.astore X4.here hx rfl (hb hby d3_30) rfl rfl (l' := #[.val (.long q0), .second, .val (.long q1), .second, .val (.long q2), .second, .val (.ref b_4)]) rfl k) ?_
  refine run_fwd (T' := T4) (g' := (mkF m 40 #[.val (.long q0), .second, .val (.long q1), .second, .val (.long q2), .second, .val (.ref b_4)] [])) (fun _ k => XS.goto X4.here hx rfl (pc0 := 32) (pc' := 40) rfl (hb hby d3_32) (by decide) (by decide) k) ?_
  refine run_fwd (T' := T4) (g' := (mkF m 42 #[.val (.long q0), .second, .val (.long q1), .second, .val (.long q2), .second, .val (.ref b_4)] [(.ref b_4)])) (fun _ k => XS.aload X4.here hx rfl (hb hby d3_40) rfl rfl k) ?_
  exact run_ret X4 hx Bd.returns Bd.notSynchronized rfl (Or.inr (Or.inr (Or.inr (Or.inr ⟨rfl, rfl, rfl⟩)))) (hb hby d3_42) (by rw [e4]; exact ⟨b_4, rfl, N4, K6, sz4_1, Q4_2, Q4_3⟩) (by decide) (by decide)
theorem d3_35 : decode prog_14_method_4_code 35 = .ok (.invokestatic 35, 3) := by decide +kernel
theorem pd__28_29Ljava_2futil_2fOptional_3b : parseMethodDescriptor "()Ljava/util/Optional;" = some ⟨[], some (.object "java/util/Optional")⟩ := by decide +kernel
theorem d3_38 : decode prog_14_method_4_code 38 = .ok (.astore 6, 2) := by decide +kernel
theorem ef_rm3e (m : MethodId) (x0 : Int64) (x1 : Int64) (x2 : Int64) : entryFrame m #[(.long x0), (.long x1), (.long x2)] 7 = mkF m 0 #[.val (.long x0), .second, .val (.long x1), .second, .val (.long x2), .second, .unset] [] := by first | (simp [entryFrame, mkF, argsToLocals, Value.category]; done) | rfl
def Qrm3e (Z : State) (q0 : Int64) (q1 : Int64) (q2 : Int64) (u : Addr) (h0 : Heap) (n0 : Nat) (v : Option Value) (h : Heap) (L : List Loc) : Prop := v = some (.ref u) ∧ Fr n0 L ∧ h = h0
set_option maxRecDepth 65536 in
set_option maxHeartbeats 40000000 in
theorem rm3e (l : Launch) (Z : State) (aV : Array Value) (hw : ∀ d ∈ tables_1, d.before aV Z = true) (ws : List Jvm.Cond) (q0 : Int64) (q1 : Int64) (q2 : Int64) (u : Addr) (h0 : Heap) (n0 : Nat) (O0 : Old Z n0 h0) (Si0 : Sta Z Z.heap "java/util/Optional" "EMPTY" "Ljava/util/Optional;" (.ref u)) (h1 : ¬ q0 < q1) (h2 : ¬ q2 < q0) :
    MetFree l (⟨"com/example/narrow_scan/narrowscan/key/OutOfRange", "of", "(JJJ)Ljava/util/Optional;"⟩ : MethodName) (head1 (Jvm.Cond.code (⟨"com/example/narrow_scan/narrowscan/key/OutOfRange", "of", "(JJJ)Ljava/util/Optional;"⟩ : MethodName) prog_14_method_4_code 7 (some (.object "java/util/Optional")) :: ws) ({ frames := 1, cells := 0, slots := 0, locals := 12 } : Room)) (fun a U => a = #[(.long q0), (.long q1), (.long q2)] ∧ Z.Warmed39 U.vm ∧ U.heap = h0) (fun _ _ _ _ _ => True) (fun _ U o U' => ∃ v L, o = .returned v ∧ Qrm3e Z q0 q1 q2 u h0 n0 v U'.heap L ∧ FrameEnd U o U' L ({ frames := 1, cells := 0, slots := 0, locals := 12 } : Room).cells ({ frames := 1, cells := 0, slots := 0, locals := 12 } : Room).slots) := by
  refine MetFree.of_bodySF (plainFor_of_name pn_com_example_narrow_scan_narrowscan_key_OutOfRange) hisR ?_
  intro p e s m args below meth c s₁ Bd hml0 hP hK
  obtain ⟨rfl, hZ, hh⟩ := hP
  have hx := Bd.exec
  have hby := Bd.bytes
  have hml : c.maxLocals = 7 := hml0
  have hown : s.vm.findClass "com/example/narrow_scan/narrowscan/key/OutOfRange" = some m.cls := findClass_of_methodNamed Bd.named
  have hnm := (name_of_methodNamed Bd.named Bd.method).1
  have X0 : Stand p l e ({ frames := 1, cells := 0, slots := 0, locals := 12 } : Room) s m #[(.long q0), (.long q1), (.long q2)] below meth c s₁ [] 0 0 := Stand.of_body Bd
  have e0 : s₁.heap = h0 := by rw [← hh, Bd.state]; rfl
  have N0 := Fr.nil n0
  show Run p.tables e below (Wd s (Qrm3e Z q0 q1 q2 u h0 n0) ({ frames := 1, cells := 0, slots := 0, locals := 12 } : Room).cells ({ frames := 1, cells := 0, slots := 0, locals := 12 } : Room).slots) s₁ (entryFrame m #[(.long q0), (.long q1), (.long q2)] 7)
  rw [ef_rm3e m q0 q1 q2]
  refine run_fwd (T' := s₁) (g' := (mkF m 1 #[.val (.long q0), .second, .val (.long q1), .second, .val (.long q2), .second, .unset] [(.long q0)])) (fun _ k => XS.lloadN X0.here hx rfl (hb hby d3_0) rfl k) ?_
  refine run_fwd (T' := s₁) (g' := (mkF m 2 #[.val (.long q0), .second, .val (.long q1), .second, .val (.long q2), .second, .unset] [(.long q1), (.long q0)])) (fun _ k => XS.lloadN X0.here hx rfl (hb hby d3_1) rfl k) ?_
  refine run_fwd (T' := s₁) (g' := (mkF m 3 #[.val (.long q0), .second, .val (.long q1), .second, .val (.long q2), .second, .unset] [(.int (lcmpW q0 q1))])) (fun _ k => XS.lcmp X0.here hx rfl (hb hby d3_2) rfl k) ?_
  have hc3_1 : ¬ (q0 < q1) := h1
  refine run_fwd (T' := s₁) (g' := (mkF m 17 #[.val (.long q0), .second, .val (.long q1), .second, .val (.long q2), .second, .unset] [])) (fun _ k => XS.ifYes X0.here hx rfl (pc0 := 3) (pc' := 17) rfl (hb hby d3_3) rfl ((if0 _ _).trans (flt (fun z => hc3_1 ((lw_lt q0 q1).mp z))).2.1) (by decide) (by decide) k) ?_
  refine run_fwd (T' := s₁) (g' := (mkF m 18 #[.val (.long q0), .second, .val (.long q1), .second, .val (.long q2), .second, .unset] [(.long q0)])) (fun _ k => XS.lloadN X0.here hx rfl (hb hby d3_17) rfl k) ?_
  refine run_fwd (T' := s₁) (g' := (mkF m 20 #[.val (.long q0), .second, .val (.long q1), .second, .val (.long q2), .second, .unset] [(.long q2), (.long q0)])) (fun _ k => XS.lload X0.here hx rfl (hb hby d3_18) rfl k) ?_
  refine run_fwd (T' := s₁) (g' := (mkF m 21 #[.val (.long q0), .second, .val (.long q1), .second, .val (.long q2), .second, .unset] [(.int (lcmpW q0 q2))])) (fun _ k => XS.lcmp X0.here hx rfl (hb hby d3_20) rfl k) ?_
  have hc21_2 : ¬ (q2 < q0) := h2
  refine run_fwd (T' := s₁) (g' := (mkF m 35 #[.val (.long q0), .second, .val (.long q1), .second, .val (.long q2), .second, .unset] [])) (fun _ k => XS.ifYes X0.here hx rfl (pc0 := 21) (pc' := 35) rfl (hb hby d3_21) rfl ((if0 _ _).trans (flt (fun z => hc21_2 ((lw_gt q0 q2).mp z))).2.2.2) (by decide) (by decide) k) ?_
  obtain ⟨_, _, ⟨T3, L3, kk3, nn3⟩, -, X3, ⟨Lc3, hQ3, l3, y3, z3⟩, st3⟩ := Jvm.LawKit.callS X0 hx (y := (⟨"java/util/Optional", "empty", "()Ljava/util/Optional;"⟩ : MethodName)) hown (mvT hZ (hw _ (List.mem_of_getElem? (i := 11) rfl))) (mvT hZ (hw _ (List.mem_of_getElem? (i := 12) rfl))) (mvT hZ (hw _ (List.mem_of_getElem? (i := 13) rfl))) (mvT hZ (hw _ (List.mem_of_getElem? (i := 14) rfl))) (by decide) (backOf (W := 0) (rm4 l Z aV hw [] u h0 n0 O0 Si0) hZ (hw _ (List.mem_of_getElem? (i := 14) rfl)) (hw _ (List.mem_of_getElem? (i := 13) rfl)) (by decide) (by decide)) (g := (mkF m 35 #[.val (.long q0), .second, .val (.long q1), .second, .val (.long q2), .second, .unset] [])) rfl (by rw [hml]; rfl) (argsL := []) (rest := []) (lenOf pd__28_29Ljava_2futil_2fOptional_3b rfl) rfl (by show 2 * 0 + _ ≤ _; exact Nat.le_of_eq rfl) (hb hby d3_35) (fun _ _ => ⟨rfl, e0, (by decide : 0 + 0 ≤ _), (by decide : 0 + 0 ≤ _)⟩)
  dsimp only [Pt.U, Pt.locs, Pt.cells, Pt.slots] at X3 l3 y3 z3 st3 hQ3
  subst l3 y3 z3
  obtain ⟨rfl, N3q, Q3_0⟩ := hQ3
  have N3 := Fr.app N0 N3q
  refine run_fwd (T' := T3) (g' := (mkF m 38 #[.val (.long q0), .second, .val (.long q1), .second, .val (.long q2), .second, .unset] [(.ref u)])) (fun _ k => st3 _ k) ?_
  refine run_fwd (T' := T3) (g' := (mkF m 40 #[.val (.long q0), .second, .val (.long q1), .second, .val (.long q2), .second, .val (.ref u)] [])) (fun _ k => XS.astore X3.here hx rfl (hb hby d3_38) rfl rfl (l' := #[.val (.long q0), .second, .val (.long q1), .second, .val (.long q2), .second, .val (.ref u)]) rfl k) ?_
  refine run_fwd (T' := T3) (g' := (mkF m 42 #[.val (.long q0), .second, .val (.long q1), .second, .val (.long q2), .second, .val (.ref u)] [(.ref u)])) (fun _ k => XS.aload X3.here hx rfl (hb hby d3_40) rfl rfl k) ?_
  exact run_ret X3 hx Bd.returns Bd.notSynchronized rfl (Or.inr (Or.inr (Or.inr (Or.inr ⟨rfl, rfl, rfl⟩)))) (hb hby d3_42) (by rw [Q3_0]; exact ⟨rfl, N3, rfl⟩) (by decide) (by decide)
theorem pd__28JJ_29J : parseMethodDescriptor "(JJ)J" = some ⟨[.long, .long], some .long⟩ := by decide +kernel
theorem pd__28JJJ_29Ljava_2futil_2fOptional_3b : parseMethodDescriptor "(JJJ)Ljava/util/Optional;" = some ⟨[.long, .long, .long], some (.object "java/util/Optional")⟩ := by decide +kernel
theorem pd__28_29Z : parseMethodDescriptor "()Z" = some ⟨[], some .boolean⟩ := by decide +kernel
theorem pd__28_29Ljava_2flang_2fObject_3b : parseMethodDescriptor "()Ljava/lang/Object;" = some ⟨[], some (.object "java/lang/Object")⟩ := by decide +kernel
theorem pn_com_example_narrow_scan_narrowscan_key_OutOfRangeOfPinLaw : plainName "com/example/narrow_scan/narrowscan/key/OutOfRangeOfPinLaw" = true := by first | (simp [plainName, overriddenIn]; done) | decide +kernel
theorem ef_rm0 (m : MethodId) (x0 : Int64) (x1 : Int64) (x2 : Int64) (x3 : Int32) : entryFrame m #[(.long x0), (.long x1), (.long x2), (.int x3)] maxLocals = mkF m 0 #[.val (.long x0), .second, .val (.long x1), .second, .val (.long x2), .second, .val (.int x3), .unset, .unset, .unset, .unset, .unset, .unset, .unset, .unset, .unset, .unset] [] := by first | (simp [entryFrame, mkF, argsToLocals, Value.category, maxLocals]; done) | rfl
def Qrm0 (Z : State) (q0 : Int64) (q1 : Int64) (q2 : Int64) (p3 : Int32) (lo : Int64) (hi : Int64) (uB : Addr) (uA : Addr) (uE : Addr) (h0 : Heap) (n0 : Nat) (v : Option Value) (h : Heap) (L : List Loc) : Prop := v = some (.int (1 : Int32)) ∧ Fr n0 L
set_option maxRecDepth 65536 in
set_option maxHeartbeats 40000000 in
theorem rm0 (l : Launch) (Z : State) (aV : Array Value) (hw : ∀ d ∈ tables_1, d.before aV Z = true) (ws : List Jvm.Cond) (q0 : Int64) (q1 : Int64) (q2 : Int64) (p3 : Int32) (lo : Int64) (hi : Int64) (uB : Addr) (uA : Addr) (uE : Addr) (h0 : Heap) (n0 : Nat) (O0 : Old Z n0 h0) (hlo : own_min q0 q1 = lo) (hhi : own_max q0 q1 = hi) (Si2 : Sta Z Z.heap "com/example/narrow_scan/narrowscan/key/OutOfRange" "BELOW" "Lcom/example/narrow_scan/narrowscan/key/OutOfRange;" (.ref uB)) (Si3 : Sta Z Z.heap "com/example/narrow_scan/narrowscan/key/OutOfRange" "ABOVE" "Lcom/example/narrow_scan/narrowscan/key/OutOfRange;" (.ref uA)) (Si4 : Sta Z Z.heap "java/util/Optional" "EMPTY" "Ljava/util/Optional;" (.ref uE)) (OEi5 : Exa Z Z.heap uB "com/example/narrow_scan/narrowscan/key/OutOfRange") (OEi6 : Exa Z Z.heap uA "com/example/narrow_scan/narrowscan/key/OutOfRange") (OEi7 : Exa Z Z.heap uE "java/util/Optional") (OFi8 : Fld Z Z.heap uE "java/util/Optional" "value" "Ljava/lang/Object;" .null) :
    MetFree l x (head1 (Jvm.Cond.code x code maxLocals ret :: ws) room_1) (fun a U => a = #[(.long q0), (.long q1), (.long q2), (.int p3)] ∧ Z.Warmed39 U.vm ∧ U.heap = h0) (fun _ _ _ _ _ => True) (fun _ U o U' => ∃ v L, o = .returned v ∧ Qrm0 Z q0 q1 q2 p3 lo hi uB uA uE h0 n0 v U'.heap L ∧ FrameEnd U o U' L room_1.cells room_1.slots) := by
  refine MetFree.of_bodySF (plainFor_of_name pn_com_example_narrow_scan_narrowscan_key_OutOfRangeOfPinLaw) hisR ?_
  intro p e s m args below meth c s₁ Bd hml0 hP hK
  obtain ⟨rfl, hZ, hh⟩ := hP
  have hx := Bd.exec
  have hby := Bd.bytes
  have hml : c.maxLocals = 17 := hml0
  have hown : s.vm.findClass "com/example/narrow_scan/narrowscan/key/OutOfRangeOfPinLaw" = some m.cls := findClass_of_methodNamed Bd.named
  have hnm := (name_of_methodNamed Bd.named Bd.method).1
  have X0 : Stand p l e room_1 s m #[(.long q0), (.long q1), (.long q2), (.int p3)] below meth c s₁ [] 0 0 := Stand.of_body Bd
  have e0 : s₁.heap = h0 := by rw [← hh, Bd.state]; rfl
  have N0 := Fr.nil n0
  show Run p.tables e below (Wd s (Qrm0 Z q0 q1 q2 p3 lo hi uB uA uE h0 n0) room_1.cells room_1.slots) s₁ (entryFrame m #[(.long q0), (.long q1), (.long q2), (.int p3)] maxLocals)
  rw [ef_rm0 m q0 q1 q2 p3]
  refine run_fwd (T' := s₁) (g' := (mkF m 1 #[.val (.long q0), .second, .val (.long q1), .second, .val (.long q2), .second, .val (.int p3), .unset, .unset, .unset, .unset, .unset, .unset, .unset, .unset, .unset, .unset] [(.long q0)])) (fun _ k => XS.lloadN X0.here hx rfl (hb hby at_0) rfl k) ?_
  refine run_fwd (T' := s₁) (g' := (mkF m 2 #[.val (.long q0), .second, .val (.long q1), .second, .val (.long q2), .second, .val (.int p3), .unset, .unset, .unset, .unset, .unset, .unset, .unset, .unset, .unset, .unset] [(.long q1), (.long q0)])) (fun _ k => XS.lloadN X0.here hx rfl (hb hby at_1) rfl k) ?_
  obtain ⟨_, _, ⟨T1, L1, kk1, nn1⟩, -, X1, ⟨Lc1, hQ1, l1, y1, z1⟩, st1⟩ := Jvm.LawKit.callS X0 hx (y := (⟨"java/lang/Math", "min", "(JJ)J"⟩ : MethodName)) hown (mvT hZ (hw _ (List.mem_of_getElem? (i := 0) rfl))) (mvT hZ (hw _ (List.mem_of_getElem? (i := 1) rfl))) (mvT hZ (hw _ (List.mem_of_getElem? (i := 2) rfl))) (mvT hZ (hw _ (List.mem_of_getElem? (i := 3) rfl))) (by decide) (backOf (W := 0) (rm1 l Z aV hw [] q0 q1 lo h0 n0 O0 (hlo)) hZ (hw _ (List.mem_of_getElem? (i := 3) rfl)) (hw _ (List.mem_of_getElem? (i := 2) rfl)) (by decide) (by decide)) (g := (mkF m 2 #[.val (.long q0), .second, .val (.long q1), .second, .val (.long q2), .second, .val (.int p3), .unset, .unset, .unset, .unset, .unset, .unset, .unset, .unset, .unset, .unset] [(.long q1), (.long q0)])) rfl (by rw [hml]; rfl) (argsL := [(.long q0), (.long q1)]) (rest := []) (lenOf pd__28JJ_29J rfl) rfl (by show 2 * 0 + _ ≤ _; exact Nat.le_of_eq rfl) (hb hby at_2) (fun _ _ => ⟨rfl, e0, (by decide : 0 + 0 ≤ _), (by decide : 0 + 0 ≤ _)⟩)
  dsimp only [Pt.U, Pt.locs, Pt.cells, Pt.slots] at X1 l1 y1 z1 st1 hQ1
  subst l1 y1 z1
  obtain ⟨rfl, N1q, Q1_0⟩ := hQ1
  have N1 := Fr.app N0 N1q
  refine run_fwd (T' := T1) (g' := (mkF m 5 #[.val (.long q0), .second, .val (.long q1), .second, .val (.long q2), .second, .val (.int p3), .unset, .unset, .unset, .unset, .unset, .unset, .unset, .unset, .unset, .unset] [(.long lo)])) (fun _ k => st1 _ k) ?_
  refine run_fwd (T' := T1) (g' := (mkF m 7 #[.val (.long q0), .second, .val (.long q1), .second, .val (.long q2), .second, .val (.int p3), .val (.long lo), .second, .unset, .unset, .unset, .unset, .unset, .unset, .unset, .unset] [])) (fun _ k => XS.lstore X1.here hx rfl (hb hby at_5) rfl (l' := #[.val (.long q0), .second, .val (.long q1), .second, .val (.long q2), .second, .val (.int p3), .val (.long lo), .second, .unset, .unset, .unset, .unset, .unset, .unset, .unset, .unset]) rfl k) ?_
  refine run_fwd (T' := T1) (g' := (mkF m 8 #[.val (.long q0), .second, .val (.long q1), .second, .val (.long q2), .second, .val (.int p3), .val (.long lo), .second, .unset, .unset, .unset, .unset, .unset, .unset, .unset, .unset] [(.long q0)])) (fun _ k => XS.lloadN X1.here hx rfl (hb hby at_7) rfl k) ?_
  refine run_fwd (T' := T1) (g' := (mkF m 9 #[.val (.long q0), .second, .val (.long q1), .second, .val (.long q2), .second, .val (.int p3), .val (.long lo), .second, .unset, .unset, .unset, .unset, .unset, .unset, .unset, .unset] [(.long q1), (.long q0)])) (fun _ k => XS.lloadN X1.here hx rfl (hb hby at_8) rfl k) ?_
  obtain ⟨_, _, ⟨T2, L2, kk2, nn2⟩, -, X2, ⟨Lc2, hQ2, l2, y2, z2⟩, st2⟩ := Jvm.LawKit.callS X1 hx (y := (⟨"java/lang/Math", "max", "(JJ)J"⟩ : MethodName)) hown (mvT hZ (hw _ (List.mem_of_getElem? (i := 4) rfl))) (mvT hZ (hw _ (List.mem_of_getElem? (i := 5) rfl))) (mvT hZ (hw _ (List.mem_of_getElem? (i := 2) rfl))) (mvT hZ (hw _ (List.mem_of_getElem? (i := 6) rfl))) (by decide) (backOf (W := 0) (rm2 l Z aV hw [] q0 q1 hi h0 n0 O0 (hhi)) hZ (hw _ (List.mem_of_getElem? (i := 6) rfl)) (hw _ (List.mem_of_getElem? (i := 2) rfl)) (by decide) (by decide)) (g := (mkF m 9 #[.val (.long q0), .second, .val (.long q1), .second, .val (.long q2), .second, .val (.int p3), .val (.long lo), .second, .unset, .unset, .unset, .unset, .unset, .unset, .unset, .unset] [(.long q1), (.long q0)])) rfl (by rw [hml]; rfl) (argsL := [(.long q0), (.long q1)]) (rest := []) (lenOf pd__28JJ_29J rfl) rfl (by show 2 * 0 + _ ≤ _; exact Nat.le_of_eq rfl) (hb hby at_9) (fun _ _ => ⟨rfl, Q1_0, (by decide : 0 + 0 ≤ _), (by decide : 0 + 0 ≤ _)⟩)
  dsimp only [Pt.U, Pt.locs, Pt.cells, Pt.slots] at X2 l2 y2 z2 st2 hQ2
  subst l2 y2 z2
  obtain ⟨rfl, N2q, Q2_0⟩ := hQ2
  have N2 := Fr.app N1 N2q
  refine run_fwd (T' := T2) (g' := (mkF m 12 #[.val (.long q0), .second, .val (.long q1), .second, .val (.long q2), .second, .val (.int p3), .val (.long lo), .second, .unset, .unset, .unset, .unset, .unset, .unset, .unset, .unset] [(.long hi)])) (fun _ k => st2 _ k) ?_
  refine run_fwd (T' := T2) (g' := (mkF m 14 #[.val (.long q0), .second, .val (.long q1), .second, .val (.long q2), .second, .val (.int p3), .val (.long lo), .second, .val (.long hi), .second, .unset, .unset, .unset, .unset, .unset, .unset] [])) (fun _ k => XS.lstore X2.here hx rfl (hb hby at_12) rfl (l' := #[.val (.long q0), .second, .val (.long q1), .second, .val (.long q2), .second, .val (.int p3), .val (.long lo), .second, .val (.long hi), .second, .unset, .unset, .unset, .unset, .unset, .unset]) rfl k) ?_
  refine run_fwd (T' := T2) (g' := (mkF m 16 #[.val (.long q0), .second, .val (.long q1), .second, .val (.long q2), .second, .val (.int p3), .val (.long lo), .second, .val (.long hi), .second, .unset, .unset, .unset, .unset, .unset, .unset] [(.int p3)])) (fun _ k => XS.iload X2.here hx rfl (hb hby at_14) rfl k) ?_
  refine run_fwd (T' := T2) (g' := (mkF m 18 #[.val (.long q0), .second, .val (.long q1), .second, .val (.long q2), .second, .val (.int p3), .val (.long lo), .second, .val (.long hi), .second, .unset, .unset, .unset, .unset, .unset, .unset] [(.int (7 : Int32)), (.int p3)])) (fun _ k => XS.bipush X2.here hx rfl (hb hby at_16) k) ?_
  refine run_fwd (T' := T2) (g' := (mkF m 19 #[.val (.long q0), .second, .val (.long q1), .second, .val (.long q2), .second, .val (.int p3), .val (.long lo), .second, .val (.long hi), .second, .unset, .unset, .unset, .unset, .unset, .unset] [(.int (p3 &&& (7 : Int32)))])) (fun _ k => XS.iand X2.here hx rfl (hb hby at_18) rfl k) ?_
  refine run_fwd (T' := T2) (g' := (mkF m 21 #[.val (.long q0), .second, .val (.long q1), .second, .val (.long q2), .second, .val (.int p3), .val (.long lo), .second, .val (.long hi), .second, .val (.int (p3 &&& (7 : Int32))), .unset, .unset, .unset, .unset, .unset] [])) (fun _ k => XS.istore X2.here hx rfl (hb hby at_19) rfl (l' := #[.val (.long q0), .second, .val (.long q1), .second, .val (.long q2), .second, .val (.int p3), .val (.long lo), .second, .val (.long hi), .second, .val (.int (p3 &&& (7 : Int32))), .unset, .unset, .unset, .unset, .unset]) rfl k) ?_
  refine run_fwd (T' := T2) (g' := (mkF m 23 #[.val (.long q0), .second, .val (.long q1), .second, .val (.long q2), .second, .val (.int p3), .val (.long lo), .second, .val (.long hi), .second, .val (.int (p3 &&& (7 : Int32))), .unset, .unset, .unset, .unset, .unset] [(.long q2)])) (fun _ k => XS.lload X2.here hx rfl (hb hby at_21) rfl k) ?_
  refine run_fwd (T' := T2) (g' := (mkF m 25 #[.val (.long q0), .second, .val (.long q1), .second, .val (.long q2), .second, .val (.int p3), .val (.long lo), .second, .val (.long hi), .second, .val (.int (p3 &&& (7 : Int32))), .val (.long q2), .second, .unset, .unset, .unset] [])) (fun _ k => XS.lstore X2.here hx rfl (hb hby at_23) rfl (l' := #[.val (.long q0), .second, .val (.long q1), .second, .val (.long q2), .second, .val (.int p3), .val (.long lo), .second, .val (.long hi), .second, .val (.int (p3 &&& (7 : Int32))), .val (.long q2), .second, .unset, .unset, .unset]) rfl k) ?_
  have tail : ∀ (xv : Int64), Run p.tables e below (Wd s (Qrm0 Z q0 q1 q2 p3 lo hi uB uA uE h0 n0) room_1.cells room_1.slots) T2 (mkF m 77 #[.val (.long q0), .second, .val (.long q1), .second, .val (.long q2), .second, .val (.int p3), .val (.long lo), .second, .val (.long hi), .second, .val (.int (p3 &&& (7 : Int32))), .val (.long xv), .second, .unset, .unset, .unset] []) := by
    intro xv
    refine run_fwd (T' := T2) (g' := (mkF m 79 #[.val (.long q0), .second, .val (.long q1), .second, .val (.long q2), .second, .val (.int p3), .val (.long lo), .second, .val (.long hi), .second, .val (.int (p3 &&& (7 : Int32))), .val (.long xv), .second, .unset, .unset, .unset] [(.long xv)])) (fun _ k => XS.lload X2.here hx rfl (hb hby at_77) rfl k) ?_
    refine run_fwd (T' := T2) (g' := (mkF m 81 #[.val (.long q0), .second, .val (.long q1), .second, .val (.long q2), .second, .val (.int p3), .val (.long lo), .second, .val (.long hi), .second, .val (.int (p3 &&& (7 : Int32))), .val (.long xv), .second, .unset, .unset, .unset] [(.long lo), (.long xv)])) (fun _ k => XS.lload X2.here hx rfl (hb hby at_79) rfl k) ?_
    refine run_fwd (T' := T2) (g' := (mkF m 83 #[.val (.long q0), .second, .val (.long q1), .second, .val (.long q2), .second, .val (.int p3), .val (.long lo), .second, .val (.long hi), .second, .val (.int (p3 &&& (7 : Int32))), .val (.long xv), .second, .unset, .unset, .unset] [(.long hi), (.long lo), (.long xv)])) (fun _ k => XS.lload X2.here hx rfl (hb hby at_81) rfl k) ?_
    by_cases hf3 : xv < lo
    ·
      obtain ⟨_, _, ⟨T4, L4, kk4, nn4⟩, -, X4, ⟨Lc4, hQ4, l4, y4, z4⟩, st4⟩ := Jvm.LawKit.callS X2 hx (y := (⟨"com/example/narrow_scan/narrowscan/key/OutOfRange", "of", "(JJJ)Ljava/util/Optional;"⟩ : MethodName)) hown (mvT hZ (hw _ (List.mem_of_getElem? (i := 7) rfl))) (mvT hZ (hw _ (List.mem_of_getElem? (i := 8) rfl))) (mvT hZ (hw _ (List.mem_of_getElem? (i := 9) rfl))) (mvT hZ (hw _ (List.mem_of_getElem? (i := 10) rfl))) (by decide) (backOf (W := 0) (rm3b l Z aV hw [] xv lo hi uB h0 n0 O0 Si2 (hf3)) hZ (hw _ (List.mem_of_getElem? (i := 10) rfl)) (hw _ (List.mem_of_getElem? (i := 9) rfl)) (by decide) (by decide)) (g := (mkF m 83 #[.val (.long q0), .second, .val (.long q1), .second, .val (.long q2), .second, .val (.int p3), .val (.long lo), .second, .val (.long hi), .second, .val (.int (p3 &&& (7 : Int32))), .val (.long xv), .second, .unset, .unset, .unset] [(.long hi), (.long lo), (.long xv)])) rfl (by rw [hml]; rfl) (argsL := [(.long xv), (.long lo), (.long hi)]) (rest := []) (lenOf pd__28JJJ_29Ljava_2futil_2fOptional_3b rfl) rfl (by show 2 * 0 + _ ≤ _; exact Nat.le_of_eq rfl) (hb hby at_83) (fun _ _ => ⟨rfl, Q2_0, (by decide : 0 + 1 ≤ _), (by decide : 0 + 1 ≤ _)⟩)
      dsimp only [Pt.U, Pt.locs, Pt.cells, Pt.slots] at X4 l4 y4 z4 st4 hQ4
      subst l4 y4 z4
      obtain ⟨b_4, rfl, N4q, Q4_0, Q4_1, Q4_2, Q4_3⟩ := hQ4
      have N4 := Fr.app N2 N4q
      obtain ⟨h4, e4⟩ : ∃ z, T4.heap = z := ⟨_, rfl⟩
      rw [e4] at Q4_0 Q4_2 Q4_3
      have O5 : Old Z n0 h4 := O0.keep Q4_0 all0
      have K6 : Keep h0 h4 [] := (Keep.refl h0 []).trans Q4_0 all0
      have gg4_1 : n0 ≤ b_4 := Nat.le_trans (own_le O0) Q4_1
      have sz4_1 : h0.size ≤ b_4 := (Nat.le_trans (Keep.refl h0 []).1 Q4_1)
      refine run_fwd (T' := T4) (g' := (mkF m 86 #[.val (.long q0), .second, .val (.long q1), .second, .val (.long q2), .second, .val (.int p3), .val (.long lo), .second, .val (.long hi), .second, .val (.int (p3 &&& (7 : Int32))), .val (.long xv), .second, .unset, .unset, .unset] [(.ref b_4)])) (fun _ k => st4 _ k) ?_
      refine run_fwd (T' := T4) (g' := (mkF m 88 #[.val (.long q0), .second, .val (.long q1), .second, .val (.long q2), .second, .val (.int p3), .val (.long lo), .second, .val (.long hi), .second, .val (.int (p3 &&& (7 : Int32))), .val (.long xv), .second, .val (.ref b_4), .unset, .unset] [])) (fun _ k => XS.astore X4.here hx rfl (hb hby at_86) rfl rfl (l' := #[.val (.long q0), .second, .val (.long q1), .second, .val (.long q2), .second, .val (.int p3), .val (.long lo), .second, .val (.long hi), .second, .val (.int (p3 &&& (7 : Int32))), .val (.long xv), .second, .val (.ref b_4), .unset, .unset]) rfl k) ?_
      refine run_fwd (T' := T4) (g' := (mkF m 90 #[.val (.long q0), .second, .val (.long q1), .second, .val (.long q2), .second, .val (.int p3), .val (.long lo), .second, .val (.long hi), .second, .val (.int (p3 &&& (7 : Int32))), .val (.long xv), .second, .val (.ref b_4), .unset, .unset] [(.long lo)])) (fun _ k => XS.lload X4.here hx rfl (hb hby at_88) rfl k) ?_
      refine run_fwd (T' := T4) (g' := (mkF m 92 #[.val (.long q0), .second, .val (.long q1), .second, .val (.long q2), .second, .val (.int p3), .val (.long lo), .second, .val (.long hi), .second, .val (.int (p3 &&& (7 : Int32))), .val (.long xv), .second, .val (.ref b_4), .unset, .unset] [(.long xv), (.long lo)])) (fun _ k => XS.lload X4.here hx rfl (hb hby at_90) rfl k) ?_
      refine run_fwd (T' := T4) (g' := (mkF m 93 #[.val (.long q0), .second, .val (.long q1), .second, .val (.long q2), .second, .val (.int p3), .val (.long lo), .second, .val (.long hi), .second, .val (.int (p3 &&& (7 : Int32))), .val (.long xv), .second, .val (.ref b_4), .unset, .unset] [(.int (lcmpW lo xv))])) (fun _ k => XS.lcmp X4.here hx rfl (hb hby at_92) rfl k) ?_
      have hc93_7 : xv < lo := hf3
      refine run_fwd (T' := T4) (g' := (mkF m 108 #[.val (.long q0), .second, .val (.long q1), .second, .val (.long q2), .second, .val (.int p3), .val (.long lo), .second, .val (.long hi), .second, .val (.int (p3 &&& (7 : Int32))), .val (.long xv), .second, .val (.ref b_4), .unset, .unset] [])) (fun _ k => XS.ifYes X4.here hx rfl (pc0 := 93) (pc' := 108) rfl (hb hby at_93) rfl ((if0 _ _).trans (tlt ((lw_gt lo xv).mpr hc93_7)).2.2.1) (by decide) (by decide) k) ?_
      refine run_fwd (T' := T4) (g' := (mkF m 109 #[.val (.long q0), .second, .val (.long q1), .second, .val (.long q2), .second, .val (.int p3), .val (.long lo), .second, .val (.long hi), .second, .val (.int (p3 &&& (7 : Int32))), .val (.long xv), .second, .val (.ref b_4), .unset, .unset] [(.int (0 : Int32))])) (fun _ k => XS.iconst X4.here hx rfl (hb hby at_108) k) ?_
      refine run_fwd (T' := T4) (g' := (mkF m 111 #[.val (.long q0), .second, .val (.long q1), .second, .val (.long q2), .second, .val (.int p3), .val (.long lo), .second, .val (.long hi), .second, .val (.int (p3 &&& (7 : Int32))), .val (.long xv), .second, .val (.ref b_4), .val (.int (0 : Int32)), .unset] [])) (fun _ k => XS.istore X4.here hx rfl (hb hby at_109) rfl (l' := #[.val (.long q0), .second, .val (.long q1), .second, .val (.long q2), .second, .val (.int p3), .val (.long lo), .second, .val (.long hi), .second, .val (.int (p3 &&& (7 : Int32))), .val (.long xv), .second, .val (.ref b_4), .val (.int (0 : Int32)), .unset]) rfl k) ?_
      refine run_fwd (T' := T4) (g' := (mkF m 113 #[.val (.long q0), .second, .val (.long q1), .second, .val (.long q2), .second, .val (.int p3), .val (.long lo), .second, .val (.long hi), .second, .val (.int (p3 &&& (7 : Int32))), .val (.long xv), .second, .val (.ref b_4), .val (.int (0 : Int32)), .unset] [(.int (0 : Int32))])) (fun _ k => XS.iload X4.here hx rfl (hb hby at_111) rfl k) ?_
      have hc113_8 : (0 : Int32) = (0 : Int32) := (by decide)
      refine run_fwd (T' := T4) (g' := (mkF m 130 #[.val (.long q0), .second, .val (.long q1), .second, .val (.long q2), .second, .val (.int p3), .val (.long lo), .second, .val (.long hi), .second, .val (.int (p3 &&& (7 : Int32))), .val (.long xv), .second, .val (.ref b_4), .val (.int (0 : Int32)), .unset] [])) (fun _ k => XS.ifYes X4.here hx rfl (pc0 := 113) (pc' := 130) rfl (hb hby at_113) rfl ((if0 _ _).trans (teq hc113_8).1) (by decide) (by decide) k) ?_
      refine run_fwd (T' := T4) (g' := (mkF m 132 #[.val (.long q0), .second, .val (.long q1), .second, .val (.long q2), .second, .val (.int p3), .val (.long lo), .second, .val (.long hi), .second, .val (.int (p3 &&& (7 : Int32))), .val (.long xv), .second, .val (.ref b_4), .val (.int (0 : Int32)), .unset] [(.ref b_4)])) (fun _ k => XS.aload X4.here hx rfl (hb hby at_130) rfl rfl k) ?_
      obtain ⟨cq9, kq9, q9a, q9b, q9c⟩ := isOf hZ e4 Q4_2
      obtain ⟨_, _, ⟨T9, L9, kk9, nn9⟩, -, X9, ⟨Lc9, hQ9, l9, y9, z9⟩, st9⟩ := X4.virtualBack hx (y := (⟨"java/util/Optional", "isPresent", "()Z"⟩ : MethodName)) (z := (⟨"java/util/Optional", "isPresent", "()Z"⟩ : MethodName)) hown (mvT hZ (hw _ (List.mem_of_getElem? (i := 16) rfl))) (mvT hZ (hw _ (List.mem_of_getElem? (i := 17) rfl))) (notFace_of_selects (args := #[]) (mvT hZ (hw _ (List.mem_of_getElem? (i := 19) rfl)))) (mvT hZ (hw _ (List.mem_of_getElem? (i := 19) rfl))) (mvT hZ (hw _ (List.mem_of_getElem? (i := 18) rfl))) (by decide) (backOf (W := 0) (rm5y l Z aV hw [] b_4 uB h4 n0 O5 Q4_3) hZ (hw _ (List.mem_of_getElem? (i := 20) rfl)) (hw _ (List.mem_of_getElem? (i := 13) rfl)) (by decide) (by decide)) q9a q9c (g := (mkF m 132 #[.val (.long q0), .second, .val (.long q1), .second, .val (.long q2), .second, .val (.int p3), .val (.long lo), .second, .val (.long hi), .second, .val (.int (p3 &&& (7 : Int32))), .val (.long xv), .second, .val (.ref b_4), .val (.int (0 : Int32)), .unset] [(.ref b_4)])) rfl (by rw [hml]; rfl) (Steps.refl _) (argsL := []) (rest := []) (lenOf pd__28_29Z rfl) rfl (by show 2 * 0 + _ ≤ _; exact Nat.le_of_eq rfl) (hb hby at_132) (fun _ _ => ⟨rfl, e4, (by decide : 1 + 0 ≤ _), (by decide : 1 + 0 ≤ _)⟩)
      dsimp only [Pt.U, Pt.locs, Pt.cells, Pt.slots] at X9 l9 y9 z9 st9 hQ9
      subst l9 y9 z9
      obtain ⟨rfl, N9q, Q9_0⟩ := hQ9
      have N9 := Fr.app N4 N9q
      refine run_fwd (T' := T9) (g' := (mkF m 135 #[.val (.long q0), .second, .val (.long q1), .second, .val (.long q2), .second, .val (.int p3), .val (.long lo), .second, .val (.long hi), .second, .val (.int (p3 &&& (7 : Int32))), .val (.long xv), .second, .val (.ref b_4), .val (.int (0 : Int32)), .unset] [(.int (1 : Int32))])) (fun _ k => st9.trans k) ?_
      have hc135_10 : ¬ ((1 : Int32) = (0 : Int32)) := (by decide)
      refine run_fwd (T' := T9) (g' := (mkF m 140 #[.val (.long q0), .second, .val (.long q1), .second, .val (.long q2), .second, .val (.int p3), .val (.long lo), .second, .val (.long hi), .second, .val (.int (p3 &&& (7 : Int32))), .val (.long xv), .second, .val (.ref b_4), .val (.int (0 : Int32)), .unset] [])) (fun _ k => XS.ifYes X9.here hx rfl (pc0 := 135) (pc' := 140) rfl (hb hby at_135) rfl ((if0 _ _).trans (feq hc135_10).2) (by decide) (by decide) k) ?_
      refine run_fwd (T' := T9) (g' := (mkF m 142 #[.val (.long q0), .second, .val (.long q1), .second, .val (.long q2), .second, .val (.int p3), .val (.long lo), .second, .val (.long hi), .second, .val (.int (p3 &&& (7 : Int32))), .val (.long xv), .second, .val (.ref b_4), .val (.int (0 : Int32)), .unset] [(.ref b_4)])) (fun _ k => XS.aload X9.here hx rfl (hb hby at_140) rfl rfl k) ?_
      obtain ⟨cq11, kq11, q11a, q11b, q11c⟩ := isOf hZ Q9_0 Q4_2
      obtain ⟨_, _, ⟨T11, L11, kk11, nn11⟩, -, X11, ⟨Lc11, hQ11, l11, y11, z11⟩, st11⟩ := X9.virtualBack hx (y := (⟨"java/util/Optional", "get", "()Ljava/lang/Object;"⟩ : MethodName)) (z := (⟨"java/util/Optional", "get", "()Ljava/lang/Object;"⟩ : MethodName)) hown (mvT hZ (hw _ (List.mem_of_getElem? (i := 41) rfl))) (mvT hZ (hw _ (List.mem_of_getElem? (i := 42) rfl))) (notFace_of_selects (args := #[]) (mvT hZ (hw _ (List.mem_of_getElem? (i := 44) rfl)))) (mvT hZ (hw _ (List.mem_of_getElem? (i := 44) rfl))) (mvT hZ (hw _ (List.mem_of_getElem? (i := 43) rfl))) (by decide) (backOf (W := 0) (rm10 l Z aV hw [] b_4 uB h4 n0 O5 Q4_3) hZ (hw _ (List.mem_of_getElem? (i := 45) rfl)) (hw _ (List.mem_of_getElem? (i := 13) rfl)) (by decide) (by decide)) q11a q11c (g := (mkF m 142 #[.val (.long q0), .second, .val (.long q1), .second, .val (.long q2), .second, .val (.int p3), .val (.long lo), .second, .val (.long hi), .second, .val (.int (p3 &&& (7 : Int32))), .val (.long xv), .second, .val (.ref b_4), .val (.int (0 : Int32)), .unset] [(.ref b_4)])) rfl (by rw [hml]; rfl) (Steps.refl _) (argsL := []) (rest := []) (lenOf pd__28_29Ljava_2flang_2fObject_3b rfl) rfl (by show 2 * 0 + _ ≤ _; exact Nat.le_of_eq rfl) (hb hby at_142) (fun _ _ => ⟨rfl, Q9_0, (by decide : 1 + 0 ≤ _), (by decide : 1 + 0 ≤ _)⟩)
      dsimp only [Pt.U, Pt.locs, Pt.cells, Pt.slots] at X11 l11 y11 z11 st11 hQ11
      subst l11 y11 z11
      obtain ⟨rfl, N11q, Q11_0⟩ := hQ11
      have N11 := Fr.app N9 N11q
      refine run_fwd (T' := T11) (g' := (mkF m 145 #[.val (.long q0), .second, .val (.long q1), .second, .val (.long q2), .second, .val (.int p3), .val (.long lo), .second, .val (.long hi), .second, .val (.int (p3 &&& (7 : Int32))), .val (.long xv), .second, .val (.ref b_4), .val (.int (0 : Int32)), .unset] [(.ref uB)])) (fun _ k => st11.trans k) ?_
      obtain ⟨T12, X12, e12, st12⟩ := castY X11 hx hZ hown (hw _ (List.mem_of_getElem? (i := 46) rfl)) Q11_0 (Ins.self (OEi5.ext O5.2)) (g := (mkF m 145 #[.val (.long q0), .second, .val (.long q1), .second, .val (.long q2), .second, .val (.int p3), .val (.long lo), .second, .val (.long hi), .second, .val (.int (p3 &&& (7 : Int32))), .val (.long xv), .second, .val (.ref b_4), .val (.int (0 : Int32)), .unset] [(.ref uB)])) rfl rfl (hb hby at_145)
      refine run_fwd (T' := T12) (g' := (mkF m 148 #[.val (.long q0), .second, .val (.long q1), .second, .val (.long q2), .second, .val (.int p3), .val (.long lo), .second, .val (.long hi), .second, .val (.int (p3 &&& (7 : Int32))), .val (.long xv), .second, .val (.ref b_4), .val (.int (0 : Int32)), .unset] [(.ref uB)])) (fun _ k => st12 _ k) ?_
      refine run_fwd (T' := T12) (g' := (mkF m 150 #[.val (.long q0), .second, .val (.long q1), .second, .val (.long q2), .second, .val (.int p3), .val (.long lo), .second, .val (.long hi), .second, .val (.int (p3 &&& (7 : Int32))), .val (.long xv), .second, .val (.ref b_4), .val (.int (0 : Int32)), .val (.ref uB)] [])) (fun _ k => XS.astore X12.here hx rfl (hb hby at_148) rfl rfl (l' := #[.val (.long q0), .second, .val (.long q1), .second, .val (.long q2), .second, .val (.int p3), .val (.long lo), .second, .val (.long hi), .second, .val (.int (p3 &&& (7 : Int32))), .val (.long xv), .second, .val (.ref b_4), .val (.int (0 : Int32)), .val (.ref uB)]) rfl k) ?_
      refine run_fwd (T' := T12) (g' := (mkF m 152 #[.val (.long q0), .second, .val (.long q1), .second, .val (.long q2), .second, .val (.int p3), .val (.long lo), .second, .val (.long hi), .second, .val (.int (p3 &&& (7 : Int32))), .val (.long xv), .second, .val (.ref b_4), .val (.int (0 : Int32)), .val (.ref uB)] [(.long xv)])) (fun _ k => XS.lload X12.here hx rfl (hb hby at_150) rfl k) ?_
      refine run_fwd (T' := T12) (g' := (mkF m 154 #[.val (.long q0), .second, .val (.long q1), .second, .val (.long q2), .second, .val (.int p3), .val (.long lo), .second, .val (.long hi), .second, .val (.int (p3 &&& (7 : Int32))), .val (.long xv), .second, .val (.ref b_4), .val (.int (0 : Int32)), .val (.ref uB)] [(.long lo), (.long xv)])) (fun _ k => XS.lload X12.here hx rfl (hb hby at_152) rfl k) ?_
      refine run_fwd (T' := T12) (g' := (mkF m 155 #[.val (.long q0), .second, .val (.long q1), .second, .val (.long q2), .second, .val (.int p3), .val (.long lo), .second, .val (.long hi), .second, .val (.int (p3 &&& (7 : Int32))), .val (.long xv), .second, .val (.ref b_4), .val (.int (0 : Int32)), .val (.ref uB)] [(.int (lcmpW xv lo))])) (fun _ k => XS.lcmp X12.here hx rfl (hb hby at_154) rfl k) ?_
      have hc155_13 : xv < lo := hf3
      refine run_fwd (T' := T12) (g' := (mkF m 158 #[.val (.long q0), .second, .val (.long q1), .second, .val (.long q2), .second, .val (.int p3), .val (.long lo), .second, .val (.long hi), .second, .val (.int (p3 &&& (7 : Int32))), .val (.long xv), .second, .val (.ref b_4), .val (.int (0 : Int32)), .val (.ref uB)] [])) (fun _ k => XS.ifNo X12.here hx rfl (hb hby at_155) rfl ((if0 _ _).trans (tlt ((lw_lt xv lo).mpr hc155_13)).2.1) k) ?_
      refine run_fwd (T' := T12) (g' := (mkF m 160 #[.val (.long q0), .second, .val (.long q1), .second, .val (.long q2), .second, .val (.int p3), .val (.long lo), .second, .val (.long hi), .second, .val (.int (p3 &&& (7 : Int32))), .val (.long xv), .second, .val (.ref b_4), .val (.int (0 : Int32)), .val (.ref uB)] [(.ref uB)])) (fun _ k => XS.aload X12.here hx rfl (hb hby at_158) rfl rfl k) ?_
      obtain ⟨T14, X14, e14, st14⟩ := getS2 X12 hx hZ hown (host := "") (Or.inl (hw _ (List.mem_of_getElem? (i := 48) rfl))) Via.refl e12 (Si2.ext O5.2) (g := (mkF m 160 #[.val (.long q0), .second, .val (.long q1), .second, .val (.long q2), .second, .val (.int p3), .val (.long lo), .second, .val (.long hi), .second, .val (.int (p3 &&& (7 : Int32))), .val (.long xv), .second, .val (.ref b_4), .val (.int (0 : Int32)), .val (.ref uB)] [(.ref uB)])) rfl (hb hby at_160)
      refine run_fwd (T' := T14) (g' := (mkF m 163 #[.val (.long q0), .second, .val (.long q1), .second, .val (.long q2), .second, .val (.int p3), .val (.long lo), .second, .val (.long hi), .second, .val (.int (p3 &&& (7 : Int32))), .val (.long xv), .second, .val (.ref b_4), .val (.int (0 : Int32)), .val (.ref uB)] [(.ref uB), (.ref uB)])) (fun _ k => st14 _ k) ?_
      refine run_fwd (T' := T14) (g' := (mkF m 166 #[.val (.long q0), .second, .val (.long q1), .second, .val (.long q2), .second, .val (.int p3), .val (.long lo), .second, .val (.long hi), .second, .val (.int (p3 &&& (7 : Int32))), .val (.long xv), .second, .val (.ref b_4), .val (.int (0 : Int32)), .val (.ref uB)] [])) (fun _ k => Jvm.RoadKit.acmp (g := (mkF m 163 #[.val (.long q0), .second, .val (.long q1), .second, .val (.long q2), .second, .val (.int p3), .val (.long lo), .second, .val (.long hi), .second, .val (.int (p3 &&& (7 : Int32))), .val (.long xv), .second, .val (.ref b_4), .val (.int (0 : Int32)), .val (.ref uB)] [(.ref uB), (.ref uB)])) X14 hx rfl rfl rfl (pc0 := 163) (pc' := 166) (same := true) rfl (hb hby at_163) rfl (decide_eq_true rfl) (by decide) (by decide) k) ?_
      refine run_fwd (T' := T14) (g' := (mkF m 167 #[.val (.long q0), .second, .val (.long q1), .second, .val (.long q2), .second, .val (.int p3), .val (.long lo), .second, .val (.long hi), .second, .val (.int (p3 &&& (7 : Int32))), .val (.long xv), .second, .val (.ref b_4), .val (.int (0 : Int32)), .val (.ref uB)] [(.int (1 : Int32))])) (fun _ k => XS.iconst X14.here hx rfl (hb hby at_166) k) ?_
      refine run_fwd (T' := T14) (g' := (mkF m 171 #[.val (.long q0), .second, .val (.long q1), .second, .val (.long q2), .second, .val (.int p3), .val (.long lo), .second, .val (.long hi), .second, .val (.int (p3 &&& (7 : Int32))), .val (.long xv), .second, .val (.ref b_4), .val (.int (0 : Int32)), .val (.ref uB)] [(.int (1 : Int32))])) (fun _ k => XS.goto X14.here hx rfl (pc0 := 167) (pc' := 171) rfl (hb hby at_167) (by decide) (by decide) k) ?_
      exact run_ret X14 hx Bd.returns Bd.notSynchronized rfl (Or.inl ⟨rfl, by simp, _, rfl⟩) (hb hby at_171) (by rw [e14]; exact ⟨rfl, N11⟩) (by decide) (by decide)
    ·
      by_cases hf15 : hi < xv
      ·
        obtain ⟨_, _, ⟨T16, L16, kk16, nn16⟩, -, X16, ⟨Lc16, hQ16, l16, y16, z16⟩, st16⟩ := Jvm.LawKit.callS X2 hx (y := (⟨"com/example/narrow_scan/narrowscan/key/OutOfRange", "of", "(JJJ)Ljava/util/Optional;"⟩ : MethodName)) hown (mvT hZ (hw _ (List.mem_of_getElem? (i := 7) rfl))) (mvT hZ (hw _ (List.mem_of_getElem? (i := 8) rfl))) (mvT hZ (hw _ (List.mem_of_getElem? (i := 9) rfl))) (mvT hZ (hw _ (List.mem_of_getElem? (i := 10) rfl))) (by decide) (backOf (W := 0) (rm3a l Z aV hw [] xv lo hi uA h0 n0 O0 Si3 (hf3) (hf15)) hZ (hw _ (List.mem_of_getElem? (i := 10) rfl)) (hw _ (List.mem_of_getElem? (i := 9) rfl)) (by decide) (by decide)) (g := (mkF m 83 #[.val (.long q0), .second, .val (.long q1), .second, .val (.long q2), .second, .val (.int p3), .val (.long lo), .second, .val (.long hi), .second, .val (.int (p3 &&& (7 : Int32))), .val (.long xv), .second, .unset, .unset, .unset] [(.long hi), (.long lo), (.long xv)])) rfl (by rw [hml]; rfl) (argsL := [(.long xv), (.long lo), (.long hi)]) (rest := []) (lenOf pd__28JJJ_29Ljava_2futil_2fOptional_3b rfl) rfl (by show 2 * 0 + _ ≤ _; exact Nat.le_of_eq rfl) (hb hby at_83) (fun _ _ => ⟨rfl, Q2_0, (by decide : 0 + 1 ≤ _), (by decide : 0 + 1 ≤ _)⟩)
        dsimp only [Pt.U, Pt.locs, Pt.cells, Pt.slots] at X16 l16 y16 z16 st16 hQ16
        subst l16 y16 z16
        obtain ⟨b_16, rfl, N16q, Q16_0, Q16_1, Q16_2, Q16_3⟩ := hQ16
        have N16 := Fr.app N2 N16q
        obtain ⟨h16, e16⟩ : ∃ z, T16.heap = z := ⟨_, rfl⟩
        rw [e16] at Q16_0 Q16_2 Q16_3
        have O17 : Old Z n0 h16 := O0.keep Q16_0 all0
        have K18 : Keep h0 h16 [] := (Keep.refl h0 []).trans Q16_0 all0
        have gg16_1 : n0 ≤ b_16 := Nat.le_trans (own_le O0) Q16_1
        have sz16_1 : h0.size ≤ b_16 := (Nat.le_trans (Keep.refl h0 []).1 Q16_1)
        refine run_fwd (T' := T16) (g' := (mkF m 86 #[.val (.long q0), .second, .val (.long q1), .second, .val (.long q2), .second, .val (.int p3), .val (.long lo), .second, .val (.long hi), .second, .val (.int (p3 &&& (7 : Int32))), .val (.long xv), .second, .unset, .unset, .unset] [(.ref b_16)])) (fun _ k => st16 _ k) ?_
        refine run_fwd (T' := T16) (g' := (mkF m 88 #[.val (.long q0), .second, .val (.long q1), .second, .val (.long q2), .second, .val (.int p3), .val (.long lo), .second, .val (.long hi), .second, .val (.int (p3 &&& (7 : Int32))), .val (.long xv), .second, .val (.ref b_16), .unset, .unset] [])) (fun _ k => XS.astore X16.here hx rfl (hb hby at_86) rfl rfl (l' := #[.val (.long q0), .second, .val (.long q1), .second, .val (.long q2), .second, .val (.int p3), .val (.long lo), .second, .val (.long hi), .second, .val (.int (p3 &&& (7 : Int32))), .val (.long xv), .second, .val (.ref b_16), .unset, .unset]) rfl k) ?_
        refine run_fwd (T' := T16) (g' := (mkF m 90 #[.val (.long q0), .second, .val (.long q1), .second, .val (.long q2), .second, .val (.int p3), .val (.long lo), .second, .val (.long hi), .second, .val (.int (p3 &&& (7 : Int32))), .val (.long xv), .second, .val (.ref b_16), .unset, .unset] [(.long lo)])) (fun _ k => XS.lload X16.here hx rfl (hb hby at_88) rfl k) ?_
        refine run_fwd (T' := T16) (g' := (mkF m 92 #[.val (.long q0), .second, .val (.long q1), .second, .val (.long q2), .second, .val (.int p3), .val (.long lo), .second, .val (.long hi), .second, .val (.int (p3 &&& (7 : Int32))), .val (.long xv), .second, .val (.ref b_16), .unset, .unset] [(.long xv), (.long lo)])) (fun _ k => XS.lload X16.here hx rfl (hb hby at_90) rfl k) ?_
        refine run_fwd (T' := T16) (g' := (mkF m 93 #[.val (.long q0), .second, .val (.long q1), .second, .val (.long q2), .second, .val (.int p3), .val (.long lo), .second, .val (.long hi), .second, .val (.int (p3 &&& (7 : Int32))), .val (.long xv), .second, .val (.ref b_16), .unset, .unset] [(.int (lcmpW lo xv))])) (fun _ k => XS.lcmp X16.here hx rfl (hb hby at_92) rfl k) ?_
        have hc93_19 : ¬ (xv < lo) := hf3
        refine run_fwd (T' := T16) (g' := (mkF m 96 #[.val (.long q0), .second, .val (.long q1), .second, .val (.long q2), .second, .val (.int p3), .val (.long lo), .second, .val (.long hi), .second, .val (.int (p3 &&& (7 : Int32))), .val (.long xv), .second, .val (.ref b_16), .unset, .unset] [])) (fun _ k => XS.ifNo X16.here hx rfl (hb hby at_93) rfl ((if0 _ _).trans (flt (fun z => hc93_19 ((lw_gt lo xv).mp z))).2.2.1) k) ?_
        refine run_fwd (T' := T16) (g' := (mkF m 98 #[.val (.long q0), .second, .val (.long q1), .second, .val (.long q2), .second, .val (.int p3), .val (.long lo), .second, .val (.long hi), .second, .val (.int (p3 &&& (7 : Int32))), .val (.long xv), .second, .val (.ref b_16), .unset, .unset] [(.long xv)])) (fun _ k => XS.lload X16.here hx rfl (hb hby at_96) rfl k) ?_
        refine run_fwd (T' := T16) (g' := (mkF m 100 #[.val (.long q0), .second, .val (.long q1), .second, .val (.long q2), .second, .val (.int p3), .val (.long lo), .second, .val (.long hi), .second, .val (.int (p3 &&& (7 : Int32))), .val (.long xv), .second, .val (.ref b_16), .unset, .unset] [(.long hi), (.long xv)])) (fun _ k => XS.lload X16.here hx rfl (hb hby at_98) rfl k) ?_
        refine run_fwd (T' := T16) (g' := (mkF m 101 #[.val (.long q0), .second, .val (.long q1), .second, .val (.long q2), .second, .val (.int p3), .val (.long lo), .second, .val (.long hi), .second, .val (.int (p3 &&& (7 : Int32))), .val (.long xv), .second, .val (.ref b_16), .unset, .unset] [(.int (lcmpW xv hi))])) (fun _ k => XS.lcmp X16.here hx rfl (hb hby at_100) rfl k) ?_
        have hc101_20 : hi < xv := hf15
        refine run_fwd (T' := T16) (g' := (mkF m 108 #[.val (.long q0), .second, .val (.long q1), .second, .val (.long q2), .second, .val (.int p3), .val (.long lo), .second, .val (.long hi), .second, .val (.int (p3 &&& (7 : Int32))), .val (.long xv), .second, .val (.ref b_16), .unset, .unset] [])) (fun _ k => XS.ifYes X16.here hx rfl (pc0 := 101) (pc' := 108) rfl (hb hby at_101) rfl ((if0 _ _).trans (tlt ((lw_gt xv hi).mpr hc101_20)).2.2.1) (by decide) (by decide) k) ?_
        refine run_fwd (T' := T16) (g' := (mkF m 109 #[.val (.long q0), .second, .val (.long q1), .second, .val (.long q2), .second, .val (.int p3), .val (.long lo), .second, .val (.long hi), .second, .val (.int (p3 &&& (7 : Int32))), .val (.long xv), .second, .val (.ref b_16), .unset, .unset] [(.int (0 : Int32))])) (fun _ k => XS.iconst X16.here hx rfl (hb hby at_108) k) ?_
        refine run_fwd (T' := T16) (g' := (mkF m 111 #[.val (.long q0), .second, .val (.long q1), .second, .val (.long q2), .second, .val (.int p3), .val (.long lo), .second, .val (.long hi), .second, .val (.int (p3 &&& (7 : Int32))), .val (.long xv), .second, .val (.ref b_16), .val (.int (0 : Int32)), .unset] [])) (fun _ k => XS.istore X16.here hx rfl (hb hby at_109) rfl (l' := #[.val (.long q0), .second, .val (.long q1), .second, .val (.long q2), .second, .val (.int p3), .val (.long lo), .second, .val (.long hi), .second, .val (.int (p3 &&& (7 : Int32))), .val (.long xv), .second, .val (.ref b_16), .val (.int (0 : Int32)), .unset]) rfl k) ?_
        refine run_fwd (T' := T16) (g' := (mkF m 113 #[.val (.long q0), .second, .val (.long q1), .second, .val (.long q2), .second, .val (.int p3), .val (.long lo), .second, .val (.long hi), .second, .val (.int (p3 &&& (7 : Int32))), .val (.long xv), .second, .val (.ref b_16), .val (.int (0 : Int32)), .unset] [(.int (0 : Int32))])) (fun _ k => XS.iload X16.here hx rfl (hb hby at_111) rfl k) ?_
        have hc113_21 : (0 : Int32) = (0 : Int32) := (by decide)
        refine run_fwd (T' := T16) (g' := (mkF m 130 #[.val (.long q0), .second, .val (.long q1), .second, .val (.long q2), .second, .val (.int p3), .val (.long lo), .second, .val (.long hi), .second, .val (.int (p3 &&& (7 : Int32))), .val (.long xv), .second, .val (.ref b_16), .val (.int (0 : Int32)), .unset] [])) (fun _ k => XS.ifYes X16.here hx rfl (pc0 := 113) (pc' := 130) rfl (hb hby at_113) rfl ((if0 _ _).trans (teq hc113_21).1) (by decide) (by decide) k) ?_
        refine run_fwd (T' := T16) (g' := (mkF m 132 #[.val (.long q0), .second, .val (.long q1), .second, .val (.long q2), .second, .val (.int p3), .val (.long lo), .second, .val (.long hi), .second, .val (.int (p3 &&& (7 : Int32))), .val (.long xv), .second, .val (.ref b_16), .val (.int (0 : Int32)), .unset] [(.ref b_16)])) (fun _ k => XS.aload X16.here hx rfl (hb hby at_130) rfl rfl k) ?_
        obtain ⟨cq22, kq22, q22a, q22b, q22c⟩ := isOf hZ e16 Q16_2
        obtain ⟨_, _, ⟨T22, L22, kk22, nn22⟩, -, X22, ⟨Lc22, hQ22, l22, y22, z22⟩, st22⟩ := X16.virtualBack hx (y := (⟨"java/util/Optional", "isPresent", "()Z"⟩ : MethodName)) (z := (⟨"java/util/Optional", "isPresent", "()Z"⟩ : MethodName)) hown (mvT hZ (hw _ (List.mem_of_getElem? (i := 16) rfl))) (mvT hZ (hw _ (List.mem_of_getElem? (i := 17) rfl))) (notFace_of_selects (args := #[]) (mvT hZ (hw _ (List.mem_of_getElem? (i := 19) rfl)))) (mvT hZ (hw _ (List.mem_of_getElem? (i := 19) rfl))) (mvT hZ (hw _ (List.mem_of_getElem? (i := 18) rfl))) (by decide) (backOf (W := 0) (rm5y l Z aV hw [] b_16 uA h16 n0 O17 Q16_3) hZ (hw _ (List.mem_of_getElem? (i := 20) rfl)) (hw _ (List.mem_of_getElem? (i := 13) rfl)) (by decide) (by decide)) q22a q22c (g := (mkF m 132 #[.val (.long q0), .second, .val (.long q1), .second, .val (.long q2), .second, .val (.int p3), .val (.long lo), .second, .val (.long hi), .second, .val (.int (p3 &&& (7 : Int32))), .val (.long xv), .second, .val (.ref b_16), .val (.int (0 : Int32)), .unset] [(.ref b_16)])) rfl (by rw [hml]; rfl) (Steps.refl _) (argsL := []) (rest := []) (lenOf pd__28_29Z rfl) rfl (by show 2 * 0 + _ ≤ _; exact Nat.le_of_eq rfl) (hb hby at_132) (fun _ _ => ⟨rfl, e16, (by decide : 1 + 0 ≤ _), (by decide : 1 + 0 ≤ _)⟩)
        dsimp only [Pt.U, Pt.locs, Pt.cells, Pt.slots] at X22 l22 y22 z22 st22 hQ22
        subst l22 y22 z22
        obtain ⟨rfl, N22q, Q22_0⟩ := hQ22
        have N22 := Fr.app N16 N22q
        refine run_fwd (T' := T22) (g' := (mkF m 135 #[.val (.long q0), .second, .val (.long q1), .second, .val (.long q2), .second, .val (.int p3), .val (.long lo), .second, .val (.long hi), .second, .val (.int (p3 &&& (7 : Int32))), .val (.long xv), .second, .val (.ref b_16), .val (.int (0 : Int32)), .unset] [(.int (1 : Int32))])) (fun _ k => st22.trans k) ?_
        have hc135_23 : ¬ ((1 : Int32) = (0 : Int32)) := (by decide)
        refine run_fwd (T' := T22) (g' := (mkF m 140 #[.val (.long q0), .second, .val (.long q1), .second, .val (.long q2), .second, .val (.int p3), .val (.long lo), .second, .val (.long hi), .second, .val (.int (p3 &&& (7 : Int32))), .val (.long xv), .second, .val (.ref b_16), .val (.int (0 : Int32)), .unset] [])) (fun _ k => XS.ifYes X22.here hx rfl (pc0 := 135) (pc' := 140) rfl (hb hby at_135) rfl ((if0 _ _).trans (feq hc135_23).2) (by decide) (by decide) k) ?_
        refine run_fwd (T' := T22) (g' := (mkF m 142 #[.val (.long q0), .second, .val (.long q1), .second, .val (.long q2), .second, .val (.int p3), .val (.long lo), .second, .val (.long hi), .second, .val (.int (p3 &&& (7 : Int32))), .val (.long xv), .second, .val (.ref b_16), .val (.int (0 : Int32)), .unset] [(.ref b_16)])) (fun _ k => XS.aload X22.here hx rfl (hb hby at_140) rfl rfl k) ?_
        obtain ⟨cq24, kq24, q24a, q24b, q24c⟩ := isOf hZ Q22_0 Q16_2
        obtain ⟨_, _, ⟨T24, L24, kk24, nn24⟩, -, X24, ⟨Lc24, hQ24, l24, y24, z24⟩, st24⟩ := X22.virtualBack hx (y := (⟨"java/util/Optional", "get", "()Ljava/lang/Object;"⟩ : MethodName)) (z := (⟨"java/util/Optional", "get", "()Ljava/lang/Object;"⟩ : MethodName)) hown (mvT hZ (hw _ (List.mem_of_getElem? (i := 41) rfl))) (mvT hZ (hw _ (List.mem_of_getElem? (i := 42) rfl))) (notFace_of_selects (args := #[]) (mvT hZ (hw _ (List.mem_of_getElem? (i := 44) rfl)))) (mvT hZ (hw _ (List.mem_of_getElem? (i := 44) rfl))) (mvT hZ (hw _ (List.mem_of_getElem? (i := 43) rfl))) (by decide) (backOf (W := 0) (rm10 l Z aV hw [] b_16 uA h16 n0 O17 Q16_3) hZ (hw _ (List.mem_of_getElem? (i := 45) rfl)) (hw _ (List.mem_of_getElem? (i := 13) rfl)) (by decide) (by decide)) q24a q24c (g := (mkF m 142 #[.val (.long q0), .second, .val (.long q1), .second, .val (.long q2), .second, .val (.int p3), .val (.long lo), .second, .val (.long hi), .second, .val (.int (p3 &&& (7 : Int32))), .val (.long xv), .second, .val (.ref b_16), .val (.int (0 : Int32)), .unset] [(.ref b_16)])) rfl (by rw [hml]; rfl) (Steps.refl _) (argsL := []) (rest := []) (lenOf pd__28_29Ljava_2flang_2fObject_3b rfl) rfl (by show 2 * 0 + _ ≤ _; exact Nat.le_of_eq rfl) (hb hby at_142) (fun _ _ => ⟨rfl, Q22_0, (by decide : 1 + 0 ≤ _), (by decide : 1 + 0 ≤ _)⟩)
        dsimp only [Pt.U, Pt.locs, Pt.cells, Pt.slots] at X24 l24 y24 z24 st24 hQ24
        subst l24 y24 z24
        obtain ⟨rfl, N24q, Q24_0⟩ := hQ24
        have N24 := Fr.app N22 N24q
        refine run_fwd (T' := T24) (g' := (mkF m 145 #[.val (.long q0), .second, .val (.long q1), .second, .val (.long q2), .second, .val (.int p3), .val (.long lo), .second, .val (.long hi), .second, .val (.int (p3 &&& (7 : Int32))), .val (.long xv), .second, .val (.ref b_16), .val (.int (0 : Int32)), .unset] [(.ref uA)])) (fun _ k => st24.trans k) ?_
        obtain ⟨T25, X25, e25, st25⟩ := castY X24 hx hZ hown (hw _ (List.mem_of_getElem? (i := 46) rfl)) Q24_0 (Ins.self (OEi6.ext O17.2)) (g := (mkF m 145 #[.val (.long q0), .second, .val (.long q1), .second, .val (.long q2), .second, .val (.int p3), .val (.long lo), .second, .val (.long hi), .second, .val (.int (p3 &&& (7 : Int32))), .val (.long xv), .second, .val (.ref b_16), .val (.int (0 : Int32)), .unset] [(.ref uA)])) rfl rfl (hb hby at_145)
        refine run_fwd (T' := T25) (g' := (mkF m 148 #[.val (.long q0), .second, .val (.long q1), .second, .val (.long q2), .second, .val (.int p3), .val (.long lo), .second, .val (.long hi), .second, .val (.int (p3 &&& (7 : Int32))), .val (.long xv), .second, .val (.ref b_16), .val (.int (0 : Int32)), .unset] [(.ref uA)])) (fun _ k => st25 _ k) ?_
        refine run_fwd (T' := T25) (g' := (mkF m 150 #[.val (.long q0), .second, .val (.long q1), .second, .val (.long q2), .second, .val (.int p3), .val (.long lo), .second, .val (.long hi), .second, .val (.int (p3 &&& (7 : Int32))), .val (.long xv), .second, .val (.ref b_16), .val (.int (0 : Int32)), .val (.ref uA)] [])) (fun _ k => XS.astore X25.here hx rfl (hb hby at_148) rfl rfl (l' := #[.val (.long q0), .second, .val (.long q1), .second, .val (.long q2), .second, .val (.int p3), .val (.long lo), .second, .val (.long hi), .second, .val (.int (p3 &&& (7 : Int32))), .val (.long xv), .second, .val (.ref b_16), .val (.int (0 : Int32)), .val (.ref uA)]) rfl k) ?_
        refine run_fwd (T' := T25) (g' := (mkF m 152 #[.val (.long q0), .second, .val (.long q1), .second, .val (.long q2), .second, .val (.int p3), .val (.long lo), .second, .val (.long hi), .second, .val (.int (p3 &&& (7 : Int32))), .val (.long xv), .second, .val (.ref b_16), .val (.int (0 : Int32)), .val (.ref uA)] [(.long xv)])) (fun _ k => XS.lload X25.here hx rfl (hb hby at_150) rfl k) ?_
        refine run_fwd (T' := T25) (g' := (mkF m 154 #[.val (.long q0), .second, .val (.long q1), .second, .val (.long q2), .second, .val (.int p3), .val (.long lo), .second, .val (.long hi), .second, .val (.int (p3 &&& (7 : Int32))), .val (.long xv), .second, .val (.ref b_16), .val (.int (0 : Int32)), .val (.ref uA)] [(.long lo), (.long xv)])) (fun _ k => XS.lload X25.here hx rfl (hb hby at_152) rfl k) ?_
        refine run_fwd (T' := T25) (g' := (mkF m 155 #[.val (.long q0), .second, .val (.long q1), .second, .val (.long q2), .second, .val (.int p3), .val (.long lo), .second, .val (.long hi), .second, .val (.int (p3 &&& (7 : Int32))), .val (.long xv), .second, .val (.ref b_16), .val (.int (0 : Int32)), .val (.ref uA)] [(.int (lcmpW xv lo))])) (fun _ k => XS.lcmp X25.here hx rfl (hb hby at_154) rfl k) ?_
        have hc155_26 : ¬ (xv < lo) := hf3
        refine run_fwd (T' := T25) (g' := (mkF m 172 #[.val (.long q0), .second, .val (.long q1), .second, .val (.long q2), .second, .val (.int p3), .val (.long lo), .second, .val (.long hi), .second, .val (.int (p3 &&& (7 : Int32))), .val (.long xv), .second, .val (.ref b_16), .val (.int (0 : Int32)), .val (.ref uA)] [])) (fun _ k => XS.ifYes X25.here hx rfl (pc0 := 155) (pc' := 172) rfl (hb hby at_155) rfl ((if0 _ _).trans (flt (fun z => hc155_26 ((lw_lt xv lo).mp z))).2.1) (by decide) (by decide) k) ?_
        refine run_fwd (T' := T25) (g' := (mkF m 174 #[.val (.long q0), .second, .val (.long q1), .second, .val (.long q2), .second, .val (.int p3), .val (.long lo), .second, .val (.long hi), .second, .val (.int (p3 &&& (7 : Int32))), .val (.long xv), .second, .val (.ref b_16), .val (.int (0 : Int32)), .val (.ref uA)] [(.ref uA)])) (fun _ k => XS.aload X25.here hx rfl (hb hby at_172) rfl rfl k) ?_
        obtain ⟨T27, X27, e27, st27⟩ := getS2 X25 hx hZ hown (host := "") (Or.inl (hw _ (List.mem_of_getElem? (i := 51) rfl))) Via.refl e25 (Si3.ext O17.2) (g := (mkF m 174 #[.val (.long q0), .second, .val (.long q1), .second, .val (.long q2), .second, .val (.int p3), .val (.long lo), .second, .val (.long hi), .second, .val (.int (p3 &&& (7 : Int32))), .val (.long xv), .second, .val (.ref b_16), .val (.int (0 : Int32)), .val (.ref uA)] [(.ref uA)])) rfl (hb hby at_174)
        refine run_fwd (T' := T27) (g' := (mkF m 177 #[.val (.long q0), .second, .val (.long q1), .second, .val (.long q2), .second, .val (.int p3), .val (.long lo), .second, .val (.long hi), .second, .val (.int (p3 &&& (7 : Int32))), .val (.long xv), .second, .val (.ref b_16), .val (.int (0 : Int32)), .val (.ref uA)] [(.ref uA), (.ref uA)])) (fun _ k => st27 _ k) ?_
        refine run_fwd (T' := T27) (g' := (mkF m 180 #[.val (.long q0), .second, .val (.long q1), .second, .val (.long q2), .second, .val (.int p3), .val (.long lo), .second, .val (.long hi), .second, .val (.int (p3 &&& (7 : Int32))), .val (.long xv), .second, .val (.ref b_16), .val (.int (0 : Int32)), .val (.ref uA)] [])) (fun _ k => Jvm.RoadKit.acmp (g := (mkF m 177 #[.val (.long q0), .second, .val (.long q1), .second, .val (.long q2), .second, .val (.int p3), .val (.long lo), .second, .val (.long hi), .second, .val (.int (p3 &&& (7 : Int32))), .val (.long xv), .second, .val (.ref b_16), .val (.int (0 : Int32)), .val (.ref uA)] [(.ref uA), (.ref uA)])) X27 hx rfl rfl rfl (pc0 := 177) (pc' := 180) (same := true) rfl (hb hby at_177) rfl (decide_eq_true rfl) (by decide) (by decide) k) ?_
        refine run_fwd (T' := T27) (g' := (mkF m 181 #[.val (.long q0), .second, .val (.long q1), .second, .val (.long q2), .second, .val (.int p3), .val (.long lo), .second, .val (.long hi), .second, .val (.int (p3 &&& (7 : Int32))), .val (.long xv), .second, .val (.ref b_16), .val (.int (0 : Int32)), .val (.ref uA)] [(.int (1 : Int32))])) (fun _ k => XS.iconst X27.here hx rfl (hb hby at_180) k) ?_
        refine run_fwd (T' := T27) (g' := (mkF m 185 #[.val (.long q0), .second, .val (.long q1), .second, .val (.long q2), .second, .val (.int p3), .val (.long lo), .second, .val (.long hi), .second, .val (.int (p3 &&& (7 : Int32))), .val (.long xv), .second, .val (.ref b_16), .val (.int (0 : Int32)), .val (.ref uA)] [(.int (1 : Int32))])) (fun _ k => XS.goto X27.here hx rfl (pc0 := 181) (pc' := 185) rfl (hb hby at_181) (by decide) (by decide) k) ?_
        exact run_ret X27 hx Bd.returns Bd.notSynchronized rfl (Or.inl ⟨rfl, by simp, _, rfl⟩) (hb hby at_185) (by rw [e27]; exact ⟨rfl, N24⟩) (by decide) (by decide)
      ·
        obtain ⟨_, _, ⟨T28, L28, kk28, nn28⟩, -, X28, ⟨Lc28, hQ28, l28, y28, z28⟩, st28⟩ := Jvm.LawKit.callS X2 hx (y := (⟨"com/example/narrow_scan/narrowscan/key/OutOfRange", "of", "(JJJ)Ljava/util/Optional;"⟩ : MethodName)) hown (mvT hZ (hw _ (List.mem_of_getElem? (i := 7) rfl))) (mvT hZ (hw _ (List.mem_of_getElem? (i := 8) rfl))) (mvT hZ (hw _ (List.mem_of_getElem? (i := 9) rfl))) (mvT hZ (hw _ (List.mem_of_getElem? (i := 10) rfl))) (by decide) (backOf (W := 0) (rm3e l Z aV hw [] xv lo hi uE h0 n0 O0 Si4 (hf3) (hf15)) hZ (hw _ (List.mem_of_getElem? (i := 10) rfl)) (hw _ (List.mem_of_getElem? (i := 9) rfl)) (by decide) (by decide)) (g := (mkF m 83 #[.val (.long q0), .second, .val (.long q1), .second, .val (.long q2), .second, .val (.int p3), .val (.long lo), .second, .val (.long hi), .second, .val (.int (p3 &&& (7 : Int32))), .val (.long xv), .second, .unset, .unset, .unset] [(.long hi), (.long lo), (.long xv)])) rfl (by rw [hml]; rfl) (argsL := [(.long xv), (.long lo), (.long hi)]) (rest := []) (lenOf pd__28JJJ_29Ljava_2futil_2fOptional_3b rfl) rfl (by show 2 * 0 + _ ≤ _; exact Nat.le_of_eq rfl) (hb hby at_83) (fun _ _ => ⟨rfl, Q2_0, (by decide : 0 + 0 ≤ _), (by decide : 0 + 0 ≤ _)⟩)
        dsimp only [Pt.U, Pt.locs, Pt.cells, Pt.slots] at X28 l28 y28 z28 st28 hQ28
        subst l28 y28 z28
        obtain ⟨rfl, N28q, Q28_0⟩ := hQ28
        have N28 := Fr.app N2 N28q
        refine run_fwd (T' := T28) (g' := (mkF m 86 #[.val (.long q0), .second, .val (.long q1), .second, .val (.long q2), .second, .val (.int p3), .val (.long lo), .second, .val (.long hi), .second, .val (.int (p3 &&& (7 : Int32))), .val (.long xv), .second, .unset, .unset, .unset] [(.ref uE)])) (fun _ k => st28 _ k) ?_
        refine run_fwd (T' := T28) (g' := (mkF m 88 #[.val (.long q0), .second, .val (.long q1), .second, .val (.long q2), .second, .val (.int p3), .val (.long lo), .second, .val (.long hi), .second, .val (.int (p3 &&& (7 : Int32))), .val (.long xv), .second, .val (.ref uE), .unset, .unset] [])) (fun _ k => XS.astore X28.here hx rfl (hb hby at_86) rfl rfl (l' := #[.val (.long q0), .second, .val (.long q1), .second, .val (.long q2), .second, .val (.int p3), .val (.long lo), .second, .val (.long hi), .second, .val (.int (p3 &&& (7 : Int32))), .val (.long xv), .second, .val (.ref uE), .unset, .unset]) rfl k) ?_
        refine run_fwd (T' := T28) (g' := (mkF m 90 #[.val (.long q0), .second, .val (.long q1), .second, .val (.long q2), .second, .val (.int p3), .val (.long lo), .second, .val (.long hi), .second, .val (.int (p3 &&& (7 : Int32))), .val (.long xv), .second, .val (.ref uE), .unset, .unset] [(.long lo)])) (fun _ k => XS.lload X28.here hx rfl (hb hby at_88) rfl k) ?_
        refine run_fwd (T' := T28) (g' := (mkF m 92 #[.val (.long q0), .second, .val (.long q1), .second, .val (.long q2), .second, .val (.int p3), .val (.long lo), .second, .val (.long hi), .second, .val (.int (p3 &&& (7 : Int32))), .val (.long xv), .second, .val (.ref uE), .unset, .unset] [(.long xv), (.long lo)])) (fun _ k => XS.lload X28.here hx rfl (hb hby at_90) rfl k) ?_
        refine run_fwd (T' := T28) (g' := (mkF m 93 #[.val (.long q0), .second, .val (.long q1), .second, .val (.long q2), .second, .val (.int p3), .val (.long lo), .second, .val (.long hi), .second, .val (.int (p3 &&& (7 : Int32))), .val (.long xv), .second, .val (.ref uE), .unset, .unset] [(.int (lcmpW lo xv))])) (fun _ k => XS.lcmp X28.here hx rfl (hb hby at_92) rfl k) ?_
        have hc93_29 : ¬ (xv < lo) := hf3
        refine run_fwd (T' := T28) (g' := (mkF m 96 #[.val (.long q0), .second, .val (.long q1), .second, .val (.long q2), .second, .val (.int p3), .val (.long lo), .second, .val (.long hi), .second, .val (.int (p3 &&& (7 : Int32))), .val (.long xv), .second, .val (.ref uE), .unset, .unset] [])) (fun _ k => XS.ifNo X28.here hx rfl (hb hby at_93) rfl ((if0 _ _).trans (flt (fun z => hc93_29 ((lw_gt lo xv).mp z))).2.2.1) k) ?_
        refine run_fwd (T' := T28) (g' := (mkF m 98 #[.val (.long q0), .second, .val (.long q1), .second, .val (.long q2), .second, .val (.int p3), .val (.long lo), .second, .val (.long hi), .second, .val (.int (p3 &&& (7 : Int32))), .val (.long xv), .second, .val (.ref uE), .unset, .unset] [(.long xv)])) (fun _ k => XS.lload X28.here hx rfl (hb hby at_96) rfl k) ?_
        refine run_fwd (T' := T28) (g' := (mkF m 100 #[.val (.long q0), .second, .val (.long q1), .second, .val (.long q2), .second, .val (.int p3), .val (.long lo), .second, .val (.long hi), .second, .val (.int (p3 &&& (7 : Int32))), .val (.long xv), .second, .val (.ref uE), .unset, .unset] [(.long hi), (.long xv)])) (fun _ k => XS.lload X28.here hx rfl (hb hby at_98) rfl k) ?_
        refine run_fwd (T' := T28) (g' := (mkF m 101 #[.val (.long q0), .second, .val (.long q1), .second, .val (.long q2), .second, .val (.int p3), .val (.long lo), .second, .val (.long hi), .second, .val (.int (p3 &&& (7 : Int32))), .val (.long xv), .second, .val (.ref uE), .unset, .unset] [(.int (lcmpW xv hi))])) (fun _ k => XS.lcmp X28.here hx rfl (hb hby at_100) rfl k) ?_
        have hc101_30 : ¬ (hi < xv) := hf15
        refine run_fwd (T' := T28) (g' := (mkF m 104 #[.val (.long q0), .second, .val (.long q1), .second, .val (.long q2), .second, .val (.int p3), .val (.long lo), .second, .val (.long hi), .second, .val (.int (p3 &&& (7 : Int32))), .val (.long xv), .second, .val (.ref uE), .unset, .unset] [])) (fun _ k => XS.ifNo X28.here hx rfl (hb hby at_101) rfl ((if0 _ _).trans (flt (fun z => hc101_30 ((lw_gt xv hi).mp z))).2.2.1) k) ?_
        refine run_fwd (T' := T28) (g' := (mkF m 105 #[.val (.long q0), .second, .val (.long q1), .second, .val (.long q2), .second, .val (.int p3), .val (.long lo), .second, .val (.long hi), .second, .val (.int (p3 &&& (7 : Int32))), .val (.long xv), .second, .val (.ref uE), .unset, .unset] [(.int (1 : Int32))])) (fun _ k => XS.iconst X28.here hx rfl (hb hby at_104) k) ?_
        refine run_fwd (T' := T28) (g' := (mkF m 109 #[.val (.long q0), .second, .val (.long q1), .second, .val (.long q2), .second, .val (.int p3), .val (.long lo), .second, .val (.long hi), .second, .val (.int (p3 &&& (7 : Int32))), .val (.long xv), .second, .val (.ref uE), .unset, .unset] [(.int (1 : Int32))])) (fun _ k => XS.goto X28.here hx rfl (pc0 := 105) (pc' := 109) rfl (hb hby at_105) (by decide) (by decide) k) ?_
        refine run_fwd (T' := T28) (g' := (mkF m 111 #[.val (.long q0), .second, .val (.long q1), .second, .val (.long q2), .second, .val (.int p3), .val (.long lo), .second, .val (.long hi), .second, .val (.int (p3 &&& (7 : Int32))), .val (.long xv), .second, .val (.ref uE), .val (.int (1 : Int32)), .unset] [])) (fun _ k => XS.istore X28.here hx rfl (hb hby at_109) rfl (l' := #[.val (.long q0), .second, .val (.long q1), .second, .val (.long q2), .second, .val (.int p3), .val (.long lo), .second, .val (.long hi), .second, .val (.int (p3 &&& (7 : Int32))), .val (.long xv), .second, .val (.ref uE), .val (.int (1 : Int32)), .unset]) rfl k) ?_
        refine run_fwd (T' := T28) (g' := (mkF m 113 #[.val (.long q0), .second, .val (.long q1), .second, .val (.long q2), .second, .val (.int p3), .val (.long lo), .second, .val (.long hi), .second, .val (.int (p3 &&& (7 : Int32))), .val (.long xv), .second, .val (.ref uE), .val (.int (1 : Int32)), .unset] [(.int (1 : Int32))])) (fun _ k => XS.iload X28.here hx rfl (hb hby at_111) rfl k) ?_
        have hc113_31 : ¬ ((1 : Int32) = (0 : Int32)) := (by decide)
        refine run_fwd (T' := T28) (g' := (mkF m 116 #[.val (.long q0), .second, .val (.long q1), .second, .val (.long q2), .second, .val (.int p3), .val (.long lo), .second, .val (.long hi), .second, .val (.int (p3 &&& (7 : Int32))), .val (.long xv), .second, .val (.ref uE), .val (.int (1 : Int32)), .unset] [])) (fun _ k => XS.ifNo X28.here hx rfl (hb hby at_113) rfl ((if0 _ _).trans (feq hc113_31).1) k) ?_
        refine run_fwd (T' := T28) (g' := (mkF m 118 #[.val (.long q0), .second, .val (.long q1), .second, .val (.long q2), .second, .val (.int p3), .val (.long lo), .second, .val (.long hi), .second, .val (.int (p3 &&& (7 : Int32))), .val (.long xv), .second, .val (.ref uE), .val (.int (1 : Int32)), .unset] [(.ref uE)])) (fun _ k => XS.aload X28.here hx rfl (hb hby at_116) rfl rfl k) ?_
        obtain ⟨cq32, kq32, q32a, q32b, q32c⟩ := isOf hZ Q28_0 (OEi7.ext O0.2)
        obtain ⟨_, _, ⟨T32, L32, kk32, nn32⟩, -, X32, ⟨Lc32, hQ32, l32, y32, z32⟩, st32⟩ := X28.virtualBack hx (y := (⟨"java/util/Optional", "isPresent", "()Z"⟩ : MethodName)) (z := (⟨"java/util/Optional", "isPresent", "()Z"⟩ : MethodName)) hown (mvT hZ (hw _ (List.mem_of_getElem? (i := 16) rfl))) (mvT hZ (hw _ (List.mem_of_getElem? (i := 17) rfl))) (notFace_of_selects (args := #[]) (mvT hZ (hw _ (List.mem_of_getElem? (i := 19) rfl)))) (mvT hZ (hw _ (List.mem_of_getElem? (i := 19) rfl))) (mvT hZ (hw _ (List.mem_of_getElem? (i := 18) rfl))) (by decide) (backOf (W := 0) (rm5n l Z aV hw [] uE h0 n0 O0 (OFi8.ext O0.2)) hZ (hw _ (List.mem_of_getElem? (i := 20) rfl)) (hw _ (List.mem_of_getElem? (i := 13) rfl)) (by decide) (by decide)) q32a q32c (g := (mkF m 118 #[.val (.long q0), .second, .val (.long q1), .second, .val (.long q2), .second, .val (.int p3), .val (.long lo), .second, .val (.long hi), .second, .val (.int (p3 &&& (7 : Int32))), .val (.long xv), .second, .val (.ref uE), .val (.int (1 : Int32)), .unset] [(.ref uE)])) rfl (by rw [hml]; rfl) (Steps.refl _) (argsL := []) (rest := []) (lenOf pd__28_29Z rfl) rfl (by show 2 * 0 + _ ≤ _; exact Nat.le_of_eq rfl) (hb hby at_118) (fun _ _ => ⟨rfl, Q28_0, (by decide : 0 + 0 ≤ _), (by decide : 0 + 0 ≤ _)⟩)
        dsimp only [Pt.U, Pt.locs, Pt.cells, Pt.slots] at X32 l32 y32 z32 st32 hQ32
        subst l32 y32 z32
        obtain ⟨rfl, N32q, Q32_0⟩ := hQ32
        have N32 := Fr.app N28 N32q
        refine run_fwd (T' := T32) (g' := (mkF m 121 #[.val (.long q0), .second, .val (.long q1), .second, .val (.long q2), .second, .val (.int p3), .val (.long lo), .second, .val (.long hi), .second, .val (.int (p3 &&& (7 : Int32))), .val (.long xv), .second, .val (.ref uE), .val (.int (1 : Int32)), .unset] [(.int (0 : Int32))])) (fun _ k => st32.trans k) ?_
        have hc121_33 : (0 : Int32) = (0 : Int32) := (by decide)
        refine run_fwd (T' := T32) (g' := (mkF m 124 #[.val (.long q0), .second, .val (.long q1), .second, .val (.long q2), .second, .val (.int p3), .val (.long lo), .second, .val (.long hi), .second, .val (.int (p3 &&& (7 : Int32))), .val (.long xv), .second, .val (.ref uE), .val (.int (1 : Int32)), .unset] [])) (fun _ k => XS.ifNo X32.here hx rfl (hb hby at_121) rfl ((if0 _ _).trans (teq hc121_33).2) k) ?_
        refine run_fwd (T' := T32) (g' := (mkF m 125 #[.val (.long q0), .second, .val (.long q1), .second, .val (.long q2), .second, .val (.int p3), .val (.long lo), .second, .val (.long hi), .second, .val (.int (p3 &&& (7 : Int32))), .val (.long xv), .second, .val (.ref uE), .val (.int (1 : Int32)), .unset] [(.int (1 : Int32))])) (fun _ k => XS.iconst X32.here hx rfl (hb hby at_124) k) ?_
        refine run_fwd (T' := T32) (g' := (mkF m 129 #[.val (.long q0), .second, .val (.long q1), .second, .val (.long q2), .second, .val (.int p3), .val (.long lo), .second, .val (.long hi), .second, .val (.int (p3 &&& (7 : Int32))), .val (.long xv), .second, .val (.ref uE), .val (.int (1 : Int32)), .unset] [(.int (1 : Int32))])) (fun _ k => XS.goto X32.here hx rfl (pc0 := 125) (pc' := 129) rfl (hb hby at_125) (by decide) (by decide) k) ?_
        exact run_ret X32 hx Bd.returns Bd.notSynchronized rfl (Or.inl ⟨rfl, by simp, _, rfl⟩) (hb hby at_129) (by rw [Q32_0]; exact ⟨rfl, N32⟩) (by decide) (by decide)
  refine run_fwd (T' := T2) (g' := (mkF m 27 #[.val (.long q0), .second, .val (.long q1), .second, .val (.long q2), .second, .val (.int p3), .val (.long lo), .second, .val (.long hi), .second, .val (.int (p3 &&& (7 : Int32))), .val (.long q2), .second, .unset, .unset, .unset] [(.int (p3 &&& (7 : Int32)))])) (fun _ k => XS.iload X2.here hx rfl (hb hby at_25) rfl k) ?_
  by_cases hc27_34 : (p3 &&& (7 : Int32)) = (0 : Int32)
  ·
    refine run_fwd (T' := T2) (g' := (mkF m 30 #[.val (.long q0), .second, .val (.long q1), .second, .val (.long q2), .second, .val (.int p3), .val (.long lo), .second, .val (.long hi), .second, .val (.int (p3 &&& (7 : Int32))), .val (.long q2), .second, .unset, .unset, .unset] [])) (fun _ k => XS.ifNo X2.here hx rfl (hb hby at_27) rfl ((if0 _ _).trans (teq hc27_34).2) k) ?_
    refine run_fwd (T' := T2) (g' := (mkF m 32 #[.val (.long q0), .second, .val (.long q1), .second, .val (.long q2), .second, .val (.int p3), .val (.long lo), .second, .val (.long hi), .second, .val (.int (p3 &&& (7 : Int32))), .val (.long q2), .second, .unset, .unset, .unset] [(.long lo)])) (fun _ k => XS.lload X2.here hx rfl (hb hby at_30) rfl k) ?_
    refine run_fwd (T' := T2) (g' := (mkF m 33 #[.val (.long q0), .second, .val (.long q1), .second, .val (.long q2), .second, .val (.int p3), .val (.long lo), .second, .val (.long hi), .second, .val (.int (p3 &&& (7 : Int32))), .val (.long q2), .second, .unset, .unset, .unset] [(.long (1 : Int64)), (.long lo)])) (fun _ k => XS.lconst X2.here hx rfl (hb hby at_32) k) ?_
    refine run_fwd (T' := T2) (g' := (mkF m 34 #[.val (.long q0), .second, .val (.long q1), .second, .val (.long q2), .second, .val (.int p3), .val (.long lo), .second, .val (.long hi), .second, .val (.int (p3 &&& (7 : Int32))), .val (.long q2), .second, .unset, .unset, .unset] [(.long (lo - (1 : Int64)))])) (fun _ k => XS.lsub X2.here hx rfl (hb hby at_33) rfl k) ?_
    refine run_fwd (T' := T2) (g' := (mkF m 36 #[.val (.long q0), .second, .val (.long q1), .second, .val (.long q2), .second, .val (.int p3), .val (.long lo), .second, .val (.long hi), .second, .val (.int (p3 &&& (7 : Int32))), .val (.long (lo - (1 : Int64))), .second, .unset, .unset, .unset] [])) (fun _ k => XS.lstore X2.here hx rfl (hb hby at_34) rfl (l' := #[.val (.long q0), .second, .val (.long q1), .second, .val (.long q2), .second, .val (.int p3), .val (.long lo), .second, .val (.long hi), .second, .val (.int (p3 &&& (7 : Int32))), .val (.long (lo - (1 : Int64))), .second, .unset, .unset, .unset]) rfl k) ?_
    refine run_fwd (T' := T2) (g' := (mkF m 77 #[.val (.long q0), .second, .val (.long q1), .second, .val (.long q2), .second, .val (.int p3), .val (.long lo), .second, .val (.long hi), .second, .val (.int (p3 &&& (7 : Int32))), .val (.long (lo - (1 : Int64))), .second, .unset, .unset, .unset] [])) (fun _ k => XS.goto X2.here hx rfl (pc0 := 36) (pc' := 77) rfl (hb hby at_36) (by decide) (by decide) k) ?_
    exact tail _
  ·
    refine run_fwd (T' := T2) (g' := (mkF m 39 #[.val (.long q0), .second, .val (.long q1), .second, .val (.long q2), .second, .val (.int p3), .val (.long lo), .second, .val (.long hi), .second, .val (.int (p3 &&& (7 : Int32))), .val (.long q2), .second, .unset, .unset, .unset] [])) (fun _ k => XS.ifYes X2.here hx rfl (pc0 := 27) (pc' := 39) rfl (hb hby at_27) rfl ((if0 _ _).trans (feq hc27_34).2) (by decide) (by decide) k) ?_
    refine run_fwd (T' := T2) (g' := (mkF m 41 #[.val (.long q0), .second, .val (.long q1), .second, .val (.long q2), .second, .val (.int p3), .val (.long lo), .second, .val (.long hi), .second, .val (.int (p3 &&& (7 : Int32))), .val (.long q2), .second, .unset, .unset, .unset] [(.int (p3 &&& (7 : Int32)))])) (fun _ k => XS.iload X2.here hx rfl (hb hby at_39) rfl k) ?_
    refine run_fwd (T' := T2) (g' := (mkF m 42 #[.val (.long q0), .second, .val (.long q1), .second, .val (.long q2), .second, .val (.int p3), .val (.long lo), .second, .val (.long hi), .second, .val (.int (p3 &&& (7 : Int32))), .val (.long q2), .second, .unset, .unset, .unset] [(.int (1 : Int32)), (.int (p3 &&& (7 : Int32)))])) (fun _ k => XS.iconst X2.here hx rfl (hb hby at_41) k) ?_
    by_cases hc42_35 : (p3 &&& (7 : Int32)) = (1 : Int32)
    ·
      refine run_fwd (T' := T2) (g' := (mkF m 45 #[.val (.long q0), .second, .val (.long q1), .second, .val (.long q2), .second, .val (.int p3), .val (.long lo), .second, .val (.long hi), .second, .val (.int (p3 &&& (7 : Int32))), .val (.long q2), .second, .unset, .unset, .unset] [])) (fun _ k => XS.icmpNo X2.here hx rfl (hb hby at_42) rfl (teq hc42_35).2 k) ?_
      refine run_fwd (T' := T2) (g' := (mkF m 47 #[.val (.long q0), .second, .val (.long q1), .second, .val (.long q2), .second, .val (.int p3), .val (.long lo), .second, .val (.long hi), .second, .val (.int (p3 &&& (7 : Int32))), .val (.long q2), .second, .unset, .unset, .unset] [(.long lo)])) (fun _ k => XS.lload X2.here hx rfl (hb hby at_45) rfl k) ?_
      refine run_fwd (T' := T2) (g' := (mkF m 49 #[.val (.long q0), .second, .val (.long q1), .second, .val (.long q2), .second, .val (.int p3), .val (.long lo), .second, .val (.long hi), .second, .val (.int (p3 &&& (7 : Int32))), .val (.long lo), .second, .unset, .unset, .unset] [])) (fun _ k => XS.lstore X2.here hx rfl (hb hby at_47) rfl (l' := #[.val (.long q0), .second, .val (.long q1), .second, .val (.long q2), .second, .val (.int p3), .val (.long lo), .second, .val (.long hi), .second, .val (.int (p3 &&& (7 : Int32))), .val (.long lo), .second, .unset, .unset, .unset]) rfl k) ?_
      refine run_fwd (T' := T2) (g' := (mkF m 77 #[.val (.long q0), .second, .val (.long q1), .second, .val (.long q2), .second, .val (.int p3), .val (.long lo), .second, .val (.long hi), .second, .val (.int (p3 &&& (7 : Int32))), .val (.long lo), .second, .unset, .unset, .unset] [])) (fun _ k => XS.goto X2.here hx rfl (pc0 := 49) (pc' := 77) rfl (hb hby at_49) (by decide) (by decide) k) ?_
      exact tail _
    ·
      refine run_fwd (T' := T2) (g' := (mkF m 52 #[.val (.long q0), .second, .val (.long q1), .second, .val (.long q2), .second, .val (.int p3), .val (.long lo), .second, .val (.long hi), .second, .val (.int (p3 &&& (7 : Int32))), .val (.long q2), .second, .unset, .unset, .unset] [])) (fun _ k => XS.icmpYes X2.here hx rfl (pc0 := 42) (pc' := 52) rfl (hb hby at_42) rfl (feq hc42_35).2 (by decide) (by decide) k) ?_
      refine run_fwd (T' := T2) (g' := (mkF m 54 #[.val (.long q0), .second, .val (.long q1), .second, .val (.long q2), .second, .val (.int p3), .val (.long lo), .second, .val (.long hi), .second, .val (.int (p3 &&& (7 : Int32))), .val (.long q2), .second, .unset, .unset, .unset] [(.int (p3 &&& (7 : Int32)))])) (fun _ k => XS.iload X2.here hx rfl (hb hby at_52) rfl k) ?_
      refine run_fwd (T' := T2) (g' := (mkF m 55 #[.val (.long q0), .second, .val (.long q1), .second, .val (.long q2), .second, .val (.int p3), .val (.long lo), .second, .val (.long hi), .second, .val (.int (p3 &&& (7 : Int32))), .val (.long q2), .second, .unset, .unset, .unset] [(.int (2 : Int32)), (.int (p3 &&& (7 : Int32)))])) (fun _ k => XS.iconst X2.here hx rfl (hb hby at_54) k) ?_
      by_cases hc55_36 : (p3 &&& (7 : Int32)) = (2 : Int32)
      ·
        refine run_fwd (T' := T2) (g' := (mkF m 58 #[.val (.long q0), .second, .val (.long q1), .second, .val (.long q2), .second, .val (.int p3), .val (.long lo), .second, .val (.long hi), .second, .val (.int (p3 &&& (7 : Int32))), .val (.long q2), .second, .unset, .unset, .unset] [])) (fun _ k => XS.icmpNo X2.here hx rfl (hb hby at_55) rfl (teq hc55_36).2 k) ?_
        refine run_fwd (T' := T2) (g' := (mkF m 60 #[.val (.long q0), .second, .val (.long q1), .second, .val (.long q2), .second, .val (.int p3), .val (.long lo), .second, .val (.long hi), .second, .val (.int (p3 &&& (7 : Int32))), .val (.long q2), .second, .unset, .unset, .unset] [(.long hi)])) (fun _ k => XS.lload X2.here hx rfl (hb hby at_58) rfl k) ?_
        refine run_fwd (T' := T2) (g' := (mkF m 62 #[.val (.long q0), .second, .val (.long q1), .second, .val (.long q2), .second, .val (.int p3), .val (.long lo), .second, .val (.long hi), .second, .val (.int (p3 &&& (7 : Int32))), .val (.long hi), .second, .unset, .unset, .unset] [])) (fun _ k => XS.lstore X2.here hx rfl (hb hby at_60) rfl (l' := #[.val (.long q0), .second, .val (.long q1), .second, .val (.long q2), .second, .val (.int p3), .val (.long lo), .second, .val (.long hi), .second, .val (.int (p3 &&& (7 : Int32))), .val (.long hi), .second, .unset, .unset, .unset]) rfl k) ?_
        refine run_fwd (T' := T2) (g' := (mkF m 77 #[.val (.long q0), .second, .val (.long q1), .second, .val (.long q2), .second, .val (.int p3), .val (.long lo), .second, .val (.long hi), .second, .val (.int (p3 &&& (7 : Int32))), .val (.long hi), .second, .unset, .unset, .unset] [])) (fun _ k => XS.goto X2.here hx rfl (pc0 := 62) (pc' := 77) rfl (hb hby at_62) (by decide) (by decide) k) ?_
        exact tail _
      ·
        refine run_fwd (T' := T2) (g' := (mkF m 65 #[.val (.long q0), .second, .val (.long q1), .second, .val (.long q2), .second, .val (.int p3), .val (.long lo), .second, .val (.long hi), .second, .val (.int (p3 &&& (7 : Int32))), .val (.long q2), .second, .unset, .unset, .unset] [])) (fun _ k => XS.icmpYes X2.here hx rfl (pc0 := 55) (pc' := 65) rfl (hb hby at_55) rfl (feq hc55_36).2 (by decide) (by decide) k) ?_
        refine run_fwd (T' := T2) (g' := (mkF m 67 #[.val (.long q0), .second, .val (.long q1), .second, .val (.long q2), .second, .val (.int p3), .val (.long lo), .second, .val (.long hi), .second, .val (.int (p3 &&& (7 : Int32))), .val (.long q2), .second, .unset, .unset, .unset] [(.int (p3 &&& (7 : Int32)))])) (fun _ k => XS.iload X2.here hx rfl (hb hby at_65) rfl k) ?_
        refine run_fwd (T' := T2) (g' := (mkF m 68 #[.val (.long q0), .second, .val (.long q1), .second, .val (.long q2), .second, .val (.int p3), .val (.long lo), .second, .val (.long hi), .second, .val (.int (p3 &&& (7 : Int32))), .val (.long q2), .second, .unset, .unset, .unset] [(.int (3 : Int32)), (.int (p3 &&& (7 : Int32)))])) (fun _ k => XS.iconst X2.here hx rfl (hb hby at_67) k) ?_
        by_cases hc68_37 : (p3 &&& (7 : Int32)) = (3 : Int32)
        ·
          refine run_fwd (T' := T2) (g' := (mkF m 71 #[.val (.long q0), .second, .val (.long q1), .second, .val (.long q2), .second, .val (.int p3), .val (.long lo), .second, .val (.long hi), .second, .val (.int (p3 &&& (7 : Int32))), .val (.long q2), .second, .unset, .unset, .unset] [])) (fun _ k => XS.icmpNo X2.here hx rfl (hb hby at_68) rfl (teq hc68_37).2 k) ?_
          refine run_fwd (T' := T2) (g' := (mkF m 73 #[.val (.long q0), .second, .val (.long q1), .second, .val (.long q2), .second, .val (.int p3), .val (.long lo), .second, .val (.long hi), .second, .val (.int (p3 &&& (7 : Int32))), .val (.long q2), .second, .unset, .unset, .unset] [(.long hi)])) (fun _ k => XS.lload X2.here hx rfl (hb hby at_71) rfl k) ?_
          refine run_fwd (T' := T2) (g' := (mkF m 74 #[.val (.long q0), .second, .val (.long q1), .second, .val (.long q2), .second, .val (.int p3), .val (.long lo), .second, .val (.long hi), .second, .val (.int (p3 &&& (7 : Int32))), .val (.long q2), .second, .unset, .unset, .unset] [(.long (1 : Int64)), (.long hi)])) (fun _ k => XS.lconst X2.here hx rfl (hb hby at_73) k) ?_
          refine run_fwd (T' := T2) (g' := (mkF m 75 #[.val (.long q0), .second, .val (.long q1), .second, .val (.long q2), .second, .val (.int p3), .val (.long lo), .second, .val (.long hi), .second, .val (.int (p3 &&& (7 : Int32))), .val (.long q2), .second, .unset, .unset, .unset] [(.long (hi + (1 : Int64)))])) (fun _ k => XS.ladd X2.here hx rfl (hb hby at_74) rfl k) ?_
          refine run_fwd (T' := T2) (g' := (mkF m 77 #[.val (.long q0), .second, .val (.long q1), .second, .val (.long q2), .second, .val (.int p3), .val (.long lo), .second, .val (.long hi), .second, .val (.int (p3 &&& (7 : Int32))), .val (.long (hi + (1 : Int64))), .second, .unset, .unset, .unset] [])) (fun _ k => XS.lstore X2.here hx rfl (hb hby at_75) rfl (l' := #[.val (.long q0), .second, .val (.long q1), .second, .val (.long q2), .second, .val (.int p3), .val (.long lo), .second, .val (.long hi), .second, .val (.int (p3 &&& (7 : Int32))), .val (.long (hi + (1 : Int64))), .second, .unset, .unset, .unset]) rfl k) ?_
          exact tail _
        ·
          refine run_fwd (T' := T2) (g' := (mkF m 77 #[.val (.long q0), .second, .val (.long q1), .second, .val (.long q2), .second, .val (.int p3), .val (.long lo), .second, .val (.long hi), .second, .val (.int (p3 &&& (7 : Int32))), .val (.long q2), .second, .unset, .unset, .unset] [])) (fun _ k => XS.icmpYes X2.here hx rfl (pc0 := 68) (pc' := 77) rfl (hb hby at_68) rfl (feq hc68_37).2 (by decide) (by decide) k) ?_
          exact tail _
set_option maxRecDepth 65536 in
set_option maxHeartbeats 40000000 in
theorem comes_1 {Post : Tables → Env → Array Value → State → Outcome → State → Prop} (hpost : ∀ tb e args s v u, (limb_1_1.after args s (.returned v) u = true ∧ limb_1_2.after args s (.returned v) u = true ∧ True) → FrameEnd s (.returned v) u (Jvm.fieldLocs frame_1_writes args s ++ Jvm.arrayLocs frame_1_arrays args s ++ Jvm.staticLocs frame_1_statics s) 16 128 → Post tb e args s (.returned v) u) :
    ArmFor flags0 classFile x code maxLocals ret World_1 tables_1 room_1 Calls_1 rest_1 Pre_1 Post := by
  intro l hfl _ _ p e ha hc hk s m args below hf hA hF happ hP
  obtain ⟨hcalls, hrest, hpre⟩ := hP
  obtain ⟨-, -, -, hnamed, -, -, -, hat⟩ := (Spec.applies_iff hf).mp happ
  obtain ⟨hg, hn⟩ := and_e (Cond.before_iff.mp (show (Jvm.Cond.and given_1 narrow_1).before args s = true from hpre))
  obtain ⟨g1, g2⟩ := and_e hg
  obtain ⟨g3, g4⟩ := and_e g2
  obtain ⟨g5, g6⟩ := and_e g4
  obtain ⟨g7, g8⟩ := and_e g6
  obtain ⟨w0, w1, w2, w3, rfl⟩ : ∃ w0 w1 w2 w3 : Value, args = #[w0, w1, w2, w3] := by
    have hs : args.size = 4 := by simpa [Cond.value, given_1] using g1
    obtain ⟨L⟩ := args
    match L, hs with
    | [w0, w1, w2, w3], _ => exact ⟨w0, w1, w2, w3, rfl⟩
  have hw := fun d (hd : d ∈ tables_1) => atoms_spec (ws := Jvm.Cond.code x code maxLocals ret :: tables_1) hat d (List.mem_cons_of_mem _ hd)
  obtain ⟨hsets, hown0⟩ := atoms_of _ (rest_1_c_eq ▸ (show rest_1_c.before _ s = true from hrest))
  obtain ⟨i0, ei0⟩ := isL_v g3
  obtain rfl : w0 = (.long i0) := Option.some.inj ei0
  obtain ⟨i1, ei1⟩ := isL_v g5
  obtain rfl : w1 = (.long i1) := Option.some.inj ei1
  obtain ⟨i2, ei2⟩ := isL_v g7
  obtain rfl : w2 = (.long i2) := Option.some.inj ei2
  obtain ⟨i3, ei3⟩ := is_v g8
  obtain rfl : w3 = (.int i3) := Option.some.inj ei3
  obtain ⟨n1, n2⟩ := and_e hn
  obtain ⟨uB, eB, SB, EB⟩ := own_sta n1 (Or.inr ⟨hw _ (List.mem_of_getElem? (i := 9) rfl), hw _ (List.mem_of_getElem? (i := 24) rfl)⟩)
  obtain ⟨uA, eA, SA, EA⟩ := own_sta n2 (Or.inr ⟨hw _ (List.mem_of_getElem? (i := 9) rfl), hw _ (List.mem_of_getElem? (i := 50) rfl)⟩)
  obtain ⟨uE, eE, SE, EE⟩ := own_sta (Cond.before_iff.mp (hsets _ (List.mem_of_getElem? (i := 2) rfl))) (Or.inl (hsets _ (List.mem_of_getElem? (i := 1) rfl)))
  have FE : Fld s s.heap uE "java/util/Optional" "value" "Ljava/lang/Object;" .null := Fld.start (by have q := null_v (Cond.before_iff.mp (hsets _ (List.mem_of_getElem? (i := 3) rfl))); rw [fld_at eE] at q; exact q)
  obtain ⟨n, o, h1, h2, h3, _, L, rfl, ⟨rfl, N⟩, hq⟩ := rm0 l s _ hw tables_1 i0 i1 i2 i3 _ _ uB uA uE s.heap s.heap.size (Old.start s) rfl rfl SB SA SE EB EA EE FE p e ha hc hk s m _ below hf ((Spec.applies_iff_loose hf).mp happ).1 ⟨rfl, State.Warmed39.refl s, rfl⟩ trivial
  refine ⟨n, _, h1, h2, h3, hpost _ _ _ _ _ _ ⟨Cond.after_iff.mpr rfl, Cond.after_iff.mpr (eq_i res_at (Term.int_eval (1)) rfl), trivial⟩ ⟨hq.1, hq.2.1, (hq.2.2.sift fun y hy => Or.inr (N y hy)).mono (by decide) (by decide)⟩⟩
theorem main_1_1 : Claimed_1_1 := comes_1 fun _ _ _ _ _ _ h hF => ⟨h.1, hF⟩
theorem main_1_2 : Claimed_1_2 := comes_1 fun _ _ _ _ _ _ h hF => ⟨h.2.1, hF⟩
end Jvm.Pilot.@@N@@
namespace Jvm.Pilot.@@N@@
open Jvm Jvm.ClassFile Sem Op Lib Jvm.Free Jvm.Stand Jvm.Pilot.@@N@@.Jvm.D
/-! MADE BY PROGRAM (witnessworld.py) out of the Statement's table words and the real class files: 15 classes; the members and pool entries that the words name. The judged class is class 1, her method 1. -/
namespace start1
open Jvm.ClassFile
def u (s : String) : CpInfo := .utf8 (stringToUtf16 s)
/-- a pool by its gaps: so many unusable entries, then the entry; so many at the end -/
def gap : Nat → List CpInfo → List CpInfo
  | 0, r => r
  | n + 1, r => .unusable :: gap n r
def poolList (es : List (Nat × CpInfo)) (last : Nat) : List CpInfo := es.foldr (fun e r => gap e.1 (e.2 :: r)) (gap last [])
def pool (es : List (Nat × CpInfo)) (last : Nat) : Array CpInfo := ⟨poolList es last⟩
def fileOf (pool : Array CpInfo) (this : Nat) (attrs : Array Attribute := #[]) (ms : Array MethodInfo := #[]) (fl : Nat := 33) (sup : Nat := 0) (ifs : Array Nat := #[]) (fds : Array FieldInfo := #[]) : ClassFile where
  minorVersion := 0
  majorVersion := 65
  constantPool := pool
  accessFlags := fl
  thisClass := this
  superClass := sup
  interfaces := ifs
  fields := fds
  methods := ms
  attributes := attrs
def plain (name : String) (sup : Option ClassId) : Class where
  name := name
  kind := .ordinary
  loader := none
  accessFlags := 33
  super := sup
  interfaces := #[]
  cf := none
  fields := #[]
  methods := #[]
  instanceTypes := #[]
  staticTypes := #[]
  resolved := #[]
  callSites := []
  init := .initialized
  statics := none
  mirror := none

def pool0 : Array CpInfo := pool [(5, u "<init>"), (0, u "()V"), (1, .class_ 10), (1, u "java/lang/Object")] 113

def k0c0 : Code := { maxStack := 0, maxLocals := 1, code := object_method_1_code, exceptionTable := #[], attributes := #[] }
def k0m0 : Method := { name := "<init>", desc := "()V", sig := { parameters := [], returnType := none }, accessFlags := 1, code := some k0c0 }
/-- java/lang/Object -/
def k0 : Class := { plain "java/lang/Object" none with
  accessFlags := 33
  interfaces := #[]
  cf := some (fileOf pool0 8 #[] #[{ accessFlags := 1, nameIndex := 5, descriptorIndex := 6, attributes := #[] }] 33 0 #[] #[])
  fields := #[]
  methods := #[k0m0]
  instanceTypes := #[]
  staticTypes := #[]
  resolved := Array.replicate 124 none
  statics := none }

def pool1 : Array CpInfo := pool [(2, .class_ 4), (1, u "java/lang/Object"), (0, u "<init>"), (0, u "()V"), (0, .methodref 8 9), (0, .class_ 10), (0, .nameAndType 11 12), (0, u "java/lang/Math"), (0, u "min"), (0, u "(JJ)J"), (0, .methodref 8 14), (0, .nameAndType 15 12), (0, u "max"), (0, .methodref 17 18), (0, .class_ 19), (0, .nameAndType 20 21), (0, u "com/example/narrow_scan/narrowscan/key/OutOfRange"), (0, u "of"), (0, u "(JJJ)Ljava/util/Optional;"), (0, .methodref 23 24), (0, .class_ 25), (0, .nameAndType 26 27), (0, u "java/util/Optional"), (0, u "isPresent"), (0, u "()Z"), (0, .methodref 23 29), (0, .nameAndType 30 31), (0, u "get"), (0, u "()Ljava/lang/Object;"), (0, .fieldref 17 33), (0, .nameAndType 34 35), (0, u "BELOW"), (0, u "Lcom/example/narrow_scan/narrowscan/key/OutOfRange;"), (0, .fieldref 17 37), (0, .nameAndType 38 35), (0, u "ABOVE"), (0, .class_ 40), (0, u "com/example/narrow_scan/narrowscan/key/OutOfRangeOfPinLaw"), (2, u "law"), (0, u "(JJJI)Z")] 3

def k1m0 : Method := { name := "<init>", desc := "()V", sig := { parameters := [], returnType := none }, accessFlags := 1, code := none }
def k1c1 : Code := { maxStack := 6, maxLocals := 17, code := code, exceptionTable := #[], attributes := #[] }
def k1m1 : Method := { name := "law", desc := "(JJJI)Z", sig := { parameters := [.long, .long, .long, .int], returnType := some .boolean }, accessFlags := 9, code := some k1c1 }
/-- com/example/narrow_scan/narrowscan/key/OutOfRangeOfPinLaw -/
def k1 : Class := { plain "com/example/narrow_scan/narrowscan/key/OutOfRangeOfPinLaw" (some 0) with
  accessFlags := 49
  interfaces := #[]
  cf := some (fileOf pool1 39 #[] #[{ accessFlags := 1, nameIndex := 5, descriptorIndex := 6, attributes := #[] }, { accessFlags := 9, nameIndex := 43, descriptorIndex := 44, attributes := #[] }] 49 2 #[] #[])
  fields := #[]
  methods := #[k1m0, k1m1]
  instanceTypes := #[]
  staticTypes := #[]
  resolved := Array.replicate 48 none
  statics := none }

def pool2 : Array CpInfo := pool [(1, .class_ 2), (0, u "java/lang/Math"), (1, .class_ 6), (1, u "java/lang/Object"), (0, u "<init>"), (0, u "()V"), (89, .class_ 100), (1, u "java/lang/Math$RandomNumberGeneratorHolder"), (20, u "(JJ)J"), (50, u "negativeZeroFloatBits"), (0, u "J"), (2, u "negativeZeroDoubleBits"), (21, u "max"), (2, u "min"), (43, u "$assertionsDisabled"), (0, u "Z"), (91, u "twoToTheDoubleScaleDown"), (0, u "D"), (4, u "twoToTheDoubleScaleUp"), (9, u "E"), (3, u "PI"), (2, u "TAU"), (2, u "DEGREES_TO_RADIANS"), (0, u "RADIANS_TO_DEGREES")] 94

def k2m0 : Method := { name := "<init>", desc := "()V", sig := { parameters := [], returnType := none }, accessFlags := 2, code := none }
def k2c1 : Code := { maxStack := 4, maxLocals := 4, code := jdk_29_method_66_code, exceptionTable := #[], attributes := #[] }
def k2m1 : Method := { name := "max", desc := "(JJ)J", sig := { parameters := [.long, .long], returnType := some .long }, accessFlags := 9, code := some k2c1 }
def k2c2 : Code := { maxStack := 4, maxLocals := 4, code := jdk_29_method_70_code, exceptionTable := #[], attributes := #[] }
def k2m2 : Method := { name := "min", desc := "(JJ)J", sig := { parameters := [.long, .long], returnType := some .long }, accessFlags := 9, code := some k2c2 }
/-- java/lang/Math -/
def k2 : Class := { plain "java/lang/Math" (some 0) with
  accessFlags := 49
  interfaces := #[]
  cf := some (fileOf pool2 1 #[.nestMembers #[98]] #[{ accessFlags := 2, nameIndex := 7, descriptorIndex := 8, attributes := #[] }, { accessFlags := 9, nameIndex := 198, descriptorIndex := 121, attributes := #[] }, { accessFlags := 9, nameIndex := 201, descriptorIndex := 121, attributes := #[] }] 49 4 #[] #[{ accessFlags := 25, nameIndex := 354, descriptorIndex := 339, attributes := #[] }, { accessFlags := 25, nameIndex := 358, descriptorIndex := 339, attributes := #[] }, { accessFlags := 25, nameIndex := 361, descriptorIndex := 339, attributes := #[] }, { accessFlags := 26, nameIndex := 364, descriptorIndex := 339, attributes := #[] }, { accessFlags := 26, nameIndex := 365, descriptorIndex := 339, attributes := #[] }, { accessFlags := 26, nameIndex := 172, descriptorIndex := 173, attributes := #[] }, { accessFlags := 26, nameIndex := 176, descriptorIndex := 173, attributes := #[] }, { accessFlags := 8, nameIndex := 344, descriptorIndex := 339, attributes := #[] }, { accessFlags := 8, nameIndex := 338, descriptorIndex := 339, attributes := #[] }, { accessFlags := 4120, nameIndex := 245, descriptorIndex := 246, attributes := #[] }])
  fields := #[{ name := "E", type := .double, accessFlags := 25, slot := 0, constantValue := 0 }, { name := "PI", type := .double, accessFlags := 25, slot := 1, constantValue := 0 }, { name := "TAU", type := .double, accessFlags := 25, slot := 2, constantValue := 0 }, { name := "DEGREES_TO_RADIANS", type := .double, accessFlags := 26, slot := 3, constantValue := 0 }, { name := "RADIANS_TO_DEGREES", type := .double, accessFlags := 26, slot := 4, constantValue := 0 }, { name := "negativeZeroFloatBits", type := .long, accessFlags := 26, slot := 5, constantValue := 0 }, { name := "negativeZeroDoubleBits", type := .long, accessFlags := 26, slot := 6, constantValue := 0 }, { name := "twoToTheDoubleScaleUp", type := .double, accessFlags := 8, slot := 7, constantValue := 0 }, { name := "twoToTheDoubleScaleDown", type := .double, accessFlags := 8, slot := 8, constantValue := 0 }, { name := "$assertionsDisabled", type := .boolean, accessFlags := 4120, slot := 9, constantValue := 0 }]
  methods := #[k2m0, k2m1, k2m2]
  instanceTypes := #[]
  staticTypes := #[.double, .double, .double, .double, .double, .long, .long, .double, .double, .boolean]
  resolved := Array.replicate 460 none
  statics := none }

def pool3 : Array CpInfo := pool [(1, .class_ 2), (0, u "java/lang/constant/Constable"), (0, .class_ 4), (0, u "java/lang/Object")] 6

/-- java/lang/constant/Constable -/
def k3 : Class := { plain "java/lang/constant/Constable" (some 0) with
  accessFlags := 1537
  interfaces := #[]
  cf := some (fileOf pool3 1 #[] #[] 1537 3 #[] #[])
  fields := #[]
  methods := #[]
  instanceTypes := #[]
  staticTypes := #[]
  resolved := Array.replicate 11 none
  statics := none }

def pool4 : Array CpInfo := pool [(1, .class_ 2), (0, u "java/lang/Comparable"), (0, .class_ 4), (0, u "java/lang/Object")] 7

/-- java/lang/Comparable -/
def k4 : Class := { plain "java/lang/Comparable" (some 0) with
  accessFlags := 1537
  interfaces := #[]
  cf := some (fileOf pool4 1 #[] #[] 1537 3 #[] #[])
  fields := #[]
  methods := #[]
  instanceTypes := #[]
  staticTypes := #[]
  resolved := Array.replicate 12 none
  statics := none }

def pool5 : Array CpInfo := pool [(1, .class_ 2), (0, u "java/io/Serializable"), (0, .class_ 4), (0, u "java/lang/Object")] 2

/-- java/io/Serializable -/
def k5 : Class := { plain "java/io/Serializable" (some 0) with
  accessFlags := 1537
  interfaces := #[]
  cf := some (fileOf pool5 1 #[] #[] 1537 3 #[] #[])
  fields := #[]
  methods := #[]
  instanceTypes := #[]
  staticTypes := #[]
  resolved := Array.replicate 7 none
  statics := none }

def pool6 : Array CpInfo := pool [(2, .class_ 4), (1, u "java/lang/Enum"), (0, u "name"), (0, u "Ljava/lang/String;"), (2, u "ordinal"), (0, u "I"), (1, .class_ 14), (1, u "java/lang/Object"), (4, u "hash"), (86, .class_ 108), (1, u "java/lang/Enum$EnumDesc"), (2, .class_ 112), (0, u "java/lang/constant/Constable"), (0, .class_ 114), (0, u "java/lang/Comparable"), (0, .class_ 116), (0, u "java/io/Serializable")] 87

/-- java/lang/Enum -/
def k6 : Class := { plain "java/lang/Enum" (some 0) with
  accessFlags := 1057
  interfaces := #[3, 4, 5]
  cf := some (fileOf pool6 2 #[.nestMembers #[106]] #[] 1057 12 #[111, 113, 115] #[{ accessFlags := 18, nameIndex := 5, descriptorIndex := 6, attributes := #[] }, { accessFlags := 18, nameIndex := 9, descriptorIndex := 10, attributes := #[] }, { accessFlags := 2, nameIndex := 19, descriptorIndex := 10, attributes := #[] }])
  fields := #[{ name := "name", type := (.object "java/lang/String"), accessFlags := 18, slot := 0, constantValue := 0 }, { name := "ordinal", type := .int, accessFlags := 18, slot := 1, constantValue := 0 }, { name := "hash", type := .int, accessFlags := 2, slot := 2, constantValue := 0 }]
  methods := #[]
  instanceTypes := #[(.object "java/lang/String"), .int, .int]
  staticTypes := #[]
  resolved := Array.replicate 204 none
  statics := none }

def pool7 : Array CpInfo := pool [(1, .class_ 2), (0, u "com/example/narrow_scan/narrowscan/key/OutOfRange"), (0, .fieldref 1 4), (0, .nameAndType 5 6), (0, u "BELOW"), (0, u "Lcom/example/narrow_scan/narrowscan/key/OutOfRange;"), (0, .fieldref 1 8), (0, .nameAndType 9 6), (0, u "ABOVE"), (2, u "$VALUES"), (0, u "[Lcom/example/narrow_scan/narrowscan/key/OutOfRange;"), (6, .class_ 22), (1, u "java/lang/Enum"), (6, .methodref 30 31), (0, .class_ 32), (0, .nameAndType 33 34), (0, u "java/util/Optional"), (0, u "of"), (0, u "(Ljava/lang/Object;)Ljava/util/Optional;"), (0, .methodref 30 36), (0, .nameAndType 37 38), (0, u "empty"), (0, u "()Ljava/util/Optional;"), (14, u "(JJJ)Ljava/util/Optional;")] 6

def k7c0 : Code := { maxStack := 4, maxLocals := 7, code := prog_14_method_4_code, exceptionTable := #[], attributes := #[] }
def k7m0 : Method := { name := "of", desc := "(JJJ)Ljava/util/Optional;", sig := { parameters := [.long, .long, .long], returnType := some (.object "java/util/Optional") }, accessFlags := 8, code := some k7c0 }
/-- com/example/narrow_scan/narrowscan/key/OutOfRange -/
def k7 : Class := { plain "com/example/narrow_scan/narrowscan/key/OutOfRange" (some 6) with
  accessFlags := 16433
  interfaces := #[]
  cf := some (fileOf pool7 1 #[] #[{ accessFlags := 8, nameIndex := 33, descriptorIndex := 53, attributes := #[] }] 16433 20 #[] #[{ accessFlags := 16409, nameIndex := 5, descriptorIndex := 6, attributes := #[] }, { accessFlags := 16409, nameIndex := 9, descriptorIndex := 6, attributes := #[] }, { accessFlags := 4122, nameIndex := 12, descriptorIndex := 13, attributes := #[] }])
  fields := #[{ name := "BELOW", type := (.object "com/example/narrow_scan/narrowscan/key/OutOfRange"), accessFlags := 16409, slot := 0, constantValue := 0 }, { name := "ABOVE", type := (.object "com/example/narrow_scan/narrowscan/key/OutOfRange"), accessFlags := 16409, slot := 1, constantValue := 0 }, { name := "$VALUES", type := (.array (.object "com/example/narrow_scan/narrowscan/key/OutOfRange")), accessFlags := 4122, slot := 2, constantValue := 0 }]
  methods := #[k7m0]
  instanceTypes := #[(.object "java/lang/String"), .int, .int]
  staticTypes := #[(.object "com/example/narrow_scan/narrowscan/key/OutOfRange"), (.object "com/example/narrow_scan/narrowscan/key/OutOfRange"), (.array (.object "com/example/narrow_scan/narrowscan/key/OutOfRange"))]
  resolved := Array.replicate 60 none
  statics := some 0 }

def pool8 : Array CpInfo := pool [(1, .fieldref 2 3), (0, .class_ 4), (0, .nameAndType 5 6), (0, u "java/util/Optional"), (0, u "EMPTY"), (0, u "Ljava/util/Optional;"), (0, .methodref 8 9), (0, .class_ 10), (0, .nameAndType 11 12), (0, u "java/lang/Object"), (0, u "<init>"), (0, u "()V"), (0, .fieldref 2 14), (0, .nameAndType 15 16), (0, u "value"), (0, u "Ljava/lang/Object;"), (0, .methodref 18 19), (0, .class_ 20), (0, .nameAndType 21 22), (0, u "java/util/Objects"), (0, u "requireNonNull"), (0, u "(Ljava/lang/Object;)Ljava/lang/Object;"), (0, .methodref 2 24), (0, .nameAndType 11 25), (0, u "(Ljava/lang/Object;)V"), (20, u "()Z"), (8, u "empty"), (0, u "()Ljava/util/Optional;"), (8, u "(Ljava/lang/Object;)Ljava/util/Optional;"), (2, u "isPresent"), (4, u "get"), (0, u "()Ljava/lang/Object;"), (7, u "of")] 104

def k8c0 : Code := { maxStack := 1, maxLocals := 1, code := jdk_32_method_1_code, exceptionTable := #[], attributes := #[] }
def k8m0 : Method := { name := "empty", desc := "()Ljava/util/Optional;", sig := { parameters := [], returnType := some (.object "java/util/Optional") }, accessFlags := 9, code := some k8c0 }
def k8c1 : Code := { maxStack := 2, maxLocals := 2, code := jdk_32_method_2_code, exceptionTable := #[], attributes := #[] }
def k8m1 : Method := { name := "<init>", desc := "(Ljava/lang/Object;)V", sig := { parameters := [(.object "java/lang/Object")], returnType := none }, accessFlags := 2, code := some k8c1 }
def k8c2 : Code := { maxStack := 3, maxLocals := 1, code := jdk_32_method_3_code, exceptionTable := #[], attributes := #[] }
def k8m2 : Method := { name := "of", desc := "(Ljava/lang/Object;)Ljava/util/Optional;", sig := { parameters := [(.object "java/lang/Object")], returnType := some (.object "java/util/Optional") }, accessFlags := 9, code := some k8c2 }
def k8c3 : Code := { maxStack := 3, maxLocals := 1, code := jdk_32_method_5_code, exceptionTable := #[], attributes := #[] }
def k8m3 : Method := { name := "get", desc := "()Ljava/lang/Object;", sig := { parameters := [], returnType := some (.object "java/lang/Object") }, accessFlags := 1, code := some k8c3 }
def k8c4 : Code := { maxStack := 1, maxLocals := 1, code := jdk_32_method_6_code, exceptionTable := #[], attributes := #[] }
def k8m4 : Method := { name := "isPresent", desc := "()Z", sig := { parameters := [], returnType := some .boolean }, accessFlags := 1, code := some k8c4 }
/-- java/util/Optional -/
def k8 : Class := { plain "java/util/Optional" (some 0) with
  accessFlags := 49
  interfaces := #[]
  cf := some (fileOf pool8 2 #[] #[{ accessFlags := 9, nameIndex := 55, descriptorIndex := 56, attributes := #[] }, { accessFlags := 2, nameIndex := 11, descriptorIndex := 25, attributes := #[] }, { accessFlags := 9, nameIndex := 82, descriptorIndex := 65, attributes := #[] }, { accessFlags := 1, nameIndex := 73, descriptorIndex := 74, attributes := #[] }, { accessFlags := 1, nameIndex := 68, descriptorIndex := 46, attributes := #[] }] 49 8 #[] #[{ accessFlags := 26, nameIndex := 5, descriptorIndex := 6, attributes := #[] }, { accessFlags := 18, nameIndex := 15, descriptorIndex := 16, attributes := #[] }])
  fields := #[{ name := "EMPTY", type := (.object "java/util/Optional"), accessFlags := 26, slot := 0, constantValue := 0 }, { name := "value", type := (.object "java/lang/Object"), accessFlags := 18, slot := 0, constantValue := 0 }]
  methods := #[k8m0, k8m1, k8m2, k8m3, k8m4]
  instanceTypes := #[(.object "java/lang/Object")]
  staticTypes := #[(.object "java/util/Optional")]
  resolved := Array.replicate 187 none
  statics := some 1 }

def pool9 : Array CpInfo := pool [(2, .class_ 4), (1, u "java/lang/Object"), (0, u "<init>"), (0, u "()V"), (35, .class_ 44), (1, u "java/util/Objects"), (0, u "requireNonNull"), (0, u "(Ljava/lang/Object;)Ljava/lang/Object;")] 137

def k9m0 : Method := { name := "<init>", desc := "()V", sig := { parameters := [], returnType := none }, accessFlags := 2, code := none }
def k9c1 : Code := { maxStack := 2, maxLocals := 1, code := jdk_31_method_10_code, exceptionTable := #[], attributes := #[] }
def k9m1 : Method := { name := "requireNonNull", desc := "(Ljava/lang/Object;)Ljava/lang/Object;", sig := { parameters := [(.object "java/lang/Object")], returnType := some (.object "java/lang/Object") }, accessFlags := 9, code := some k9c1 }
/-- java/util/Objects -/
def k9 : Class := { plain "java/util/Objects" (some 0) with
  accessFlags := 49
  interfaces := #[]
  cf := some (fileOf pool9 42 #[] #[{ accessFlags := 2, nameIndex := 5, descriptorIndex := 6, attributes := #[] }, { accessFlags := 9, nameIndex := 45, descriptorIndex := 46, attributes := #[] }] 49 2 #[] #[])
  fields := #[]
  methods := #[k9m0, k9m1]
  instanceTypes := #[]
  staticTypes := #[]
  resolved := Array.replicate 184 none
  statics := none }

def pool10 : Array CpInfo := pool [(1, u "java/lang/Cloneable"), (0, .class_ 1), (0, u "java/lang/Object"), (0, .class_ 3)] 3

/-- java/lang/Cloneable -/
def k10 : Class := { plain "java/lang/Cloneable" (some 0) with
  accessFlags := 1537
  interfaces := #[]
  cf := some (fileOf pool10 2 #[] #[] 1537 4 #[] #[])
  fields := #[]
  methods := #[]
  instanceTypes := #[]
  staticTypes := #[]
  resolved := Array.replicate 8 none
  statics := none }

/-- the primitive byte -/
def k11 : Class := { plain "byte" none with kind := .primitive 'B', accessFlags := 0x411 }
/-- [B -/
def k12 : Class := { plain "[B" (some 0) with kind := .array 11 .byte, interfaces := #[10, 5], accessFlags := 1041 }

/-- the primitive int -/
def k13 : Class := { plain "int" none with kind := .primitive 'I', accessFlags := 0x411 }
/-- [I -/
def k14 : Class := { plain "[I" (some 0) with kind := .array 13 .int, interfaces := #[10, 5], accessFlags := 1041 }

def heap : Heap := #[{ cls := 7, slots := #[.ref 2, .ref 3, .null], vm := .statics 7 },
  { cls := 8, slots := #[.ref 4], vm := .statics 8 },
  { cls := 7, slots := #[.null, .int 0, .int 0], vm := .none },
  { cls := 7, slots := #[.null, .int 1, .int 0], vm := .none },
  { cls := 8, slots := #[.null], vm := .none }]
def classes : Array Class := #[k0, k1, k2, k3, k4, k5, k6, k7, k8, k9, k10, k11, k12, k13, k14]
def interned : List (Array UInt16 × Addr) := []
def slotsUsed : Nat := 11
def theMethod : MethodId := ⟨1, 1⟩
def args0 : Array Value := #[.long 5, .long 300, .long 7, .int 9]
def aboutOver (below : List Frame) : State where
  vm := { classes := classes, interned := interned.toArray }
  heap := heap
  slotsUsed := slotsUsed
  threads := #[{ frames := .invoking theMethod args0 :: below }]
def below0 : List Frame := [.native { method := ⟨0, 0⟩, args := #[] }]
def about1 : State := aboutOver below0
def p0 : Program := .bare "" "" ""
def e0 : Env := launch0.env 0 0 0
theorem w_frames : about1.frames = Frame.invoking theMethod args0 :: below0 := rfl
set_option maxRecDepth 65536 in
theorem w_args : argsFit about1.vm theMethod args0 = true := by decide +kernel
set_option maxRecDepth 65536 in
theorem w_heap : heapFits about1 = true := by decide +kernel
set_option maxRecDepth 65536 in
theorem w_runnable : about1.curStatus? = some .runnable := by decide +kernel
set_option maxRecDepth 65536 in
theorem w_alone : about1.alone = true := by decide +kernel
set_option maxRecDepth 65536 in
theorem w_named : about1.methodNamed? x = some theMethod := by decide +kernel
set_option maxRecDepth 65536 in
theorem w_hears : about1.hears theMethod below0 = true := by decide +kernel
set_option maxRecDepth 65536 in
theorem w_ripe : about1.ripe theMethod args0 below0 = true := by decide +kernel
theorem w_running : about1.status = .running := rfl
set_option maxRecDepth 65536 in
theorem w_room : about1.hasRoom e0.platform room_1 = true :=
  launch0.hasRoom_least _ room_1 (by decide +kernel) (by decide +kernel) (by decide +kernel) (by decide +kernel) (by decide +kernel) (by decide +kernel)
theorem allAtoms_all (ts : List Jvm.Cond) (a : Array Jvm.Value) (st : Jvm.State) : (allAtoms ts).before a st = ts.all (fun c => c.before a st) := by
  induction ts with
  | nil => rfl
  | cons c t ih =>
    show (Jvm.Cond.and c (allAtoms t)).before a st = _
    rw [Jvm.Cond.before_and, ih, List.all_cons]
def words1 : List Jvm.Cond := Jvm.Cond.code x code maxLocals ret :: tables_1
/-- a 'code' word, met by the world's own term for the bytes: nothing is compared byte by byte -/
theorem code_word {y : MethodName} {bytes : ByteArray} {mx : Nat} {rt : Option FieldType} {a : Array Value} {s : State} {m : MethodId} {meth : Method} {c : Code} (h1 : s.methodNamed? y = some m) (h2 : s.vm.method? m = some meth) (h3 : meth.code = some c) (h4 : c.code = bytes)
    (h5 : (c.maxLocals == mx && c.exceptionTable.isEmpty && decide (c.maxStack ≤ mostOperands) && decide (meth.sig.returnType = rt) && !meth.locks && decide (parseMethodDescriptor y.desc = some meth.sig)) = true) : (Jvm.Cond.code y bytes mx rt).before a s = true := by
  simp only [Bool.and_eq_true, beq_iff_eq, Bool.not_eq_true', decide_eq_true_eq] at h5
  obtain ⟨⟨⟨⟨⟨g1, g2⟩, g3⟩, g4⟩, g5⟩, g6⟩ := h5
  simp [Cond.before, Cond.holds, Cond.value, h1, h2, h3, h4, g1, g2, g3, g4, g5, g6]
def isCode : Jvm.Cond → Bool
  | .code _ _ _ _ => true
  | _ => false
theorem all_split {L : List Jvm.Cond} {P : Jvm.Cond → Bool} (h1 : L.all (fun c => isCode c || P c) = true) (h2 : ∀ c ∈ L.filter isCode, P c = true) : L.all P = true := by
  refine List.all_eq_true.mpr fun c hc => ?_
  have h := List.all_eq_true.mp h1 c hc
  rcases Bool.eq_false_or_eq_true (isCode c) with hi | hi
  · exact h2 c (List.mem_filter.mpr ⟨hc, hi⟩)
  · simpa [hi] using h
set_option maxRecDepth 65536 in
theorem w_c0 : (Jvm.Cond.code x code maxLocals ret).before args0 about1 = true := code_word (m := ⟨1, 1⟩) (meth := k1m1) (c := k1c1) (by decide +kernel) rfl rfl rfl (by decide +kernel)
set_option maxRecDepth 65536 in
theorem w_c1 : (Jvm.Cond.code ({ cls := "java/lang/Math", name := "min", desc := "(JJ)J" } : Jvm.MethodName) jdk_29_method_70_code (4 : Nat) (Option.some Jvm.ClassFile.FieldType.long)).before args0 about1 = true := code_word (m := ⟨2, 2⟩) (meth := k2m2) (c := k2c2) (by decide +kernel) rfl rfl rfl (by decide +kernel)
set_option maxRecDepth 65536 in
theorem w_c2 : (Jvm.Cond.code ({ cls := "java/lang/Math", name := "max", desc := "(JJ)J" } : Jvm.MethodName) jdk_29_method_66_code (4 : Nat) (Option.some Jvm.ClassFile.FieldType.long)).before args0 about1 = true := code_word (m := ⟨2, 1⟩) (meth := k2m1) (c := k2c1) (by decide +kernel) rfl rfl rfl (by decide +kernel)
set_option maxRecDepth 65536 in
theorem w_c3 : (Jvm.Cond.code ({ cls := "com/example/narrow_scan/narrowscan/key/OutOfRange", name := "of", desc := "(JJJ)Ljava/util/Optional;" } : Jvm.MethodName) prog_14_method_4_code (7 : Nat) (Option.some (Jvm.ClassFile.FieldType.object "java/util/Optional"))).before args0 about1 = true := code_word (m := ⟨7, 0⟩) (meth := k7m0) (c := k7c0) (by decide +kernel) rfl rfl rfl (by decide +kernel)
set_option maxRecDepth 65536 in
theorem w_c4 : (Jvm.Cond.code ({ cls := "java/util/Optional", name := "empty", desc := "()Ljava/util/Optional;" } : Jvm.MethodName) jdk_32_method_1_code (1 : Nat) (Option.some (Jvm.ClassFile.FieldType.object "java/util/Optional"))).before args0 about1 = true := code_word (m := ⟨8, 0⟩) (meth := k8m0) (c := k8c0) (by decide +kernel) rfl rfl rfl (by decide +kernel)
set_option maxRecDepth 65536 in
theorem w_c5 : (Jvm.Cond.code ({ cls := "java/util/Optional", name := "isPresent", desc := "()Z" } : Jvm.MethodName) jdk_32_method_6_code (1 : Nat) (Option.some Jvm.ClassFile.FieldType.boolean)).before args0 about1 = true := code_word (m := ⟨8, 4⟩) (meth := k8m4) (c := k8c4) (by decide +kernel) rfl rfl rfl (by decide +kernel)
set_option maxRecDepth 65536 in
theorem w_c6 : (Jvm.Cond.code ({ cls := "java/util/Optional", name := "of", desc := "(Ljava/lang/Object;)Ljava/util/Optional;" } : Jvm.MethodName) jdk_32_method_3_code (1 : Nat) (Option.some (Jvm.ClassFile.FieldType.object "java/util/Optional"))).before args0 about1 = true := code_word (m := ⟨8, 2⟩) (meth := k8m2) (c := k8c2) (by decide +kernel) rfl rfl rfl (by decide +kernel)
set_option maxRecDepth 65536 in
theorem w_c7 : (Jvm.Cond.code ({ cls := "java/util/Objects", name := "requireNonNull", desc := "(Ljava/lang/Object;)Ljava/lang/Object;" } : Jvm.MethodName) jdk_31_method_10_code (1 : Nat) (Option.some (Jvm.ClassFile.FieldType.object "java/lang/Object"))).before args0 about1 = true := code_word (m := ⟨9, 1⟩) (meth := k9m1) (c := k9c1) (by decide +kernel) rfl rfl rfl (by decide +kernel)
set_option maxRecDepth 65536 in
theorem w_c8 : (Jvm.Cond.code ({ cls := "java/util/Optional", name := "<init>", desc := "(Ljava/lang/Object;)V" } : Jvm.MethodName) jdk_32_method_2_code (2 : Nat) (Option.none : Option Jvm.ClassFile.FieldType)).before args0 about1 = true := code_word (m := ⟨8, 1⟩) (meth := k8m1) (c := k8c1) (by decide +kernel) rfl rfl rfl (by decide +kernel)
set_option maxRecDepth 65536 in
theorem w_c9 : (Jvm.Cond.code ({ cls := "java/lang/Object", name := "<init>", desc := "()V" } : Jvm.MethodName) object_method_1_code (1 : Nat) (Option.none : Option Jvm.ClassFile.FieldType)).before args0 about1 = true := code_word (m := ⟨0, 0⟩) (meth := k0m0) (c := k0c0) (by decide +kernel) rfl rfl rfl (by decide +kernel)
set_option maxRecDepth 65536 in
theorem w_c10 : (Jvm.Cond.code ({ cls := "java/util/Optional", name := "get", desc := "()Ljava/lang/Object;" } : Jvm.MethodName) jdk_32_method_5_code (1 : Nat) (Option.some (Jvm.ClassFile.FieldType.object "java/lang/Object"))).before args0 about1 = true := code_word (m := ⟨8, 3⟩) (meth := k8m3) (c := k8c3) (by decide +kernel) rfl rfl rfl (by decide +kernel)
def codes1 : List Jvm.Cond := [Jvm.Cond.code x code maxLocals ret, Jvm.Cond.code ({ cls := "java/lang/Math", name := "min", desc := "(JJ)J" } : Jvm.MethodName) jdk_29_method_70_code (4 : Nat) (Option.some Jvm.ClassFile.FieldType.long), Jvm.Cond.code ({ cls := "java/lang/Math", name := "max", desc := "(JJ)J" } : Jvm.MethodName) jdk_29_method_66_code (4 : Nat) (Option.some Jvm.ClassFile.FieldType.long), Jvm.Cond.code ({ cls := "com/example/narrow_scan/narrowscan/key/OutOfRange", name := "of", desc := "(JJJ)Ljava/util/Optional;" } : Jvm.MethodName) prog_14_method_4_code (7 : Nat) (Option.some (Jvm.ClassFile.FieldType.object "java/util/Optional")), Jvm.Cond.code ({ cls := "java/util/Optional", name := "empty", desc := "()Ljava/util/Optional;" } : Jvm.MethodName) jdk_32_method_1_code (1 : Nat) (Option.some (Jvm.ClassFile.FieldType.object "java/util/Optional")), Jvm.Cond.code ({ cls := "java/util/Optional", name := "isPresent", desc := "()Z" } : Jvm.MethodName) jdk_32_method_6_code (1 : Nat) (Option.some Jvm.ClassFile.FieldType.boolean), Jvm.Cond.code ({ cls := "java/util/Optional", name := "of", desc := "(Ljava/lang/Object;)Ljava/util/Optional;" } : Jvm.MethodName) jdk_32_method_3_code (1 : Nat) (Option.some (Jvm.ClassFile.FieldType.object "java/util/Optional")), Jvm.Cond.code ({ cls := "java/util/Objects", name := "requireNonNull", desc := "(Ljava/lang/Object;)Ljava/lang/Object;" } : Jvm.MethodName) jdk_31_method_10_code (1 : Nat) (Option.some (Jvm.ClassFile.FieldType.object "java/lang/Object")), Jvm.Cond.code ({ cls := "java/util/Optional", name := "<init>", desc := "(Ljava/lang/Object;)V" } : Jvm.MethodName) jdk_32_method_2_code (2 : Nat) (Option.none : Option Jvm.ClassFile.FieldType), Jvm.Cond.code ({ cls := "java/lang/Object", name := "<init>", desc := "()V" } : Jvm.MethodName) object_method_1_code (1 : Nat) (Option.none : Option Jvm.ClassFile.FieldType), Jvm.Cond.code ({ cls := "java/util/Optional", name := "get", desc := "()Ljava/lang/Object;" } : Jvm.MethodName) jdk_32_method_5_code (1 : Nat) (Option.some (Jvm.ClassFile.FieldType.object "java/lang/Object"))]
set_option maxRecDepth 65536 in
theorem codes_eq : words1.filter isCode = codes1 := rfl
theorem w_codes : ∀ c ∈ words1.filter isCode, c.before args0 about1 = true := by
  rw [codes_eq]
  intro c hc
  simp only [codes1, List.mem_cons, List.not_mem_nil, or_false] at hc
  rcases hc with rfl | rfl | rfl | rfl | rfl | rfl | rfl | rfl | rfl | rfl | rfl
  · exact w_c0
  · exact w_c1
  · exact w_c2
  · exact w_c3
  · exact w_c4
  · exact w_c5
  · exact w_c6
  · exact w_c7
  · exact w_c8
  · exact w_c9
  · exact w_c10
set_option maxRecDepth 65536 in
theorem w_t1 : (words1.take 24).all (fun c => isCode c || c.before args0 about1) = true := by decide +kernel
set_option maxRecDepth 65536 in
theorem w_t2 : ((words1.drop 24).take 24).all (fun c => isCode c || c.before args0 about1) = true := by decide +kernel
set_option maxRecDepth 65536 in
theorem w_t3 : ((words1.drop 24).drop 24).all (fun c => isCode c || c.before args0 about1) = true := by decide +kernel
theorem w_tables : (allAtoms (Jvm.Cond.code x code maxLocals ret :: tables_1)).before args0 about1 = true := by
  rw [allAtoms_all]
  show words1.all (fun c => c.before args0 about1) = true
  refine all_split ?_ w_codes
  rw [← List.take_append_drop 24 words1, List.all_append, w_t1, ← List.take_append_drop 24 (words1.drop 24), List.all_append, w_t2, w_t3]
  rfl
set_option maxRecDepth 65536 in
theorem w_rest : rest_1_c.before args0 about1 = true := by decide +kernel
set_option maxRecDepth 65536 in
theorem w_case : (Jvm.Cond.and given_1 narrow_1).before args0 about1 = true := by decide +kernel
theorem w_applies : (headSpec (Jvm.Cond.code x code maxLocals ret :: tables_1) room_1).applies x e0.platform about1 = true :=
  (Spec.applies_iff w_frames).mpr ⟨w_running, w_runnable, w_alone, w_named, w_hears, w_ripe, w_room, w_tables⟩
theorem atStart : AtStart classFile x code maxLocals ret World_1 tables_1 room_1 Calls_1 rest_1 Pre_1 launch0 p0 e0 about1 theMethod args0 below0 :=
  ⟨lists_1, trivial, launch0.admits_env _ _ _, launch0.least_env, fairChoices_fair.cas, fairChoices_fair.clock, w_frames, w_args, w_heap, w_applies, trivial, w_rest, w_case⟩
end start1
theorem witness_1 : WitnessClaimed_1 := ⟨start1.p0, start1.e0, start1.about1, start1.theMethod, start1.args0, start1.below0, start1.atStart⟩
end Jvm.Pilot.@@N@@
