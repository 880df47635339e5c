import JvmDerived
import JvmDerived.Pilot.@@N@@Statement
import JvmDerived.Pilot.@@N@@Code
set_option linter.unusedVariables false
set_option linter.unusedSimpArgs false

namespace Jvm.Pilot.@@N@@
open Jvm Jvm.ClassFile Sem Op Lib Jvm.Free Jvm.Stand Jvm.LawKit Jvm.RoadKit Bundle Jvm.Pilot.@@N@@.Jvm.D
section OwnKit
def Run (tb : Tables) (e : Env) (below : List Frame) (W : Outcome → State → Prop) (T : State) (g : JFrame) : Prop := ∃ s₂ o, Steps tb e below (T.setTop g) s₂ ∧ s₂.status = .running ∧ Ended s₂ below o ∧ W o s₂
abbrev Wd (s : State) (Q : Option Value → Heap → List Loc → Prop) (k n : Nat) : Outcome → State → Prop := fun o U => ∃ v L, o = .returned v ∧ Q v U.heap L ∧ FrameEnd s o U L k n
theorem run_fwd {tb : Tables} {e : Env} {below : List Frame} {W : Outcome → State → Prop} {T T' : State} {g g' : JFrame} (st : ∀ t, Steps tb e below (T'.setTop g') t → Steps tb e below (T.setTop g) t) (h : Run tb e below W T' g') : Run tb e below W T g := by
  obtain ⟨t, o, h1, h2⟩ := h
  exact ⟨t, o, st t h1, h2⟩
variable {p : Program} {l : Launch} {e : Env} {R : Room} {s : State} {m : MethodId} {args : Array Value} {below : List Frame} {meth : Method} {c : Code} {T : State} {locs : List Loc} {cells slots : Nat}
theorem run_ret (X : Stand p l e R s m args below meth c T locs cells slots) (hx : p.tables.exec = Jvm.exec) {pc : Nat} {Ls : Array Slot} {w : Value} {t : FieldType} {i : Instr} {rest : List Value} {Q : Option Value → Heap → List Loc → Prop} {k n : Nat} (hret : meth.sig.returnType = some t) (hlk : meth.locks = false) (hn : narrow t w = w)
    (hi : (i = .ireturn ∧ (t = .int ∨ t = .boolean ∨ t = .byte ∨ t = .char ∨ t = .short) ∧ ∃ z, w = .int z) ∨ (i = .lreturn ∧ t = .long ∧ ∃ z, w = .long z) ∨ (i = .dreturn ∧ t = .double ∧ ∃ z, w = .double z) ∨ (i = .freturn ∧ t = .float ∧ ∃ z, w = .float z) ∨ (i = .areturn ∧ t.isReference = true ∧ w.isRef = true))
    (hd : decode c.code pc = .ok (i, 1)) (hQ : Q (some w) T.heap locs) (hk : cells ≤ k) (hs : slots ≤ n) : Run p.tables e below (Wd s Q k n) T (mkF m pc Ls (w :: rest)) := by
  obtain ⟨fs, hr, hrun, hended, hW, hsame⟩ := X.leave (v := some w) (fun h => by rw [hret] at h; cases h) hlk
  exact ⟨_, _, retOut X hx hret hn hi hd hr, hrun, hended, _, _, rfl, hQ, ⟨_, rfl⟩, hW, hsame.mono hk hs⟩
theorem run_retN (X : Stand p l e R s m args below meth c T locs cells slots) (hx : p.tables.exec = Jvm.exec) {pc : Nat} {Ls : Array Slot} {z : Int32} {t : FieldType} {rest : List Value} {Q : Option Value → Heap → List Loc → Prop} {k n : Nat} (hret : meth.sig.returnType = some t) (hlk : meth.locks = false) (ht : t = .boolean ∨ t = .byte ∨ t = .char ∨ t = .short)
    (hd : decode c.code pc = .ok (.ireturn, 1)) (hQ : Q (some (.int (nar t z))) T.heap locs) (hk : cells ≤ k) (hs : slots ≤ n) : Run p.tables e below (Wd s Q k n) T (mkF m pc Ls (.int z :: rest)) := by
  obtain ⟨fs, hr, hrun, hended, hW, hsame⟩ := X.leave (v := some (.int (nar t z))) (fun h => by rw [hret] at h; cases h) hlk
  exact ⟨_, _, retN X hx hret ht hd hr, hrun, hended, _, _, rfl, hQ, ⟨_, rfl⟩, hW, hsame.mono hk hs⟩
theorem run_ret0 (X : Stand p l e R s m args below meth c T locs cells slots) (hx : p.tables.exec = Jvm.exec) {pc : Nat} {Ls : Array Slot} {Q : Option Value → Heap → List Loc → Prop} {k n : Nat} (hret : meth.sig.returnType = none) (hlk : meth.locks = false)
    (hd : decode c.code pc = .ok (.return_, 1)) (hQ : Q none T.heap locs) (hk : cells ≤ k) (hs : slots ≤ n) : Run p.tables e below (Wd s Q k n) T (mkF m pc Ls []) := by
  obtain ⟨fs, hr, hrun, hended, hW, hsame⟩ := X.leave (v := none) (fun _ => rfl) hlk
  exact ⟨_, _, X.returnOut hx hret hd hr, hrun, hended, _, _, rfl, hQ, ⟨_, rfl⟩, hW, hsame.mono hk hs⟩
abbrev WdW (s : State) (Q : Option Value → Heap → List Loc → Prop) (k n : Nat) : Outcome → State → Prop := fun o U => ∃ v L, o = .returned v ∧ Q v U.heap L ∧ ReturnedEndW s o U L k n
theorem run_retW {vm1 : Vm} {n1 : Nat} (X : Stand p l e R (s.setVm vm1) m args below meth c T locs cells slots) (hx : p.tables.exec = Jvm.exec) (hS : s.Since vm1 n1) (hn1 : n1 ≤ T.heap.size) {pc : Nat} {Ls : Array Slot} {w : Value} {t : FieldType} {i : Instr} {rest : List Value} {Q : Option Value → Heap → List Loc → Prop} {k n : Nat} (hret : meth.sig.returnType = some t) (hlk : meth.locks = false) (hn : narrow t w = w)
    (hi : (i = .ireturn ∧ (t = .int ∨ t = .boolean ∨ t = .byte ∨ t = .char ∨ t = .short) ∧ ∃ z, w = .int z) ∨ (i = .lreturn ∧ t = .long ∧ ∃ z, w = .long z) ∨ (i = .dreturn ∧ t = .double ∧ ∃ z, w = .double z) ∨ (i = .freturn ∧ t = .float ∧ ∃ z, w = .float z) ∨ (i = .areturn ∧ t.isReference = true ∧ w.isRef = true))
    (hd : decode c.code pc = .ok (i, 1)) (hQ : Q (some w) T.heap locs) (hk : cells ≤ k) (hs : slots ≤ n) : Run p.tables e below (WdW s Q k n) T (mkF m pc Ls (w :: rest)) := by
  obtain ⟨fs, hr, hrun, hended, hE⟩ := X.leaveW hS hn1 (v := some w) (fun h => by rw [hret] at h; cases h) hlk
  exact ⟨_, _, retOut X hx hret hn hi hd hr, hrun, hended, _, _, rfl, hQ, hE.1, hE.2.1, hE.2.2.1, hE.2.2.2.mono hk hs⟩
theorem own_le {Z : State} {n0 : Nat} {h : Heap} (O : Old Z n0 h) : n0 ≤ h.size := O.1 ▸ O.2.1
end OwnKit
theorem own_eqint {args : Array Value} {s : State} {t : Term} {k : Int32} (h : (Jvm.Cond.eq t (Term.int k)).value args s none s [] = some true) : t.eval args s none [] s = some (.int k) := by
  simp only [Cond.value, Term.eval] at h
  cases ht : t.eval args s none [] s with
  | none => simp [ht] at h
  | some x => cases x <;> simp [ht] at h ⊢ <;> exact h
theorem own_sta {args : Array Value} {s : State} {C f d K : String} (hx : (Jvm.Cond.exactly (Term.static C f d) K).value args s none s [] = some true) (hi : (Cond.initializedFor C f d).before args s = true ∨ ((Cond.initialized C).before args s = true ∧ (Cond.laysStatic C f d).before args s = true)) : ∃ a, (Term.static C f d).eval args s none [] s = some (.ref a) ∧ Sta s s.heap C f d (.ref a) ∧ Exa s s.heap a K := by
  obtain ⟨a, ha⟩ := exa_v hx
  exact ⟨a, ha, Sta.start ha hi, Exa.start ha hx⟩
theorem own_fld {args : Array Value} {s : State} {t : Term} {C n dd : String} {a : Addr} {k : Int32} (ha : t.eval args s none [] s = some (.ref a)) (hf : (Jvm.Cond.eq (Term.field t C n dd) (Term.int k)).value args s none s [] = some true) : Fld s s.heap a C n dd (.int k) :=
  Fld.start (by have q := own_eqint hf; rw [fld_at ha] at q; exact q)
theorem d2_0 : decode prog_20_method_1_code 0 = .ok (.aload_n 0, 1) := by decide +kernel
theorem d2_1 : decode prog_20_method_1_code 1 = .ok (.invokespecial 1, 3) := by decide +kernel
theorem d2_4 : decode prog_20_method_1_code 4 = .ok (.aload_n 0, 1) := by decide +kernel
theorem d2_5 : decode prog_20_method_1_code 5 = .ok (.aload_n 1, 1) := by decide +kernel
theorem d2_6 : decode prog_20_method_1_code 6 = .ok (.putfield 7, 3) := by decide +kernel
theorem d2_9 : decode prog_20_method_1_code 9 = .ok (.aload_n 0, 1) := by decide +kernel
theorem d2_10 : decode prog_20_method_1_code 10 = .ok (.lload_n 2, 1) := by decide +kernel
theorem d2_11 : decode prog_20_method_1_code 11 = .ok (.putfield 13, 3) := by decide +kernel
theorem d2_14 : decode prog_20_method_1_code 14 = .ok (.return_, 1) := by decide +kernel
theorem pn_com_example_horatius_horatius_WriteOutcome : plainName "com/example/horatius/horatius/WriteOutcome" = true := by first | (simp [plainName, overriddenIn]; done) | decide +kernel
theorem ef_rm2 (m : MethodId) (x0 : Addr) (x1 : Addr) (x2 : Int64) : entryFrame m #[(.ref x0), (.ref x1), (.long x2)] 4 = mkF m 0 #[.val (.ref x0), .val (.ref x1), .val (.long x2), .second] [] := by first | (simp [entryFrame, mkF, argsToLocals, Value.category]; done) | rfl
def Qrm2 (Z : State) (a0 : Addr) (a1 : Addr) (q2 : Int64) (h0 : Heap) (n0 : Nat) (v : Option Value) (h : Heap) (L : List Loc) : Prop := v = none ∧ Fr n0 L ∧ Keep h0 h [a0] ∧ Exa Z h a0 "com/example/horatius/horatius/WriteOutcome" ∧ Fld Z h a0 "com/example/horatius/horatius/WriteOutcome" "admission" "Lcom/example/horatius/horatius/Admission;" (.ref a1) ∧ Fld Z h a0 "com/example/horatius/horatius/WriteOutcome" "updateCount" "J" (.long q2)
set_option maxRecDepth 65536 in
set_option maxHeartbeats 40000000 in
theorem rm2 (l : Launch) (Z : State) (aV : Array Value) (hw : ∀ d ∈ tables_1, d.before aV Z = true) (ws : List Jvm.Cond) (a0 : Addr) (a1 : Addr) (q2 : Int64) (h0 : Heap) (n0 : Nat) (O0 : Old Z n0 h0) (gi0 : n0 ≤ a0) (Ei1 : Exa Z h0 a0 "com/example/horatius/horatius/WriteOutcome") (Fi2 : Fld Z h0 a0 "com/example/horatius/horatius/WriteOutcome" "admission" "Lcom/example/horatius/horatius/Admission;" .null) (Fi3 : Fld Z h0 a0 "com/example/horatius/horatius/WriteOutcome" "updateCount" "J" (.long (0 : Int64))) :
    MetFree l (⟨"com/example/horatius/horatius/WriteOutcome", "<init>", "(Lcom/example/horatius/horatius/Admission;J)V"⟩ : MethodName) (head1 (Jvm.Cond.code (⟨"com/example/horatius/horatius/WriteOutcome", "<init>", "(Lcom/example/horatius/horatius/Admission;J)V"⟩ : MethodName) prog_20_method_1_code 4 none :: ws) ({ frames := 1, cells := 0, slots := 0, locals := 12 } : Room)) (fun a U => a = #[(.ref a0), (.ref a1), (.long q2)] ∧ Z.Warmed39 U.vm ∧ U.heap = h0) (fun _ _ _ _ _ => True) (fun _ U o U' => ∃ v L, o = .returned v ∧ Qrm2 Z a0 a1 q2 h0 n0 v U'.heap L ∧ FrameEnd U o U' L ({ frames := 1, cells := 0, slots := 0, locals := 12 } : Room).cells ({ frames := 1, cells := 0, slots := 0, locals := 12 } : Room).slots) := by
  refine MetFree.of_bodySF (plainFor_of_name pn_com_example_horatius_horatius_WriteOutcome) hisR ?_
  intro p e s m args below meth c s₁ Bd hml0 hP hK
  obtain ⟨rfl, hZ, hh⟩ := hP
  have hx := Bd.exec
  have hby := Bd.bytes
  have hml : c.maxLocals = 4 := hml0
  have hown : s.vm.findClass "com/example/horatius/horatius/WriteOutcome" = some m.cls := findClass_of_methodNamed Bd.named
  have hnm := (name_of_methodNamed Bd.named Bd.method).1
  have X0 : Stand p l e ({ frames := 1, cells := 0, slots := 0, locals := 12 } : Room) s m #[(.ref a0), (.ref a1), (.long q2)] below meth c s₁ [] 0 0 := Stand.of_body Bd
  have e0 : s₁.heap = h0 := by rw [← hh, Bd.state]; rfl
  have N0 := Fr.nil n0
  show Run p.tables e below (Wd s (Qrm2 Z a0 a1 q2 h0 n0) ({ frames := 1, cells := 0, slots := 0, locals := 12 } : Room).cells ({ frames := 1, cells := 0, slots := 0, locals := 12 } : Room).slots) s₁ (entryFrame m #[(.ref a0), (.ref a1), (.long q2)] 4)
  rw [ef_rm2 m a0 a1 q2]
  refine run_fwd (T' := s₁) (g' := (mkF m 1 #[.val (.ref a0), .val (.ref a1), .val (.long q2), .second] [(.ref a0)])) (fun _ k => XS.aloadN X0.here hx rfl (hb hby d2_0) rfl rfl k) ?_
  obtain ⟨T1, X1, e1, st1⟩ := initO X0 hx hZ hown (hw _ (List.mem_of_getElem? (i := 12) rfl)) (hw _ (List.mem_of_getElem? (i := 13) rfl)) (hw _ (List.mem_of_getElem? (i := 14) rfl)) e0 (g := (mkF m 1 #[.val (.ref a0), .val (.ref a1), .val (.long q2), .second] [(.ref a0)])) rfl (by rw [hml]; rfl) rfl (hb hby d2_1) (by decide) (W := 0) (by show 2 * 0 + _ ≤ _; exact Nat.le_of_eq rfl) (by decide)
  refine run_fwd (T' := T1) (g' := (mkF m 4 #[.val (.ref a0), .val (.ref a1), .val (.long q2), .second] [])) (fun _ k => st1 _ k) ?_
  refine run_fwd (T' := T1) (g' := (mkF m 5 #[.val (.ref a0), .val (.ref a1), .val (.long q2), .second] [(.ref a0)])) (fun _ k => XS.aloadN X1.here hx rfl (hb hby d2_4) rfl rfl k) ?_
  refine run_fwd (T' := T1) (g' := (mkF m 6 #[.val (.ref a0), .val (.ref a1), .val (.long q2), .second] [(.ref a1), (.ref a0)])) (fun _ k => XS.aloadN X1.here hx rfl (hb hby d2_5) rfl rfl k) ?_
  obtain ⟨T2, h2, X2, e2, W2, st2⟩ := putF X1 hx hZ hown (host := "") (Or.inl (hw _ (List.mem_of_getElem? (i := 15) rfl))) Via.refl e1 Fi2 Ei1 (Or.inr ⟨(hw _ (List.mem_of_getElem? (i := 16) rfl)), rfl, hnm⟩) (hw _ (List.mem_of_getElem? (i := 5) rfl)) (ty := (.object "com/example/horatius/horatius/Admission")) (by decide) rfl rfl (g := (mkF m 6 #[.val (.ref a0), .val (.ref a1), .val (.long q2), .second] [(.ref a1), (.ref a0)])) rfl rfl (hb hby d2_6)
  have O3 : Old Z n0 h2 := O0.wr W2 gi0
  have K4 : Keep h0 h2 [a0] := (Keep.refl h0 [a0]).wr W2 (Or.inl (List.mem_of_getElem? (i := 0) rfl))
  have N2 := Fr.snoc X2 N0 gi0
  have Fw2 : Fld Z h2 a0 "com/example/horatius/horatius/WriteOutcome" "admission" "Lcom/example/horatius/horatius/Admission;" (.ref a1) := Fi2.same W2
  refine run_fwd (T' := T2) (g' := (mkF m 9 #[.val (.ref a0), .val (.ref a1), .val (.long q2), .second] [])) (fun _ k => st2 _ k) ?_
  refine run_fwd (T' := T2) (g' := (mkF m 10 #[.val (.ref a0), .val (.ref a1), .val (.long q2), .second] [(.ref a0)])) (fun _ k => XS.aloadN X2.here hx rfl (hb hby d2_9) rfl rfl k) ?_
  refine run_fwd (T' := T2) (g' := (mkF m 11 #[.val (.ref a0), .val (.ref a1), .val (.long q2), .second] [(.long q2), (.ref a0)])) (fun _ k => XS.lloadN X2.here hx rfl (hb hby d2_10) rfl k) ?_
  have f5 : Exa Z h2 a0 "com/example/horatius/horatius/WriteOutcome" := (Ei1.wr W2)
  have f6 : Fld Z h2 a0 "com/example/horatius/horatius/WriteOutcome" "updateCount" "J" (.long (0 : Int64)) := (Fi3.other W2 (Or.inr (slot_ne (Or.inr (hw _ (List.mem_of_getElem? (i := 18) rfl))) (Or.inr (hw _ (List.mem_of_getElem? (i := 16) rfl))) (by decide) (t := .long) (t' := (.object "com/example/horatius/horatius/Admission")) (by decide) (by decide))))
  obtain ⟨T7, h7, X7, e7, W7, st7⟩ := putF X2 hx hZ hown (host := "") (Or.inl (hw _ (List.mem_of_getElem? (i := 17) rfl))) Via.refl e2 f6 f5 (Or.inr ⟨(hw _ (List.mem_of_getElem? (i := 18) rfl)), rfl, hnm⟩) (hw _ (List.mem_of_getElem? (i := 5) rfl)) (ty := .long) (by decide) rfl rfl (g := (mkF m 11 #[.val (.ref a0), .val (.ref a1), .val (.long q2), .second] [(.long q2), (.ref a0)])) rfl rfl (hb hby d2_11)
  have O8 : Old Z n0 h7 := O3.wr W7 gi0
  have K9 : Keep h0 h7 [a0] := K4.wr W7 (Or.inl (List.mem_of_getElem? (i := 0) rfl))
  have N7 := Fr.snoc X7 N2 gi0
  have Fw7 : Fld Z h7 a0 "com/example/horatius/horatius/WriteOutcome" "updateCount" "J" (.long q2) := f6.same W7
  refine run_fwd (T' := T7) (g' := (mkF m 14 #[.val (.ref a0), .val (.ref a1), .val (.long q2), .second] [])) (fun _ k => st7 _ k) ?_
  exact run_ret0 X7 hx Bd.returns Bd.notSynchronized (hb hby d2_14) (by rw [e7]; exact ⟨rfl, N7, K9, (f5.wr W7), (Fw2.other W7 (Or.inr (slot_ne (Or.inr (hw _ (List.mem_of_getElem? (i := 16) rfl))) (Or.inr (hw _ (List.mem_of_getElem? (i := 18) rfl))) (by decide) (t := (.object "com/example/horatius/horatius/Admission")) (t' := .long) (by decide) (by decide)))), Fw7⟩) (by decide) (by decide)
theorem d1_0 : decode prog_20_method_2_code 0 = .ok (.new 8, 3) := by decide +kernel
theorem d1_3 : decode prog_20_method_2_code 3 = .ok (.dup, 1) := by decide +kernel
theorem d1_4 : decode prog_20_method_2_code 4 = .ok (.getstatic 17, 3) := by decide +kernel
theorem d1_7 : decode prog_20_method_2_code 7 = .ok (.lload_n 0, 1) := by decide +kernel
theorem d1_8 : decode prog_20_method_2_code 8 = .ok (.invokespecial 22, 3) := by decide +kernel
theorem pd__28Lcom_2fexample_2fhoratius_2fhoratius_2fAdmission_3bJ_29V : parseMethodDescriptor "(Lcom/example/horatius/horatius/Admission;J)V" = some ⟨[(.object "com/example/horatius/horatius/Admission"), .long], none⟩ := by decide +kernel
theorem d1_11 : decode prog_20_method_2_code 11 = .ok (.areturn, 1) := by decide +kernel
theorem ef_rm1 (m : MethodId) (x0 : Int64) : entryFrame m #[(.long x0)] 2 = mkF m 0 #[.val (.long x0), .second] [] := by first | (simp [entryFrame, mkF, argsToLocals, Value.category]; done) | rfl
def Qrm1 (Z : State) (q0 : Int64) (u : Addr) (h0 : Heap) (n0 : Nat) (v : Option Value) (h : Heap) (L : List Loc) : Prop := ∃ (b : Addr), v = some (.ref b) ∧ Fr n0 L ∧ Keep h0 h [] ∧ h0.size ≤ b ∧ Exa Z h b "com/example/horatius/horatius/WriteOutcome" ∧ Fld Z h b "com/example/horatius/horatius/WriteOutcome" "admission" "Lcom/example/horatius/horatius/Admission;" (.ref u) ∧ Fld Z h b "com/example/horatius/horatius/WriteOutcome" "updateCount" "J" (.long q0)
set_option maxRecDepth 65536 in
set_option maxHeartbeats 40000000 in
theorem rm1 (l : Launch) (Z : State) (aV : Array Value) (hw : ∀ d ∈ tables_1, d.before aV Z = true) (ws : List Jvm.Cond) (q0 : Int64) (u : Addr) (h0 : Heap) (n0 : Nat) (O0 : Old Z n0 h0) (Si0 : Sta Z Z.heap "com/example/horatius/horatius/Admission" "ACCEPTED" "Lcom/example/horatius/horatius/Admission;" (.ref u)) :
    MetFree l (⟨"com/example/horatius/horatius/WriteOutcome", "accepted", "(J)Lcom/example/horatius/horatius/WriteOutcome;"⟩ : MethodName) (head1 (Jvm.Cond.code (⟨"com/example/horatius/horatius/WriteOutcome", "accepted", "(J)Lcom/example/horatius/horatius/WriteOutcome;"⟩ : MethodName) prog_20_method_2_code 2 (some (.object "com/example/horatius/horatius/WriteOutcome")) :: ws) ({ frames := 2, cells := 1, slots := 2, locals := 28 } : Room)) (fun a U => a = #[(.long q0)] ∧ Z.Warmed39 U.vm ∧ U.heap = h0) (fun _ _ _ _ _ => True) (fun _ U o U' => ∃ v L, o = .returned v ∧ Qrm1 Z q0 u h0 n0 v U'.heap L ∧ FrameEnd U o U' L ({ frames := 2, cells := 1, slots := 2, locals := 28 } : Room).cells ({ frames := 2, cells := 1, slots := 2, locals := 28 } : Room).slots) := by
  refine MetFree.of_bodySF (plainFor_of_name pn_com_example_horatius_horatius_WriteOutcome) hisR ?_
  intro p e s m args below meth c s₁ Bd hml0 hP hK
  obtain ⟨rfl, hZ, hh⟩ := hP
  have hx := Bd.exec
  have hby := Bd.bytes
  have hml : c.maxLocals = 2 := hml0
  have hown : s.vm.findClass "com/example/horatius/horatius/WriteOutcome" = some m.cls := findClass_of_methodNamed Bd.named
  have hnm := (name_of_methodNamed Bd.named Bd.method).1
  have X0 : Stand p l e ({ frames := 2, cells := 1, slots := 2, locals := 28 } : Room) s m #[(.long q0)] below meth c s₁ [] 0 0 := Stand.of_body Bd
  have e0 : s₁.heap = h0 := by rw [← hh, Bd.state]; rfl
  have N0 := Fr.nil n0
  show Run p.tables e below (Wd s (Qrm1 Z q0 u h0 n0) ({ frames := 2, cells := 1, slots := 2, locals := 28 } : Room).cells ({ frames := 2, cells := 1, slots := 2, locals := 28 } : Room).slots) s₁ (entryFrame m #[(.long q0)] 2)
  rw [ef_rm1 m q0]
  obtain ⟨T1, h1, X1, e1, E1, A1, D1, U1, st1⟩ := newO X0 hx hZ hown (hw _ (List.mem_of_getElem? (i := 4) rfl)) (hw _ (List.mem_of_getElem? (i := 5) rfl)) (hw _ (List.mem_of_getElem? (i := 2) rfl)) e0 (g := (mkF m 0 #[.val (.long q0), .second] [])) rfl (hb hby d1_0) (by decide) (by decide)
  obtain ⟨b1, g1⟩ : ∃ z, z = h0.size := ⟨_, rfl⟩
  rw [← g1] at A1 D1 U1 st1
  have gg1 : n0 ≤ b1 := Nat.le_trans (own_le O0) (Nat.le_of_eq g1.symm)
  have sz1 : h0.size ≤ b1 := Nat.le_trans (Keep.refl h0 []).1 (Nat.le_of_eq g1.symm)
  have O2 : Old Z n0 h1 := O0.ext E1
  have K3 : Keep h0 h1 [] := (Keep.refl h0 []).ext E1
  have D1_admission : Fld Z h1 b1 "com/example/horatius/horatius/WriteOutcome" "admission" "Lcom/example/horatius/horatius/Admission;" .null := D1 (Or.inr (hw _ (List.mem_of_getElem? (i := 16) rfl))) (ty := (.object "com/example/horatius/horatius/Admission")) (by decide)
  have D1_updateCount : Fld Z h1 b1 "com/example/horatius/horatius/WriteOutcome" "updateCount" "J" (.long (0 : Int64)) := D1 (Or.inr (hw _ (List.mem_of_getElem? (i := 18) rfl))) (ty := .long) (by decide)
  refine run_fwd (T' := T1) (g' := (mkF m 3 #[.val (.long q0), .second] [(.ref b1)])) (fun _ k => st1 _ k) ?_
  refine run_fwd (T' := T1) (g' := (mkF m 4 #[.val (.long q0), .second] [(.ref b1), (.ref b1)])) (fun _ k => XS.dup X1.here hx rfl (hb hby d1_3) rfl rfl k) ?_
  obtain ⟨T4, X4, e4, st4⟩ := getS2 X1 hx hZ hown (host := "") (Or.inl (hw _ (List.mem_of_getElem? (i := 6) rfl))) Via.refl e1 (Si0.ext O2.2) (g := (mkF m 4 #[.val (.long q0), .second] [(.ref b1), (.ref b1)])) rfl (hb hby d1_4)
  refine run_fwd (T' := T4) (g' := (mkF m 7 #[.val (.long q0), .second] [(.ref u), (.ref b1), (.ref b1)])) (fun _ k => st4 _ k) ?_
  refine run_fwd (T' := T4) (g' := (mkF m 8 #[.val (.long q0), .second] [(.long q0), (.ref u), (.ref b1), (.ref b1)])) (fun _ k => XS.lloadN X4.here hx rfl (hb hby d1_7) rfl k) ?_
  obtain ⟨_, _, ⟨T5, L5, kk5, nn5⟩, -, X5, ⟨Lc5, hQ5, l5, y5, z5⟩, st5⟩ := X4.specialBack hx (y := (⟨"com/example/horatius/horatius/WriteOutcome", "<init>", "(Lcom/example/horatius/horatius/Admission;J)V"⟩ : MethodName)) rfl hown (mvT hZ (hw _ (List.mem_of_getElem? (i := 9) rfl))) (mvT hZ (hw _ (List.mem_of_getElem? (i := 10) rfl))) (mvT hZ (hw _ (List.mem_of_getElem? (i := 11) rfl))) (by decide) (backOf (W := 1) (rm2 l Z aV hw [] b1 u q0 h1 n0 O2 gg1 A1 D1_admission D1_updateCount) hZ (hw _ (List.mem_of_getElem? (i := 11) rfl)) (hw _ (List.mem_of_getElem? (i := 2) rfl)) (by decide) (by decide)) (g := (mkF m 8 #[.val (.long q0), .second] [(.long q0), (.ref u), (.ref b1), (.ref b1)])) rfl (by rw [hml]; rfl) (Steps.refl _) (a := b1) (argsL := [(.ref u), (.long q0)]) (rest := [(.ref b1)]) (lenOf pd__28Lcom_2fexample_2fhoratius_2fhoratius_2fAdmission_3bJ_29V rfl) rfl (by show 2 * 0 + _ ≤ _; exact Nat.le_of_eq rfl) (hb hby d1_8) (fun _ _ => ⟨rfl, e4, (by decide : 1 + 0 ≤ _), (by decide : 2 + 0 ≤ _)⟩)
  dsimp only [Pt.U, Pt.locs, Pt.cells, Pt.slots] at X5 l5 y5 z5 st5 hQ5
  subst l5 y5 z5
  obtain ⟨rfl, N5q, Q5_0, Q5_1, Q5_2, Q5_3⟩ := hQ5
  have N5 := Fr.app N0 N5q
  obtain ⟨h5, e5⟩ : ∃ z, T5.heap = z := ⟨_, rfl⟩
  rw [e5] at Q5_0 Q5_1 Q5_2 Q5_3
  have O6 : Old Z n0 h5 := O2.keep Q5_0 (allS gg1 all0)
  have K7 : Keep h0 h5 [] := K3.trans Q5_0 (allS (Or.inr sz1) all0)
  refine run_fwd (T' := T5) (g' := (mkF m 11 #[.val (.long q0), .second] [(.ref b1)])) (fun _ k => st5.trans k) ?_
  exact run_ret X5 hx Bd.returns Bd.notSynchronized rfl (Or.inr (Or.inr (Or.inr (Or.inr ⟨rfl, rfl, rfl⟩)))) (hb hby d1_11) (by rw [e5]; exact ⟨b1, rfl, N5, K7, sz1, Q5_1, Q5_2, Q5_3⟩) (by decide) (by decide)
theorem d4_0 : decode prog_20_method_3_code 0 = .ok (.aload_n 0, 1) := by decide +kernel
theorem d4_1 : decode prog_20_method_3_code 1 = .ok (.getfield 7, 3) := by decide +kernel
theorem d4_4 : decode prog_20_method_3_code 4 = .ok (.areturn, 1) := by decide +kernel
theorem ef_rm4 (m : MethodId) (x0 : Addr) : entryFrame m #[(.ref x0)] 1 = mkF m 0 #[.val (.ref x0)] [] := by first | (simp [entryFrame, mkF, argsToLocals, Value.category]; done) | rfl
def Qrm4 (Z : State) (a0 : Addr) (w : Addr) (h0 : Heap) (n0 : Nat) (v : Option Value) (h : Heap) (L : List Loc) : Prop := v = some (.ref w) ∧ Fr n0 L ∧ h = h0
set_option maxRecDepth 65536 in
set_option maxHeartbeats 40000000 in
theorem rm4 (l : Launch) (Z : State) (aV : Array Value) (hw : ∀ d ∈ tables_1, d.before aV Z = true) (ws : List Jvm.Cond) (a0 : Addr) (w : Addr) (h0 : Heap) (n0 : Nat) (O0 : Old Z n0 h0) (Fi0 : Fld Z h0 a0 "com/example/horatius/horatius/WriteOutcome" "admission" "Lcom/example/horatius/horatius/Admission;" (.ref w)) :
    MetFree l (⟨"com/example/horatius/horatius/WriteOutcome", "admission", "()Lcom/example/horatius/horatius/Admission;"⟩ : MethodName) (head1 (Jvm.Cond.code (⟨"com/example/horatius/horatius/WriteOutcome", "admission", "()Lcom/example/horatius/horatius/Admission;"⟩ : MethodName) prog_20_method_3_code 1 (some (.object "com/example/horatius/horatius/Admission")) :: ws) ({ frames := 0, cells := 0, slots := 0, locals := 0 } : Room)) (fun a U => a = #[(.ref a0)] ∧ Z.Warmed39 U.vm ∧ U.heap = h0) (fun _ _ _ _ _ => True) (fun _ U o U' => ∃ v L, o = .returned v ∧ Qrm4 Z a0 w h0 n0 v U'.heap L ∧ FrameEnd U o U' L ({ frames := 0, cells := 0, slots := 0, locals := 0 } : Room).cells ({ frames := 0, cells := 0, slots := 0, locals := 0 } : Room).slots) := by
  refine MetFree.of_bodySF (plainFor_of_name pn_com_example_horatius_horatius_WriteOutcome) hisR ?_
  intro p e s m args below meth c s₁ Bd hml0 hP hK
  obtain ⟨rfl, hZ, hh⟩ := hP
  have hx := Bd.exec
  have hby := Bd.bytes
  have hml : c.maxLocals = 1 := hml0
  have hown : s.vm.findClass "com/example/horatius/horatius/WriteOutcome" = some m.cls := findClass_of_methodNamed Bd.named
  have hnm := (name_of_methodNamed Bd.named Bd.method).1
  have X0 : Stand p l e ({ frames := 0, cells := 0, slots := 0, locals := 0 } : Room) s m #[(.ref a0)] below meth c s₁ [] 0 0 := Stand.of_body Bd
  have e0 : s₁.heap = h0 := by rw [← hh, Bd.state]; rfl
  have N0 := Fr.nil n0
  show Run p.tables e below (Wd s (Qrm4 Z a0 w h0 n0) ({ frames := 0, cells := 0, slots := 0, locals := 0 } : Room).cells ({ frames := 0, cells := 0, slots := 0, locals := 0 } : Room).slots) s₁ (entryFrame m #[(.ref a0)] 1)
  rw [ef_rm4 m a0]
  refine run_fwd (T' := s₁) (g' := (mkF m 1 #[.val (.ref a0)] [(.ref a0)])) (fun _ k => XS.aloadN X0.here hx rfl (hb hby d4_0) rfl rfl k) ?_
  obtain ⟨T1, X1, e1, st1⟩ := getF X0 hx hZ hown (host := "") (Or.inl (hw _ (List.mem_of_getElem? (i := 15) rfl))) Via.refl e0 Fi0 (g := (mkF m 1 #[.val (.ref a0)] [(.ref a0)])) rfl rfl (hb hby d4_1)
  refine run_fwd (T' := T1) (g' := (mkF m 4 #[.val (.ref a0)] [(.ref w)])) (fun _ k => st1 _ k) ?_
  exact run_ret X1 hx Bd.returns Bd.notSynchronized rfl (Or.inr (Or.inr (Or.inr (Or.inr ⟨rfl, rfl, rfl⟩)))) (hb hby d4_4) (by rw [e1]; exact ⟨rfl, N0, rfl⟩) (by decide) (by decide)
theorem d5_0 : decode prog_20_method_4_code 0 = .ok (.aload_n 0, 1) := by decide +kernel
theorem d5_1 : decode prog_20_method_4_code 1 = .ok (.getfield 13, 3) := by decide +kernel
theorem d5_4 : decode prog_20_method_4_code 4 = .ok (.lreturn, 1) := by decide +kernel
theorem ef_rm5 (m : MethodId) (x0 : Addr) : entryFrame m #[(.ref x0)] 1 = mkF m 0 #[.val (.ref x0)] [] := by first | (simp [entryFrame, mkF, argsToLocals, Value.category]; done) | rfl
def Qrm5 (Z : State) (a0 : Addr) (w : Int64) (h0 : Heap) (n0 : Nat) (v : Option Value) (h : Heap) (L : List Loc) : Prop := v = some (.long w) ∧ Fr n0 L ∧ h = h0
set_option maxRecDepth 65536 in
set_option maxHeartbeats 40000000 in
theorem rm5 (l : Launch) (Z : State) (aV : Array Value) (hw : ∀ d ∈ tables_1, d.before aV Z = true) (ws : List Jvm.Cond) (a0 : Addr) (w : Int64) (h0 : Heap) (n0 : Nat) (O0 : Old Z n0 h0) (Fi0 : Fld Z h0 a0 "com/example/horatius/horatius/WriteOutcome" "updateCount" "J" (.long w)) :
    MetFree l (⟨"com/example/horatius/horatius/WriteOutcome", "updateCount", "()J"⟩ : MethodName) (head1 (Jvm.Cond.code (⟨"com/example/horatius/horatius/WriteOutcome", "updateCount", "()J"⟩ : MethodName) prog_20_method_4_code 1 (some .long) :: ws) ({ frames := 0, cells := 0, slots := 0, locals := 0 } : Room)) (fun a U => a = #[(.ref a0)] ∧ Z.Warmed39 U.vm ∧ U.heap = h0) (fun _ _ _ _ _ => True) (fun _ U o U' => ∃ v L, o = .returned v ∧ Qrm5 Z a0 w h0 n0 v U'.heap L ∧ FrameEnd U o U' L ({ frames := 0, cells := 0, slots := 0, locals := 0 } : Room).cells ({ frames := 0, cells := 0, slots := 0, locals := 0 } : Room).slots) := by
  refine MetFree.of_bodySF (plainFor_of_name pn_com_example_horatius_horatius_WriteOutcome) hisR ?_
  intro p e s m args below meth c s₁ Bd hml0 hP hK
  obtain ⟨rfl, hZ, hh⟩ := hP
  have hx := Bd.exec
  have hby := Bd.bytes
  have hml : c.maxLocals = 1 := hml0
  have hown : s.vm.findClass "com/example/horatius/horatius/WriteOutcome" = some m.cls := findClass_of_methodNamed Bd.named
  have hnm := (name_of_methodNamed Bd.named Bd.method).1
  have X0 : Stand p l e ({ frames := 0, cells := 0, slots := 0, locals := 0 } : Room) s m #[(.ref a0)] below meth c s₁ [] 0 0 := Stand.of_body Bd
  have e0 : s₁.heap = h0 := by rw [← hh, Bd.state]; rfl
  have N0 := Fr.nil n0
  show Run p.tables e below (Wd s (Qrm5 Z a0 w h0 n0) ({ frames := 0, cells := 0, slots := 0, locals := 0 } : Room).cells ({ frames := 0, cells := 0, slots := 0, locals := 0 } : Room).slots) s₁ (entryFrame m #[(.ref a0)] 1)
  rw [ef_rm5 m a0]
  refine run_fwd (T' := s₁) (g' := (mkF m 1 #[.val (.ref a0)] [(.ref a0)])) (fun _ k => XS.aloadN X0.here hx rfl (hb hby d5_0) rfl rfl k) ?_
  obtain ⟨T1, X1, e1, st1⟩ := getF X0 hx hZ hown (host := "") (Or.inl (hw _ (List.mem_of_getElem? (i := 17) rfl))) Via.refl e0 Fi0 (g := (mkF m 1 #[.val (.ref a0)] [(.ref a0)])) rfl rfl (hb hby d5_1)
  refine run_fwd (T' := T1) (g' := (mkF m 4 #[.val (.ref a0)] [(.long w)])) (fun _ k => st1 _ k) ?_
  exact run_ret X1 hx Bd.returns Bd.notSynchronized rfl (Or.inr (Or.inl ⟨rfl, rfl, _, rfl⟩)) (hb hby d5_4) (by rw [e1]; exact ⟨rfl, N0, rfl⟩) (by decide) (by decide)
theorem pd__28J_29Lcom_2fexample_2fhoratius_2fhoratius_2fWriteOutcome_3b : parseMethodDescriptor "(J)Lcom/example/horatius/horatius/WriteOutcome;" = some ⟨[.long], some (.object "com/example/horatius/horatius/WriteOutcome")⟩ := by decide +kernel
theorem pd__28_29Lcom_2fexample_2fhoratius_2fhoratius_2fAdmission_3b : parseMethodDescriptor "()Lcom/example/horatius/horatius/Admission;" = some ⟨[], some (.object "com/example/horatius/horatius/Admission")⟩ := by decide +kernel
theorem pd__28_29J : parseMethodDescriptor "()J" = some ⟨[], some .long⟩ := by decide +kernel
theorem pn_com_example_horatius_horatius_WriteOutcomeAcceptedPinLaw : plainName "com/example/horatius/horatius/WriteOutcomeAcceptedPinLaw" = true := by first | (simp [plainName, overriddenIn]; done) | decide +kernel
theorem ef_rm0 (m : MethodId) (x0 : Int64) (x1 : Int64) : entryFrame m #[(.long x0), (.long x1)] maxLocals = mkF m 0 #[.val (.long x0), .second, .val (.long x1), .second, .unset, .unset, .unset, .unset] [] := by first | (simp [entryFrame, mkF, argsToLocals, Value.category, maxLocals]; done) | rfl
def Qrm0 (Z : State) (q0 : Int64) (q1 : Int64) (u : Addr) (h0 : Heap) (n0 : Nat) (v : Option Value) (h : Heap) (L : List Loc) : Prop := v = some (.int (1 : Int32)) ∧ Fr n0 L
set_option maxRecDepth 65536 in
set_option maxHeartbeats 40000000 in
theorem rm0 (l : Launch) (Z : State) (aV : Array Value) (hw : ∀ d ∈ tables_1, d.before aV Z = true) (ws : List Jvm.Cond) (q0 : Int64) (q1 : Int64) (u : Addr) (h0 : Heap) (n0 : Nat) (O0 : Old Z n0 h0) (Si0 : Sta Z Z.heap "com/example/horatius/horatius/Admission" "ACCEPTED" "Lcom/example/horatius/horatius/Admission;" (.ref u)) :
    MetFree l x (head1 (Jvm.Cond.code x code maxLocals ret :: ws) room_1) (fun a U => a = #[(.long q0), (.long q1)] ∧ Z.Warmed39 U.vm ∧ U.heap = h0) (fun _ _ _ _ _ => True) (fun _ U o U' => ∃ v L, o = .returned v ∧ Qrm0 Z q0 q1 u h0 n0 v U'.heap L ∧ FrameEnd U o U' L room_1.cells room_1.slots) := by
  refine MetFree.of_bodySF (plainFor_of_name pn_com_example_horatius_horatius_WriteOutcomeAcceptedPinLaw) hisR ?_
  intro p e s m args below meth c s₁ Bd hml0 hP hK
  obtain ⟨rfl, hZ, hh⟩ := hP
  have hx := Bd.exec
  have hby := Bd.bytes
  have hml : c.maxLocals = 8 := hml0
  have hown : s.vm.findClass "com/example/horatius/horatius/WriteOutcomeAcceptedPinLaw" = some m.cls := findClass_of_methodNamed Bd.named
  have hnm := (name_of_methodNamed Bd.named Bd.method).1
  have X0 : Stand p l e room_1 s m #[(.long q0), (.long q1)] below meth c s₁ [] 0 0 := Stand.of_body Bd
  have e0 : s₁.heap = h0 := by rw [← hh, Bd.state]; rfl
  have N0 := Fr.nil n0
  show Run p.tables e below (Wd s (Qrm0 Z q0 q1 u h0 n0) room_1.cells room_1.slots) s₁ (entryFrame m #[(.long q0), (.long q1)] maxLocals)
  rw [ef_rm0 m q0 q1]
  refine run_fwd (T' := s₁) (g' := (mkF m 1 #[.val (.long q0), .second, .val (.long q1), .second, .unset, .unset, .unset, .unset] [(.long q0)])) (fun _ k => XS.lloadN X0.here hx rfl (hb hby at_0) rfl k) ?_
  obtain ⟨_, _, ⟨T1, L1, kk1, nn1⟩, -, X1, ⟨Lc1, hQ1, l1, y1, z1⟩, st1⟩ := Jvm.LawKit.callS X0 hx (y := (⟨"com/example/horatius/horatius/WriteOutcome", "accepted", "(J)Lcom/example/horatius/horatius/WriteOutcome;"⟩ : MethodName)) hown (mvT hZ (hw _ (List.mem_of_getElem? (i := 0) rfl))) (mvT hZ (hw _ (List.mem_of_getElem? (i := 1) rfl))) (mvT hZ (hw _ (List.mem_of_getElem? (i := 2) rfl))) (mvT hZ (hw _ (List.mem_of_getElem? (i := 3) rfl))) (by decide) (backOf (W := 0) (rm1 l Z aV hw [] q0 u h0 n0 O0 Si0) hZ (hw _ (List.mem_of_getElem? (i := 3) rfl)) (hw _ (List.mem_of_getElem? (i := 2) rfl)) (by decide) (by decide)) (g := (mkF m 1 #[.val (.long q0), .second, .val (.long q1), .second, .unset, .unset, .unset, .unset] [(.long q0)])) rfl (by rw [hml]; rfl) (argsL := [(.long q0)]) (rest := []) (lenOf pd__28J_29Lcom_2fexample_2fhoratius_2fhoratius_2fWriteOutcome_3b rfl) rfl (by show 2 * 0 + _ ≤ _; exact Nat.le_of_eq rfl) (hb hby at_1) (fun _ _ => ⟨rfl, e0, (by decide : 0 + 1 ≤ _), (by decide : 0 + 2 ≤ _)⟩)
  dsimp only [Pt.U, Pt.locs, Pt.cells, Pt.slots] at X1 l1 y1 z1 st1 hQ1
  subst l1 y1 z1
  obtain ⟨b_1, rfl, N1q, Q1_0, Q1_1, Q1_2, Q1_3, Q1_4⟩ := hQ1
  have N1 := Fr.app N0 N1q
  obtain ⟨h1, e1⟩ : ∃ z, T1.heap = z := ⟨_, rfl⟩
  rw [e1] at Q1_0 Q1_2 Q1_3 Q1_4
  have O2 : Old Z n0 h1 := O0.keep Q1_0 all0
  have K3 : Keep h0 h1 [] := (Keep.refl h0 []).trans Q1_0 all0
  have gg1_1 : n0 ≤ b_1 := Nat.le_trans (own_le O0) Q1_1
  have sz1_1 : h0.size ≤ b_1 := (Nat.le_trans (Keep.refl h0 []).1 Q1_1)
  refine run_fwd (T' := T1) (g' := (mkF m 4 #[.val (.long q0), .second, .val (.long q1), .second, .unset, .unset, .unset, .unset] [(.ref b_1)])) (fun _ k => st1 _ k) ?_
  refine run_fwd (T' := T1) (g' := (mkF m 6 #[.val (.long q0), .second, .val (.long q1), .second, .val (.ref b_1), .unset, .unset, .unset] [])) (fun _ k => XS.astore X1.here hx rfl (hb hby at_4) rfl rfl (l' := #[.val (.long q0), .second, .val (.long q1), .second, .val (.ref b_1), .unset, .unset, .unset]) rfl k) ?_
  refine run_fwd (T' := T1) (g' := (mkF m 7 #[.val (.long q0), .second, .val (.long q1), .second, .val (.ref b_1), .unset, .unset, .unset] [(.long q1)])) (fun _ k => XS.lloadN X1.here hx rfl (hb hby at_6) rfl k) ?_
  obtain ⟨_, _, ⟨T4, L4, kk4, nn4⟩, -, X4, ⟨Lc4, hQ4, l4, y4, z4⟩, st4⟩ := Jvm.LawKit.callS X1 hx (y := (⟨"com/example/horatius/horatius/WriteOutcome", "accepted", "(J)Lcom/example/horatius/horatius/WriteOutcome;"⟩ : MethodName)) hown (mvT hZ (hw _ (List.mem_of_getElem? (i := 0) rfl))) (mvT hZ (hw _ (List.mem_of_getElem? (i := 1) rfl))) (mvT hZ (hw _ (List.mem_of_getElem? (i := 2) rfl))) (mvT hZ (hw _ (List.mem_of_getElem? (i := 3) rfl))) (by decide) (backOf (W := 0) (rm1 l Z aV hw [] q1 u h1 n0 O2 Si0) hZ (hw _ (List.mem_of_getElem? (i := 3) rfl)) (hw _ (List.mem_of_getElem? (i := 2) rfl)) (by decide) (by decide)) (g := (mkF m 7 #[.val (.long q0), .second, .val (.long q1), .second, .val (.ref b_1), .unset, .unset, .unset] [(.long q1)])) rfl (by rw [hml]; rfl) (argsL := [(.long q1)]) (rest := []) (lenOf pd__28J_29Lcom_2fexample_2fhoratius_2fhoratius_2fWriteOutcome_3b rfl) rfl (by show 2 * 0 + _ ≤ _; exact Nat.le_of_eq rfl) (hb hby at_7) (fun _ _ => ⟨rfl, e1, (by decide : 1 + 1 ≤ _), (by decide : 2 + 2 ≤ _)⟩)
  dsimp only [Pt.U, Pt.locs, Pt.cells, Pt.slots] at X4 l4 y4 z4 st4 hQ4
  subst l4 y4 z4
  obtain ⟨b_4, rfl, N4q, Q4_0, Q4_1, Q4_2, Q4_3, Q4_4⟩ := hQ4
  have N4 := Fr.app N1 N4q
  obtain ⟨h4, e4⟩ : ∃ z, T4.heap = z := ⟨_, rfl⟩
  rw [e4] at Q4_0 Q4_2 Q4_3 Q4_4
  have O5 : Old Z n0 h4 := O2.keep Q4_0 all0
  have K6 : Keep h0 h4 [] := K3.trans Q4_0 all0
  have gg4_1 : n0 ≤ b_4 := Nat.le_trans (own_le O2) Q4_1
  have sz4_1 : h0.size ≤ b_4 := (Nat.le_trans K3.1 Q4_1)
  refine run_fwd (T' := T4) (g' := (mkF m 10 #[.val (.long q0), .second, .val (.long q1), .second, .val (.ref b_1), .unset, .unset, .unset] [(.ref b_4)])) (fun _ k => st4 _ k) ?_
  refine run_fwd (T' := T4) (g' := (mkF m 12 #[.val (.long q0), .second, .val (.long q1), .second, .val (.ref b_1), .val (.ref b_4), .unset, .unset] [])) (fun _ k => XS.astore X4.here hx rfl (hb hby at_10) rfl rfl (l' := #[.val (.long q0), .second, .val (.long q1), .second, .val (.ref b_1), .val (.ref b_4), .unset, .unset]) rfl k) ?_
  refine run_fwd (T' := T4) (g' := (mkF m 14 #[.val (.long q0), .second, .val (.long q1), .second, .val (.ref b_1), .val (.ref b_4), .unset, .unset] [(.ref b_1)])) (fun _ k => XS.aload X4.here hx rfl (hb hby at_12) rfl rfl k) ?_
  refine run_fwd (T' := T4) (g' := (mkF m 17 #[.val (.long q0), .second, .val (.long q1), .second, .val (.ref b_1), .val (.ref b_4), .unset, .unset] [])) (fun _ k => XS.ifnullNo X4.here hx rfl (hb hby at_14) rfl k) ?_
  refine run_fwd (T' := T4) (g' := (mkF m 19 #[.val (.long q0), .second, .val (.long q1), .second, .val (.ref b_1), .val (.ref b_4), .unset, .unset] [(.ref b_4)])) (fun _ k => XS.aload X4.here hx rfl (hb hby at_17) rfl rfl k) ?_
  refine run_fwd (T' := T4) (g' := (mkF m 24 #[.val (.long q0), .second, .val (.long q1), .second, .val (.ref b_1), .val (.ref b_4), .unset, .unset] [])) (fun _ k => XS.ifnonnullYes X4.here hx rfl (pc0 := 19) (pc' := 24) rfl (hb hby at_19) rfl (by decide) (by decide) k) ?_
  refine run_fwd (T' := T4) (g' := (mkF m 26 #[.val (.long q0), .second, .val (.long q1), .second, .val (.ref b_1), .val (.ref b_4), .unset, .unset] [(.ref b_1)])) (fun _ k => XS.aload X4.here hx rfl (hb hby at_24) rfl rfl k) ?_
  have f8 : Fld Z h4 b_1 "com/example/horatius/horatius/WriteOutcome" "admission" "Lcom/example/horatius/horatius/Admission;" (.ref u) := (Q1_3.keep Q4_0 nin0)
  have f9 : Exa Z h4 b_1 "com/example/horatius/horatius/WriteOutcome" := (Q1_2.keep Q4_0)
  obtain ⟨cq7, kq7, q7a, q7b, q7c⟩ := isOf hZ e4 f9
  obtain ⟨_, _, ⟨T7, L7, kk7, nn7⟩, -, X7, ⟨Lc7, hQ7, l7, y7, z7⟩, st7⟩ := X4.virtualBack hx (y := (⟨"com/example/horatius/horatius/WriteOutcome", "admission", "()Lcom/example/horatius/horatius/Admission;"⟩ : MethodName)) (z := (⟨"com/example/horatius/horatius/WriteOutcome", "admission", "()Lcom/example/horatius/horatius/Admission;"⟩ : MethodName)) hown (mvT hZ (hw _ (List.mem_of_getElem? (i := 19) rfl))) (mvT hZ (hw _ (List.mem_of_getElem? (i := 20) rfl))) (notFace_of_selects (args := #[]) (mvT hZ (hw _ (List.mem_of_getElem? (i := 22) rfl)))) (mvT hZ (hw _ (List.mem_of_getElem? (i := 22) rfl))) (mvT hZ (hw _ (List.mem_of_getElem? (i := 21) rfl))) (by decide) (backOf (W := 0) (rm4 l Z aV hw [] b_1 u h4 n0 O5 f8) hZ (hw _ (List.mem_of_getElem? (i := 23) rfl)) (hw _ (List.mem_of_getElem? (i := 2) rfl)) (by decide) (by decide)) q7a q7c (g := (mkF m 26 #[.val (.long q0), .second, .val (.long q1), .second, .val (.ref b_1), .val (.ref b_4), .unset, .unset] [(.ref b_1)])) rfl (by rw [hml]; rfl) (Steps.refl _) (argsL := []) (rest := []) (lenOf pd__28_29Lcom_2fexample_2fhoratius_2fhoratius_2fAdmission_3b rfl) rfl (by show 2 * 0 + _ ≤ _; exact Nat.le_of_eq rfl) (hb hby at_26) (fun _ _ => ⟨rfl, e4, (by decide : 2 + 0 ≤ _), (by decide : 4 + 0 ≤ _)⟩)
  dsimp only [Pt.U, Pt.locs, Pt.cells, Pt.slots] at X7 l7 y7 z7 st7 hQ7
  subst l7 y7 z7
  obtain ⟨rfl, N7q, Q7_0⟩ := hQ7
  have N7 := Fr.app N4 N7q
  refine run_fwd (T' := T7) (g' := (mkF m 29 #[.val (.long q0), .second, .val (.long q1), .second, .val (.ref b_1), .val (.ref b_4), .unset, .unset] [(.ref u)])) (fun _ k => st7.trans k) ?_
  obtain ⟨T10, X10, e10, st10⟩ := getS2 X7 hx hZ hown (host := "") (Or.inl (hw _ (List.mem_of_getElem? (i := 24) rfl))) Via.refl Q7_0 (Si0.ext O5.2) (g := (mkF m 29 #[.val (.long q0), .second, .val (.long q1), .second, .val (.ref b_1), .val (.ref b_4), .unset, .unset] [(.ref u)])) rfl (hb hby at_29)
  refine run_fwd (T' := T10) (g' := (mkF m 32 #[.val (.long q0), .second, .val (.long q1), .second, .val (.ref b_1), .val (.ref b_4), .unset, .unset] [(.ref u), (.ref u)])) (fun _ k => st10 _ k) ?_
  refine run_fwd (T' := T10) (g' := (mkF m 35 #[.val (.long q0), .second, .val (.long q1), .second, .val (.ref b_1), .val (.ref b_4), .unset, .unset] [])) (fun _ k => Jvm.RoadKit.acmp (g := (mkF m 32 #[.val (.long q0), .second, .val (.long q1), .second, .val (.ref b_1), .val (.ref b_4), .unset, .unset] [(.ref u), (.ref u)])) X10 hx rfl rfl rfl (pc0 := 32) (pc' := 35) (same := true) rfl (hb hby at_32) rfl (decide_eq_true rfl) (by decide) (by decide) k) ?_
  refine run_fwd (T' := T10) (g' := (mkF m 37 #[.val (.long q0), .second, .val (.long q1), .second, .val (.ref b_1), .val (.ref b_4), .unset, .unset] [(.ref b_4)])) (fun _ k => XS.aload X10.here hx rfl (hb hby at_35) rfl rfl k) ?_
  obtain ⟨cq11, kq11, q11a, q11b, q11c⟩ := isOf hZ e10 Q4_2
  obtain ⟨_, _, ⟨T11, L11, kk11, nn11⟩, -, X11, ⟨Lc11, hQ11, l11, y11, z11⟩, st11⟩ := X10.virtualBack hx (y := (⟨"com/example/horatius/horatius/WriteOutcome", "admission", "()Lcom/example/horatius/horatius/Admission;"⟩ : MethodName)) (z := (⟨"com/example/horatius/horatius/WriteOutcome", "admission", "()Lcom/example/horatius/horatius/Admission;"⟩ : MethodName)) hown (mvT hZ (hw _ (List.mem_of_getElem? (i := 19) rfl))) (mvT hZ (hw _ (List.mem_of_getElem? (i := 20) rfl))) (notFace_of_selects (args := #[]) (mvT hZ (hw _ (List.mem_of_getElem? (i := 22) rfl)))) (mvT hZ (hw _ (List.mem_of_getElem? (i := 22) rfl))) (mvT hZ (hw _ (List.mem_of_getElem? (i := 21) rfl))) (by decide) (backOf (W := 0) (rm4 l Z aV hw [] b_4 u h4 n0 O5 Q4_3) hZ (hw _ (List.mem_of_getElem? (i := 23) rfl)) (hw _ (List.mem_of_getElem? (i := 2) rfl)) (by decide) (by decide)) q11a q11c (g := (mkF m 37 #[.val (.long q0), .second, .val (.long q1), .second, .val (.ref b_1), .val (.ref b_4), .unset, .unset] [(.ref b_4)])) rfl (by rw [hml]; rfl) (Steps.refl _) (argsL := []) (rest := []) (lenOf pd__28_29Lcom_2fexample_2fhoratius_2fhoratius_2fAdmission_3b rfl) rfl (by show 2 * 0 + _ ≤ _; exact Nat.le_of_eq rfl) (hb hby at_37) (fun _ _ => ⟨rfl, e10, (by decide : 2 + 0 ≤ _), (by decide : 4 + 0 ≤ _)⟩)
  dsimp only [Pt.U, Pt.locs, Pt.cells, Pt.slots] at X11 l11 y11 z11 st11 hQ11
  subst l11 y11 z11
  obtain ⟨rfl, N11q, Q11_0⟩ := hQ11
  have N11 := Fr.app N7 N11q
  refine run_fwd (T' := T11) (g' := (mkF m 40 #[.val (.long q0), .second, .val (.long q1), .second, .val (.ref b_1), .val (.ref b_4), .unset, .unset] [(.ref u)])) (fun _ k => st11.trans k) ?_
  obtain ⟨T12, X12, e12, st12⟩ := getS2 X11 hx hZ hown (host := "") (Or.inl (hw _ (List.mem_of_getElem? (i := 24) rfl))) Via.refl Q11_0 (Si0.ext O5.2) (g := (mkF m 40 #[.val (.long q0), .second, .val (.long q1), .second, .val (.ref b_1), .val (.ref b_4), .unset, .unset] [(.ref u)])) rfl (hb hby at_40)
  refine run_fwd (T' := T12) (g' := (mkF m 43 #[.val (.long q0), .second, .val (.long q1), .second, .val (.ref b_1), .val (.ref b_4), .unset, .unset] [(.ref u), (.ref u)])) (fun _ k => st12 _ k) ?_
  refine run_fwd (T' := T12) (g' := (mkF m 46 #[.val (.long q0), .second, .val (.long q1), .second, .val (.ref b_1), .val (.ref b_4), .unset, .unset] [])) (fun _ k => Jvm.RoadKit.acmp (g := (mkF m 43 #[.val (.long q0), .second, .val (.long q1), .second, .val (.ref b_1), .val (.ref b_4), .unset, .unset] [(.ref u), (.ref u)])) X12 hx rfl rfl rfl (pc0 := 43) (pc' := 46) (same := true) rfl (hb hby at_43) rfl (decide_eq_true rfl) (by decide) (by decide) k) ?_
  refine run_fwd (T' := T12) (g' := (mkF m 47 #[.val (.long q0), .second, .val (.long q1), .second, .val (.ref b_1), .val (.ref b_4), .unset, .unset] [(.int (1 : Int32))])) (fun _ k => XS.iconst X12.here hx rfl (hb hby at_46) k) ?_
  refine run_fwd (T' := T12) (g' := (mkF m 51 #[.val (.long q0), .second, .val (.long q1), .second, .val (.ref b_1), .val (.ref b_4), .unset, .unset] [(.int (1 : Int32))])) (fun _ k => XS.goto X12.here hx rfl (pc0 := 47) (pc' := 51) rfl (hb hby at_47) (by decide) (by decide) k) ?_
  refine run_fwd (T' := T12) (g' := (mkF m 53 #[.val (.long q0), .second, .val (.long q1), .second, .val (.ref b_1), .val (.ref b_4), .val (.int (1 : Int32)), .unset] [])) (fun _ k => XS.istore X12.here hx rfl (hb hby at_51) rfl (l' := #[.val (.long q0), .second, .val (.long q1), .second, .val (.ref b_1), .val (.ref b_4), .val (.int (1 : Int32)), .unset]) rfl k) ?_
  refine run_fwd (T' := T12) (g' := (mkF m 55 #[.val (.long q0), .second, .val (.long q1), .second, .val (.ref b_1), .val (.ref b_4), .val (.int (1 : Int32)), .unset] [(.ref b_1)])) (fun _ k => XS.aload X12.here hx rfl (hb hby at_53) rfl rfl k) ?_
  have f14 : Fld Z h4 b_1 "com/example/horatius/horatius/WriteOutcome" "updateCount" "J" (.long q0) := (Q1_4.keep Q4_0 nin0)
  obtain ⟨cq13, kq13, q13a, q13b, q13c⟩ := isOf hZ e12 f9
  obtain ⟨_, _, ⟨T13, L13, kk13, nn13⟩, -, X13, ⟨Lc13, hQ13, l13, y13, z13⟩, st13⟩ := X12.virtualBack hx (y := (⟨"com/example/horatius/horatius/WriteOutcome", "updateCount", "()J"⟩ : MethodName)) (z := (⟨"com/example/horatius/horatius/WriteOutcome", "updateCount", "()J"⟩ : MethodName)) hown (mvT hZ (hw _ (List.mem_of_getElem? (i := 25) rfl))) (mvT hZ (hw _ (List.mem_of_getElem? (i := 26) rfl))) (notFace_of_selects (args := #[]) (mvT hZ (hw _ (List.mem_of_getElem? (i := 28) rfl)))) (mvT hZ (hw _ (List.mem_of_getElem? (i := 28) rfl))) (mvT hZ (hw _ (List.mem_of_getElem? (i := 27) rfl))) (by decide) (backOf (W := 0) (rm5 l Z aV hw [] b_1 q0 h4 n0 O5 f14) hZ (hw _ (List.mem_of_getElem? (i := 29) rfl)) (hw _ (List.mem_of_getElem? (i := 2) rfl)) (by decide) (by decide)) q13a q13c (g := (mkF m 55 #[.val (.long q0), .second, .val (.long q1), .second, .val (.ref b_1), .val (.ref b_4), .val (.int (1 : Int32)), .unset] [(.ref b_1)])) rfl (by rw [hml]; rfl) (Steps.refl _) (argsL := []) (rest := []) (lenOf pd__28_29J rfl) rfl (by show 2 * 0 + _ ≤ _; exact Nat.le_of_eq rfl) (hb hby at_55) (fun _ _ => ⟨rfl, e12, (by decide : 2 + 0 ≤ _), (by decide : 4 + 0 ≤ _)⟩)
  dsimp only [Pt.U, Pt.locs, Pt.cells, Pt.slots] at X13 l13 y13 z13 st13 hQ13
  subst l13 y13 z13
  obtain ⟨rfl, N13q, Q13_0⟩ := hQ13
  have N13 := Fr.app N11 N13q
  refine run_fwd (T' := T13) (g' := (mkF m 58 #[.val (.long q0), .second, .val (.long q1), .second, .val (.ref b_1), .val (.ref b_4), .val (.int (1 : Int32)), .unset] [(.long q0)])) (fun _ k => st13.trans k) ?_
  refine run_fwd (T' := T13) (g' := (mkF m 59 #[.val (.long q0), .second, .val (.long q1), .second, .val (.ref b_1), .val (.ref b_4), .val (.int (1 : Int32)), .unset] [(.long q0), (.long q0)])) (fun _ k => XS.lloadN X13.here hx rfl (hb hby at_58) rfl k) ?_
  refine run_fwd (T' := T13) (g' := (mkF m 60 #[.val (.long q0), .second, .val (.long q1), .second, .val (.ref b_1), .val (.ref b_4), .val (.int (1 : Int32)), .unset] [(.int (lcmpW q0 q0))])) (fun _ k => XS.lcmp X13.here hx rfl (hb hby at_59) rfl k) ?_
  have hc60_15 : q0 = q0 := rfl
  refine run_fwd (T' := T13) (g' := (mkF m 63 #[.val (.long q0), .second, .val (.long q1), .second, .val (.ref b_1), .val (.ref b_4), .val (.int (1 : Int32)), .unset] [])) (fun _ k => XS.ifNo X13.here hx rfl (hb hby at_60) rfl ((if0 _ _).trans (teq ((lw_eq q0 q0).mpr hc60_15)).2) k) ?_
  refine run_fwd (T' := T13) (g' := (mkF m 65 #[.val (.long q0), .second, .val (.long q1), .second, .val (.ref b_1), .val (.ref b_4), .val (.int (1 : Int32)), .unset] [(.ref b_4)])) (fun _ k => XS.aload X13.here hx rfl (hb hby at_63) rfl rfl k) ?_
  obtain ⟨cq16, kq16, q16a, q16b, q16c⟩ := isOf hZ Q13_0 Q4_2
  obtain ⟨_, _, ⟨T16, L16, kk16, nn16⟩, -, X16, ⟨Lc16, hQ16, l16, y16, z16⟩, st16⟩ := X13.virtualBack hx (y := (⟨"com/example/horatius/horatius/WriteOutcome", "updateCount", "()J"⟩ : MethodName)) (z := (⟨"com/example/horatius/horatius/WriteOutcome", "updateCount", "()J"⟩ : MethodName)) hown (mvT hZ (hw _ (List.mem_of_getElem? (i := 25) rfl))) (mvT hZ (hw _ (List.mem_of_getElem? (i := 26) rfl))) (notFace_of_selects (args := #[]) (mvT hZ (hw _ (List.mem_of_getElem? (i := 28) rfl)))) (mvT hZ (hw _ (List.mem_of_getElem? (i := 28) rfl))) (mvT hZ (hw _ (List.mem_of_getElem? (i := 27) rfl))) (by decide) (backOf (W := 0) (rm5 l Z aV hw [] b_4 q1 h4 n0 O5 Q4_4) hZ (hw _ (List.mem_of_getElem? (i := 29) rfl)) (hw _ (List.mem_of_getElem? (i := 2) rfl)) (by decide) (by decide)) q16a q16c (g := (mkF m 65 #[.val (.long q0), .second, .val (.long q1), .second, .val (.ref b_1), .val (.ref b_4), .val (.int (1 : Int32)), .unset] [(.ref b_4)])) rfl (by rw [hml]; rfl) (Steps.refl _) (argsL := []) (rest := []) (lenOf pd__28_29J rfl) rfl (by show 2 * 0 + _ ≤ _; exact Nat.le_of_eq rfl) (hb hby at_65) (fun _ _ => ⟨rfl, Q13_0, (by decide : 2 + 0 ≤ _), (by decide : 4 + 0 ≤ _)⟩)
  dsimp only [Pt.U, Pt.locs, Pt.cells, Pt.slots] at X16 l16 y16 z16 st16 hQ16
  subst l16 y16 z16
  obtain ⟨rfl, N16q, Q16_0⟩ := hQ16
  have N16 := Fr.app N13 N16q
  refine run_fwd (T' := T16) (g' := (mkF m 68 #[.val (.long q0), .second, .val (.long q1), .second, .val (.ref b_1), .val (.ref b_4), .val (.int (1 : Int32)), .unset] [(.long q1)])) (fun _ k => st16.trans k) ?_
  refine run_fwd (T' := T16) (g' := (mkF m 69 #[.val (.long q0), .second, .val (.long q1), .second, .val (.ref b_1), .val (.ref b_4), .val (.int (1 : Int32)), .unset] [(.long q1), (.long q1)])) (fun _ k => XS.lloadN X16.here hx rfl (hb hby at_68) rfl k) ?_
  refine run_fwd (T' := T16) (g' := (mkF m 70 #[.val (.long q0), .second, .val (.long q1), .second, .val (.ref b_1), .val (.ref b_4), .val (.int (1 : Int32)), .unset] [(.int (lcmpW q1 q1))])) (fun _ k => XS.lcmp X16.here hx rfl (hb hby at_69) rfl k) ?_
  have hc70_17 : q1 = q1 := rfl
  refine run_fwd (T' := T16) (g' := (mkF m 73 #[.val (.long q0), .second, .val (.long q1), .second, .val (.ref b_1), .val (.ref b_4), .val (.int (1 : Int32)), .unset] [])) (fun _ k => XS.ifNo X16.here hx rfl (hb hby at_70) rfl ((if0 _ _).trans (teq ((lw_eq q1 q1).mpr hc70_17)).2) k) ?_
  refine run_fwd (T' := T16) (g' := (mkF m 74 #[.val (.long q0), .second, .val (.long q1), .second, .val (.ref b_1), .val (.ref b_4), .val (.int (1 : Int32)), .unset] [(.int (1 : Int32))])) (fun _ k => XS.iconst X16.here hx rfl (hb hby at_73) k) ?_
  refine run_fwd (T' := T16) (g' := (mkF m 78 #[.val (.long q0), .second, .val (.long q1), .second, .val (.ref b_1), .val (.ref b_4), .val (.int (1 : Int32)), .unset] [(.int (1 : Int32))])) (fun _ k => XS.goto X16.here hx rfl (pc0 := 74) (pc' := 78) rfl (hb hby at_74) (by decide) (by decide) k) ?_
  refine run_fwd (T' := T16) (g' := (mkF m 80 #[.val (.long q0), .second, .val (.long q1), .second, .val (.ref b_1), .val (.ref b_4), .val (.int (1 : Int32)), .val (.int (1 : Int32))] [])) (fun _ k => XS.istore X16.here hx rfl (hb hby at_78) rfl (l' := #[.val (.long q0), .second, .val (.long q1), .second, .val (.ref b_1), .val (.ref b_4), .val (.int (1 : Int32)), .val (.int (1 : Int32))]) rfl k) ?_
  refine run_fwd (T' := T16) (g' := (mkF m 82 #[.val (.long q0), .second, .val (.long q1), .second, .val (.ref b_1), .val (.ref b_4), .val (.int (1 : Int32)), .val (.int (1 : Int32))] [(.int (1 : Int32))])) (fun _ k => XS.iload X16.here hx rfl (hb hby at_80) rfl k) ?_
  have hc82_18 : ¬ ((1 : Int32) = (0 : Int32)) := (by decide)
  refine run_fwd (T' := T16) (g' := (mkF m 85 #[.val (.long q0), .second, .val (.long q1), .second, .val (.ref b_1), .val (.ref b_4), .val (.int (1 : Int32)), .val (.int (1 : Int32))] [])) (fun _ k => XS.ifNo X16.here hx rfl (hb hby at_82) rfl ((if0 _ _).trans (feq hc82_18).1) k) ?_
  refine run_fwd (T' := T16) (g' := (mkF m 87 #[.val (.long q0), .second, .val (.long q1), .second, .val (.ref b_1), .val (.ref b_4), .val (.int (1 : Int32)), .val (.int (1 : Int32))] [(.int (1 : Int32))])) (fun _ k => XS.iload X16.here hx rfl (hb hby at_85) rfl k) ?_
  have hc87_19 : ¬ ((1 : Int32) = (0 : Int32)) := (by decide)
  refine run_fwd (T' := T16) (g' := (mkF m 90 #[.val (.long q0), .second, .val (.long q1), .second, .val (.ref b_1), .val (.ref b_4), .val (.int (1 : Int32)), .val (.int (1 : Int32))] [])) (fun _ k => XS.ifNo X16.here hx rfl (hb hby at_87) rfl ((if0 _ _).trans (feq hc87_19).1) k) ?_
  refine run_fwd (T' := T16) (g' := (mkF m 91 #[.val (.long q0), .second, .val (.long q1), .second, .val (.ref b_1), .val (.ref b_4), .val (.int (1 : Int32)), .val (.int (1 : Int32))] [(.int (1 : Int32))])) (fun _ k => XS.iconst X16.here hx rfl (hb hby at_90) k) ?_
  refine run_fwd (T' := T16) (g' := (mkF m 95 #[.val (.long q0), .second, .val (.long q1), .second, .val (.ref b_1), .val (.ref b_4), .val (.int (1 : Int32)), .val (.int (1 : Int32))] [(.int (1 : Int32))])) (fun _ k => XS.goto X16.here hx rfl (pc0 := 91) (pc' := 95) rfl (hb hby at_91) (by decide) (by decide) k) ?_
  exact run_ret X16 hx Bd.returns Bd.notSynchronized rfl (Or.inl ⟨rfl, by simp, _, rfl⟩) (hb hby at_95) (by rw [Q16_0]; exact ⟨rfl, N16⟩) (by decide) (by decide)
set_option maxRecDepth 65536 in
set_option maxHeartbeats 40000000 in
theorem comes_1 {Post : Tables → Env → Array Value → State → Outcome → State → Prop} (hpost : ∀ tb e args s v u, (limb_1_1.after args s (.returned v) u = true ∧ limb_1_2.after args s (.returned v) u = true ∧ True) → FrameEnd s (.returned v) u (Jvm.fieldLocs frame_1_writes args s ++ Jvm.arrayLocs frame_1_arrays args s ++ Jvm.staticLocs frame_1_statics s) 16 128 → Post tb e args s (.returned v) u) :
    ArmFor flags0 classFile x code maxLocals ret World_1 tables_1 room_1 Calls_1 rest_1 Pre_1 Post := by
  intro l hfl _ _ p e ha hc hk s m args below hf hA hF happ hP
  obtain ⟨hcalls, hrest, hpre⟩ := hP
  obtain ⟨-, -, -, hnamed, -, -, -, hat⟩ := (Spec.applies_iff hf).mp happ
  obtain ⟨hg, hn⟩ := and_e (Cond.before_iff.mp (show (Jvm.Cond.and given_1 narrow_1).before args s = true from hpre))
  obtain ⟨g1, g2⟩ := and_e hg
  obtain ⟨g3, g4⟩ := and_e g2
  obtain ⟨w0, w1, rfl⟩ : ∃ w0 w1 : Value, args = #[w0, w1] := by
    have hs : args.size = 2 := by simpa [Cond.value, given_1] using g1
    obtain ⟨L⟩ := args
    match L, hs with
    | [w0, w1], _ => exact ⟨w0, w1, rfl⟩
  have hw := fun d (hd : d ∈ tables_1) => atoms_spec (ws := Jvm.Cond.code x code maxLocals ret :: tables_1) hat d (List.mem_cons_of_mem _ hd)
  obtain ⟨i0, ei0⟩ := isL_v g3
  obtain rfl : w0 = (.long i0) := Option.some.inj ei0
  obtain ⟨i1, ei1⟩ := isL_v g4
  obtain rfl : w1 = (.long i1) := Option.some.inj ei1
  obtain ⟨u, eu, S0, E0⟩ := own_sta hn (Or.inr ⟨hw _ (List.mem_of_getElem? (i := 7) rfl), hw _ (List.mem_of_getElem? (i := 8) rfl)⟩)
  obtain ⟨n, o, h1, h2, h3, _, L, rfl, ⟨rfl, N⟩, hq⟩ := rm0 l s _ hw tables_1 i0 i1 u s.heap s.heap.size (Old.start s) S0 p e ha hc hk s m _ below hf ((Spec.applies_iff_loose hf).mp happ).1 ⟨rfl, State.Warmed39.refl s, rfl⟩ trivial
  refine ⟨n, _, h1, h2, h3, hpost _ _ _ _ _ _ ⟨Cond.after_iff.mpr rfl, Cond.after_iff.mpr (eq_i res_at (Term.int_eval (1)) rfl), trivial⟩ ⟨hq.1, hq.2.1, (hq.2.2.sift fun y hy => Or.inr (N y hy)).mono (by decide) (by decide)⟩⟩
theorem main_1_1 : Claimed_1_1 := comes_1 fun _ _ _ _ _ _ h hF => ⟨h.1, hF⟩
theorem main_1_2 : Claimed_1_2 := comes_1 fun _ _ _ _ _ _ h hF => ⟨h.2.1, hF⟩
end Jvm.Pilot.@@N@@
namespace Jvm.Pilot.@@N@@
open Jvm Jvm.ClassFile Sem Op Lib Jvm.Free Jvm.Stand Jvm.Pilot.@@N@@.Jvm.D
/-! MADE BY PROGRAM (witnessworld.py) out of the Statement's table words and the real class files: 13 classes; the members and pool entries that the words name. The judged class is class 1, her method 1. -/
namespace start1
open Jvm.ClassFile
def u (s : String) : CpInfo := .utf8 (stringToUtf16 s)
/-- a pool by its gaps: so many unusable entries, then the entry; so many at the end -/
def gap : Nat → List CpInfo → List CpInfo
  | 0, r => r
  | n + 1, r => .unusable :: gap n r
def poolList (es : List (Nat × CpInfo)) (last : Nat) : List CpInfo := es.foldr (fun e r => gap e.1 (e.2 :: r)) (gap last [])
def pool (es : List (Nat × CpInfo)) (last : Nat) : Array CpInfo := ⟨poolList es last⟩
def fileOf (pool : Array CpInfo) (this : Nat) (attrs : Array Attribute := #[]) (ms : Array MethodInfo := #[]) (fl : Nat := 33) (sup : Nat := 0) (ifs : Array Nat := #[]) (fds : Array FieldInfo := #[]) : ClassFile where
  minorVersion := 0
  majorVersion := 65
  constantPool := pool
  accessFlags := fl
  thisClass := this
  superClass := sup
  interfaces := ifs
  fields := fds
  methods := ms
  attributes := attrs
def plain (name : String) (sup : Option ClassId) : Class where
  name := name
  kind := .ordinary
  loader := none
  accessFlags := 33
  super := sup
  interfaces := #[]
  cf := none
  fields := #[]
  methods := #[]
  instanceTypes := #[]
  staticTypes := #[]
  resolved := #[]
  callSites := []
  init := .initialized
  statics := none
  mirror := none

def pool0 : Array CpInfo := pool [(5, u "<init>"), (0, u "()V"), (1, .class_ 10), (1, u "java/lang/Object")] 113

def k0c0 : Code := { maxStack := 0, maxLocals := 1, code := object_method_1_code, exceptionTable := #[], attributes := #[] }
def k0m0 : Method := { name := "<init>", desc := "()V", sig := { parameters := [], returnType := none }, accessFlags := 1, code := some k0c0 }
/-- java/lang/Object -/
def k0 : Class := { plain "java/lang/Object" none with
  accessFlags := 33
  interfaces := #[]
  cf := some (fileOf pool0 8 #[] #[{ accessFlags := 1, nameIndex := 5, descriptorIndex := 6, attributes := #[] }] 33 0 #[] #[])
  fields := #[]
  methods := #[k0m0]
  instanceTypes := #[]
  staticTypes := #[]
  resolved := Array.replicate 124 none
  statics := none }

def pool1 : Array CpInfo := pool [(2, .class_ 4), (1, u "java/lang/Object"), (0, u "<init>"), (0, u "()V"), (0, .methodref 8 9), (0, .class_ 10), (0, .nameAndType 11 12), (0, u "com/example/horatius/horatius/WriteOutcome"), (0, u "accepted"), (0, u "(J)Lcom/example/horatius/horatius/WriteOutcome;"), (0, .methodref 8 14), (0, .nameAndType 15 16), (0, u "admission"), (0, u "()Lcom/example/horatius/horatius/Admission;"), (0, .fieldref 18 19), (0, .class_ 20), (0, .nameAndType 21 22), (0, u "com/example/horatius/horatius/Admission"), (0, u "ACCEPTED"), (0, u "Lcom/example/horatius/horatius/Admission;"), (0, .methodref 8 24), (0, .nameAndType 25 26), (0, u "updateCount"), (0, u "()J"), (0, .class_ 28), (0, u "com/example/horatius/horatius/WriteOutcomeAcceptedPinLaw"), (2, u "law"), (0, u "(JJ)Z")] 3

def k1m0 : Method := { name := "<init>", desc := "()V", sig := { parameters := [], returnType := none }, accessFlags := 1, code := none }
def k1c1 : Code := { maxStack := 4, maxLocals := 8, code := code, exceptionTable := #[], attributes := #[] }
def k1m1 : Method := { name := "law", desc := "(JJ)Z", sig := { parameters := [.long, .long], returnType := some .boolean }, accessFlags := 9, code := some k1c1 }
/-- com/example/horatius/horatius/WriteOutcomeAcceptedPinLaw -/
def k1 : Class := { plain "com/example/horatius/horatius/WriteOutcomeAcceptedPinLaw" (some 0) with
  accessFlags := 49
  interfaces := #[]
  cf := some (fileOf pool1 27 #[] #[{ accessFlags := 1, nameIndex := 5, descriptorIndex := 6, attributes := #[] }, { accessFlags := 9, nameIndex := 31, descriptorIndex := 32, attributes := #[] }] 49 2 #[] #[])
  fields := #[]
  methods := #[k1m0, k1m1]
  instanceTypes := #[]
  staticTypes := #[]
  resolved := Array.replicate 36 none
  statics := none }

def pool2 : Array CpInfo := pool [(1, .methodref 2 3), (0, .class_ 4), (0, .nameAndType 5 6), (0, u "java/lang/Object"), (0, u "<init>"), (0, u "()V"), (0, .fieldref 8 9), (0, .class_ 10), (0, .nameAndType 11 12), (0, u "com/example/horatius/horatius/WriteOutcome"), (0, u "admission"), (0, u "Lcom/example/horatius/horatius/Admission;"), (0, .fieldref 8 14), (0, .nameAndType 15 16), (0, u "updateCount"), (0, u "J"), (0, .fieldref 18 19), (0, .class_ 20), (0, .nameAndType 21 12), (0, u "com/example/horatius/horatius/Admission"), (0, u "ACCEPTED"), (0, .methodref 8 23), (0, .nameAndType 5 24), (0, u "(Lcom/example/horatius/horatius/Admission;J)V"), (22, u "STALE"), (2, u "Lcom/example/horatius/horatius/WriteOutcome;"), (2, u "accepted"), (0, u "(J)Lcom/example/horatius/horatius/WriteOutcome;"), (0, u "()Lcom/example/horatius/horatius/Admission;"), (0, u "()J")] 5

def k2c0 : Code := { maxStack := 3, maxLocals := 4, code := prog_20_method_1_code, exceptionTable := #[], attributes := #[] }
def k2m0 : Method := { name := "<init>", desc := "(Lcom/example/horatius/horatius/Admission;J)V", sig := { parameters := [(.object "com/example/horatius/horatius/Admission"), .long], returnType := none }, accessFlags := 2, code := some k2c0 }
def k2c1 : Code := { maxStack := 5, maxLocals := 2, code := prog_20_method_2_code, exceptionTable := #[], attributes := #[] }
def k2m1 : Method := { name := "accepted", desc := "(J)Lcom/example/horatius/horatius/WriteOutcome;", sig := { parameters := [.long], returnType := some (.object "com/example/horatius/horatius/WriteOutcome") }, accessFlags := 8, code := some k2c1 }
def k2c2 : Code := { maxStack := 1, maxLocals := 1, code := prog_20_method_3_code, exceptionTable := #[], attributes := #[] }
def k2m2 : Method := { name := "admission", desc := "()Lcom/example/horatius/horatius/Admission;", sig := { parameters := [], returnType := some (.object "com/example/horatius/horatius/Admission") }, accessFlags := 1, code := some k2c2 }
def k2c3 : Code := { maxStack := 2, maxLocals := 1, code := prog_20_method_4_code, exceptionTable := #[], attributes := #[] }
def k2m3 : Method := { name := "updateCount", desc := "()J", sig := { parameters := [], returnType := some .long }, accessFlags := 1, code := some k2c3 }
/-- com/example/horatius/horatius/WriteOutcome -/
def k2 : Class := { plain "com/example/horatius/horatius/WriteOutcome" (some 0) with
  accessFlags := 49
  interfaces := #[]
  cf := some (fileOf pool2 8 #[] #[{ accessFlags := 2, nameIndex := 5, descriptorIndex := 24, attributes := #[] }, { accessFlags := 8, nameIndex := 53, descriptorIndex := 54, attributes := #[] }, { accessFlags := 1, nameIndex := 11, descriptorIndex := 55, attributes := #[] }, { accessFlags := 1, nameIndex := 15, descriptorIndex := 56, attributes := #[] }] 49 2 #[] #[{ accessFlags := 24, nameIndex := 47, descriptorIndex := 50, attributes := #[] }, { accessFlags := 18, nameIndex := 11, descriptorIndex := 12, attributes := #[] }, { accessFlags := 18, nameIndex := 15, descriptorIndex := 16, attributes := #[] }])
  fields := #[{ name := "STALE", type := (.object "com/example/horatius/horatius/WriteOutcome"), accessFlags := 24, slot := 0, constantValue := 0 }, { name := "admission", type := (.object "com/example/horatius/horatius/Admission"), accessFlags := 18, slot := 0, constantValue := 0 }, { name := "updateCount", type := .long, accessFlags := 18, slot := 1, constantValue := 0 }]
  methods := #[k2m0, k2m1, k2m2, k2m3]
  instanceTypes := #[(.object "com/example/horatius/horatius/Admission"), .long]
  staticTypes := #[(.object "com/example/horatius/horatius/WriteOutcome")]
  resolved := Array.replicate 62 none
  statics := none }

def pool3 : Array CpInfo := pool [(1, .class_ 2), (0, u "java/lang/constant/Constable"), (0, .class_ 4), (0, u "java/lang/Object")] 6

/-- java/lang/constant/Constable -/
def k3 : Class := { plain "java/lang/constant/Constable" (some 0) with
  accessFlags := 1537
  interfaces := #[]
  cf := some (fileOf pool3 1 #[] #[] 1537 3 #[] #[])
  fields := #[]
  methods := #[]
  instanceTypes := #[]
  staticTypes := #[]
  resolved := Array.replicate 11 none
  statics := none }

def pool4 : Array CpInfo := pool [(1, .class_ 2), (0, u "java/lang/Comparable"), (0, .class_ 4), (0, u "java/lang/Object")] 7

/-- java/lang/Comparable -/
def k4 : Class := { plain "java/lang/Comparable" (some 0) with
  accessFlags := 1537
  interfaces := #[]
  cf := some (fileOf pool4 1 #[] #[] 1537 3 #[] #[])
  fields := #[]
  methods := #[]
  instanceTypes := #[]
  staticTypes := #[]
  resolved := Array.replicate 12 none
  statics := none }

def pool5 : Array CpInfo := pool [(1, .class_ 2), (0, u "java/io/Serializable"), (0, .class_ 4), (0, u "java/lang/Object")] 2

/-- java/io/Serializable -/
def k5 : Class := { plain "java/io/Serializable" (some 0) with
  accessFlags := 1537
  interfaces := #[]
  cf := some (fileOf pool5 1 #[] #[] 1537 3 #[] #[])
  fields := #[]
  methods := #[]
  instanceTypes := #[]
  staticTypes := #[]
  resolved := Array.replicate 7 none
  statics := none }

def pool6 : Array CpInfo := pool [(2, .class_ 4), (1, u "java/lang/Enum"), (0, u "name"), (0, u "Ljava/lang/String;"), (2, u "ordinal"), (0, u "I"), (1, .class_ 14), (1, u "java/lang/Object"), (4, u "hash"), (86, .class_ 108), (1, u "java/lang/Enum$EnumDesc"), (2, .class_ 112), (0, u "java/lang/constant/Constable"), (0, .class_ 114), (0, u "java/lang/Comparable"), (0, .class_ 116), (0, u "java/io/Serializable")] 87

/-- java/lang/Enum -/
def k6 : Class := { plain "java/lang/Enum" (some 0) with
  accessFlags := 1057
  interfaces := #[3, 4, 5]
  cf := some (fileOf pool6 2 #[.nestMembers #[106]] #[] 1057 12 #[111, 113, 115] #[{ accessFlags := 18, nameIndex := 5, descriptorIndex := 6, attributes := #[] }, { accessFlags := 18, nameIndex := 9, descriptorIndex := 10, attributes := #[] }, { accessFlags := 2, nameIndex := 19, descriptorIndex := 10, attributes := #[] }])
  fields := #[{ name := "name", type := (.object "java/lang/String"), accessFlags := 18, slot := 0, constantValue := 0 }, { name := "ordinal", type := .int, accessFlags := 18, slot := 1, constantValue := 0 }, { name := "hash", type := .int, accessFlags := 2, slot := 2, constantValue := 0 }]
  methods := #[]
  instanceTypes := #[(.object "java/lang/String"), .int, .int]
  staticTypes := #[]
  resolved := Array.replicate 204 none
  statics := none }

def pool7 : Array CpInfo := pool [(1, .class_ 2), (0, u "com/example/horatius/horatius/Admission"), (2, u "ACCEPTED"), (0, u "Lcom/example/horatius/horatius/Admission;"), (2, u "STALE"), (2, u "$VALUES"), (0, u "[Lcom/example/horatius/horatius/Admission;"), (6, .class_ 22), (1, u "java/lang/Enum")] 24

/-- com/example/horatius/horatius/Admission -/
def k7 : Class := { plain "com/example/horatius/horatius/Admission" (some 6) with
  accessFlags := 16433
  interfaces := #[]
  cf := some (fileOf pool7 1 #[] #[] 16433 20 #[] #[{ accessFlags := 16409, nameIndex := 5, descriptorIndex := 6, attributes := #[] }, { accessFlags := 16409, nameIndex := 9, descriptorIndex := 6, attributes := #[] }, { accessFlags := 4122, nameIndex := 12, descriptorIndex := 13, attributes := #[] }])
  fields := #[{ name := "ACCEPTED", type := (.object "com/example/horatius/horatius/Admission"), accessFlags := 16409, slot := 0, constantValue := 0 }, { name := "STALE", type := (.object "com/example/horatius/horatius/Admission"), accessFlags := 16409, slot := 1, constantValue := 0 }, { name := "$VALUES", type := (.array (.object "com/example/horatius/horatius/Admission")), accessFlags := 4122, slot := 2, constantValue := 0 }]
  methods := #[]
  instanceTypes := #[(.object "java/lang/String"), .int, .int]
  staticTypes := #[(.object "com/example/horatius/horatius/Admission"), (.object "com/example/horatius/horatius/Admission"), (.array (.object "com/example/horatius/horatius/Admission"))]
  resolved := Array.replicate 47 none
  statics := some 0 }

def pool8 : Array CpInfo := pool [(1, u "java/lang/Cloneable"), (0, .class_ 1), (0, u "java/lang/Object"), (0, .class_ 3)] 3

/-- java/lang/Cloneable -/
def k8 : Class := { plain "java/lang/Cloneable" (some 0) with
  accessFlags := 1537
  interfaces := #[]
  cf := some (fileOf pool8 2 #[] #[] 1537 4 #[] #[])
  fields := #[]
  methods := #[]
  instanceTypes := #[]
  staticTypes := #[]
  resolved := Array.replicate 8 none
  statics := none }

/-- the primitive byte -/
def k9 : Class := { plain "byte" none with kind := .primitive 'B', accessFlags := 0x411 }
/-- [B -/
def k10 : Class := { plain "[B" (some 0) with kind := .array 9 .byte, interfaces := #[8, 5], accessFlags := 1041 }

/-- the primitive int -/
def k11 : Class := { plain "int" none with kind := .primitive 'I', accessFlags := 0x411 }
/-- [I -/
def k12 : Class := { plain "[I" (some 0) with kind := .array 11 .int, interfaces := #[8, 5], accessFlags := 1041 }

def heap : Heap := #[{ cls := 7, slots := #[.ref 1, .null, .null], vm := .statics 7 },
  { cls := 7, slots := #[.null, .int 0, .int 0], vm := .none }]
def classes : Array Class := #[k0, k1, k2, k3, k4, k5, k6, k7, k8, k9, k10, k11, k12]
def interned : List (Array UInt16 × Addr) := []
def slotsUsed : Nat := 6
def theMethod : MethodId := ⟨1, 1⟩
def args0 : Array Value := #[.long 5, .long 300]
def aboutOver (below : List Frame) : State where
  vm := { classes := classes, interned := interned.toArray }
  heap := heap
  slotsUsed := slotsUsed
  threads := #[{ frames := .invoking theMethod args0 :: below }]
def below0 : List Frame := [.native { method := ⟨0, 0⟩, args := #[] }]
def about1 : State := aboutOver below0
def p0 : Program := .bare "" "" ""
def e0 : Env := launch0.env 0 0 0
theorem w_frames : about1.frames = Frame.invoking theMethod args0 :: below0 := rfl
set_option maxRecDepth 65536 in
theorem w_args : argsFit about1.vm theMethod args0 = true := by decide +kernel
set_option maxRecDepth 65536 in
theorem w_heap : heapFits about1 = true := by decide +kernel
set_option maxRecDepth 65536 in
theorem w_runnable : about1.curStatus? = some .runnable := by decide +kernel
set_option maxRecDepth 65536 in
theorem w_alone : about1.alone = true := by decide +kernel
set_option maxRecDepth 65536 in
theorem w_named : about1.methodNamed? x = some theMethod := by decide +kernel
set_option maxRecDepth 65536 in
theorem w_hears : about1.hears theMethod below0 = true := by decide +kernel
set_option maxRecDepth 65536 in
theorem w_ripe : about1.ripe theMethod args0 below0 = true := by decide +kernel
theorem w_running : about1.status = .running := rfl
set_option maxRecDepth 65536 in
theorem w_room : about1.hasRoom e0.platform room_1 = true :=
  launch0.hasRoom_least _ room_1 (by decide +kernel) (by decide +kernel) (by decide +kernel) (by decide +kernel) (by decide +kernel) (by decide +kernel)
theorem allAtoms_all (ts : List Jvm.Cond) (a : Array Jvm.Value) (st : Jvm.State) : (allAtoms ts).before a st = ts.all (fun c => c.before a st) := by
  induction ts with
  | nil => rfl
  | cons c t ih =>
    show (Jvm.Cond.and c (allAtoms t)).before a st = _
    rw [Jvm.Cond.before_and, ih, List.all_cons]
def words1 : List Jvm.Cond := Jvm.Cond.code x code maxLocals ret :: tables_1
/-- a 'code' word, met by the world's own term for the bytes: nothing is compared byte by byte -/
theorem code_word {y : MethodName} {bytes : ByteArray} {mx : Nat} {rt : Option FieldType} {a : Array Value} {s : State} {m : MethodId} {meth : Method} {c : Code} (h1 : s.methodNamed? y = some m) (h2 : s.vm.method? m = some meth) (h3 : meth.code = some c) (h4 : c.code = bytes)
    (h5 : (c.maxLocals == mx && c.exceptionTable.isEmpty && decide (c.maxStack ≤ mostOperands) && decide (meth.sig.returnType = rt) && !meth.locks && decide (parseMethodDescriptor y.desc = some meth.sig)) = true) : (Jvm.Cond.code y bytes mx rt).before a s = true := by
  simp only [Bool.and_eq_true, beq_iff_eq, Bool.not_eq_true', decide_eq_true_eq] at h5
  obtain ⟨⟨⟨⟨⟨g1, g2⟩, g3⟩, g4⟩, g5⟩, g6⟩ := h5
  simp [Cond.before, Cond.holds, Cond.value, h1, h2, h3, h4, g1, g2, g3, g4, g5, g6]
def isCode : Jvm.Cond → Bool
  | .code _ _ _ _ => true
  | _ => false
theorem all_split {L : List Jvm.Cond} {P : Jvm.Cond → Bool} (h1 : L.all (fun c => isCode c || P c) = true) (h2 : ∀ c ∈ L.filter isCode, P c = true) : L.all P = true := by
  refine List.all_eq_true.mpr fun c hc => ?_
  have h := List.all_eq_true.mp h1 c hc
  rcases Bool.eq_false_or_eq_true (isCode c) with hi | hi
  · exact h2 c (List.mem_filter.mpr ⟨hc, hi⟩)
  · simpa [hi] using h
set_option maxRecDepth 65536 in
theorem w_c0 : (Jvm.Cond.code x code maxLocals ret).before args0 about1 = true := code_word (m := ⟨1, 1⟩) (meth := k1m1) (c := k1c1) (by decide +kernel) rfl rfl rfl (by decide +kernel)
set_option maxRecDepth 65536 in
theorem w_c1 : (Jvm.Cond.code ({ cls := "com/example/horatius/horatius/WriteOutcome", name := "accepted", desc := "(J)Lcom/example/horatius/horatius/WriteOutcome;" } : Jvm.MethodName) prog_20_method_2_code (2 : Nat) (Option.some (Jvm.ClassFile.FieldType.object "com/example/horatius/horatius/WriteOutcome"))).before args0 about1 = true := code_word (m := ⟨2, 1⟩) (meth := k2m1) (c := k2c1) (by decide +kernel) rfl rfl rfl (by decide +kernel)
set_option maxRecDepth 65536 in
theorem w_c2 : (Jvm.Cond.code ({ cls := "com/example/horatius/horatius/WriteOutcome", name := "<init>", desc := "(Lcom/example/horatius/horatius/Admission;J)V" } : Jvm.MethodName) prog_20_method_1_code (4 : Nat) (Option.none : Option Jvm.ClassFile.FieldType)).before args0 about1 = true := code_word (m := ⟨2, 0⟩) (meth := k2m0) (c := k2c0) (by decide +kernel) rfl rfl rfl (by decide +kernel)
set_option maxRecDepth 65536 in
theorem w_c3 : (Jvm.Cond.code ({ cls := "java/lang/Object", name := "<init>", desc := "()V" } : Jvm.MethodName) object_method_1_code (1 : Nat) (Option.none : Option Jvm.ClassFile.FieldType)).before args0 about1 = true := code_word (m := ⟨0, 0⟩) (meth := k0m0) (c := k0c0) (by decide +kernel) rfl rfl rfl (by decide +kernel)
set_option maxRecDepth 65536 in
theorem w_c4 : (Jvm.Cond.code ({ cls := "com/example/horatius/horatius/WriteOutcome", name := "admission", desc := "()Lcom/example/horatius/horatius/Admission;" } : Jvm.MethodName) prog_20_method_3_code (1 : Nat) (Option.some (Jvm.ClassFile.FieldType.object "com/example/horatius/horatius/Admission"))).before args0 about1 = true := code_word (m := ⟨2, 2⟩) (meth := k2m2) (c := k2c2) (by decide +kernel) rfl rfl rfl (by decide +kernel)
set_option maxRecDepth 65536 in
theorem w_c5 : (Jvm.Cond.code ({ cls := "com/example/horatius/horatius/WriteOutcome", name := "updateCount", desc := "()J" } : Jvm.MethodName) prog_20_method_4_code (1 : Nat) (Option.some Jvm.ClassFile.FieldType.long)).before args0 about1 = true := code_word (m := ⟨2, 3⟩) (meth := k2m3) (c := k2c3) (by decide +kernel) rfl rfl rfl (by decide +kernel)
def codes1 : List Jvm.Cond := [Jvm.Cond.code x code maxLocals ret, Jvm.Cond.code ({ cls := "com/example/horatius/horatius/WriteOutcome", name := "accepted", desc := "(J)Lcom/example/horatius/horatius/WriteOutcome;" } : Jvm.MethodName) prog_20_method_2_code (2 : Nat) (Option.some (Jvm.ClassFile.FieldType.object "com/example/horatius/horatius/WriteOutcome")), Jvm.Cond.code ({ cls := "com/example/horatius/horatius/WriteOutcome", name := "<init>", desc := "(Lcom/example/horatius/horatius/Admission;J)V" } : Jvm.MethodName) prog_20_method_1_code (4 : Nat) (Option.none : Option Jvm.ClassFile.FieldType), Jvm.Cond.code ({ cls := "java/lang/Object", name := "<init>", desc := "()V" } : Jvm.MethodName) object_method_1_code (1 : Nat) (Option.none : Option Jvm.ClassFile.FieldType), Jvm.Cond.code ({ cls := "com/example/horatius/horatius/WriteOutcome", name := "admission", desc := "()Lcom/example/horatius/horatius/Admission;" } : Jvm.MethodName) prog_20_method_3_code (1 : Nat) (Option.some (Jvm.ClassFile.FieldType.object "com/example/horatius/horatius/Admission")), Jvm.Cond.code ({ cls := "com/example/horatius/horatius/WriteOutcome", name := "updateCount", desc := "()J" } : Jvm.MethodName) prog_20_method_4_code (1 : Nat) (Option.some Jvm.ClassFile.FieldType.long)]
set_option maxRecDepth 65536 in
theorem codes_eq : words1.filter isCode = codes1 := rfl
theorem w_codes : ∀ c ∈ words1.filter isCode, c.before args0 about1 = true := by
  rw [codes_eq]
  intro c hc
  simp only [codes1, List.mem_cons, List.not_mem_nil, or_false] at hc
  rcases hc with rfl | rfl | rfl | rfl | rfl | rfl
  · exact w_c0
  · exact w_c1
  · exact w_c2
  · exact w_c3
  · exact w_c4
  · exact w_c5
set_option maxRecDepth 65536 in
theorem w_t1 : (words1.take 24).all (fun c => isCode c || c.before args0 about1) = true := by decide +kernel
set_option maxRecDepth 65536 in
theorem w_t2 : (words1.drop 24).all (fun c => isCode c || c.before args0 about1) = true := by decide +kernel
theorem w_tables : (allAtoms (Jvm.Cond.code x code maxLocals ret :: tables_1)).before args0 about1 = true := by
  rw [allAtoms_all]
  show words1.all (fun c => c.before args0 about1) = true
  refine all_split ?_ w_codes
  rw [← List.take_append_drop 24 words1, List.all_append, w_t1, w_t2]
  rfl
set_option maxRecDepth 65536 in
theorem w_case : (Jvm.Cond.and given_1 narrow_1).before args0 about1 = true := by decide +kernel
theorem w_applies : (headSpec (Jvm.Cond.code x code maxLocals ret :: tables_1) room_1).applies x e0.platform about1 = true :=
  (Spec.applies_iff w_frames).mpr ⟨w_running, w_runnable, w_alone, w_named, w_hears, w_ripe, w_room, w_tables⟩
theorem atStart : AtStart classFile x code maxLocals ret World_1 tables_1 room_1 Calls_1 rest_1 Pre_1 launch0 p0 e0 about1 theMethod args0 below0 :=
  ⟨lists_1, trivial, launch0.admits_env _ _ _, launch0.least_env, fairChoices_fair.cas, fairChoices_fair.clock, w_frames, w_args, w_heap, w_applies, trivial, trivial, w_case⟩
end start1
theorem witness_1 : WitnessClaimed_1 := ⟨start1.p0, start1.e0, start1.about1, start1.theMethod, start1.args0, start1.below0, start1.atStart⟩
end Jvm.Pilot.@@N@@
