import JvmDerived
import JvmDerived.Pilot.@@N@@Statement
import JvmDerived.Pilot.@@N@@Code
set_option linter.unusedVariables false
set_option linter.unusedSimpArgs false

namespace Jvm.Pilot.@@N@@
open Jvm Jvm.ClassFile Sem Op Lib Jvm.Free Jvm.Stand Jvm.LawKit Jvm.RoadKit Bundle Jvm.Pilot.@@N@@.Jvm.D
section OwnKit
def Run (tb : Tables) (e : Env) (below : List Frame) (W : Outcome → State → Prop) (T : State) (g : JFrame) : Prop := ∃ s₂ o, Steps tb e below (T.setTop g) s₂ ∧ s₂.status = .running ∧ Ended s₂ below o ∧ W o s₂
abbrev Wd (s : State) (Q : Option Value → Heap → List Loc → Prop) (k n : Nat) : Outcome → State → Prop := fun o U => ∃ v L, o = .returned v ∧ Q v U.heap L ∧ FrameEnd s o U L k n
theorem run_fwd {tb : Tables} {e : Env} {below : List Frame} {W : Outcome → State → Prop} {T T' : State} {g g' : JFrame} (st : ∀ t, Steps tb e below (T'.setTop g') t → Steps tb e below (T.setTop g) t) (h : Run tb e below W T' g') : Run tb e below W T g := by
  obtain ⟨t, o, h1, h2⟩ := h
  exact ⟨t, o, st t h1, h2⟩
variable {p : Program} {l : Launch} {e : Env} {R : Room} {s : State} {m : MethodId} {args : Array Value} {below : List Frame} {meth : Method} {c : Code} {T : State} {locs : List Loc} {cells slots : Nat}
theorem run_ret (X : Stand p l e R s m args below meth c T locs cells slots) (hx : p.tables.exec = Jvm.exec) {pc : Nat} {Ls : Array Slot} {w : Value} {t : FieldType} {i : Instr} {rest : List Value} {Q : Option Value → Heap → List Loc → Prop} {k n : Nat} (hret : meth.sig.returnType = some t) (hlk : meth.locks = false) (hn : narrow t w = w)
    (hi : (i = .ireturn ∧ (t = .int ∨ t = .boolean ∨ t = .byte ∨ t = .char ∨ t = .short) ∧ ∃ z, w = .int z) ∨ (i = .lreturn ∧ t = .long ∧ ∃ z, w = .long z) ∨ (i = .dreturn ∧ t = .double ∧ ∃ z, w = .double z) ∨ (i = .freturn ∧ t = .float ∧ ∃ z, w = .float z) ∨ (i = .areturn ∧ t.isReference = true ∧ w.isRef = true))
    (hd : decode c.code pc = .ok (i, 1)) (hQ : Q (some w) T.heap locs) (hk : cells ≤ k) (hs : slots ≤ n) : Run p.tables e below (Wd s Q k n) T (mkF m pc Ls (w :: rest)) := by
  obtain ⟨fs, hr, hrun, hended, hW, hsame⟩ := X.leave (v := some w) (fun h => by rw [hret] at h; cases h) hlk
  exact ⟨_, _, retOut X hx hret hn hi hd hr, hrun, hended, _, _, rfl, hQ, ⟨_, rfl⟩, hW, hsame.mono hk hs⟩
theorem run_retN (X : Stand p l e R s m args below meth c T locs cells slots) (hx : p.tables.exec = Jvm.exec) {pc : Nat} {Ls : Array Slot} {z : Int32} {t : FieldType} {rest : List Value} {Q : Option Value → Heap → List Loc → Prop} {k n : Nat} (hret : meth.sig.returnType = some t) (hlk : meth.locks = false) (ht : t = .boolean ∨ t = .byte ∨ t = .char ∨ t = .short)
    (hd : decode c.code pc = .ok (.ireturn, 1)) (hQ : Q (some (.int (nar t z))) T.heap locs) (hk : cells ≤ k) (hs : slots ≤ n) : Run p.tables e below (Wd s Q k n) T (mkF m pc Ls (.int z :: rest)) := by
  obtain ⟨fs, hr, hrun, hended, hW, hsame⟩ := X.leave (v := some (.int (nar t z))) (fun h => by rw [hret] at h; cases h) hlk
  exact ⟨_, _, retN X hx hret ht hd hr, hrun, hended, _, _, rfl, hQ, ⟨_, rfl⟩, hW, hsame.mono hk hs⟩
theorem run_ret0 (X : Stand p l e R s m args below meth c T locs cells slots) (hx : p.tables.exec = Jvm.exec) {pc : Nat} {Ls : Array Slot} {Q : Option Value → Heap → List Loc → Prop} {k n : Nat} (hret : meth.sig.returnType = none) (hlk : meth.locks = false)
    (hd : decode c.code pc = .ok (.return_, 1)) (hQ : Q none T.heap locs) (hk : cells ≤ k) (hs : slots ≤ n) : Run p.tables e below (Wd s Q k n) T (mkF m pc Ls []) := by
  obtain ⟨fs, hr, hrun, hended, hW, hsame⟩ := X.leave (v := none) (fun _ => rfl) hlk
  exact ⟨_, _, X.returnOut hx hret hd hr, hrun, hended, _, _, rfl, hQ, ⟨_, rfl⟩, hW, hsame.mono hk hs⟩
abbrev WdW (s : State) (Q : Option Value → Heap → List Loc → Prop) (k n : Nat) : Outcome → State → Prop := fun o U => ∃ v L, o = .returned v ∧ Q v U.heap L ∧ ReturnedEndW s o U L k n
theorem run_retW {vm1 : Vm} {n1 : Nat} (X : Stand p l e R (s.setVm vm1) m args below meth c T locs cells slots) (hx : p.tables.exec = Jvm.exec) (hS : s.Since vm1 n1) (hn1 : n1 ≤ T.heap.size) {pc : Nat} {Ls : Array Slot} {w : Value} {t : FieldType} {i : Instr} {rest : List Value} {Q : Option Value → Heap → List Loc → Prop} {k n : Nat} (hret : meth.sig.returnType = some t) (hlk : meth.locks = false) (hn : narrow t w = w)
    (hi : (i = .ireturn ∧ (t = .int ∨ t = .boolean ∨ t = .byte ∨ t = .char ∨ t = .short) ∧ ∃ z, w = .int z) ∨ (i = .lreturn ∧ t = .long ∧ ∃ z, w = .long z) ∨ (i = .dreturn ∧ t = .double ∧ ∃ z, w = .double z) ∨ (i = .freturn ∧ t = .float ∧ ∃ z, w = .float z) ∨ (i = .areturn ∧ t.isReference = true ∧ w.isRef = true))
    (hd : decode c.code pc = .ok (i, 1)) (hQ : Q (some w) T.heap locs) (hk : cells ≤ k) (hs : slots ≤ n) : Run p.tables e below (WdW s Q k n) T (mkF m pc Ls (w :: rest)) := by
  obtain ⟨fs, hr, hrun, hended, hE⟩ := X.leaveW hS hn1 (v := some w) (fun h => by rw [hret] at h; cases h) hlk
  exact ⟨_, _, retOut X hx hret hn hi hd hr, hrun, hended, _, _, rfl, hQ, hE.1, hE.2.1, hE.2.2.1, hE.2.2.2.mono hk hs⟩
theorem own_le {Z : State} {n0 : Nat} {h : Heap} (O : Old Z n0 h) : n0 ≤ h.size := O.1 ▸ O.2.1
end OwnKit
theorem own_eqint {args : Array Value} {s : State} {t : Term} {k : Int32} (h : (Jvm.Cond.eq t (Term.int k)).value args s none s [] = some true) : t.eval args s none [] s = some (.int k) := by
  simp only [Cond.value, Term.eval] at h
  cases ht : t.eval args s none [] s with
  | none => simp [ht] at h
  | some x => cases x <;> simp [ht] at h ⊢ <;> exact h
theorem own_sta {args : Array Value} {s : State} {C f d K : String} (hx : (Jvm.Cond.exactly (Term.static C f d) K).value args s none s [] = some true) (hi : (Cond.initializedFor C f d).before args s = true ∨ ((Cond.initialized C).before args s = true ∧ (Cond.laysStatic C f d).before args s = true)) : ∃ a, (Term.static C f d).eval args s none [] s = some (.ref a) ∧ Sta s s.heap C f d (.ref a) ∧ Exa s s.heap a K := by
  obtain ⟨a, ha⟩ := exa_v hx
  exact ⟨a, ha, Sta.start ha hi, Exa.start ha hx⟩
theorem own_fld {args : Array Value} {s : State} {t : Term} {C n dd : String} {a : Addr} {k : Int32} (ha : t.eval args s none [] s = some (.ref a)) (hf : (Jvm.Cond.eq (Term.field t C n dd) (Term.int k)).value args s none s [] = some true) : Fld s s.heap a C n dd (.int k) :=
  Fld.start (by have q := own_eqint hf; rw [fld_at ha] at q; exact q)
def own_form (k : Int32) (a b d : Addr) : Addr := if k = 0 then a else if k = 1 then b else d
def own_ext (w : Int32) (x y : Int64) : Int64 := if w = 0 then x * y else x
theorem own_mod (p : Int32) : ((p &&& (2147483647 : Int32)) % (3 : Int32)) = 0 ∨ ((p &&& (2147483647 : Int32)) % (3 : Int32)) = 1 ∨ ((p &&& (2147483647 : Int32)) % (3 : Int32)) = 2 := by
  have h := c_mask p 2147483647 31 (by decide) (by decide)
  have h1 := (c_irem (p &&& (2147483647 : Int32)) 3 3 (by decide)).1 (by rw [h]; omega)
  simp only [← Int32.toInt_inj, h1, show (0 : Int32).toInt = 0 from rfl, show (1 : Int32).toInt = 1 from rfl, show (2 : Int32).toInt = 2 from rfl]
  omega
theorem own_ext_0 (x y : Int64) : own_ext 0 x y = x * y := if_pos rfl
theorem own_ext_1 (x y : Int64) : own_ext 1 x y = x := if_neg (by decide)
theorem own_next (x y : Int64) : x * (y + 1) = x * y + x := by rw [Int64.mul_add, Int64.mul_one]
theorem d2_0 : decode prog_43_method_6_code 0 = .ok (.aload_n 0, 1) := by decide +kernel
theorem d2_1 : decode prog_43_method_6_code 1 = .ok (.getfield 38, 3) := by decide +kernel
theorem d2_4 : decode prog_43_method_6_code 4 = .ok (.ifCond .eq 7, 3) := by decide +kernel
theorem d2_11 : decode prog_43_method_6_code 11 = .ok (.lload_n 1, 1) := by decide +kernel
theorem d2_12 : decode prog_43_method_6_code 12 = .ok (.lload_n 3, 1) := by decide +kernel
theorem d2_13 : decode prog_43_method_6_code 13 = .ok (.lmul, 1) := by decide +kernel
theorem d2_14 : decode prog_43_method_6_code 14 = .ok (.lreturn, 1) := by decide +kernel
theorem d2_7 : decode prog_43_method_6_code 7 = .ok (.lload_n 1, 1) := by decide +kernel
theorem d2_8 : decode prog_43_method_6_code 8 = .ok (.goto 6, 3) := by decide +kernel
theorem pn_com_example_tripletree_tripletree_Triplet_Form : plainName "com/example/tripletree/tripletree/Triplet$Form" = true := by first | (simp [plainName, overriddenIn]; done) | decide +kernel
theorem ef_rm2 (m : MethodId) (x0 : Addr) (x1 : Int64) (x2 : Int64) : entryFrame m #[(.ref x0), (.long x1), (.long x2)] 5 = mkF m 0 #[.val (.ref x0), .val (.long x1), .second, .val (.long x2), .second] [] := by first | (simp [entryFrame, mkF, argsToLocals, Value.category]; done) | rfl
def Qrm2 (Z : State) (a0 : Addr) (q1 : Int64) (q2 : Int64) (w : Int32) (h0 : Heap) (n0 : Nat) (v : Option Value) (h : Heap) (L : List Loc) : Prop := v = some (.long (own_ext w q1 q2)) ∧ Fr n0 L ∧ h = h0
set_option maxRecDepth 65536 in
set_option maxHeartbeats 40000000 in
theorem rm2 (l : Launch) (Z : State) (aV : Array Value) (hw : ∀ d ∈ tables_1, d.before aV Z = true) (ws : List Jvm.Cond) (a0 : Addr) (q1 : Int64) (q2 : Int64) (w : Int32) (h0 : Heap) (n0 : Nat) (O0 : Old Z n0 h0) (OFi0 : Fld Z Z.heap a0 "com/example/tripletree/tripletree/Triplet$Form" "items" "Z" (.int w)) :
    MetFree l (⟨"com/example/tripletree/tripletree/Triplet$Form", "extent", "(JJ)J"⟩ : MethodName) (head1 (Jvm.Cond.code (⟨"com/example/tripletree/tripletree/Triplet$Form", "extent", "(JJ)J"⟩ : MethodName) prog_43_method_6_code 5 (some .long) :: ws) ({ frames := 0, cells := 0, slots := 0, locals := 0 } : Room)) (fun a U => a = #[(.ref a0), (.long q1), (.long q2)] ∧ Z.Warmed39 U.vm ∧ U.heap = h0) (fun _ _ _ _ _ => True) (fun _ U o U' => ∃ v L, o = .returned v ∧ Qrm2 Z a0 q1 q2 w h0 n0 v U'.heap L ∧ FrameEnd U o U' L ({ frames := 0, cells := 0, slots := 0, locals := 0 } : Room).cells ({ frames := 0, cells := 0, slots := 0, locals := 0 } : Room).slots) := by
  refine MetFree.of_bodySF (plainFor_of_name pn_com_example_tripletree_tripletree_Triplet_Form) hisR ?_
  intro p e s m args below meth c s₁ Bd hml0 hP hK
  obtain ⟨rfl, hZ, hh⟩ := hP
  have hx := Bd.exec
  have hby := Bd.bytes
  have hml : c.maxLocals = 5 := hml0
  have hown : s.vm.findClass "com/example/tripletree/tripletree/Triplet$Form" = some m.cls := findClass_of_methodNamed Bd.named
  have hnm := (name_of_methodNamed Bd.named Bd.method).1
  have X0 : Stand p l e ({ frames := 0, cells := 0, slots := 0, locals := 0 } : Room) s m #[(.ref a0), (.long q1), (.long q2)] below meth c s₁ [] 0 0 := Stand.of_body Bd
  have e0 : s₁.heap = h0 := by rw [← hh, Bd.state]; rfl
  have N0 := Fr.nil n0
  show Run p.tables e below (Wd s (Qrm2 Z a0 q1 q2 w h0 n0) ({ frames := 0, cells := 0, slots := 0, locals := 0 } : Room).cells ({ frames := 0, cells := 0, slots := 0, locals := 0 } : Room).slots) s₁ (entryFrame m #[(.ref a0), (.long q1), (.long q2)] 5)
  rw [ef_rm2 m a0 q1 q2]
  refine run_fwd (T' := s₁) (g' := (mkF m 1 #[.val (.ref a0), .val (.long q1), .second, .val (.long q2), .second] [(.ref a0)])) (fun _ k => XS.aloadN X0.here hx rfl (hb hby d2_0) rfl rfl k) ?_
  obtain ⟨T1, X1, e1, st1⟩ := getF X0 hx hZ hown (host := "") (Or.inl (hw _ (List.mem_of_getElem? (i := 13) rfl))) Via.refl e0 (OFi0.ext O0.2) (g := (mkF m 1 #[.val (.ref a0), .val (.long q1), .second, .val (.long q2), .second] [(.ref a0)])) rfl rfl (hb hby d2_1)
  refine run_fwd (T' := T1) (g' := (mkF m 4 #[.val (.ref a0), .val (.long q1), .second, .val (.long q2), .second] [(.int w)])) (fun _ k => st1 _ k) ?_
  by_cases hc4_2 : w = (0 : Int32)
  ·
    refine run_fwd (T' := T1) (g' := (mkF m 11 #[.val (.ref a0), .val (.long q1), .second, .val (.long q2), .second] [])) (fun _ k => XS.ifYes X1.here hx rfl (pc0 := 4) (pc' := 11) rfl (hb hby d2_4) rfl ((if0 _ _).trans (teq hc4_2).1) (by decide) (by decide) k) ?_
    refine run_fwd (T' := T1) (g' := (mkF m 12 #[.val (.ref a0), .val (.long q1), .second, .val (.long q2), .second] [(.long q1)])) (fun _ k => XS.lloadN X1.here hx rfl (hb hby d2_11) rfl k) ?_
    refine run_fwd (T' := T1) (g' := (mkF m 13 #[.val (.ref a0), .val (.long q1), .second, .val (.long q2), .second] [(.long q2), (.long q1)])) (fun _ k => XS.lloadN X1.here hx rfl (hb hby d2_12) rfl k) ?_
    refine run_fwd (T' := T1) (g' := (mkF m 14 #[.val (.ref a0), .val (.long q1), .second, .val (.long q2), .second] [(.long (q1 * q2))])) (fun _ k => XS.lmul X1.here hx rfl (hb hby d2_13) rfl k) ?_
    exact run_ret X1 hx Bd.returns Bd.notSynchronized rfl (Or.inr (Or.inl ⟨rfl, rfl, _, rfl⟩)) (hb hby d2_14) (by rw [e1]; exact ⟨by simp [own_ext, hc4_2], N0, rfl⟩) (by decide) (by decide)
  ·
    refine run_fwd (T' := T1) (g' := (mkF m 7 #[.val (.ref a0), .val (.long q1), .second, .val (.long q2), .second] [])) (fun _ k => XS.ifNo X1.here hx rfl (hb hby d2_4) rfl ((if0 _ _).trans (feq hc4_2).1) k) ?_
    refine run_fwd (T' := T1) (g' := (mkF m 8 #[.val (.ref a0), .val (.long q1), .second, .val (.long q2), .second] [(.long q1)])) (fun _ k => XS.lloadN X1.here hx rfl (hb hby d2_7) rfl k) ?_
    refine run_fwd (T' := T1) (g' := (mkF m 14 #[.val (.ref a0), .val (.long q1), .second, .val (.long q2), .second] [(.long q1)])) (fun _ k => XS.goto X1.here hx rfl (pc0 := 8) (pc' := 14) rfl (hb hby d2_8) (by decide) (by decide) k) ?_
    exact run_ret X1 hx Bd.returns Bd.notSynchronized rfl (Or.inr (Or.inl ⟨rfl, rfl, _, rfl⟩)) (hb hby d2_14) (by rw [e1]; exact ⟨by simp [own_ext, hc4_2], N0, rfl⟩) (by decide) (by decide)
theorem d1_0 : decode method_2_code 0 = .ok (.iload_n 0, 1) := by decide +kernel
theorem d1_1 : decode method_2_code 1 = .ok (.ifCond .ne 7, 3) := by decide +kernel
theorem d1_4 : decode method_2_code 4 = .ok (.getstatic 7, 3) := by decide +kernel
theorem d1_7 : decode method_2_code 7 = .ok (.areturn, 1) := by decide +kernel
theorem d1_8 : decode method_2_code 8 = .ok (.iload_n 0, 1) := by decide +kernel
theorem d1_9 : decode method_2_code 9 = .ok (.iconst 1, 1) := by decide +kernel
theorem d1_10 : decode method_2_code 10 = .ok (.if_icmp .ne 7, 3) := by decide +kernel
theorem d1_13 : decode method_2_code 13 = .ok (.getstatic 13, 3) := by decide +kernel
theorem d1_16 : decode method_2_code 16 = .ok (.areturn, 1) := by decide +kernel
theorem d1_17 : decode method_2_code 17 = .ok (.getstatic 16, 3) := by decide +kernel
theorem d1_20 : decode method_2_code 20 = .ok (.areturn, 1) := by decide +kernel
theorem pn_com_example_tripletree_tripletree_FormExtentPinLaw : plainName "com/example/tripletree/tripletree/FormExtentPinLaw" = true := by first | (simp [plainName, overriddenIn]; done) | decide +kernel
theorem ef_rm1 (m : MethodId) (x0 : Int32) : entryFrame m #[(.int x0)] 1 = mkF m 0 #[.val (.int x0)] [] := by first | (simp [entryFrame, mkF, argsToLocals, Value.category]; done) | rfl
def Qrm1 (Z : State) (p0 : Int32) (u0 : Addr) (u1 : Addr) (u2 : Addr) (r : Addr) (h0 : Heap) (n0 : Nat) (v : Option Value) (h : Heap) (L : List Loc) : Prop := v = some (.ref r) ∧ Fr n0 L ∧ h = h0
set_option maxRecDepth 65536 in
set_option maxHeartbeats 40000000 in
theorem rm1 (l : Launch) (Z : State) (aV : Array Value) (hw : ∀ d ∈ tables_1, d.before aV Z = true) (ws : List Jvm.Cond) (p0 : Int32) (u0 : Addr) (u1 : Addr) (u2 : Addr) (r : Addr) (h0 : Heap) (n0 : Nat) (O0 : Old Z n0 h0) (Si0 : Sta Z Z.heap "com/example/tripletree/tripletree/Triplet$Form" "HALFWORDS" "Lcom/example/tripletree/tripletree/Triplet$Form;" (.ref u0)) (Si1 : Sta Z Z.heap "com/example/tripletree/tripletree/Triplet$Form" "HALFWORDS_ITEMS" "Lcom/example/tripletree/tripletree/Triplet$Form;" (.ref u1)) (Si2 : Sta Z Z.heap "com/example/tripletree/tripletree/Triplet$Form" "FULLWORDS" "Lcom/example/tripletree/tripletree/Triplet$Form;" (.ref u2)) (hr : own_form p0 u0 u1 u2 = r) :
    MetFree l (⟨"com/example/tripletree/tripletree/FormExtentPinLaw", "form", "(I)Lcom/example/tripletree/tripletree/Triplet$Form;"⟩ : MethodName) (head1 (Jvm.Cond.code (⟨"com/example/tripletree/tripletree/FormExtentPinLaw", "form", "(I)Lcom/example/tripletree/tripletree/Triplet$Form;"⟩ : MethodName) method_2_code 1 (some (.object "com/example/tripletree/tripletree/Triplet$Form")) :: ws) ({ frames := 0, cells := 0, slots := 0, locals := 0 } : Room)) (fun a U => a = #[(.int p0)] ∧ Z.Warmed39 U.vm ∧ U.heap = h0) (fun _ _ _ _ _ => True) (fun _ U o U' => ∃ v L, o = .returned v ∧ Qrm1 Z p0 u0 u1 u2 r h0 n0 v U'.heap L ∧ FrameEnd U o U' L ({ frames := 0, cells := 0, slots := 0, locals := 0 } : Room).cells ({ frames := 0, cells := 0, slots := 0, locals := 0 } : Room).slots) := by
  refine MetFree.of_bodySF (plainFor_of_name pn_com_example_tripletree_tripletree_FormExtentPinLaw) hisR ?_
  intro p e s m args below meth c s₁ Bd hml0 hP hK
  obtain ⟨rfl, hZ, hh⟩ := hP
  have hx := Bd.exec
  have hby := Bd.bytes
  have hml : c.maxLocals = 1 := hml0
  have hown : s.vm.findClass "com/example/tripletree/tripletree/FormExtentPinLaw" = some m.cls := findClass_of_methodNamed Bd.named
  have hnm := (name_of_methodNamed Bd.named Bd.method).1
  have X0 : Stand p l e ({ frames := 0, cells := 0, slots := 0, locals := 0 } : Room) s m #[(.int p0)] below meth c s₁ [] 0 0 := Stand.of_body Bd
  have e0 : s₁.heap = h0 := by rw [← hh, Bd.state]; rfl
  have N0 := Fr.nil n0
  show Run p.tables e below (Wd s (Qrm1 Z p0 u0 u1 u2 r h0 n0) ({ frames := 0, cells := 0, slots := 0, locals := 0 } : Room).cells ({ frames := 0, cells := 0, slots := 0, locals := 0 } : Room).slots) s₁ (entryFrame m #[(.int p0)] 1)
  rw [ef_rm1 m p0]
  refine run_fwd (T' := s₁) (g' := (mkF m 1 #[.val (.int p0)] [(.int p0)])) (fun _ k => XS.iloadN X0.here hx rfl (hb hby d1_0) rfl k) ?_
  by_cases hc1_1 : p0 = (0 : Int32)
  ·
    refine run_fwd (T' := s₁) (g' := (mkF m 4 #[.val (.int p0)] [])) (fun _ k => XS.ifNo X0.here hx rfl (hb hby d1_1) rfl ((if0 _ _).trans (teq hc1_1).2) k) ?_
    obtain ⟨T2, X2, e2, st2⟩ := getS2 X0 hx hZ hown (host := "") (Or.inl (hw _ (List.mem_of_getElem? (i := 5) rfl))) Via.refl e0 (Si0.ext O0.2) (g := (mkF m 4 #[.val (.int p0)] [])) rfl (hb hby d1_4)
    refine run_fwd (T' := T2) (g' := (mkF m 7 #[.val (.int p0)] [(.ref u0)])) (fun _ k => st2 _ k) ?_
    exact run_ret X2 hx Bd.returns Bd.notSynchronized rfl (Or.inr (Or.inr (Or.inr (Or.inr ⟨rfl, rfl, rfl⟩)))) (hb hby d1_7) (by rw [e2]; exact ⟨by rw [← hr]; simp [own_form, hc1_1], N0, rfl⟩) (by decide) (by decide)
  ·
    refine run_fwd (T' := s₁) (g' := (mkF m 8 #[.val (.int p0)] [])) (fun _ k => XS.ifYes X0.here hx rfl (pc0 := 1) (pc' := 8) rfl (hb hby d1_1) rfl ((if0 _ _).trans (feq hc1_1).2) (by decide) (by decide) k) ?_
    refine run_fwd (T' := s₁) (g' := (mkF m 9 #[.val (.int p0)] [(.int p0)])) (fun _ k => XS.iloadN X0.here hx rfl (hb hby d1_8) rfl k) ?_
    refine run_fwd (T' := s₁) (g' := (mkF m 10 #[.val (.int p0)] [(.int (1 : Int32)), (.int p0)])) (fun _ k => XS.iconst X0.here hx rfl (hb hby d1_9) k) ?_
    by_cases hc10_3 : p0 = (1 : Int32)
    ·
      refine run_fwd (T' := s₁) (g' := (mkF m 13 #[.val (.int p0)] [])) (fun _ k => XS.icmpNo X0.here hx rfl (hb hby d1_10) rfl (teq hc10_3).2 k) ?_
      obtain ⟨T4, X4, e4, st4⟩ := getS2 X0 hx hZ hown (host := "") (Or.inl (hw _ (List.mem_of_getElem? (i := 15) rfl))) Via.refl e0 (Si1.ext O0.2) (g := (mkF m 13 #[.val (.int p0)] [])) rfl (hb hby d1_13)
      refine run_fwd (T' := T4) (g' := (mkF m 16 #[.val (.int p0)] [(.ref u1)])) (fun _ k => st4 _ k) ?_
      exact run_ret X4 hx Bd.returns Bd.notSynchronized rfl (Or.inr (Or.inr (Or.inr (Or.inr ⟨rfl, rfl, rfl⟩)))) (hb hby d1_16) (by rw [e4]; exact ⟨by rw [← hr]; simp [own_form, hc1_1, hc10_3], N0, rfl⟩) (by decide) (by decide)
    ·
      refine run_fwd (T' := s₁) (g' := (mkF m 17 #[.val (.int p0)] [])) (fun _ k => XS.icmpYes X0.here hx rfl (pc0 := 10) (pc' := 17) rfl (hb hby d1_10) rfl (feq hc10_3).2 (by decide) (by decide) k) ?_
      obtain ⟨T5, X5, e5, st5⟩ := getS2 X0 hx hZ hown (host := "") (Or.inl (hw _ (List.mem_of_getElem? (i := 17) rfl))) Via.refl e0 (Si2.ext O0.2) (g := (mkF m 17 #[.val (.int p0)] [])) rfl (hb hby d1_17)
      refine run_fwd (T' := T5) (g' := (mkF m 20 #[.val (.int p0)] [(.ref u2)])) (fun _ k => st5 _ k) ?_
      exact run_ret X5 hx Bd.returns Bd.notSynchronized rfl (Or.inr (Or.inr (Or.inr (Or.inr ⟨rfl, rfl, rfl⟩)))) (hb hby d1_20) (by rw [e5]; exact ⟨by rw [← hr]; simp [own_form, hc1_1, hc10_3], N0, rfl⟩) (by decide) (by decide)
theorem pd__28I_29Lcom_2fexample_2ftripletree_2ftripletree_2fTriplet_24Form_3b : parseMethodDescriptor "(I)Lcom/example/tripletree/tripletree/Triplet$Form;" = some ⟨[.int], some (.object "com/example/tripletree/tripletree/Triplet$Form")⟩ := by decide +kernel
theorem pd__28JJ_29J : parseMethodDescriptor "(JJ)J" = some ⟨[.long, .long], some .long⟩ := by decide +kernel
theorem ef_rm0 (m : MethodId) (x0 : Int32) (x1 : Int64) (x2 : Int64) : entryFrame m #[(.int x0), (.long x1), (.long x2)] maxLocals = mkF m 0 #[.val (.int x0), .val (.long x1), .second, .val (.long x2), .second, .unset, .unset, .unset, .unset, .unset, .unset, .unset, .unset, .unset, .unset] [] := by first | (simp [entryFrame, mkF, argsToLocals, Value.category, maxLocals]; done) | rfl
def Qrm0 (Z : State) (p0 : Int32) (q1 : Int64) (q2 : Int64) (u0 : Addr) (u1 : Addr) (u2 : Addr) (r : Addr) (w : Int32) (h0 : Heap) (n0 : Nat) (v : Option Value) (h : Heap) (L : List Loc) : Prop := v = some (.int (1 : Int32)) ∧ Fr n0 L
set_option maxRecDepth 65536 in
set_option maxHeartbeats 40000000 in
theorem rm0 (l : Launch) (Z : State) (aV : Array Value) (hw : ∀ d ∈ tables_1, d.before aV Z = true) (ws : List Jvm.Cond) (p0 : Int32) (q1 : Int64) (q2 : Int64) (u0 : Addr) (u1 : Addr) (u2 : Addr) (r : Addr) (w : Int32) (h0 : Heap) (n0 : Nat) (O0 : Old Z n0 h0) (Si0 : Sta Z Z.heap "com/example/tripletree/tripletree/Triplet$Form" "HALFWORDS" "Lcom/example/tripletree/tripletree/Triplet$Form;" (.ref u0)) (Si1 : Sta Z Z.heap "com/example/tripletree/tripletree/Triplet$Form" "HALFWORDS_ITEMS" "Lcom/example/tripletree/tripletree/Triplet$Form;" (.ref u1)) (Si2 : Sta Z Z.heap "com/example/tripletree/tripletree/Triplet$Form" "FULLWORDS" "Lcom/example/tripletree/tripletree/Triplet$Form;" (.ref u2)) (hr : own_form ((p0 &&& (2147483647 : Int32)) % (3 : Int32)) u0 u1 u2 = r) (OEi4 : Exa Z Z.heap r "com/example/tripletree/tripletree/Triplet$Form") (OFi5 : Fld Z Z.heap r "com/example/tripletree/tripletree/Triplet$Form" "items" "Z" (.int w)) (hv : (((p0 &&& (2147483647 : Int32)) % (3 : Int32)) = 1 ∧ w = 1) ∨ (¬ ((p0 &&& (2147483647 : Int32)) % (3 : Int32)) = 1 ∧ w = 0)) :
    MetFree l x (head1 (Jvm.Cond.code x code maxLocals ret :: ws) room_1) (fun a U => a = #[(.int p0), (.long q1), (.long q2)] ∧ Z.Warmed39 U.vm ∧ U.heap = h0) (fun _ _ _ _ _ => True) (fun _ U o U' => ∃ v L, o = .returned v ∧ Qrm0 Z p0 q1 q2 u0 u1 u2 r w h0 n0 v U'.heap L ∧ FrameEnd U o U' L room_1.cells room_1.slots) := by
  refine MetFree.of_bodySF (plainFor_of_name pn_com_example_tripletree_tripletree_FormExtentPinLaw) hisR ?_
  intro p e s m args below meth c s₁ Bd hml0 hP hK
  obtain ⟨rfl, hZ, hh⟩ := hP
  have hx := Bd.exec
  have hby := Bd.bytes
  have hml : c.maxLocals = 15 := hml0
  have hown : s.vm.findClass "com/example/tripletree/tripletree/FormExtentPinLaw" = some m.cls := findClass_of_methodNamed Bd.named
  have hnm := (name_of_methodNamed Bd.named Bd.method).1
  have X0 : Stand p l e room_1 s m #[(.int p0), (.long q1), (.long q2)] below meth c s₁ [] 0 0 := Stand.of_body Bd
  have e0 : s₁.heap = h0 := by rw [← hh, Bd.state]; rfl
  have N0 := Fr.nil n0
  show Run p.tables e below (Wd s (Qrm0 Z p0 q1 q2 u0 u1 u2 r w h0 n0) room_1.cells room_1.slots) s₁ (entryFrame m #[(.int p0), (.long q1), (.long q2)] maxLocals)
  rw [ef_rm0 m p0 q1 q2]
  refine run_fwd (T' := s₁) (g' := (mkF m 1 #[.val (.int p0), .val (.long q1), .second, .val (.long q2), .second, .unset, .unset, .unset, .unset, .unset, .unset, .unset, .unset, .unset, .unset] [(.int p0)])) (fun _ k => XS.iloadN X0.here hx rfl (hb hby at_0) rfl k) ?_
  refine run_fwd (T' := s₁) (g' := (mkF m 3 #[.val (.int p0), .val (.long q1), .second, .val (.long q2), .second, .unset, .unset, .unset, .unset, .unset, .unset, .unset, .unset, .unset, .unset] [(.int (2147483647 : Int32)), (.int p0)])) (fun _ k => X0.ldcInt hx hown (mvT hZ (hw _ (List.mem_of_getElem? (i := 0) rfl))) (g := (mkF m 1 #[.val (.int p0), .val (.long q1), .second, .val (.long q2), .second, .unset, .unset, .unset, .unset, .unset, .unset, .unset, .unset, .unset, .unset] [(.int p0)])) rfl (hb hby at_1) _ k) ?_
  refine run_fwd (T' := s₁) (g' := (mkF m 4 #[.val (.int p0), .val (.long q1), .second, .val (.long q2), .second, .unset, .unset, .unset, .unset, .unset, .unset, .unset, .unset, .unset, .unset] [(.int (p0 &&& (2147483647 : Int32)))])) (fun _ k => XS.iand X0.here hx rfl (hb hby at_3) rfl k) ?_
  refine run_fwd (T' := s₁) (g' := (mkF m 5 #[.val (.int p0), .val (.long q1), .second, .val (.long q2), .second, .unset, .unset, .unset, .unset, .unset, .unset, .unset, .unset, .unset, .unset] [(.int (3 : Int32)), (.int (p0 &&& (2147483647 : Int32)))])) (fun _ k => XS.iconst X0.here hx rfl (hb hby at_4) k) ?_
  refine run_fwd (T' := s₁) (g' := (mkF m 6 #[.val (.int p0), .val (.long q1), .second, .val (.long q2), .second, .unset, .unset, .unset, .unset, .unset, .unset, .unset, .unset, .unset, .unset] [(.int ((p0 &&& (2147483647 : Int32)) % (3 : Int32)))])) (fun _ k => iremM X0 hx rfl (hb hby at_5) rfl (by decide) k) ?_
  refine run_fwd (T' := s₁) (g' := (mkF m 8 #[.val (.int p0), .val (.long q1), .second, .val (.long q2), .second, .val (.int ((p0 &&& (2147483647 : Int32)) % (3 : Int32))), .unset, .unset, .unset, .unset, .unset, .unset, .unset, .unset, .unset] [])) (fun _ k => XS.istore X0.here hx rfl (hb hby at_6) rfl (l' := #[.val (.int p0), .val (.long q1), .second, .val (.long q2), .second, .val (.int ((p0 &&& (2147483647 : Int32)) % (3 : Int32))), .unset, .unset, .unset, .unset, .unset, .unset, .unset, .unset, .unset]) rfl k) ?_
  refine run_fwd (T' := s₁) (g' := (mkF m 10 #[.val (.int p0), .val (.long q1), .second, .val (.long q2), .second, .val (.int ((p0 &&& (2147483647 : Int32)) % (3 : Int32))), .unset, .unset, .unset, .unset, .unset, .unset, .unset, .unset, .unset] [(.int ((p0 &&& (2147483647 : Int32)) % (3 : Int32)))])) (fun _ k => XS.iload X0.here hx rfl (hb hby at_8) rfl k) ?_
  obtain ⟨_, _, ⟨T1, L1, kk1, nn1⟩, -, X1, ⟨Lc1, hQ1, l1, y1, z1⟩, st1⟩ := Jvm.LawKit.callS X0 hx (y := (⟨"com/example/tripletree/tripletree/FormExtentPinLaw", "form", "(I)Lcom/example/tripletree/tripletree/Triplet$Form;"⟩ : MethodName)) hown (mvT hZ (hw _ (List.mem_of_getElem? (i := 1) rfl))) (mvT hZ (hw _ (List.mem_of_getElem? (i := 2) rfl))) (mvT hZ (hw _ (List.mem_of_getElem? (i := 3) rfl))) (mvT hZ (hw _ (List.mem_of_getElem? (i := 4) rfl))) (by decide) (backOf (W := 0) (rm1 l Z aV hw [] ((p0 &&& (2147483647 : Int32)) % (3 : Int32)) u0 u1 u2 r h0 n0 O0 Si0 Si1 Si2 (hr)) hZ (hw _ (List.mem_of_getElem? (i := 4) rfl)) (hw _ (List.mem_of_getElem? (i := 3) rfl)) (by decide) (by decide)) (g := (mkF m 10 #[.val (.int p0), .val (.long q1), .second, .val (.long q2), .second, .val (.int ((p0 &&& (2147483647 : Int32)) % (3 : Int32))), .unset, .unset, .unset, .unset, .unset, .unset, .unset, .unset, .unset] [(.int ((p0 &&& (2147483647 : Int32)) % (3 : Int32)))])) rfl (by rw [hml]; rfl) (argsL := [(.int ((p0 &&& (2147483647 : Int32)) % (3 : Int32)))]) (rest := []) (lenOf pd__28I_29Lcom_2fexample_2ftripletree_2ftripletree_2fTriplet_24Form_3b rfl) rfl (by show 2 * 0 + _ ≤ _; exact Nat.le_of_eq rfl) (hb hby at_10) (fun _ _ => ⟨rfl, e0, (by decide : 0 + 0 ≤ _), (by decide : 0 + 0 ≤ _)⟩)
  dsimp only [Pt.U, Pt.locs, Pt.cells, Pt.slots] at X1 l1 y1 z1 st1 hQ1
  subst l1 y1 z1
  obtain ⟨rfl, N1q, Q1_0⟩ := hQ1
  have N1 := Fr.app N0 N1q
  refine run_fwd (T' := T1) (g' := (mkF m 13 #[.val (.int p0), .val (.long q1), .second, .val (.long q2), .second, .val (.int ((p0 &&& (2147483647 : Int32)) % (3 : Int32))), .unset, .unset, .unset, .unset, .unset, .unset, .unset, .unset, .unset] [(.ref r)])) (fun _ k => st1 _ k) ?_
  refine run_fwd (T' := T1) (g' := (mkF m 15 #[.val (.int p0), .val (.long q1), .second, .val (.long q2), .second, .val (.int ((p0 &&& (2147483647 : Int32)) % (3 : Int32))), .val (.ref r), .unset, .unset, .unset, .unset, .unset, .unset, .unset, .unset] [])) (fun _ k => XS.astore X1.here hx rfl (hb hby at_13) rfl rfl (l' := #[.val (.int p0), .val (.long q1), .second, .val (.long q2), .second, .val (.int ((p0 &&& (2147483647 : Int32)) % (3 : Int32))), .val (.ref r), .unset, .unset, .unset, .unset, .unset, .unset, .unset, .unset]) rfl k) ?_
  refine run_fwd (T' := T1) (g' := (mkF m 17 #[.val (.int p0), .val (.long q1), .second, .val (.long q2), .second, .val (.int ((p0 &&& (2147483647 : Int32)) % (3 : Int32))), .val (.ref r), .unset, .unset, .unset, .unset, .unset, .unset, .unset, .unset] [(.ref r)])) (fun _ k => XS.aload X1.here hx rfl (hb hby at_15) rfl rfl k) ?_
  refine run_fwd (T' := T1) (g' := (mkF m 18 #[.val (.int p0), .val (.long q1), .second, .val (.long q2), .second, .val (.int ((p0 &&& (2147483647 : Int32)) % (3 : Int32))), .val (.ref r), .unset, .unset, .unset, .unset, .unset, .unset, .unset, .unset] [(.long q1), (.ref r)])) (fun _ k => XS.lloadN X1.here hx rfl (hb hby at_17) rfl k) ?_
  refine run_fwd (T' := T1) (g' := (mkF m 19 #[.val (.int p0), .val (.long q1), .second, .val (.long q2), .second, .val (.int ((p0 &&& (2147483647 : Int32)) % (3 : Int32))), .val (.ref r), .unset, .unset, .unset, .unset, .unset, .unset, .unset, .unset] [(.long q2), (.long q1), (.ref r)])) (fun _ k => XS.lloadN X1.here hx rfl (hb hby at_18) rfl k) ?_
  obtain ⟨cq2, kq2, q2a, q2b, q2c⟩ := isOf hZ Q1_0 (OEi4.ext O0.2)
  obtain ⟨_, _, ⟨T2, L2, kk2, nn2⟩, -, X2, ⟨Lc2, hQ2, l2, y2, z2⟩, st2⟩ := X1.virtualBack hx (y := (⟨"com/example/tripletree/tripletree/Triplet$Form", "extent", "(JJ)J"⟩ : MethodName)) (z := (⟨"com/example/tripletree/tripletree/Triplet$Form", "extent", "(JJ)J"⟩ : MethodName)) hown (mvT hZ (hw _ (List.mem_of_getElem? (i := 8) rfl))) (mvT hZ (hw _ (List.mem_of_getElem? (i := 9) rfl))) (notFace_of_selects (args := #[]) (mvT hZ (hw _ (List.mem_of_getElem? (i := 11) rfl)))) (mvT hZ (hw _ (List.mem_of_getElem? (i := 11) rfl))) (mvT hZ (hw _ (List.mem_of_getElem? (i := 10) rfl))) (by decide) (backOf (W := 0) (rm2 l Z aV hw [] r q1 q2 w h0 n0 O0 OFi5) hZ (hw _ (List.mem_of_getElem? (i := 12) rfl)) (hw _ (List.mem_of_getElem? (i := 6) rfl)) (by decide) (by decide)) q2a q2c (g := (mkF m 19 #[.val (.int p0), .val (.long q1), .second, .val (.long q2), .second, .val (.int ((p0 &&& (2147483647 : Int32)) % (3 : Int32))), .val (.ref r), .unset, .unset, .unset, .unset, .unset, .unset, .unset, .unset] [(.long q2), (.long q1), (.ref r)])) rfl (by rw [hml]; rfl) (Steps.refl _) (argsL := [(.long q1), (.long q2)]) (rest := []) (lenOf pd__28JJ_29J rfl) rfl (by show 2 * 0 + _ ≤ _; exact Nat.le_of_eq rfl) (hb hby at_19) (fun _ _ => ⟨rfl, Q1_0, (by decide : 0 + 0 ≤ _), (by decide : 0 + 0 ≤ _)⟩)
  dsimp only [Pt.U, Pt.locs, Pt.cells, Pt.slots] at X2 l2 y2 z2 st2 hQ2
  subst l2 y2 z2
  obtain ⟨rfl, N2q, Q2_0⟩ := hQ2
  have N2 := Fr.app N1 N2q
  refine run_fwd (T' := T2) (g' := (mkF m 22 #[.val (.int p0), .val (.long q1), .second, .val (.long q2), .second, .val (.int ((p0 &&& (2147483647 : Int32)) % (3 : Int32))), .val (.ref r), .unset, .unset, .unset, .unset, .unset, .unset, .unset, .unset] [(.long (own_ext w q1 q2))])) (fun _ k => st2.trans k) ?_
  refine run_fwd (T' := T2) (g' := (mkF m 24 #[.val (.int p0), .val (.long q1), .second, .val (.long q2), .second, .val (.int ((p0 &&& (2147483647 : Int32)) % (3 : Int32))), .val (.ref r), .val (.long (own_ext w q1 q2)), .second, .unset, .unset, .unset, .unset, .unset, .unset] [])) (fun _ k => XS.lstore X2.here hx rfl (hb hby at_22) rfl (l' := #[.val (.int p0), .val (.long q1), .second, .val (.long q2), .second, .val (.int ((p0 &&& (2147483647 : Int32)) % (3 : Int32))), .val (.ref r), .val (.long (own_ext w q1 q2)), .second, .unset, .unset, .unset, .unset, .unset, .unset]) rfl k) ?_
  refine run_fwd (T' := T2) (g' := (mkF m 26 #[.val (.int p0), .val (.long q1), .second, .val (.long q2), .second, .val (.int ((p0 &&& (2147483647 : Int32)) % (3 : Int32))), .val (.ref r), .val (.long (own_ext w q1 q2)), .second, .unset, .unset, .unset, .unset, .unset, .unset] [(.ref r)])) (fun _ k => XS.aload X2.here hx rfl (hb hby at_24) rfl rfl k) ?_
  refine run_fwd (T' := T2) (g' := (mkF m 27 #[.val (.int p0), .val (.long q1), .second, .val (.long q2), .second, .val (.int ((p0 &&& (2147483647 : Int32)) % (3 : Int32))), .val (.ref r), .val (.long (own_ext w q1 q2)), .second, .unset, .unset, .unset, .unset, .unset, .unset] [(.long q1), (.ref r)])) (fun _ k => XS.lloadN X2.here hx rfl (hb hby at_26) rfl k) ?_
  refine run_fwd (T' := T2) (g' := (mkF m 28 #[.val (.int p0), .val (.long q1), .second, .val (.long q2), .second, .val (.int ((p0 &&& (2147483647 : Int32)) % (3 : Int32))), .val (.ref r), .val (.long (own_ext w q1 q2)), .second, .unset, .unset, .unset, .unset, .unset, .unset] [(.long q2), (.long q1), (.ref r)])) (fun _ k => XS.lloadN X2.here hx rfl (hb hby at_27) rfl k) ?_
  refine run_fwd (T' := T2) (g' := (mkF m 29 #[.val (.int p0), .val (.long q1), .second, .val (.long q2), .second, .val (.int ((p0 &&& (2147483647 : Int32)) % (3 : Int32))), .val (.ref r), .val (.long (own_ext w q1 q2)), .second, .unset, .unset, .unset, .unset, .unset, .unset] [(.long (1 : Int64)), (.long q2), (.long q1), (.ref r)])) (fun _ k => XS.lconst X2.here hx rfl (hb hby at_28) k) ?_
  refine run_fwd (T' := T2) (g' := (mkF m 30 #[.val (.int p0), .val (.long q1), .second, .val (.long q2), .second, .val (.int ((p0 &&& (2147483647 : Int32)) % (3 : Int32))), .val (.ref r), .val (.long (own_ext w q1 q2)), .second, .unset, .unset, .unset, .unset, .unset, .unset] [(.long (q2 + (1 : Int64))), (.long q1), (.ref r)])) (fun _ k => XS.ladd X2.here hx rfl (hb hby at_29) rfl k) ?_
  obtain ⟨cq3, kq3, q3a, q3b, q3c⟩ := isOf hZ Q2_0 (OEi4.ext O0.2)
  obtain ⟨_, _, ⟨T3, L3, kk3, nn3⟩, -, X3, ⟨Lc3, hQ3, l3, y3, z3⟩, st3⟩ := X2.virtualBack hx (y := (⟨"com/example/tripletree/tripletree/Triplet$Form", "extent", "(JJ)J"⟩ : MethodName)) (z := (⟨"com/example/tripletree/tripletree/Triplet$Form", "extent", "(JJ)J"⟩ : MethodName)) hown (mvT hZ (hw _ (List.mem_of_getElem? (i := 8) rfl))) (mvT hZ (hw _ (List.mem_of_getElem? (i := 9) rfl))) (notFace_of_selects (args := #[]) (mvT hZ (hw _ (List.mem_of_getElem? (i := 11) rfl)))) (mvT hZ (hw _ (List.mem_of_getElem? (i := 11) rfl))) (mvT hZ (hw _ (List.mem_of_getElem? (i := 10) rfl))) (by decide) (backOf (W := 0) (rm2 l Z aV hw [] r q1 (q2 + (1 : Int64)) w h0 n0 O0 OFi5) hZ (hw _ (List.mem_of_getElem? (i := 12) rfl)) (hw _ (List.mem_of_getElem? (i := 6) rfl)) (by decide) (by decide)) q3a q3c (g := (mkF m 30 #[.val (.int p0), .val (.long q1), .second, .val (.long q2), .second, .val (.int ((p0 &&& (2147483647 : Int32)) % (3 : Int32))), .val (.ref r), .val (.long (own_ext w q1 q2)), .second, .unset, .unset, .unset, .unset, .unset, .unset] [(.long (q2 + (1 : Int64))), (.long q1), (.ref r)])) rfl (by rw [hml]; rfl) (Steps.refl _) (argsL := [(.long q1), (.long (q2 + (1 : Int64)))]) (rest := []) (lenOf pd__28JJ_29J rfl) rfl (by show 2 * 0 + _ ≤ _; exact Nat.le_of_eq rfl) (hb hby at_30) (fun _ _ => ⟨rfl, Q2_0, (by decide : 0 + 0 ≤ _), (by decide : 0 + 0 ≤ _)⟩)
  dsimp only [Pt.U, Pt.locs, Pt.cells, Pt.slots] at X3 l3 y3 z3 st3 hQ3
  subst l3 y3 z3
  obtain ⟨rfl, N3q, Q3_0⟩ := hQ3
  have N3 := Fr.app N2 N3q
  refine run_fwd (T' := T3) (g' := (mkF m 33 #[.val (.int p0), .val (.long q1), .second, .val (.long q2), .second, .val (.int ((p0 &&& (2147483647 : Int32)) % (3 : Int32))), .val (.ref r), .val (.long (own_ext w q1 q2)), .second, .unset, .unset, .unset, .unset, .unset, .unset] [(.long (own_ext w q1 (q2 + (1 : Int64))))])) (fun _ k => st3.trans k) ?_
  refine run_fwd (T' := T3) (g' := (mkF m 35 #[.val (.int p0), .val (.long q1), .second, .val (.long q2), .second, .val (.int ((p0 &&& (2147483647 : Int32)) % (3 : Int32))), .val (.ref r), .val (.long (own_ext w q1 q2)), .second, .val (.long (own_ext w q1 (q2 + (1 : Int64)))), .second, .unset, .unset, .unset, .unset] [])) (fun _ k => XS.lstore X3.here hx rfl (hb hby at_33) rfl (l' := #[.val (.int p0), .val (.long q1), .second, .val (.long q2), .second, .val (.int ((p0 &&& (2147483647 : Int32)) % (3 : Int32))), .val (.ref r), .val (.long (own_ext w q1 q2)), .second, .val (.long (own_ext w q1 (q2 + (1 : Int64)))), .second, .unset, .unset, .unset, .unset]) rfl k) ?_
  refine run_fwd (T' := T3) (g' := (mkF m 37 #[.val (.int p0), .val (.long q1), .second, .val (.long q2), .second, .val (.int ((p0 &&& (2147483647 : Int32)) % (3 : Int32))), .val (.ref r), .val (.long (own_ext w q1 q2)), .second, .val (.long (own_ext w q1 (q2 + (1 : Int64)))), .second, .unset, .unset, .unset, .unset] [(.int ((p0 &&& (2147483647 : Int32)) % (3 : Int32)))])) (fun _ k => XS.iload X3.here hx rfl (hb hby at_35) rfl k) ?_
  refine run_fwd (T' := T3) (g' := (mkF m 38 #[.val (.int p0), .val (.long q1), .second, .val (.long q2), .second, .val (.int ((p0 &&& (2147483647 : Int32)) % (3 : Int32))), .val (.ref r), .val (.long (own_ext w q1 q2)), .second, .val (.long (own_ext w q1 (q2 + (1 : Int64)))), .second, .unset, .unset, .unset, .unset] [(.int (1 : Int32)), (.int ((p0 &&& (2147483647 : Int32)) % (3 : Int32)))])) (fun _ k => XS.iconst X3.here hx rfl (hb hby at_37) k) ?_
  by_cases hc38_4 : ((p0 &&& (2147483647 : Int32)) % (3 : Int32)) = (1 : Int32)
  ·
    refine run_fwd (T' := T3) (g' := (mkF m 41 #[.val (.int p0), .val (.long q1), .second, .val (.long q2), .second, .val (.int ((p0 &&& (2147483647 : Int32)) % (3 : Int32))), .val (.ref r), .val (.long (own_ext w q1 q2)), .second, .val (.long (own_ext w q1 (q2 + (1 : Int64)))), .second, .unset, .unset, .unset, .unset] [])) (fun _ k => XS.icmpNo X3.here hx rfl (hb hby at_38) rfl (teq hc38_4).2 k) ?_
    refine run_fwd (T' := T3) (g' := (mkF m 43 #[.val (.int p0), .val (.long q1), .second, .val (.long q2), .second, .val (.int ((p0 &&& (2147483647 : Int32)) % (3 : Int32))), .val (.ref r), .val (.long (own_ext w q1 q2)), .second, .val (.long (own_ext w q1 (q2 + (1 : Int64)))), .second, .unset, .unset, .unset, .unset] [(.long (own_ext w q1 q2))])) (fun _ k => XS.lload X3.here hx rfl (hb hby at_41) rfl k) ?_
    refine run_fwd (T' := T3) (g' := (mkF m 44 #[.val (.int p0), .val (.long q1), .second, .val (.long q2), .second, .val (.int ((p0 &&& (2147483647 : Int32)) % (3 : Int32))), .val (.ref r), .val (.long (own_ext w q1 q2)), .second, .val (.long (own_ext w q1 (q2 + (1 : Int64)))), .second, .unset, .unset, .unset, .unset] [(.long q1), (.long (own_ext w q1 q2))])) (fun _ k => XS.lloadN X3.here hx rfl (hb hby at_43) rfl k) ?_
    refine run_fwd (T' := T3) (g' := (mkF m 45 #[.val (.int p0), .val (.long q1), .second, .val (.long q2), .second, .val (.int ((p0 &&& (2147483647 : Int32)) % (3 : Int32))), .val (.ref r), .val (.long (own_ext w q1 q2)), .second, .val (.long (own_ext w q1 (q2 + (1 : Int64)))), .second, .unset, .unset, .unset, .unset] [(.int (lcmpW (own_ext w q1 q2) q1))])) (fun _ k => XS.lcmp X3.here hx rfl (hb hby at_44) rfl k) ?_
    have hc45_5 : (own_ext w q1 q2) = q1 := by rw [(hv.elim (fun q => q.2) (fun q => absurd hc38_4 q.1))]; exact own_ext_1 _ _
    refine run_fwd (T' := T3) (g' := (mkF m 48 #[.val (.int p0), .val (.long q1), .second, .val (.long q2), .second, .val (.int ((p0 &&& (2147483647 : Int32)) % (3 : Int32))), .val (.ref r), .val (.long (own_ext w q1 q2)), .second, .val (.long (own_ext w q1 (q2 + (1 : Int64)))), .second, .unset, .unset, .unset, .unset] [])) (fun _ k => XS.ifNo X3.here hx rfl (hb hby at_45) rfl ((if0 _ _).trans (teq ((lw_eq (own_ext w q1 q2) q1).mpr hc45_5)).2) k) ?_
    refine run_fwd (T' := T3) (g' := (mkF m 50 #[.val (.int p0), .val (.long q1), .second, .val (.long q2), .second, .val (.int ((p0 &&& (2147483647 : Int32)) % (3 : Int32))), .val (.ref r), .val (.long (own_ext w q1 q2)), .second, .val (.long (own_ext w q1 (q2 + (1 : Int64)))), .second, .unset, .unset, .unset, .unset] [(.long (own_ext w q1 (q2 + (1 : Int64))))])) (fun _ k => XS.lload X3.here hx rfl (hb hby at_48) rfl k) ?_
    refine run_fwd (T' := T3) (g' := (mkF m 51 #[.val (.int p0), .val (.long q1), .second, .val (.long q2), .second, .val (.int ((p0 &&& (2147483647 : Int32)) % (3 : Int32))), .val (.ref r), .val (.long (own_ext w q1 q2)), .second, .val (.long (own_ext w q1 (q2 + (1 : Int64)))), .second, .unset, .unset, .unset, .unset] [(.long q1), (.long (own_ext w q1 (q2 + (1 : Int64))))])) (fun _ k => XS.lloadN X3.here hx rfl (hb hby at_50) rfl k) ?_
    refine run_fwd (T' := T3) (g' := (mkF m 52 #[.val (.int p0), .val (.long q1), .second, .val (.long q2), .second, .val (.int ((p0 &&& (2147483647 : Int32)) % (3 : Int32))), .val (.ref r), .val (.long (own_ext w q1 q2)), .second, .val (.long (own_ext w q1 (q2 + (1 : Int64)))), .second, .unset, .unset, .unset, .unset] [(.int (lcmpW (own_ext w q1 (q2 + (1 : Int64))) q1))])) (fun _ k => XS.lcmp X3.here hx rfl (hb hby at_51) rfl k) ?_
    have hc52_6 : (own_ext w q1 (q2 + (1 : Int64))) = q1 := by rw [(hv.elim (fun q => q.2) (fun q => absurd hc38_4 q.1))]; exact own_ext_1 _ _
    refine run_fwd (T' := T3) (g' := (mkF m 55 #[.val (.int p0), .val (.long q1), .second, .val (.long q2), .second, .val (.int ((p0 &&& (2147483647 : Int32)) % (3 : Int32))), .val (.ref r), .val (.long (own_ext w q1 q2)), .second, .val (.long (own_ext w q1 (q2 + (1 : Int64)))), .second, .unset, .unset, .unset, .unset] [])) (fun _ k => XS.ifNo X3.here hx rfl (hb hby at_52) rfl ((if0 _ _).trans (teq ((lw_eq (own_ext w q1 (q2 + (1 : Int64))) q1).mpr hc52_6)).2) k) ?_
    refine run_fwd (T' := T3) (g' := (mkF m 56 #[.val (.int p0), .val (.long q1), .second, .val (.long q2), .second, .val (.int ((p0 &&& (2147483647 : Int32)) % (3 : Int32))), .val (.ref r), .val (.long (own_ext w q1 q2)), .second, .val (.long (own_ext w q1 (q2 + (1 : Int64)))), .second, .unset, .unset, .unset, .unset] [(.int (1 : Int32))])) (fun _ k => XS.iconst X3.here hx rfl (hb hby at_55) k) ?_
    refine run_fwd (T' := T3) (g' := (mkF m 60 #[.val (.int p0), .val (.long q1), .second, .val (.long q2), .second, .val (.int ((p0 &&& (2147483647 : Int32)) % (3 : Int32))), .val (.ref r), .val (.long (own_ext w q1 q2)), .second, .val (.long (own_ext w q1 (q2 + (1 : Int64)))), .second, .unset, .unset, .unset, .unset] [(.int (1 : Int32))])) (fun _ k => XS.goto X3.here hx rfl (pc0 := 56) (pc' := 60) rfl (hb hby at_56) (by decide) (by decide) k) ?_
    exact run_ret X3 hx Bd.returns Bd.notSynchronized rfl (Or.inl ⟨rfl, by simp, _, rfl⟩) (hb hby at_60) (by rw [Q3_0]; exact ⟨rfl, N3⟩) (by decide) (by decide)
  ·
    refine run_fwd (T' := T3) (g' := (mkF m 61 #[.val (.int p0), .val (.long q1), .second, .val (.long q2), .second, .val (.int ((p0 &&& (2147483647 : Int32)) % (3 : Int32))), .val (.ref r), .val (.long (own_ext w q1 q2)), .second, .val (.long (own_ext w q1 (q2 + (1 : Int64)))), .second, .unset, .unset, .unset, .unset] [])) (fun _ k => XS.icmpYes X3.here hx rfl (pc0 := 38) (pc' := 61) rfl (hb hby at_38) rfl (feq hc38_4).2 (by decide) (by decide) k) ?_
    refine run_fwd (T' := T3) (g' := (mkF m 63 #[.val (.int p0), .val (.long q1), .second, .val (.long q2), .second, .val (.int ((p0 &&& (2147483647 : Int32)) % (3 : Int32))), .val (.ref r), .val (.long (own_ext w q1 q2)), .second, .val (.long (own_ext w q1 (q2 + (1 : Int64)))), .second, .unset, .unset, .unset, .unset] [(.ref r)])) (fun _ k => XS.aload X3.here hx rfl (hb hby at_61) rfl rfl k) ?_
    refine run_fwd (T' := T3) (g' := (mkF m 64 #[.val (.int p0), .val (.long q1), .second, .val (.long q2), .second, .val (.int ((p0 &&& (2147483647 : Int32)) % (3 : Int32))), .val (.ref r), .val (.long (own_ext w q1 q2)), .second, .val (.long (own_ext w q1 (q2 + (1 : Int64)))), .second, .unset, .unset, .unset, .unset] [(.long q1), (.ref r)])) (fun _ k => XS.lloadN X3.here hx rfl (hb hby at_63) rfl k) ?_
    refine run_fwd (T' := T3) (g' := (mkF m 65 #[.val (.int p0), .val (.long q1), .second, .val (.long q2), .second, .val (.int ((p0 &&& (2147483647 : Int32)) % (3 : Int32))), .val (.ref r), .val (.long (own_ext w q1 q2)), .second, .val (.long (own_ext w q1 (q2 + (1 : Int64)))), .second, .unset, .unset, .unset, .unset] [(.long (0 : Int64)), (.long q1), (.ref r)])) (fun _ k => XS.lconst X3.here hx rfl (hb hby at_64) k) ?_
    obtain ⟨cq7, kq7, q7a, q7b, q7c⟩ := isOf hZ Q3_0 (OEi4.ext O0.2)
    obtain ⟨_, _, ⟨T7, L7, kk7, nn7⟩, -, X7, ⟨Lc7, hQ7, l7, y7, z7⟩, st7⟩ := X3.virtualBack hx (y := (⟨"com/example/tripletree/tripletree/Triplet$Form", "extent", "(JJ)J"⟩ : MethodName)) (z := (⟨"com/example/tripletree/tripletree/Triplet$Form", "extent", "(JJ)J"⟩ : MethodName)) hown (mvT hZ (hw _ (List.mem_of_getElem? (i := 8) rfl))) (mvT hZ (hw _ (List.mem_of_getElem? (i := 9) rfl))) (notFace_of_selects (args := #[]) (mvT hZ (hw _ (List.mem_of_getElem? (i := 11) rfl)))) (mvT hZ (hw _ (List.mem_of_getElem? (i := 11) rfl))) (mvT hZ (hw _ (List.mem_of_getElem? (i := 10) rfl))) (by decide) (backOf (W := 0) (rm2 l Z aV hw [] r q1 (0 : Int64) w h0 n0 O0 OFi5) hZ (hw _ (List.mem_of_getElem? (i := 12) rfl)) (hw _ (List.mem_of_getElem? (i := 6) rfl)) (by decide) (by decide)) q7a q7c (g := (mkF m 65 #[.val (.int p0), .val (.long q1), .second, .val (.long q2), .second, .val (.int ((p0 &&& (2147483647 : Int32)) % (3 : Int32))), .val (.ref r), .val (.long (own_ext w q1 q2)), .second, .val (.long (own_ext w q1 (q2 + (1 : Int64)))), .second, .unset, .unset, .unset, .unset] [(.long (0 : Int64)), (.long q1), (.ref r)])) rfl (by rw [hml]; rfl) (Steps.refl _) (argsL := [(.long q1), (.long (0 : Int64))]) (rest := []) (lenOf pd__28JJ_29J rfl) rfl (by show 2 * 0 + _ ≤ _; exact Nat.le_of_eq rfl) (hb hby at_65) (fun _ _ => ⟨rfl, Q3_0, (by decide : 0 + 0 ≤ _), (by decide : 0 + 0 ≤ _)⟩)
    dsimp only [Pt.U, Pt.locs, Pt.cells, Pt.slots] at X7 l7 y7 z7 st7 hQ7
    subst l7 y7 z7
    obtain ⟨rfl, N7q, Q7_0⟩ := hQ7
    have N7 := Fr.app N3 N7q
    refine run_fwd (T' := T7) (g' := (mkF m 68 #[.val (.int p0), .val (.long q1), .second, .val (.long q2), .second, .val (.int ((p0 &&& (2147483647 : Int32)) % (3 : Int32))), .val (.ref r), .val (.long (own_ext w q1 q2)), .second, .val (.long (own_ext w q1 (q2 + (1 : Int64)))), .second, .unset, .unset, .unset, .unset] [(.long (own_ext w q1 (0 : Int64)))])) (fun _ k => st7.trans k) ?_
    refine run_fwd (T' := T7) (g' := (mkF m 70 #[.val (.int p0), .val (.long q1), .second, .val (.long q2), .second, .val (.int ((p0 &&& (2147483647 : Int32)) % (3 : Int32))), .val (.ref r), .val (.long (own_ext w q1 q2)), .second, .val (.long (own_ext w q1 (q2 + (1 : Int64)))), .second, .val (.long (own_ext w q1 (0 : Int64))), .second, .unset, .unset] [])) (fun _ k => XS.lstore X7.here hx rfl (hb hby at_68) rfl (l' := #[.val (.int p0), .val (.long q1), .second, .val (.long q2), .second, .val (.int ((p0 &&& (2147483647 : Int32)) % (3 : Int32))), .val (.ref r), .val (.long (own_ext w q1 q2)), .second, .val (.long (own_ext w q1 (q2 + (1 : Int64)))), .second, .val (.long (own_ext w q1 (0 : Int64))), .second, .unset, .unset]) rfl k) ?_
    refine run_fwd (T' := T7) (g' := (mkF m 72 #[.val (.int p0), .val (.long q1), .second, .val (.long q2), .second, .val (.int ((p0 &&& (2147483647 : Int32)) % (3 : Int32))), .val (.ref r), .val (.long (own_ext w q1 q2)), .second, .val (.long (own_ext w q1 (q2 + (1 : Int64)))), .second, .val (.long (own_ext w q1 (0 : Int64))), .second, .unset, .unset] [(.ref r)])) (fun _ k => XS.aload X7.here hx rfl (hb hby at_70) rfl rfl k) ?_
    refine run_fwd (T' := T7) (g' := (mkF m 73 #[.val (.int p0), .val (.long q1), .second, .val (.long q2), .second, .val (.int ((p0 &&& (2147483647 : Int32)) % (3 : Int32))), .val (.ref r), .val (.long (own_ext w q1 q2)), .second, .val (.long (own_ext w q1 (q2 + (1 : Int64)))), .second, .val (.long (own_ext w q1 (0 : Int64))), .second, .unset, .unset] [(.long q2), (.ref r)])) (fun _ k => XS.lloadN X7.here hx rfl (hb hby at_72) rfl k) ?_
    refine run_fwd (T' := T7) (g' := (mkF m 74 #[.val (.int p0), .val (.long q1), .second, .val (.long q2), .second, .val (.int ((p0 &&& (2147483647 : Int32)) % (3 : Int32))), .val (.ref r), .val (.long (own_ext w q1 q2)), .second, .val (.long (own_ext w q1 (q2 + (1 : Int64)))), .second, .val (.long (own_ext w q1 (0 : Int64))), .second, .unset, .unset] [(.long q1), (.long q2), (.ref r)])) (fun _ k => XS.lloadN X7.here hx rfl (hb hby at_73) rfl k) ?_
    obtain ⟨cq8, kq8, q8a, q8b, q8c⟩ := isOf hZ Q7_0 (OEi4.ext O0.2)
    obtain ⟨_, _, ⟨T8, L8, kk8, nn8⟩, -, X8, ⟨Lc8, hQ8, l8, y8, z8⟩, st8⟩ := X7.virtualBack hx (y := (⟨"com/example/tripletree/tripletree/Triplet$Form", "extent", "(JJ)J"⟩ : MethodName)) (z := (⟨"com/example/tripletree/tripletree/Triplet$Form", "extent", "(JJ)J"⟩ : MethodName)) hown (mvT hZ (hw _ (List.mem_of_getElem? (i := 8) rfl))) (mvT hZ (hw _ (List.mem_of_getElem? (i := 9) rfl))) (notFace_of_selects (args := #[]) (mvT hZ (hw _ (List.mem_of_getElem? (i := 11) rfl)))) (mvT hZ (hw _ (List.mem_of_getElem? (i := 11) rfl))) (mvT hZ (hw _ (List.mem_of_getElem? (i := 10) rfl))) (by decide) (backOf (W := 0) (rm2 l Z aV hw [] r q2 q1 w h0 n0 O0 OFi5) hZ (hw _ (List.mem_of_getElem? (i := 12) rfl)) (hw _ (List.mem_of_getElem? (i := 6) rfl)) (by decide) (by decide)) q8a q8c (g := (mkF m 74 #[.val (.int p0), .val (.long q1), .second, .val (.long q2), .second, .val (.int ((p0 &&& (2147483647 : Int32)) % (3 : Int32))), .val (.ref r), .val (.long (own_ext w q1 q2)), .second, .val (.long (own_ext w q1 (q2 + (1 : Int64)))), .second, .val (.long (own_ext w q1 (0 : Int64))), .second, .unset, .unset] [(.long q1), (.long q2), (.ref r)])) rfl (by rw [hml]; rfl) (Steps.refl _) (argsL := [(.long q2), (.long q1)]) (rest := []) (lenOf pd__28JJ_29J rfl) rfl (by show 2 * 0 + _ ≤ _; exact Nat.le_of_eq rfl) (hb hby at_74) (fun _ _ => ⟨rfl, Q7_0, (by decide : 0 + 0 ≤ _), (by decide : 0 + 0 ≤ _)⟩)
    dsimp only [Pt.U, Pt.locs, Pt.cells, Pt.slots] at X8 l8 y8 z8 st8 hQ8
    subst l8 y8 z8
    obtain ⟨rfl, N8q, Q8_0⟩ := hQ8
    have N8 := Fr.app N7 N8q
    refine run_fwd (T' := T8) (g' := (mkF m 77 #[.val (.int p0), .val (.long q1), .second, .val (.long q2), .second, .val (.int ((p0 &&& (2147483647 : Int32)) % (3 : Int32))), .val (.ref r), .val (.long (own_ext w q1 q2)), .second, .val (.long (own_ext w q1 (q2 + (1 : Int64)))), .second, .val (.long (own_ext w q1 (0 : Int64))), .second, .unset, .unset] [(.long (own_ext w q2 q1))])) (fun _ k => st8.trans k) ?_
    refine run_fwd (T' := T8) (g' := (mkF m 79 #[.val (.int p0), .val (.long q1), .second, .val (.long q2), .second, .val (.int ((p0 &&& (2147483647 : Int32)) % (3 : Int32))), .val (.ref r), .val (.long (own_ext w q1 q2)), .second, .val (.long (own_ext w q1 (q2 + (1 : Int64)))), .second, .val (.long (own_ext w q1 (0 : Int64))), .second, .val (.long (own_ext w q2 q1)), .second] [])) (fun _ k => XS.lstore X8.here hx rfl (hb hby at_77) rfl (l' := #[.val (.int p0), .val (.long q1), .second, .val (.long q2), .second, .val (.int ((p0 &&& (2147483647 : Int32)) % (3 : Int32))), .val (.ref r), .val (.long (own_ext w q1 q2)), .second, .val (.long (own_ext w q1 (q2 + (1 : Int64)))), .second, .val (.long (own_ext w q1 (0 : Int64))), .second, .val (.long (own_ext w q2 q1)), .second]) rfl k) ?_
    refine run_fwd (T' := T8) (g' := (mkF m 81 #[.val (.int p0), .val (.long q1), .second, .val (.long q2), .second, .val (.int ((p0 &&& (2147483647 : Int32)) % (3 : Int32))), .val (.ref r), .val (.long (own_ext w q1 q2)), .second, .val (.long (own_ext w q1 (q2 + (1 : Int64)))), .second, .val (.long (own_ext w q1 (0 : Int64))), .second, .val (.long (own_ext w q2 q1)), .second] [(.long (own_ext w q1 (0 : Int64)))])) (fun _ k => XS.lload X8.here hx rfl (hb hby at_79) rfl k) ?_
    refine run_fwd (T' := T8) (g' := (mkF m 82 #[.val (.int p0), .val (.long q1), .second, .val (.long q2), .second, .val (.int ((p0 &&& (2147483647 : Int32)) % (3 : Int32))), .val (.ref r), .val (.long (own_ext w q1 q2)), .second, .val (.long (own_ext w q1 (q2 + (1 : Int64)))), .second, .val (.long (own_ext w q1 (0 : Int64))), .second, .val (.long (own_ext w q2 q1)), .second] [(.long (0 : Int64)), (.long (own_ext w q1 (0 : Int64)))])) (fun _ k => XS.lconst X8.here hx rfl (hb hby at_81) k) ?_
    refine run_fwd (T' := T8) (g' := (mkF m 83 #[.val (.int p0), .val (.long q1), .second, .val (.long q2), .second, .val (.int ((p0 &&& (2147483647 : Int32)) % (3 : Int32))), .val (.ref r), .val (.long (own_ext w q1 q2)), .second, .val (.long (own_ext w q1 (q2 + (1 : Int64)))), .second, .val (.long (own_ext w q1 (0 : Int64))), .second, .val (.long (own_ext w q2 q1)), .second] [(.int (lcmpW (own_ext w q1 (0 : Int64)) (0 : Int64)))])) (fun _ k => XS.lcmp X8.here hx rfl (hb hby at_82) rfl k) ?_
    have hc83_9 : (own_ext w q1 (0 : Int64)) = (0 : Int64) := by rw [(hv.elim (fun q => absurd q.1 hc38_4) (fun q => q.2)), own_ext_0]; exact Int64.mul_zero
    refine run_fwd (T' := T8) (g' := (mkF m 86 #[.val (.int p0), .val (.long q1), .second, .val (.long q2), .second, .val (.int ((p0 &&& (2147483647 : Int32)) % (3 : Int32))), .val (.ref r), .val (.long (own_ext w q1 q2)), .second, .val (.long (own_ext w q1 (q2 + (1 : Int64)))), .second, .val (.long (own_ext w q1 (0 : Int64))), .second, .val (.long (own_ext w q2 q1)), .second] [])) (fun _ k => XS.ifNo X8.here hx rfl (hb hby at_83) rfl ((if0 _ _).trans (teq ((lw_eq (own_ext w q1 (0 : Int64)) (0 : Int64)).mpr hc83_9)).2) k) ?_
    refine run_fwd (T' := T8) (g' := (mkF m 88 #[.val (.int p0), .val (.long q1), .second, .val (.long q2), .second, .val (.int ((p0 &&& (2147483647 : Int32)) % (3 : Int32))), .val (.ref r), .val (.long (own_ext w q1 q2)), .second, .val (.long (own_ext w q1 (q2 + (1 : Int64)))), .second, .val (.long (own_ext w q1 (0 : Int64))), .second, .val (.long (own_ext w q2 q1)), .second] [(.long (own_ext w q1 (q2 + (1 : Int64))))])) (fun _ k => XS.lload X8.here hx rfl (hb hby at_86) rfl k) ?_
    refine run_fwd (T' := T8) (g' := (mkF m 90 #[.val (.int p0), .val (.long q1), .second, .val (.long q2), .second, .val (.int ((p0 &&& (2147483647 : Int32)) % (3 : Int32))), .val (.ref r), .val (.long (own_ext w q1 q2)), .second, .val (.long (own_ext w q1 (q2 + (1 : Int64)))), .second, .val (.long (own_ext w q1 (0 : Int64))), .second, .val (.long (own_ext w q2 q1)), .second] [(.long (own_ext w q1 q2)), (.long (own_ext w q1 (q2 + (1 : Int64))))])) (fun _ k => XS.lload X8.here hx rfl (hb hby at_88) rfl k) ?_
    refine run_fwd (T' := T8) (g' := (mkF m 91 #[.val (.int p0), .val (.long q1), .second, .val (.long q2), .second, .val (.int ((p0 &&& (2147483647 : Int32)) % (3 : Int32))), .val (.ref r), .val (.long (own_ext w q1 q2)), .second, .val (.long (own_ext w q1 (q2 + (1 : Int64)))), .second, .val (.long (own_ext w q1 (0 : Int64))), .second, .val (.long (own_ext w q2 q1)), .second] [(.long q1), (.long (own_ext w q1 q2)), (.long (own_ext w q1 (q2 + (1 : Int64))))])) (fun _ k => XS.lloadN X8.here hx rfl (hb hby at_90) rfl k) ?_
    refine run_fwd (T' := T8) (g' := (mkF m 92 #[.val (.int p0), .val (.long q1), .second, .val (.long q2), .second, .val (.int ((p0 &&& (2147483647 : Int32)) % (3 : Int32))), .val (.ref r), .val (.long (own_ext w q1 q2)), .second, .val (.long (own_ext w q1 (q2 + (1 : Int64)))), .second, .val (.long (own_ext w q1 (0 : Int64))), .second, .val (.long (own_ext w q2 q1)), .second] [(.long ((own_ext w q1 q2) + q1)), (.long (own_ext w q1 (q2 + (1 : Int64))))])) (fun _ k => XS.ladd X8.here hx rfl (hb hby at_91) rfl k) ?_
    refine run_fwd (T' := T8) (g' := (mkF m 93 #[.val (.int p0), .val (.long q1), .second, .val (.long q2), .second, .val (.int ((p0 &&& (2147483647 : Int32)) % (3 : Int32))), .val (.ref r), .val (.long (own_ext w q1 q2)), .second, .val (.long (own_ext w q1 (q2 + (1 : Int64)))), .second, .val (.long (own_ext w q1 (0 : Int64))), .second, .val (.long (own_ext w q2 q1)), .second] [(.int (lcmpW (own_ext w q1 (q2 + (1 : Int64))) ((own_ext w q1 q2) + q1)))])) (fun _ k => XS.lcmp X8.here hx rfl (hb hby at_92) rfl k) ?_
    have hc93_10 : (own_ext w q1 (q2 + (1 : Int64))) = ((own_ext w q1 q2) + q1) := by rw [(hv.elim (fun q => absurd q.1 hc38_4) (fun q => q.2))]; simp only [own_ext_0]; exact own_next _ _
    refine run_fwd (T' := T8) (g' := (mkF m 96 #[.val (.int p0), .val (.long q1), .second, .val (.long q2), .second, .val (.int ((p0 &&& (2147483647 : Int32)) % (3 : Int32))), .val (.ref r), .val (.long (own_ext w q1 q2)), .second, .val (.long (own_ext w q1 (q2 + (1 : Int64)))), .second, .val (.long (own_ext w q1 (0 : Int64))), .second, .val (.long (own_ext w q2 q1)), .second] [])) (fun _ k => XS.ifNo X8.here hx rfl (hb hby at_93) rfl ((if0 _ _).trans (teq ((lw_eq (own_ext w q1 (q2 + (1 : Int64))) ((own_ext w q1 q2) + q1)).mpr hc93_10)).2) k) ?_
    refine run_fwd (T' := T8) (g' := (mkF m 98 #[.val (.int p0), .val (.long q1), .second, .val (.long q2), .second, .val (.int ((p0 &&& (2147483647 : Int32)) % (3 : Int32))), .val (.ref r), .val (.long (own_ext w q1 q2)), .second, .val (.long (own_ext w q1 (q2 + (1 : Int64)))), .second, .val (.long (own_ext w q1 (0 : Int64))), .second, .val (.long (own_ext w q2 q1)), .second] [(.long (own_ext w q2 q1))])) (fun _ k => XS.lload X8.here hx rfl (hb hby at_96) rfl k) ?_
    refine run_fwd (T' := T8) (g' := (mkF m 100 #[.val (.int p0), .val (.long q1), .second, .val (.long q2), .second, .val (.int ((p0 &&& (2147483647 : Int32)) % (3 : Int32))), .val (.ref r), .val (.long (own_ext w q1 q2)), .second, .val (.long (own_ext w q1 (q2 + (1 : Int64)))), .second, .val (.long (own_ext w q1 (0 : Int64))), .second, .val (.long (own_ext w q2 q1)), .second] [(.long (own_ext w q1 q2)), (.long (own_ext w q2 q1))])) (fun _ k => XS.lload X8.here hx rfl (hb hby at_98) rfl k) ?_
    refine run_fwd (T' := T8) (g' := (mkF m 101 #[.val (.int p0), .val (.long q1), .second, .val (.long q2), .second, .val (.int ((p0 &&& (2147483647 : Int32)) % (3 : Int32))), .val (.ref r), .val (.long (own_ext w q1 q2)), .second, .val (.long (own_ext w q1 (q2 + (1 : Int64)))), .second, .val (.long (own_ext w q1 (0 : Int64))), .second, .val (.long (own_ext w q2 q1)), .second] [(.int (lcmpW (own_ext w q2 q1) (own_ext w q1 q2)))])) (fun _ k => XS.lcmp X8.here hx rfl (hb hby at_100) rfl k) ?_
    have hc101_11 : (own_ext w q2 q1) = (own_ext w q1 q2) := by rw [(hv.elim (fun q => absurd q.1 hc38_4) (fun q => q.2))]; simp only [own_ext_0]; exact Int64.mul_comm _ _
    refine run_fwd (T' := T8) (g' := (mkF m 104 #[.val (.int p0), .val (.long q1), .second, .val (.long q2), .second, .val (.int ((p0 &&& (2147483647 : Int32)) % (3 : Int32))), .val (.ref r), .val (.long (own_ext w q1 q2)), .second, .val (.long (own_ext w q1 (q2 + (1 : Int64)))), .second, .val (.long (own_ext w q1 (0 : Int64))), .second, .val (.long (own_ext w q2 q1)), .second] [])) (fun _ k => XS.ifNo X8.here hx rfl (hb hby at_101) rfl ((if0 _ _).trans (teq ((lw_eq (own_ext w q2 q1) (own_ext w q1 q2)).mpr hc101_11)).2) k) ?_
    refine run_fwd (T' := T8) (g' := (mkF m 105 #[.val (.int p0), .val (.long q1), .second, .val (.long q2), .second, .val (.int ((p0 &&& (2147483647 : Int32)) % (3 : Int32))), .val (.ref r), .val (.long (own_ext w q1 q2)), .second, .val (.long (own_ext w q1 (q2 + (1 : Int64)))), .second, .val (.long (own_ext w q1 (0 : Int64))), .second, .val (.long (own_ext w q2 q1)), .second] [(.int (1 : Int32))])) (fun _ k => XS.iconst X8.here hx rfl (hb hby at_104) k) ?_
    refine run_fwd (T' := T8) (g' := (mkF m 109 #[.val (.int p0), .val (.long q1), .second, .val (.long q2), .second, .val (.int ((p0 &&& (2147483647 : Int32)) % (3 : Int32))), .val (.ref r), .val (.long (own_ext w q1 q2)), .second, .val (.long (own_ext w q1 (q2 + (1 : Int64)))), .second, .val (.long (own_ext w q1 (0 : Int64))), .second, .val (.long (own_ext w q2 q1)), .second] [(.int (1 : Int32))])) (fun _ k => XS.goto X8.here hx rfl (pc0 := 105) (pc' := 109) rfl (hb hby at_105) (by decide) (by decide) k) ?_
    exact run_ret X8 hx Bd.returns Bd.notSynchronized rfl (Or.inl ⟨rfl, by simp, _, rfl⟩) (hb hby at_109) (by rw [Q8_0]; exact ⟨rfl, N8⟩) (by decide) (by decide)
set_option maxRecDepth 65536 in
set_option maxHeartbeats 40000000 in
theorem comes_1 {Post : Tables → Env → Array Value → State → Outcome → State → Prop} (hpost : ∀ tb e args s v u, (limb_1_1.after args s (.returned v) u = true ∧ limb_1_2.after args s (.returned v) u = true ∧ True) → FrameEnd s (.returned v) u (Jvm.fieldLocs frame_1_writes args s ++ Jvm.arrayLocs frame_1_arrays args s ++ Jvm.staticLocs frame_1_statics s) 0 0 → Post tb e args s (.returned v) u) :
    ArmFor flags0 classFile x code maxLocals ret World_1 tables_1 room_1 Calls_1 rest_1 Pre_1 Post := by
  intro l hfl _ _ p e ha hc hk s m args below hf hA hF happ hP
  obtain ⟨hcalls, hrest, hpre⟩ := hP
  obtain ⟨-, -, -, hnamed, -, -, -, hat⟩ := (Spec.applies_iff hf).mp happ
  obtain ⟨hg, hn⟩ := and_e (Cond.before_iff.mp (show (Jvm.Cond.and given_1 narrow_1).before args s = true from hpre))
  obtain ⟨g1, g2⟩ := and_e hg
  obtain ⟨g3, g4⟩ := and_e g2
  obtain ⟨g5, g6⟩ := and_e g4
  obtain ⟨w0, w1, w2, rfl⟩ : ∃ w0 w1 w2 : Value, args = #[w0, w1, w2] := by
    have hs : args.size = 3 := by simpa [Cond.value, given_1] using g1
    obtain ⟨L⟩ := args
    match L, hs with
    | [w0, w1, w2], _ => exact ⟨w0, w1, w2, rfl⟩
  have hw := fun d (hd : d ∈ tables_1) => atoms_spec (ws := Jvm.Cond.code x code maxLocals ret :: tables_1) hat d (List.mem_cons_of_mem _ hd)
  obtain ⟨i0, ei0⟩ := is_v g3
  obtain rfl : w0 = (.int i0) := Option.some.inj ei0
  obtain ⟨i1, ei1⟩ := isL_v g5
  obtain rfl : w1 = (.long i1) := Option.some.inj ei1
  obtain ⟨i2, ei2⟩ := isL_v g6
  obtain rfl : w2 = (.long i2) := Option.some.inj ei2
  obtain ⟨n1, hn⟩ := and_e hn
  obtain ⟨n2, hn⟩ := and_e hn
  obtain ⟨n3, hn⟩ := and_e hn
  obtain ⟨n4, hn⟩ := and_e hn
  obtain ⟨n5, n6⟩ := and_e hn
  obtain ⟨u0, e0, S0, E0⟩ := own_sta n1 (Or.inr ⟨hw _ (List.mem_of_getElem? (i := 6) rfl), hw _ (List.mem_of_getElem? (i := 7) rfl)⟩)
  obtain ⟨u1, e1, S1, E1⟩ := own_sta n3 (Or.inr ⟨hw _ (List.mem_of_getElem? (i := 6) rfl), hw _ (List.mem_of_getElem? (i := 16) rfl)⟩)
  obtain ⟨u2, e2, S2, E2⟩ := own_sta n5 (Or.inr ⟨hw _ (List.mem_of_getElem? (i := 6) rfl), hw _ (List.mem_of_getElem? (i := 18) rfl)⟩)
  have F0 := own_fld e0 n2
  have F1 := own_fld e1 n4
  have F2 := own_fld e2 n6
  obtain ⟨r, w, hr, OE, OF, hv⟩ : ∃ (r : Addr) (w : Int32), own_form ((i0 &&& (2147483647 : Int32)) % (3 : Int32)) u0 u1 u2 = r ∧ Exa s s.heap r "com/example/tripletree/tripletree/Triplet$Form" ∧ Fld s s.heap r "com/example/tripletree/tripletree/Triplet$Form" "items" "Z" (.int w) ∧ ((((i0 &&& (2147483647 : Int32)) % (3 : Int32)) = 1 ∧ w = 1) ∨ (¬ ((i0 &&& (2147483647 : Int32)) % (3 : Int32)) = 1 ∧ w = 0)) := by
    rcases own_mod i0 with q | q | q
    · exact ⟨u0, 0, by simp [own_form, q], E0, F0, Or.inr ⟨by rw [q]; decide, rfl⟩⟩
    · exact ⟨u1, 1, by simp [own_form, q], E1, F1, Or.inl ⟨q, rfl⟩⟩
    · exact ⟨u2, 0, by simp [own_form, q], E2, F2, Or.inr ⟨by rw [q]; decide, rfl⟩⟩
  obtain ⟨n, o, h1, h2, h3, _, L, rfl, ⟨rfl, N⟩, hq⟩ := rm0 l s _ hw tables_1 i0 i1 i2 u0 u1 u2 r w s.heap s.heap.size (Old.start s) S0 S1 S2 hr OE OF hv p e ha hc hk s m _ below hf ((Spec.applies_iff_loose hf).mp happ).1 ⟨rfl, State.Warmed39.refl s, rfl⟩ trivial
  refine ⟨n, _, h1, h2, h3, hpost _ _ _ _ _ _ ⟨Cond.after_iff.mpr rfl, Cond.after_iff.mpr (eq_i res_at (Term.int_eval (1)) rfl), trivial⟩ ⟨hq.1, hq.2.1, (hq.2.2.sift fun y hy => Or.inr (N y hy)).mono (by decide) (by decide)⟩⟩
theorem main_1_1 : Claimed_1_1 := comes_1 fun _ _ _ _ _ _ h hF => ⟨h.1, hF⟩
theorem main_1_2 : Claimed_1_2 := comes_1 fun _ _ _ _ _ _ h hF => ⟨h.2.1, hF⟩
end Jvm.Pilot.@@N@@
namespace Jvm.Pilot.@@N@@
open Jvm Jvm.ClassFile Sem Op Lib Jvm.Free Jvm.Stand Jvm.Pilot.@@N@@.Jvm.D
/-! MADE BY PROGRAM (witnessworld.py) out of the Statement's table words and the real class files: 12 classes; the members and pool entries that the words name. The judged class is class 1, her method 2. -/
namespace start1
open Jvm.ClassFile
def u (s : String) : CpInfo := .utf8 (stringToUtf16 s)
/-- a pool by its gaps: so many unusable entries, then the entry; so many at the end -/
def gap : Nat → List CpInfo → List CpInfo
  | 0, r => r
  | n + 1, r => .unusable :: gap n r
def poolList (es : List (Nat × CpInfo)) (last : Nat) : List CpInfo := es.foldr (fun e r => gap e.1 (e.2 :: r)) (gap last [])
def pool (es : List (Nat × CpInfo)) (last : Nat) : Array CpInfo := ⟨poolList es last⟩
def fileOf (pool : Array CpInfo) (this : Nat) (attrs : Array Attribute := #[]) (ms : Array MethodInfo := #[]) (fl : Nat := 33) (sup : Nat := 0) (ifs : Array Nat := #[]) (fds : Array FieldInfo := #[]) : ClassFile where
  minorVersion := 0
  majorVersion := 65
  constantPool := pool
  accessFlags := fl
  thisClass := this
  superClass := sup
  interfaces := ifs
  fields := fds
  methods := ms
  attributes := attrs
def plain (name : String) (sup : Option ClassId) : Class where
  name := name
  kind := .ordinary
  loader := none
  accessFlags := 33
  super := sup
  interfaces := #[]
  cf := none
  fields := #[]
  methods := #[]
  instanceTypes := #[]
  staticTypes := #[]
  resolved := #[]
  callSites := []
  init := .initialized
  statics := none
  mirror := none

def pool0 : Array CpInfo := pool [(5, u "<init>"), (0, u "()V"), (1, .class_ 10), (1, u "java/lang/Object")] 113

def k0m0 : Method := { name := "<init>", desc := "()V", sig := { parameters := [], returnType := none }, accessFlags := 1, code := none }
/-- java/lang/Object -/
def k0 : Class := { plain "java/lang/Object" none with
  accessFlags := 33
  interfaces := #[]
  cf := some (fileOf pool0 8 #[] #[{ accessFlags := 1, nameIndex := 5, descriptorIndex := 6, attributes := #[] }] 33 0 #[] #[])
  fields := #[]
  methods := #[k0m0]
  instanceTypes := #[]
  staticTypes := #[]
  resolved := Array.replicate 124 none
  statics := none }

def pool1 : Array CpInfo := pool [(2, .class_ 4), (1, u "java/lang/Object"), (0, u "<init>"), (0, u "()V"), (0, .fieldref 8 9), (0, .class_ 10), (0, .nameAndType 11 12), (0, u "com/example/tripletree/tripletree/Triplet$Form"), (0, u "HALFWORDS"), (0, u "Lcom/example/tripletree/tripletree/Triplet$Form;"), (0, .fieldref 8 14), (0, .nameAndType 15 12), (0, u "HALFWORDS_ITEMS"), (0, .fieldref 8 17), (0, .nameAndType 18 12), (0, u "FULLWORDS"), (0, .integer 2147483647), (0, .methodref 21 22), (0, .class_ 23), (0, .nameAndType 24 25), (0, u "com/example/tripletree/tripletree/FormExtentPinLaw"), (0, u "form"), (0, u "(I)Lcom/example/tripletree/tripletree/Triplet$Form;"), (0, .methodref 8 27), (0, .nameAndType 28 29), (0, u "extent"), (0, u "(JJ)J"), (3, u "law"), (0, u "(IJJ)Z")] 6

def k1m0 : Method := { name := "<init>", desc := "()V", sig := { parameters := [], returnType := none }, accessFlags := 1, code := none }
def k1c1 : Code := { maxStack := 2, maxLocals := 1, code := method_2_code, exceptionTable := #[], attributes := #[] }
def k1m1 : Method := { name := "form", desc := "(I)Lcom/example/tripletree/tripletree/Triplet$Form;", sig := { parameters := [.int], returnType := some (.object "com/example/tripletree/tripletree/Triplet$Form") }, accessFlags := 10, code := some k1c1 }
def k1c2 : Code := { maxStack := 7, maxLocals := 15, code := code, exceptionTable := #[], attributes := #[] }
def k1m2 : Method := { name := "law", desc := "(IJJ)Z", sig := { parameters := [.int, .long, .long], returnType := some .boolean }, accessFlags := 9, code := some k1c2 }
/-- com/example/tripletree/tripletree/FormExtentPinLaw -/
def k1 : Class := { plain "com/example/tripletree/tripletree/FormExtentPinLaw" (some 0) with
  accessFlags := 49
  interfaces := #[]
  cf := some (fileOf pool1 21 #[] #[{ accessFlags := 1, nameIndex := 5, descriptorIndex := 6, attributes := #[] }, { accessFlags := 10, nameIndex := 24, descriptorIndex := 25, attributes := #[] }, { accessFlags := 9, nameIndex := 33, descriptorIndex := 34, attributes := #[] }] 49 2 #[] #[])
  fields := #[]
  methods := #[k1m0, k1m1, k1m2]
  instanceTypes := #[]
  staticTypes := #[]
  resolved := Array.replicate 41 none
  statics := none }

def pool2 : Array CpInfo := pool [(1, .class_ 2), (0, u "java/lang/constant/Constable"), (0, .class_ 4), (0, u "java/lang/Object")] 6

/-- java/lang/constant/Constable -/
def k2 : Class := { plain "java/lang/constant/Constable" (some 0) with
  accessFlags := 1537
  interfaces := #[]
  cf := some (fileOf pool2 1 #[] #[] 1537 3 #[] #[])
  fields := #[]
  methods := #[]
  instanceTypes := #[]
  staticTypes := #[]
  resolved := Array.replicate 11 none
  statics := none }

def pool3 : Array CpInfo := pool [(1, .class_ 2), (0, u "java/lang/Comparable"), (0, .class_ 4), (0, u "java/lang/Object")] 7

/-- java/lang/Comparable -/
def k3 : Class := { plain "java/lang/Comparable" (some 0) with
  accessFlags := 1537
  interfaces := #[]
  cf := some (fileOf pool3 1 #[] #[] 1537 3 #[] #[])
  fields := #[]
  methods := #[]
  instanceTypes := #[]
  staticTypes := #[]
  resolved := Array.replicate 12 none
  statics := none }

def pool4 : Array CpInfo := pool [(1, .class_ 2), (0, u "java/io/Serializable"), (0, .class_ 4), (0, u "java/lang/Object")] 2

/-- java/io/Serializable -/
def k4 : Class := { plain "java/io/Serializable" (some 0) with
  accessFlags := 1537
  interfaces := #[]
  cf := some (fileOf pool4 1 #[] #[] 1537 3 #[] #[])
  fields := #[]
  methods := #[]
  instanceTypes := #[]
  staticTypes := #[]
  resolved := Array.replicate 7 none
  statics := none }

def pool5 : Array CpInfo := pool [(2, .class_ 4), (1, u "java/lang/Enum"), (0, u "name"), (0, u "Ljava/lang/String;"), (2, u "ordinal"), (0, u "I"), (1, .class_ 14), (1, u "java/lang/Object"), (4, u "hash"), (86, .class_ 108), (1, u "java/lang/Enum$EnumDesc"), (2, .class_ 112), (0, u "java/lang/constant/Constable"), (0, .class_ 114), (0, u "java/lang/Comparable"), (0, .class_ 116), (0, u "java/io/Serializable")] 87

/-- java/lang/Enum -/
def k5 : Class := { plain "java/lang/Enum" (some 0) with
  accessFlags := 1057
  interfaces := #[2, 3, 4]
  cf := some (fileOf pool5 2 #[.nestMembers #[106]] #[] 1057 12 #[111, 113, 115] #[{ accessFlags := 18, nameIndex := 5, descriptorIndex := 6, attributes := #[] }, { accessFlags := 18, nameIndex := 9, descriptorIndex := 10, attributes := #[] }, { accessFlags := 2, nameIndex := 19, descriptorIndex := 10, attributes := #[] }])
  fields := #[{ name := "name", type := (.object "java/lang/String"), accessFlags := 18, slot := 0, constantValue := 0 }, { name := "ordinal", type := .int, accessFlags := 18, slot := 1, constantValue := 0 }, { name := "hash", type := .int, accessFlags := 2, slot := 2, constantValue := 0 }]
  methods := #[]
  instanceTypes := #[(.object "java/lang/String"), .int, .int]
  staticTypes := #[]
  resolved := Array.replicate 204 none
  statics := none }

def pool6 : Array CpInfo := pool [(1, .class_ 2), (0, u "com/example/tripletree/tripletree/Triplet"), (0, .class_ 4), (0, u "com/example/tripletree/tripletree/Triplet$Form"), (2, u "HALFWORDS"), (0, u "Lcom/example/tripletree/tripletree/Triplet$Form;"), (2, u "HALFWORDS_ITEMS"), (2, u "FULLWORDS"), (2, u "$VALUES"), (0, u "[Lcom/example/tripletree/tripletree/Triplet$Form;"), (6, .class_ 27), (1, u "java/lang/Enum"), (8, u "width"), (0, u "I"), (0, .fieldref 3 39), (0, .nameAndType 40 41), (0, u "items"), (0, u "Z"), (19, u "extent"), (0, u "(JJ)J")] 10

def k6c0 : Code := { maxStack := 4, maxLocals := 5, code := prog_43_method_6_code, exceptionTable := #[], attributes := #[] }
def k6m0 : Method := { name := "extent", desc := "(JJ)J", sig := { parameters := [.long, .long], returnType := some .long }, accessFlags := 0, code := some k6c0 }
/-- com/example/tripletree/tripletree/Triplet$Form -/
def k6 : Class := { plain "com/example/tripletree/tripletree/Triplet$Form" (some 5) with
  accessFlags := 16432
  interfaces := #[]
  cf := some (fileOf pool6 3 #[.nestHost 1] #[{ accessFlags := 0, nameIndex := 61, descriptorIndex := 62, attributes := #[] }] 16432 25 #[] #[{ accessFlags := 16409, nameIndex := 7, descriptorIndex := 8, attributes := #[] }, { accessFlags := 16409, nameIndex := 11, descriptorIndex := 8, attributes := #[] }, { accessFlags := 16409, nameIndex := 14, descriptorIndex := 8, attributes := #[] }, { accessFlags := 18, nameIndex := 36, descriptorIndex := 37, attributes := #[] }, { accessFlags := 18, nameIndex := 40, descriptorIndex := 41, attributes := #[] }, { accessFlags := 4122, nameIndex := 17, descriptorIndex := 18, attributes := #[] }])
  fields := #[{ name := "HALFWORDS", type := (.object "com/example/tripletree/tripletree/Triplet$Form"), accessFlags := 16409, slot := 0, constantValue := 0 }, { name := "HALFWORDS_ITEMS", type := (.object "com/example/tripletree/tripletree/Triplet$Form"), accessFlags := 16409, slot := 1, constantValue := 0 }, { name := "FULLWORDS", type := (.object "com/example/tripletree/tripletree/Triplet$Form"), accessFlags := 16409, slot := 2, constantValue := 0 }, { name := "width", type := .int, accessFlags := 18, slot := 3, constantValue := 0 }, { name := "items", type := .boolean, accessFlags := 18, slot := 4, constantValue := 0 }, { name := "$VALUES", type := (.array (.object "com/example/tripletree/tripletree/Triplet$Form")), accessFlags := 4122, slot := 3, constantValue := 0 }]
  methods := #[k6m0]
  instanceTypes := #[(.object "java/lang/String"), .int, .int, .int, .boolean]
  staticTypes := #[(.object "com/example/tripletree/tripletree/Triplet$Form"), (.object "com/example/tripletree/tripletree/Triplet$Form"), (.object "com/example/tripletree/tripletree/Triplet$Form"), (.array (.object "com/example/tripletree/tripletree/Triplet$Form"))]
  resolved := Array.replicate 73 none
  statics := some 0 }

def pool7 : Array CpInfo := pool [(1, u "java/lang/Cloneable"), (0, .class_ 1), (0, u "java/lang/Object"), (0, .class_ 3)] 3

/-- java/lang/Cloneable -/
def k7 : Class := { plain "java/lang/Cloneable" (some 0) with
  accessFlags := 1537
  interfaces := #[]
  cf := some (fileOf pool7 2 #[] #[] 1537 4 #[] #[])
  fields := #[]
  methods := #[]
  instanceTypes := #[]
  staticTypes := #[]
  resolved := Array.replicate 8 none
  statics := none }

/-- the primitive byte -/
def k8 : Class := { plain "byte" none with kind := .primitive 'B', accessFlags := 0x411 }
/-- [B -/
def k9 : Class := { plain "[B" (some 0) with kind := .array 8 .byte, interfaces := #[7, 4], accessFlags := 1041 }

/-- the primitive int -/
def k10 : Class := { plain "int" none with kind := .primitive 'I', accessFlags := 0x411 }
/-- [I -/
def k11 : Class := { plain "[I" (some 0) with kind := .array 10 .int, interfaces := #[7, 4], accessFlags := 1041 }

def heap : Heap := #[{ cls := 6, slots := #[.ref 1, .ref 2, .ref 3, .null], vm := .statics 6 },
  { cls := 6, slots := #[.null, .int 0, .int 0, .int 2, .int 0], vm := .none },
  { cls := 6, slots := #[.null, .int 1, .int 0, .int 2, .int 1], vm := .none },
  { cls := 6, slots := #[.null, .int 2, .int 0, .int 4, .int 0], vm := .none }]
def classes : Array Class := #[k0, k1, k2, k3, k4, k5, k6, k7, k8, k9, k10, k11]
def interned : List (Array UInt16 × Addr) := []
def slotsUsed : Nat := 19
def theMethod : MethodId := ⟨1, 2⟩
def args0 : Array Value := #[.int 5, .long 300, .long 7]
def aboutOver (below : List Frame) : State where
  vm := { classes := classes, interned := interned.toArray }
  heap := heap
  slotsUsed := slotsUsed
  threads := #[{ frames := .invoking theMethod args0 :: below }]
def below0 : List Frame := [.native { method := ⟨0, 0⟩, args := #[] }]
def about1 : State := aboutOver below0
def p0 : Program := .bare "" "" ""
def e0 : Env := launch0.env 0 0 0
theorem w_frames : about1.frames = Frame.invoking theMethod args0 :: below0 := rfl
set_option maxRecDepth 65536 in
theorem w_args : argsFit about1.vm theMethod args0 = true := by decide +kernel
set_option maxRecDepth 65536 in
theorem w_heap : heapFits about1 = true := by decide +kernel
set_option maxRecDepth 65536 in
theorem w_runnable : about1.curStatus? = some .runnable := by decide +kernel
set_option maxRecDepth 65536 in
theorem w_alone : about1.alone = true := by decide +kernel
set_option maxRecDepth 65536 in
theorem w_named : about1.methodNamed? x = some theMethod := by decide +kernel
set_option maxRecDepth 65536 in
theorem w_hears : about1.hears theMethod below0 = true := by decide +kernel
set_option maxRecDepth 65536 in
theorem w_ripe : about1.ripe theMethod args0 below0 = true := by decide +kernel
theorem w_running : about1.status = .running := rfl
set_option maxRecDepth 65536 in
theorem w_room : about1.hasRoom e0.platform room_1 = true :=
  launch0.hasRoom_least _ room_1 (by decide +kernel) (by decide +kernel) (by decide +kernel) (by decide +kernel) (by decide +kernel) (by decide +kernel)
theorem allAtoms_all (ts : List Jvm.Cond) (a : Array Jvm.Value) (st : Jvm.State) : (allAtoms ts).before a st = ts.all (fun c => c.before a st) := by
  induction ts with
  | nil => rfl
  | cons c t ih =>
    show (Jvm.Cond.and c (allAtoms t)).before a st = _
    rw [Jvm.Cond.before_and, ih, List.all_cons]
def words1 : List Jvm.Cond := Jvm.Cond.code x code maxLocals ret :: tables_1
/-- a 'code' word, met by the world's own term for the bytes: nothing is compared byte by byte -/
theorem code_word {y : MethodName} {bytes : ByteArray} {mx : Nat} {rt : Option FieldType} {a : Array Value} {s : State} {m : MethodId} {meth : Method} {c : Code} (h1 : s.methodNamed? y = some m) (h2 : s.vm.method? m = some meth) (h3 : meth.code = some c) (h4 : c.code = bytes)
    (h5 : (c.maxLocals == mx && c.exceptionTable.isEmpty && decide (c.maxStack ≤ mostOperands) && decide (meth.sig.returnType = rt) && !meth.locks && decide (parseMethodDescriptor y.desc = some meth.sig)) = true) : (Jvm.Cond.code y bytes mx rt).before a s = true := by
  simp only [Bool.and_eq_true, beq_iff_eq, Bool.not_eq_true', decide_eq_true_eq] at h5
  obtain ⟨⟨⟨⟨⟨g1, g2⟩, g3⟩, g4⟩, g5⟩, g6⟩ := h5
  simp [Cond.before, Cond.holds, Cond.value, h1, h2, h3, h4, g1, g2, g3, g4, g5, g6]
def isCode : Jvm.Cond → Bool
  | .code _ _ _ _ => true
  | _ => false
theorem all_split {L : List Jvm.Cond} {P : Jvm.Cond → Bool} (h1 : L.all (fun c => isCode c || P c) = true) (h2 : ∀ c ∈ L.filter isCode, P c = true) : L.all P = true := by
  refine List.all_eq_true.mpr fun c hc => ?_
  have h := List.all_eq_true.mp h1 c hc
  rcases Bool.eq_false_or_eq_true (isCode c) with hi | hi
  · exact h2 c (List.mem_filter.mpr ⟨hc, hi⟩)
  · simpa [hi] using h
set_option maxRecDepth 65536 in
theorem w_c0 : (Jvm.Cond.code x code maxLocals ret).before args0 about1 = true := code_word (m := ⟨1, 2⟩) (meth := k1m2) (c := k1c2) (by decide +kernel) rfl rfl rfl (by decide +kernel)
set_option maxRecDepth 65536 in
theorem w_c1 : (Jvm.Cond.code ({ cls := "com/example/tripletree/tripletree/FormExtentPinLaw", name := "form", desc := "(I)Lcom/example/tripletree/tripletree/Triplet$Form;" } : Jvm.MethodName) method_2_code (1 : Nat) (Option.some (Jvm.ClassFile.FieldType.object "com/example/tripletree/tripletree/Triplet$Form"))).before args0 about1 = true := code_word (m := ⟨1, 1⟩) (meth := k1m1) (c := k1c1) (by decide +kernel) rfl rfl rfl (by decide +kernel)
set_option maxRecDepth 65536 in
theorem w_c2 : (Jvm.Cond.code ({ cls := "com/example/tripletree/tripletree/Triplet$Form", name := "extent", desc := "(JJ)J" } : Jvm.MethodName) prog_43_method_6_code (5 : Nat) (Option.some Jvm.ClassFile.FieldType.long)).before args0 about1 = true := code_word (m := ⟨6, 0⟩) (meth := k6m0) (c := k6c0) (by decide +kernel) rfl rfl rfl (by decide +kernel)
def codes1 : List Jvm.Cond := [Jvm.Cond.code x code maxLocals ret, Jvm.Cond.code ({ cls := "com/example/tripletree/tripletree/FormExtentPinLaw", name := "form", desc := "(I)Lcom/example/tripletree/tripletree/Triplet$Form;" } : Jvm.MethodName) method_2_code (1 : Nat) (Option.some (Jvm.ClassFile.FieldType.object "com/example/tripletree/tripletree/Triplet$Form")), Jvm.Cond.code ({ cls := "com/example/tripletree/tripletree/Triplet$Form", name := "extent", desc := "(JJ)J" } : Jvm.MethodName) prog_43_method_6_code (5 : Nat) (Option.some Jvm.ClassFile.FieldType.long)]
set_option maxRecDepth 65536 in
theorem codes_eq : words1.filter isCode = codes1 := rfl
theorem w_codes : ∀ c ∈ words1.filter isCode, c.before args0 about1 = true := by
  rw [codes_eq]
  intro c hc
  simp only [codes1, List.mem_cons, List.not_mem_nil, or_false] at hc
  rcases hc with rfl | rfl | rfl
  · exact w_c0
  · exact w_c1
  · exact w_c2
set_option maxRecDepth 65536 in
theorem w_t1 : words1.all (fun c => isCode c || c.before args0 about1) = true := by decide +kernel
theorem w_tables : (allAtoms (Jvm.Cond.code x code maxLocals ret :: tables_1)).before args0 about1 = true := by
  rw [allAtoms_all]
  show words1.all (fun c => c.before args0 about1) = true
  refine all_split ?_ w_codes
  rw [w_t1]
set_option maxRecDepth 65536 in
theorem w_case : (Jvm.Cond.and given_1 narrow_1).before args0 about1 = true := by decide +kernel
theorem w_applies : (headSpec (Jvm.Cond.code x code maxLocals ret :: tables_1) room_1).applies x e0.platform about1 = true :=
  (Spec.applies_iff w_frames).mpr ⟨w_running, w_runnable, w_alone, w_named, w_hears, w_ripe, w_room, w_tables⟩
theorem atStart : AtStart classFile x code maxLocals ret World_1 tables_1 room_1 Calls_1 rest_1 Pre_1 launch0 p0 e0 about1 theMethod args0 below0 :=
  ⟨lists_1, trivial, launch0.admits_env _ _ _, launch0.least_env, fairChoices_fair.cas, fairChoices_fair.clock, w_frames, w_args, w_heap, w_applies, trivial, trivial, w_case⟩
end start1
theorem witness_1 : WitnessClaimed_1 := ⟨start1.p0, start1.e0, start1.about1, start1.theMethod, start1.args0, start1.below0, start1.atStart⟩
end Jvm.Pilot.@@N@@
