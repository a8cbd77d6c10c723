import JvmDerived
import JvmDerived.Pilot.@@N@@Statement
import JvmDerived.Pilot.@@N@@Code
set_option linter.unusedVariables false
set_option linter.unusedSimpArgs false
namespace Jvm.RoadKit
open Sem ClassFile Op Lib Jvm.Stand Jvm.Free Jvm.LawKit
section New
variable {p : Program} {l : Launch} {e : Env} {R : Room} {s : State} {m : MethodId} {args : Array Value} {below : List Frame} {meth : Method} {c : Code} {T : State} {locs : List Loc} {cells slots : Nat}
theorem retI (X : Stand p l e R s m args below meth c T locs cells slots) (hx : p.tables.exec = Jvm.exec) {pc : Nat} {Ls : Array Slot} {z : Int32} {rest : List Value} (hret : meth.sig.returnType = some .int) (hd : decode c.code pc = .ok (.ireturn, 1)) {fs : List Frame}
    (hl : ∀ (f : JFrame) (acts : List Action), f.method = m → f.locked = none → f.entered = [] → (doReturn e (T.setTop f) acts (some (.int z))).1 = T.setFrames fs) : Steps p.tables e below (T.setTop (mkF m pc Ls (.int z :: rest))) (T.setFrames fs) :=
  retOut X hx hret rfl (Or.inl ⟨rfl, Or.inl rfl, _, rfl⟩) hd hl
end New
end Jvm.RoadKit
namespace Jvm.Pilot.@@N@@
open Jvm Jvm.ClassFile Sem Op Lib Jvm.Free Jvm.Stand Jvm.LawKit Jvm.RoadKit Bundle Jvm.Pilot.@@N@@.Jvm.D
/-- the run goes on from A and comes to an end of which R holds -/
def own_Go (p : Program) (e : Env) (below : List Frame) (A : State) (R : State → Outcome → Prop) : Prop := ∃ s₂ o, Steps p.tables e below A s₂ ∧ s₂.status = .running ∧ Ended s₂ below o ∧ R s₂ o
theorem own_by {p : Program} {e : Env} {below : List Frame} {A B : State} {R : State → Outcome → Prop} (k : ∀ t, Steps p.tables e below B t → Steps p.tables e below A t) (h : own_Go p e below B R) : own_Go p e below A R := by
  obtain ⟨s₂, o, h1, h2⟩ := h
  exact ⟨s₂, o, k _ h1, h2⟩
theorem own_Ins_keep {Z : State} {h h' : Heap} {a : Addr} {C : String} {bo : Bool} {ws : List Addr} (F : Ins Z h a C bo) (K : Keep h h' ws) : Ins Z h' a C bo := by
  obtain ⟨cell, cT, h1, h2, h3⟩ := F
  obtain ⟨c', q, r1, r2, -⟩ := K.2.2 a cell h1
  exact ⟨c', cT, q, h2, by rw [r1, r2]; exact h3⟩
theorem own_narrow_ref {t : FieldType} {v : Value} (ht : t.isReference = true) (hv : v.isRef = true) : narrow t v = v := by
  cases t <;> first | (cases ht; done) | (cases v <;> first | rfl | (cases hv; done))
theorem own_fits_ref {t : FieldType} {v : Value} (hv : v.isRef = true) (ht : t.isReference = true := by rfl) : fits t v = true := by
  cases t <;> first | (cases ht; done) | (cases v <;> first | rfl | (cases hv; done))
theorem own_eq_int {args : Array Value} {first s : State} {o : Option Outcome} {idx : List Nat} {t : Term} {n : Int32} (h : (Cond.eq t (.int n)).value args first o s idx = some true) : t.eval args first o idx s = some (.int n) := by
  simp only [Cond.value, Term.eval] at h
  cases ht : t.eval args first o idx s with
  | none => simp [ht] at h
  | some x => cases x <;> simp [ht] at h ⊢; exact h
theorem own_pn_com_example_commit_to_chain_committochain_core_TransactionState : plainName "com/example/commit_to_chain/committochain/core/TransactionState" = true := by first | (simp [plainName, overriddenIn]; done) | decide +kernel
theorem own_pn_com_example_commit_to_chain_committochain_core_TransactionStateIsFinalPinLaw : plainName "com/example/commit_to_chain/committochain/core/TransactionStateIsFinalPinLaw" = true := by first | (simp [plainName, overriddenIn]; done) | decide +kernel
theorem own_pd__28_29Z : parseMethodDescriptor "()Z" = some ⟨[], some .boolean⟩ := by decide +kernel
theorem d_rm_conf_0 : decode prog_40_method_4_code 0 = .ok (.aload_n 0, 1) := by decide +kernel
theorem d_rm_conf_1 : decode prog_40_method_4_code 1 = .ok (.getstatic 13, 3) := by decide +kernel
theorem d_rm_conf_4 : decode prog_40_method_4_code 4 = .ok (.if_acmp .eq 10, 3) := by decide +kernel
theorem d_rm_conf_14 : decode prog_40_method_4_code 14 = .ok (.iconst 1, 1) := by decide +kernel
theorem d_rm_conf_15 : decode prog_40_method_4_code 15 = .ok (.goto 4, 3) := by decide +kernel
theorem d_rm_conf_19 : decode prog_40_method_4_code 19 = .ok (.ireturn, 1) := by decide +kernel
def Q_rm_conf (Z : State) (a_CONFIRMED : Addr) (h0 : Heap) (n0 : Nat) (v : Option Value) (h : Heap) (L : List Loc) : Prop := v = some (.int (1 : Int32)) ∧ Fr n0 L ∧ h = h0
theorem ef_rm_conf (m : MethodId) (a_CONFIRMED : Addr) : entryFrame m #[(.ref a_CONFIRMED)] 1 = mkF m 0 #[.val (.ref a_CONFIRMED)] [] := by first | (simp [entryFrame, mkF, argsToLocals, Value.category]; done) | rfl
set_option maxRecDepth 65536 in
set_option maxHeartbeats 40000000 in
theorem rm_conf (l : Launch) (Z : State) (a0 : Array Value) (hw : ∀ d ∈ tables_1, d.before a0 Z = true) (ws : List Jvm.Cond) (a_CONFIRMED : Addr) (h0 : Heap) (n0 : Nat) (O0 : Old Z n0 h0) (S_CONFIRMED : Sta Z Z.heap "com/example/commit_to_chain/committochain/core/TransactionState" "CONFIRMED" "Lcom/example/commit_to_chain/committochain/core/TransactionState;" (.ref a_CONFIRMED)) :
    MetFree l (⟨"com/example/commit_to_chain/committochain/core/TransactionState", "isFinal", "()Z"⟩ : MethodName) (head1 (Jvm.Cond.code (⟨"com/example/commit_to_chain/committochain/core/TransactionState", "isFinal", "()Z"⟩ : MethodName) prog_40_method_4_code 1 (some .boolean) :: ws) ({ frames := 0, cells := 0, slots := 0, locals := 0 } : Room)) (fun a U => a = #[(.ref a_CONFIRMED)] ∧ Z.Warmed39 U.vm ∧ U.heap = h0) (fun _ _ _ _ _ => True) (fun _ U o U' => ∃ v L, o = .returned v ∧ Q_rm_conf Z a_CONFIRMED h0 n0 v U'.heap L ∧ FrameEnd U o U' L ({ frames := 0, cells := 0, slots := 0, locals := 0 } : Room).cells ({ frames := 0, cells := 0, slots := 0, locals := 0 } : Room).slots) := by
  refine MetFree.of_bodySF (plainFor_of_name own_pn_com_example_commit_to_chain_committochain_core_TransactionState) hisR ?_
  intro p e s m args below meth c s₁ Bd hml0 hP hK
  obtain ⟨rfl, hZ, hh⟩ := hP
  have hx := Bd.exec
  have hby := Bd.bytes
  have hml : c.maxLocals = 1 := hml0
  have hown : s.vm.findClass "com/example/commit_to_chain/committochain/core/TransactionState" = some m.cls := findClass_of_methodNamed Bd.named
  have hnm := (name_of_methodNamed Bd.named Bd.method).1
  have X0 : Stand p l e ({ frames := 0, cells := 0, slots := 0, locals := 0 } : Room) s m #[(.ref a_CONFIRMED)] below meth c s₁ [] 0 0 := Stand.of_body Bd
  have e0 : s₁.heap = h0 := by rw [← hh, Bd.state]; rfl
  have N0 := Fr.nil n0
  have Z0 : n0 ≤ h0.size := by rw [← O0.1]; exact O0.2.1
  show own_Go p e below (s₁.setTop (entryFrame m #[(.ref a_CONFIRMED)] 1)) (fun t o => ∃ v L, o = .returned v ∧ Q_rm_conf Z a_CONFIRMED h0 n0 v t.heap L ∧ FrameEnd s o t L ({ frames := 0, cells := 0, slots := 0, locals := 0 } : Room).cells ({ frames := 0, cells := 0, slots := 0, locals := 0 } : Room).slots)
  rw [ef_rm_conf m a_CONFIRMED]
  refine own_by (fun _ k => XS.aloadN X0.here hx rfl (hb hby d_rm_conf_0) rfl rfl k) ?_
  show own_Go p e below (s₁.setTop (mkF m 1 #[.val (.ref a_CONFIRMED)] [(.ref a_CONFIRMED)])) _
  obtain ⟨T1, X1, e1, st1⟩ := getS2 X0 hx hZ hown (host := "") (Or.inl (hw _ (List.mem_of_getElem? (i := 9) rfl))) Via.refl e0 (S_CONFIRMED.ext O0.2) (g := (mkF m 1 #[.val (.ref a_CONFIRMED)] [(.ref a_CONFIRMED)])) rfl (hb hby d_rm_conf_1)
  refine own_by st1 ?_
  show own_Go p e below (T1.setTop (mkF m 4 #[.val (.ref a_CONFIRMED)] [(.ref a_CONFIRMED), (.ref a_CONFIRMED)])) _
  refine own_by (fun _ k => Jvm.RoadKit.acmp (g := (mkF m 4 #[.val (.ref a_CONFIRMED)] [(.ref a_CONFIRMED), (.ref a_CONFIRMED)])) X1 hx rfl rfl rfl (pc0 := 4) (pc' := 14) (same := true) rfl (hb hby d_rm_conf_4) rfl (decide_eq_true rfl) (by decide) (by decide) k) ?_
  show own_Go p e below (T1.setTop (mkF m 14 #[.val (.ref a_CONFIRMED)] [])) _
  refine own_by (fun _ k => XS.iconst X1.here hx rfl (hb hby d_rm_conf_14) k) ?_
  show own_Go p e below (T1.setTop (mkF m 15 #[.val (.ref a_CONFIRMED)] [(.int (1 : Int32))])) _
  refine own_by (fun _ k => XS.goto X1.here hx rfl (pc0 := 15) (pc' := 19) rfl (hb hby d_rm_conf_15) (by decide) (by decide) k) ?_
  show own_Go p e below (T1.setTop (mkF m 19 #[.val (.ref a_CONFIRMED)] [(.int (1 : Int32))])) _
  obtain ⟨fs, hr, hrun, hended, hW, hsame⟩ := X1.leave (v := some (.int (1 : Int32))) (fun h => by rw [Bd.returns] at h; cases h)
  refine ⟨_, _, retN X1 hx (t := .boolean) Bd.returns (by simp) (hb hby d_rm_conf_19) hr, hrun, hended, _, _, rfl, ?_, ⟨_, rfl⟩, hW, hsame.mono (by decide) (by decide)⟩
  show Q_rm_conf Z a_CONFIRMED h0 n0 _ T1.heap _
  rw [e1]
  exact ⟨rfl, N0, rfl⟩
theorem d_rm_ff_0 : decode prog_40_method_4_code 0 = .ok (.aload_n 0, 1) := by decide +kernel
theorem d_rm_ff_1 : decode prog_40_method_4_code 1 = .ok (.getstatic 13, 3) := by decide +kernel
theorem d_rm_ff_4 : decode prog_40_method_4_code 4 = .ok (.if_acmp .eq 10, 3) := by decide +kernel
theorem d_rm_ff_7 : decode prog_40_method_4_code 7 = .ok (.aload_n 0, 1) := by decide +kernel
theorem d_rm_ff_8 : decode prog_40_method_4_code 8 = .ok (.getstatic 16, 3) := by decide +kernel
theorem d_rm_ff_11 : decode prog_40_method_4_code 11 = .ok (.if_acmp .ne 7, 3) := by decide +kernel
theorem d_rm_ff_14 : decode prog_40_method_4_code 14 = .ok (.iconst 1, 1) := by decide +kernel
theorem d_rm_ff_15 : decode prog_40_method_4_code 15 = .ok (.goto 4, 3) := by decide +kernel
theorem d_rm_ff_19 : decode prog_40_method_4_code 19 = .ok (.ireturn, 1) := by decide +kernel
def Q_rm_ff (Z : State) (a_CONFIRMED : Addr) (a_FAILED_FINAL : Addr) (h0 : Heap) (n0 : Nat) (v : Option Value) (h : Heap) (L : List Loc) : Prop := v = some (.int (1 : Int32)) ∧ Fr n0 L ∧ h = h0
theorem ef_rm_ff (m : MethodId) (a_CONFIRMED : Addr) (a_FAILED_FINAL : Addr) : entryFrame m #[(.ref a_FAILED_FINAL)] 1 = mkF m 0 #[.val (.ref a_FAILED_FINAL)] [] := by first | (simp [entryFrame, mkF, argsToLocals, Value.category]; done) | rfl
set_option maxRecDepth 65536 in
set_option maxHeartbeats 40000000 in
theorem rm_ff (l : Launch) (Z : State) (a0 : Array Value) (hw : ∀ d ∈ tables_1, d.before a0 Z = true) (ws : List Jvm.Cond) (a_CONFIRMED : Addr) (a_FAILED_FINAL : Addr) (h0 : Heap) (n0 : Nat) (O0 : Old Z n0 h0) (S_CONFIRMED : Sta Z Z.heap "com/example/commit_to_chain/committochain/core/TransactionState" "CONFIRMED" "Lcom/example/commit_to_chain/committochain/core/TransactionState;" (.ref a_CONFIRMED)) (S_FAILED_FINAL : Sta Z Z.heap "com/example/commit_to_chain/committochain/core/TransactionState" "FAILED_FINAL" "Lcom/example/commit_to_chain/committochain/core/TransactionState;" (.ref a_FAILED_FINAL)) (ha : ¬ (a_FAILED_FINAL = a_CONFIRMED)) :
    MetFree l (⟨"com/example/commit_to_chain/committochain/core/TransactionState", "isFinal", "()Z"⟩ : MethodName) (head1 (Jvm.Cond.code (⟨"com/example/commit_to_chain/committochain/core/TransactionState", "isFinal", "()Z"⟩ : MethodName) prog_40_method_4_code 1 (some .boolean) :: ws) ({ frames := 0, cells := 0, slots := 0, locals := 0 } : Room)) (fun a U => a = #[(.ref a_FAILED_FINAL)] ∧ Z.Warmed39 U.vm ∧ U.heap = h0) (fun _ _ _ _ _ => True) (fun _ U o U' => ∃ v L, o = .returned v ∧ Q_rm_ff Z a_CONFIRMED a_FAILED_FINAL h0 n0 v U'.heap L ∧ FrameEnd U o U' L ({ frames := 0, cells := 0, slots := 0, locals := 0 } : Room).cells ({ frames := 0, cells := 0, slots := 0, locals := 0 } : Room).slots) := by
  refine MetFree.of_bodySF (plainFor_of_name own_pn_com_example_commit_to_chain_committochain_core_TransactionState) hisR ?_
  intro p e s m args below meth c s₁ Bd hml0 hP hK
  obtain ⟨rfl, hZ, hh⟩ := hP
  have hx := Bd.exec
  have hby := Bd.bytes
  have hml : c.maxLocals = 1 := hml0
  have hown : s.vm.findClass "com/example/commit_to_chain/committochain/core/TransactionState" = some m.cls := findClass_of_methodNamed Bd.named
  have hnm := (name_of_methodNamed Bd.named Bd.method).1
  have X0 : Stand p l e ({ frames := 0, cells := 0, slots := 0, locals := 0 } : Room) s m #[(.ref a_FAILED_FINAL)] below meth c s₁ [] 0 0 := Stand.of_body Bd
  have e0 : s₁.heap = h0 := by rw [← hh, Bd.state]; rfl
  have N0 := Fr.nil n0
  have Z0 : n0 ≤ h0.size := by rw [← O0.1]; exact O0.2.1
  show own_Go p e below (s₁.setTop (entryFrame m #[(.ref a_FAILED_FINAL)] 1)) (fun t o => ∃ v L, o = .returned v ∧ Q_rm_ff Z a_CONFIRMED a_FAILED_FINAL h0 n0 v t.heap L ∧ FrameEnd s o t L ({ frames := 0, cells := 0, slots := 0, locals := 0 } : Room).cells ({ frames := 0, cells := 0, slots := 0, locals := 0 } : Room).slots)
  rw [ef_rm_ff m a_CONFIRMED a_FAILED_FINAL]
  refine own_by (fun _ k => XS.aloadN X0.here hx rfl (hb hby d_rm_ff_0) rfl rfl k) ?_
  show own_Go p e below (s₁.setTop (mkF m 1 #[.val (.ref a_FAILED_FINAL)] [(.ref a_FAILED_FINAL)])) _
  obtain ⟨T1, X1, e1, st1⟩ := getS2 X0 hx hZ hown (host := "") (Or.inl (hw _ (List.mem_of_getElem? (i := 9) rfl))) Via.refl e0 (S_CONFIRMED.ext O0.2) (g := (mkF m 1 #[.val (.ref a_FAILED_FINAL)] [(.ref a_FAILED_FINAL)])) rfl (hb hby d_rm_ff_1)
  refine own_by st1 ?_
  show own_Go p e below (T1.setTop (mkF m 4 #[.val (.ref a_FAILED_FINAL)] [(.ref a_CONFIRMED), (.ref a_FAILED_FINAL)])) _
  refine own_by (fun _ k => Jvm.RoadKit.acmp (g := (mkF m 4 #[.val (.ref a_FAILED_FINAL)] [(.ref a_CONFIRMED), (.ref a_FAILED_FINAL)])) X1 hx rfl rfl rfl (pc0 := 4) (pc' := 7) (same := false) rfl (hb hby d_rm_ff_4) rfl (decide_eq_false fun q => ha (Value.ref.inj q)) (by decide) (by decide) k) ?_
  show own_Go p e below (T1.setTop (mkF m 7 #[.val (.ref a_FAILED_FINAL)] [])) _
  refine own_by (fun _ k => XS.aloadN X1.here hx rfl (hb hby d_rm_ff_7) rfl rfl k) ?_
  show own_Go p e below (T1.setTop (mkF m 8 #[.val (.ref a_FAILED_FINAL)] [(.ref a_FAILED_FINAL)])) _
  obtain ⟨T2, X2, e2, st2⟩ := getS2 X1 hx hZ hown (host := "") (Or.inl (hw _ (List.mem_of_getElem? (i := 11) rfl))) Via.refl e1 (S_FAILED_FINAL.ext O0.2) (g := (mkF m 8 #[.val (.ref a_FAILED_FINAL)] [(.ref a_FAILED_FINAL)])) rfl (hb hby d_rm_ff_8)
  refine own_by st2 ?_
  show own_Go p e below (T2.setTop (mkF m 11 #[.val (.ref a_FAILED_FINAL)] [(.ref a_FAILED_FINAL), (.ref a_FAILED_FINAL)])) _
  refine own_by (fun _ k => Jvm.RoadKit.acmp (g := (mkF m 11 #[.val (.ref a_FAILED_FINAL)] [(.ref a_FAILED_FINAL), (.ref a_FAILED_FINAL)])) X2 hx rfl rfl rfl (pc0 := 11) (pc' := 14) (same := true) rfl (hb hby d_rm_ff_11) rfl (decide_eq_true rfl) (by decide) (by decide) k) ?_
  show own_Go p e below (T2.setTop (mkF m 14 #[.val (.ref a_FAILED_FINAL)] [])) _
  refine own_by (fun _ k => XS.iconst X2.here hx rfl (hb hby d_rm_ff_14) k) ?_
  show own_Go p e below (T2.setTop (mkF m 15 #[.val (.ref a_FAILED_FINAL)] [(.int (1 : Int32))])) _
  refine own_by (fun _ k => XS.goto X2.here hx rfl (pc0 := 15) (pc' := 19) rfl (hb hby d_rm_ff_15) (by decide) (by decide) k) ?_
  show own_Go p e below (T2.setTop (mkF m 19 #[.val (.ref a_FAILED_FINAL)] [(.int (1 : Int32))])) _
  obtain ⟨fs, hr, hrun, hended, hW, hsame⟩ := X2.leave (v := some (.int (1 : Int32))) (fun h => by rw [Bd.returns] at h; cases h)
  refine ⟨_, _, retN X2 hx (t := .boolean) Bd.returns (by simp) (hb hby d_rm_ff_19) hr, hrun, hended, _, _, rfl, ?_, ⟨_, rfl⟩, hW, hsame.mono (by decide) (by decide)⟩
  show Q_rm_ff Z a_CONFIRMED a_FAILED_FINAL h0 n0 _ T2.heap _
  rw [e2]
  exact ⟨rfl, N0, rfl⟩
theorem d_rm_no_0 : decode prog_40_method_4_code 0 = .ok (.aload_n 0, 1) := by decide +kernel
theorem d_rm_no_1 : decode prog_40_method_4_code 1 = .ok (.getstatic 13, 3) := by decide +kernel
theorem d_rm_no_4 : decode prog_40_method_4_code 4 = .ok (.if_acmp .eq 10, 3) := by decide +kernel
theorem d_rm_no_7 : decode prog_40_method_4_code 7 = .ok (.aload_n 0, 1) := by decide +kernel
theorem d_rm_no_8 : decode prog_40_method_4_code 8 = .ok (.getstatic 16, 3) := by decide +kernel
theorem d_rm_no_11 : decode prog_40_method_4_code 11 = .ok (.if_acmp .ne 7, 3) := by decide +kernel
theorem d_rm_no_18 : decode prog_40_method_4_code 18 = .ok (.iconst 0, 1) := by decide +kernel
theorem d_rm_no_19 : decode prog_40_method_4_code 19 = .ok (.ireturn, 1) := by decide +kernel
def Q_rm_no (Z : State) (a1 : Addr) (a_CONFIRMED : Addr) (a_FAILED_FINAL : Addr) (h0 : Heap) (n0 : Nat) (v : Option Value) (h : Heap) (L : List Loc) : Prop := v = some (.int (0 : Int32)) ∧ Fr n0 L ∧ h = h0
theorem ef_rm_no (m : MethodId) (a1 : Addr) (a_CONFIRMED : Addr) (a_FAILED_FINAL : Addr) : entryFrame m #[(.ref a1)] 1 = mkF m 0 #[.val (.ref a1)] [] := by first | (simp [entryFrame, mkF, argsToLocals, Value.category]; done) | rfl
set_option maxRecDepth 65536 in
set_option maxHeartbeats 40000000 in
theorem rm_no (l : Launch) (Z : State) (a0 : Array Value) (hw : ∀ d ∈ tables_1, d.before a0 Z = true) (ws : List Jvm.Cond) (a1 : Addr) (a_CONFIRMED : Addr) (a_FAILED_FINAL : Addr) (h0 : Heap) (n0 : Nat) (O0 : Old Z n0 h0) (S_CONFIRMED : Sta Z Z.heap "com/example/commit_to_chain/committochain/core/TransactionState" "CONFIRMED" "Lcom/example/commit_to_chain/committochain/core/TransactionState;" (.ref a_CONFIRMED)) (S_FAILED_FINAL : Sta Z Z.heap "com/example/commit_to_chain/committochain/core/TransactionState" "FAILED_FINAL" "Lcom/example/commit_to_chain/committochain/core/TransactionState;" (.ref a_FAILED_FINAL)) (ha : ¬ (a1 = a_CONFIRMED)) (hb_ : ¬ (a1 = a_FAILED_FINAL)) :
    MetFree l (⟨"com/example/commit_to_chain/committochain/core/TransactionState", "isFinal", "()Z"⟩ : MethodName) (head1 (Jvm.Cond.code (⟨"com/example/commit_to_chain/committochain/core/TransactionState", "isFinal", "()Z"⟩ : MethodName) prog_40_method_4_code 1 (some .boolean) :: ws) ({ frames := 0, cells := 0, slots := 0, locals := 0 } : Room)) (fun a U => a = #[(.ref a1)] ∧ Z.Warmed39 U.vm ∧ U.heap = h0) (fun _ _ _ _ _ => True) (fun _ U o U' => ∃ v L, o = .returned v ∧ Q_rm_no Z a1 a_CONFIRMED a_FAILED_FINAL h0 n0 v U'.heap L ∧ FrameEnd U o U' L ({ frames := 0, cells := 0, slots := 0, locals := 0 } : Room).cells ({ frames := 0, cells := 0, slots := 0, locals := 0 } : Room).slots) := by
  refine MetFree.of_bodySF (plainFor_of_name own_pn_com_example_commit_to_chain_committochain_core_TransactionState) hisR ?_
  intro p e s m args below meth c s₁ Bd hml0 hP hK
  obtain ⟨rfl, hZ, hh⟩ := hP
  have hx := Bd.exec
  have hby := Bd.bytes
  have hml : c.maxLocals = 1 := hml0
  have hown : s.vm.findClass "com/example/commit_to_chain/committochain/core/TransactionState" = some m.cls := findClass_of_methodNamed Bd.named
  have hnm := (name_of_methodNamed Bd.named Bd.method).1
  have X0 : Stand p l e ({ frames := 0, cells := 0, slots := 0, locals := 0 } : Room) s m #[(.ref a1)] below meth c s₁ [] 0 0 := Stand.of_body Bd
  have e0 : s₁.heap = h0 := by rw [← hh, Bd.state]; rfl
  have N0 := Fr.nil n0
  have Z0 : n0 ≤ h0.size := by rw [← O0.1]; exact O0.2.1
  show own_Go p e below (s₁.setTop (entryFrame m #[(.ref a1)] 1)) (fun t o => ∃ v L, o = .returned v ∧ Q_rm_no Z a1 a_CONFIRMED a_FAILED_FINAL h0 n0 v t.heap L ∧ FrameEnd s o t L ({ frames := 0, cells := 0, slots := 0, locals := 0 } : Room).cells ({ frames := 0, cells := 0, slots := 0, locals := 0 } : Room).slots)
  rw [ef_rm_no m a1 a_CONFIRMED a_FAILED_FINAL]
  refine own_by (fun _ k => XS.aloadN X0.here hx rfl (hb hby d_rm_no_0) rfl rfl k) ?_
  show own_Go p e below (s₁.setTop (mkF m 1 #[.val (.ref a1)] [(.ref a1)])) _
  obtain ⟨T1, X1, e1, st1⟩ := getS2 X0 hx hZ hown (host := "") (Or.inl (hw _ (List.mem_of_getElem? (i := 9) rfl))) Via.refl e0 (S_CONFIRMED.ext O0.2) (g := (mkF m 1 #[.val (.ref a1)] [(.ref a1)])) rfl (hb hby d_rm_no_1)
  refine own_by st1 ?_
  show own_Go p e below (T1.setTop (mkF m 4 #[.val (.ref a1)] [(.ref a_CONFIRMED), (.ref a1)])) _
  refine own_by (fun _ k => Jvm.RoadKit.acmp (g := (mkF m 4 #[.val (.ref a1)] [(.ref a_CONFIRMED), (.ref a1)])) X1 hx rfl rfl rfl (pc0 := 4) (pc' := 7) (same := false) rfl (hb hby d_rm_no_4) rfl (decide_eq_false fun q => ha (Value.ref.inj q)) (by decide) (by decide) k) ?_
  show own_Go p e below (T1.setTop (mkF m 7 #[.val (.ref a1)] [])) _
  refine own_by (fun _ k => XS.aloadN X1.here hx rfl (hb hby d_rm_no_7) rfl rfl k) ?_
  show own_Go p e below (T1.setTop (mkF m 8 #[.val (.ref a1)] [(.ref a1)])) _
  obtain ⟨T2, X2, e2, st2⟩ := getS2 X1 hx hZ hown (host := "") (Or.inl (hw _ (List.mem_of_getElem? (i := 11) rfl))) Via.refl e1 (S_FAILED_FINAL.ext O0.2) (g := (mkF m 8 #[.val (.ref a1)] [(.ref a1)])) rfl (hb hby d_rm_no_8)
  refine own_by st2 ?_
  show own_Go p e below (T2.setTop (mkF m 11 #[.val (.ref a1)] [(.ref a_FAILED_FINAL), (.ref a1)])) _
  refine own_by (fun _ k => Jvm.RoadKit.acmp (g := (mkF m 11 #[.val (.ref a1)] [(.ref a_FAILED_FINAL), (.ref a1)])) X2 hx rfl rfl rfl (pc0 := 11) (pc' := 18) (same := false) rfl (hb hby d_rm_no_11) rfl (decide_eq_false fun q => hb_ (Value.ref.inj q)) (by decide) (by decide) k) ?_
  show own_Go p e below (T2.setTop (mkF m 18 #[.val (.ref a1)] [])) _
  refine own_by (fun _ k => XS.iconst X2.here hx rfl (hb hby d_rm_no_18) k) ?_
  show own_Go p e below (T2.setTop (mkF m 19 #[.val (.ref a1)] [(.int (0 : Int32))])) _
  obtain ⟨fs, hr, hrun, hended, hW, hsame⟩ := X2.leave (v := some (.int (0 : Int32))) (fun h => by rw [Bd.returns] at h; cases h)
  refine ⟨_, _, retN X2 hx (t := .boolean) Bd.returns (by simp) (hb hby d_rm_no_19) hr, hrun, hended, _, _, rfl, ?_, ⟨_, rfl⟩, hW, hsame.mono (by decide) (by decide)⟩
  show Q_rm_no Z a1 a_CONFIRMED a_FAILED_FINAL h0 n0 _ T2.heap _
  rw [e2]
  exact ⟨rfl, N0, rfl⟩
def Q_rm_law (Z : State) (p1 : Int32) (a_ALLOCATED : Addr) (a_TRACKING : Addr) (a_STUCK : Addr) (a_CONFIRMED : Addr) (a_FAILED_FINAL : Addr) (h0 : Heap) (n0 : Nat) (v : Option Value) (h : Heap) (L : List Loc) : Prop := v = some (.int (1 : Int32)) ∧ Fr n0 L ∧ h = h0
theorem ef_rm_law (m : MethodId) (p1 : Int32) (a_ALLOCATED : Addr) (a_TRACKING : Addr) (a_STUCK : Addr) (a_CONFIRMED : Addr) (a_FAILED_FINAL : Addr) : entryFrame m #[(.int p1)] maxLocals = mkF m 0 #[.val (.int p1), .unset, .unset, .unset] [] := by first | (simp [entryFrame, mkF, argsToLocals, Value.category, maxLocals]; done) | rfl
set_option maxRecDepth 65536 in
set_option maxHeartbeats 40000000 in
theorem rm_law (l : Launch) (Z : State) (a0 : Array Value) (hw : ∀ d ∈ tables_1, d.before a0 Z = true) (ws : List Jvm.Cond) (p1 : Int32) (a_ALLOCATED : Addr) (a_TRACKING : Addr) (a_STUCK : Addr) (a_CONFIRMED : Addr) (a_FAILED_FINAL : Addr) (h0 : Heap) (n0 : Nat) (O0 : Old Z n0 h0) (S_ALLOCATED : Sta Z Z.heap "com/example/commit_to_chain/committochain/core/TransactionState" "ALLOCATED" "Lcom/example/commit_to_chain/committochain/core/TransactionState;" (.ref a_ALLOCATED)) (S_TRACKING : Sta Z Z.heap "com/example/commit_to_chain/committochain/core/TransactionState" "TRACKING" "Lcom/example/commit_to_chain/committochain/core/TransactionState;" (.ref a_TRACKING)) (S_STUCK : Sta Z Z.heap "com/example/commit_to_chain/committochain/core/TransactionState" "STUCK" "Lcom/example/commit_to_chain/committochain/core/TransactionState;" (.ref a_STUCK)) (S_CONFIRMED : Sta Z Z.heap "com/example/commit_to_chain/committochain/core/TransactionState" "CONFIRMED" "Lcom/example/commit_to_chain/committochain/core/TransactionState;" (.ref a_CONFIRMED)) (S_FAILED_FINAL : Sta Z Z.heap "com/example/commit_to_chain/committochain/core/TransactionState" "FAILED_FINAL" "Lcom/example/commit_to_chain/committochain/core/TransactionState;" (.ref a_FAILED_FINAL)) (E_ALLOCATED : Exa Z Z.heap a_ALLOCATED "com/example/commit_to_chain/committochain/core/TransactionState") (E_TRACKING : Exa Z Z.heap a_TRACKING "com/example/commit_to_chain/committochain/core/TransactionState") (E_STUCK : Exa Z Z.heap a_STUCK "com/example/commit_to_chain/committochain/core/TransactionState") (E_CONFIRMED : Exa Z Z.heap a_CONFIRMED "com/example/commit_to_chain/committochain/core/TransactionState") (E_FAILED_FINAL : Exa Z Z.heap a_FAILED_FINAL "com/example/commit_to_chain/committochain/core/TransactionState") (n_ALLOCATED_CONFIRMED : ¬ (a_ALLOCATED = a_CONFIRMED)) (n_ALLOCATED_FAILED_FINAL : ¬ (a_ALLOCATED = a_FAILED_FINAL)) (n_TRACKING_CONFIRMED : ¬ (a_TRACKING = a_CONFIRMED)) (n_TRACKING_FAILED_FINAL : ¬ (a_TRACKING = a_FAILED_FINAL)) (n_STUCK_CONFIRMED : ¬ (a_STUCK = a_CONFIRMED)) (n_STUCK_FAILED_FINAL : ¬ (a_STUCK = a_FAILED_FINAL)) (n_CONFIRMED_FAILED_FINAL : ¬ (a_CONFIRMED = a_FAILED_FINAL)) (n_FAILED_FINAL_CONFIRMED : ¬ (a_FAILED_FINAL = a_CONFIRMED)) :
    MetFree l x (head1 (Jvm.Cond.code x code maxLocals ret :: ws) room_1) (fun a U => a = #[(.int p1)] ∧ Z.Warmed39 U.vm ∧ U.heap = h0) (fun _ _ _ _ _ => True) (fun _ U o U' => ∃ v L, o = .returned v ∧ Q_rm_law Z p1 a_ALLOCATED a_TRACKING a_STUCK a_CONFIRMED a_FAILED_FINAL h0 n0 v U'.heap L ∧ FrameEnd U o U' L room_1.cells room_1.slots) := by
  refine MetFree.of_bodySF (plainFor_of_name own_pn_com_example_commit_to_chain_committochain_core_TransactionStateIsFinalPinLaw) hisR ?_
  intro p e s m args below meth c s₁ Bd hml0 hP hK
  obtain ⟨rfl, hZ, hh⟩ := hP
  have hx := Bd.exec
  have hby := Bd.bytes
  have hml : c.maxLocals = 4 := hml0
  have hown : s.vm.findClass "com/example/commit_to_chain/committochain/core/TransactionStateIsFinalPinLaw" = some m.cls := findClass_of_methodNamed Bd.named
  have hnm := (name_of_methodNamed Bd.named Bd.method).1
  have X0 : Stand p l e room_1 s m #[(.int p1)] below meth c s₁ [] 0 0 := Stand.of_body Bd
  have e0 : s₁.heap = h0 := by rw [← hh, Bd.state]; rfl
  have N0 := Fr.nil n0
  have Z0 : n0 ≤ h0.size := by rw [← O0.1]; exact O0.2.1
  show own_Go p e below (s₁.setTop (entryFrame m #[(.int p1)] maxLocals)) (fun t o => ∃ v L, o = .returned v ∧ Q_rm_law Z p1 a_ALLOCATED a_TRACKING a_STUCK a_CONFIRMED a_FAILED_FINAL h0 n0 v t.heap L ∧ FrameEnd s o t L room_1.cells room_1.slots)
  rw [ef_rm_law m p1 a_ALLOCATED a_TRACKING a_STUCK a_CONFIRMED a_FAILED_FINAL]
  refine own_by (fun _ k => XS.iloadN X0.here hx rfl (hb hby at_0) rfl k) ?_
  show own_Go p e below (s₁.setTop (mkF m 1 #[.val (.int p1), .unset, .unset, .unset] [(.int p1)])) _
  refine own_by (X0.ldcInt hx hown (mvT hZ (hw _ (List.mem_of_getElem? (i := 0) rfl))) (g := (mkF m 1 #[.val (.int p1), .unset, .unset, .unset] [(.int p1)])) rfl (hb hby at_1)) ?_
  show own_Go p e below (s₁.setTop (mkF m 3 #[.val (.int p1), .unset, .unset, .unset] [(.int (2147483647 : Int32)), (.int p1)])) _
  refine own_by (fun _ k => XS.iand X0.here hx rfl (hb hby at_3) rfl k) ?_
  show own_Go p e below (s₁.setTop (mkF m 4 #[.val (.int p1), .unset, .unset, .unset] [(.int (p1 &&& (2147483647 : Int32)))])) _
  refine own_by (fun _ k => XS.iconst X0.here hx rfl (hb hby at_4) k) ?_
  show own_Go p e below (s₁.setTop (mkF m 5 #[.val (.int p1), .unset, .unset, .unset] [(.int (5 : Int32)), (.int (p1 &&& (2147483647 : Int32)))])) _
  refine own_by (fun _ k => iremM (g := (mkF m 5 #[.val (.int p1), .unset, .unset, .unset] [(.int (5 : Int32)), (.int (p1 &&& (2147483647 : Int32)))])) X0 hx rfl (hb hby at_5) rfl (by decide : ¬ ((5 : Int32) = (0 : Int32))) k) ?_
  show own_Go p e below (s₁.setTop (mkF m 6 #[.val (.int p1), .unset, .unset, .unset] [(.int ((p1 &&& (2147483647 : Int32)) % (5 : Int32)))])) _
  refine own_by (fun _ k => XS.istoreN X0.here hx rfl (hb hby at_6) rfl (l' := #[.val (.int p1), .val (.int ((p1 &&& (2147483647 : Int32)) % (5 : Int32))), .unset, .unset]) rfl k) ?_
  show own_Go p e below (s₁.setTop (mkF m 7 #[.val (.int p1), .val (.int ((p1 &&& (2147483647 : Int32)) % (5 : Int32))), .unset, .unset] [])) _
  refine own_by (fun _ k => XS.iloadN X0.here hx rfl (hb hby at_7) rfl k) ?_
  show own_Go p e below (s₁.setTop (mkF m 8 #[.val (.int p1), .val (.int ((p1 &&& (2147483647 : Int32)) % (5 : Int32))), .unset, .unset] [(.int ((p1 &&& (2147483647 : Int32)) % (5 : Int32)))])) _
  by_cases c1 : ((p1 &&& (2147483647 : Int32)) % (5 : Int32)) = (0 : Int32)
  · skip
    refine own_by (fun _ k => XS.ifNo X0.here hx rfl (hb hby at_8) rfl ((if0 _ _).trans (teq c1).2) k) ?_
    show own_Go p e below (s₁.setTop (mkF m 11 #[.val (.int p1), .val (.int ((p1 &&& (2147483647 : Int32)) % (5 : Int32))), .unset, .unset] [])) _
    obtain ⟨T2, X2, e2, st2⟩ := getS2 X0 hx hZ hown (host := "") (Or.inl (hw _ (List.mem_of_getElem? (i := 1) rfl))) Via.refl e0 (S_ALLOCATED.ext O0.2) (g := (mkF m 11 #[.val (.int p1), .val (.int ((p1 &&& (2147483647 : Int32)) % (5 : Int32))), .unset, .unset] [])) rfl (hb hby at_11)
    refine own_by st2 ?_
    show own_Go p e below (T2.setTop (mkF m 14 #[.val (.int p1), .val (.int ((p1 &&& (2147483647 : Int32)) % (5 : Int32))), .unset, .unset] [(.ref a_ALLOCATED)])) _
    refine own_by (fun _ k => XS.astoreN X2.here hx rfl (hb hby at_14) rfl rfl (l' := #[.val (.int p1), .val (.int ((p1 &&& (2147483647 : Int32)) % (5 : Int32))), .val (.ref a_ALLOCATED), .unset]) rfl k) ?_
    show own_Go p e below (T2.setTop (mkF m 15 #[.val (.int p1), .val (.int ((p1 &&& (2147483647 : Int32)) % (5 : Int32))), .val (.ref a_ALLOCATED), .unset] [])) _
    refine own_by (fun _ k => XS.iconst X2.here hx rfl (hb hby at_15) k) ?_
    show own_Go p e below (T2.setTop (mkF m 16 #[.val (.int p1), .val (.int ((p1 &&& (2147483647 : Int32)) % (5 : Int32))), .val (.ref a_ALLOCATED), .unset] [(.int (0 : Int32))])) _
    refine own_by (fun _ k => XS.istoreN X2.here hx rfl (hb hby at_16) rfl (l' := #[.val (.int p1), .val (.int ((p1 &&& (2147483647 : Int32)) % (5 : Int32))), .val (.ref a_ALLOCATED), .val (.int (0 : Int32))]) rfl k) ?_
    show own_Go p e below (T2.setTop (mkF m 17 #[.val (.int p1), .val (.int ((p1 &&& (2147483647 : Int32)) % (5 : Int32))), .val (.ref a_ALLOCATED), .val (.int (0 : Int32))] [])) _
    refine own_by (fun _ k => XS.goto X2.here hx rfl (pc0 := 17) (pc' := 68) rfl (hb hby at_17) (by decide) (by decide) k) ?_
    show own_Go p e below (T2.setTop (mkF m 68 #[.val (.int p1), .val (.int ((p1 &&& (2147483647 : Int32)) % (5 : Int32))), .val (.ref a_ALLOCATED), .val (.int (0 : Int32))] [])) _
    refine own_by (fun _ k => XS.aloadN X2.here hx rfl (hb hby at_68) rfl rfl k) ?_
    show own_Go p e below (T2.setTop (mkF m 69 #[.val (.int p1), .val (.int ((p1 &&& (2147483647 : Int32)) % (5 : Int32))), .val (.ref a_ALLOCATED), .val (.int (0 : Int32))] [(.ref a_ALLOCATED)])) _
    have f4 : Exa Z h0 a_ALLOCATED "com/example/commit_to_chain/committochain/core/TransactionState" := E_ALLOCATED.ext O0.2
    obtain ⟨cq3, kq3, q3a, q3b, q3c⟩ := isOf hZ e2 f4
    obtain ⟨_, _, ⟨T3, L3, k3, n3⟩, -, X3, ⟨Lc3, hQ3, l3, y3, z3⟩, st3⟩ := X2.virtualBack hx (y := (⟨"com/example/commit_to_chain/committochain/core/TransactionState", "isFinal", "()Z"⟩ : MethodName)) (z := (⟨"com/example/commit_to_chain/committochain/core/TransactionState", "isFinal", "()Z"⟩ : MethodName)) hown (mvT hZ (hw _ (List.mem_of_getElem? (i := 4) rfl))) (mvT hZ (hw _ (List.mem_of_getElem? (i := 5) rfl))) (notFace_of_selects (args := #[]) (mvT hZ (hw _ (List.mem_of_getElem? (i := 7) rfl)))) (mvT hZ (hw _ (List.mem_of_getElem? (i := 7) rfl))) (mvT hZ (hw _ (List.mem_of_getElem? (i := 6) rfl))) (by decide) (backOf (W := 0) (rm_no l Z a0 hw [] a_ALLOCATED a_CONFIRMED a_FAILED_FINAL h0 n0 O0 S_CONFIRMED S_FAILED_FINAL n_ALLOCATED_CONFIRMED n_ALLOCATED_FAILED_FINAL) hZ (hw _ (List.mem_of_getElem? (i := 8) rfl)) (hw _ (List.mem_of_getElem? (i := 2) rfl)) (by decide) (by decide)) q3a q3c (g := (mkF m 69 #[.val (.int p1), .val (.int ((p1 &&& (2147483647 : Int32)) % (5 : Int32))), .val (.ref a_ALLOCATED), .val (.int (0 : Int32))] [(.ref a_ALLOCATED)])) rfl (by rw [hml]; rfl) (Steps.refl _) (argsL := []) (rest := []) (lenOf own_pd__28_29Z rfl) rfl (by show 2 * 0 + _ ≤ _; exact Nat.le_of_eq rfl) (hb hby at_69) (fun _ _ => ⟨rfl, e2, (by decide : 0 + 0 ≤ _), (by decide : 0 + 0 ≤ _)⟩)
    dsimp only [Pt.U, Pt.locs, Pt.cells, Pt.slots] at X3 l3 y3 z3 st3 hQ3
    subst l3 y3 z3
    obtain ⟨rfl, M3, K3⟩ := hQ3
    have N3 := Fr.app N0 M3
    refine own_by (fun _ k => st3.trans k) ?_
    show own_Go p e below (T3.setTop (mkF m 72 #[.val (.int p1), .val (.int ((p1 &&& (2147483647 : Int32)) % (5 : Int32))), .val (.ref a_ALLOCATED), .val (.int (0 : Int32))] [(.int (0 : Int32))])) _
    refine own_by (fun _ k => XS.iloadN X3.here hx rfl (hb hby at_72) rfl k) ?_
    show own_Go p e below (T3.setTop (mkF m 73 #[.val (.int p1), .val (.int ((p1 &&& (2147483647 : Int32)) % (5 : Int32))), .val (.ref a_ALLOCATED), .val (.int (0 : Int32))] [(.int (0 : Int32)), (.int (0 : Int32))])) _
    refine own_by (fun _ k => XS.icmpNo X3.here hx rfl (hb hby at_73) rfl (teq (by decide : (0 : Int32) = (0 : Int32))).2 k) ?_
    show own_Go p e below (T3.setTop (mkF m 76 #[.val (.int p1), .val (.int ((p1 &&& (2147483647 : Int32)) % (5 : Int32))), .val (.ref a_ALLOCATED), .val (.int (0 : Int32))] [])) _
    refine own_by (fun _ k => XS.iconst X3.here hx rfl (hb hby at_76) k) ?_
    show own_Go p e below (T3.setTop (mkF m 77 #[.val (.int p1), .val (.int ((p1 &&& (2147483647 : Int32)) % (5 : Int32))), .val (.ref a_ALLOCATED), .val (.int (0 : Int32))] [(.int (1 : Int32))])) _
    refine own_by (fun _ k => XS.goto X3.here hx rfl (pc0 := 77) (pc' := 81) rfl (hb hby at_77) (by decide) (by decide) k) ?_
    show own_Go p e below (T3.setTop (mkF m 81 #[.val (.int p1), .val (.int ((p1 &&& (2147483647 : Int32)) % (5 : Int32))), .val (.ref a_ALLOCATED), .val (.int (0 : Int32))] [(.int (1 : Int32))])) _
    obtain ⟨fs, hr, hrun, hended, hW, hsame⟩ := X3.leave (v := some (.int (1 : Int32))) (fun h => by rw [Bd.returns] at h; cases h)
    refine ⟨_, _, retN X3 hx (t := .boolean) Bd.returns (by simp) (hb hby at_81) hr, hrun, hended, _, _, rfl, ?_, ⟨_, rfl⟩, hW, hsame.mono (by decide) (by decide)⟩
    show Q_rm_law Z p1 a_ALLOCATED a_TRACKING a_STUCK a_CONFIRMED a_FAILED_FINAL h0 n0 _ T3.heap _
    rw [K3]
    exact ⟨rfl, N3, rfl⟩
  · skip
    refine own_by (fun _ k => XS.ifYes X0.here hx rfl (pc0 := 8) (pc' := 20) rfl (hb hby at_8) rfl ((if0 _ _).trans (feq c1).2) (by decide) (by decide) k) ?_
    show own_Go p e below (s₁.setTop (mkF m 20 #[.val (.int p1), .val (.int ((p1 &&& (2147483647 : Int32)) % (5 : Int32))), .unset, .unset] [])) _
    refine own_by (fun _ k => XS.iloadN X0.here hx rfl (hb hby at_20) rfl k) ?_
    show own_Go p e below (s₁.setTop (mkF m 21 #[.val (.int p1), .val (.int ((p1 &&& (2147483647 : Int32)) % (5 : Int32))), .unset, .unset] [(.int ((p1 &&& (2147483647 : Int32)) % (5 : Int32)))])) _
    refine own_by (fun _ k => XS.iconst X0.here hx rfl (hb hby at_21) k) ?_
    show own_Go p e below (s₁.setTop (mkF m 22 #[.val (.int p1), .val (.int ((p1 &&& (2147483647 : Int32)) % (5 : Int32))), .unset, .unset] [(.int (1 : Int32)), (.int ((p1 &&& (2147483647 : Int32)) % (5 : Int32)))])) _
    by_cases c5 : ((p1 &&& (2147483647 : Int32)) % (5 : Int32)) = (1 : Int32)
    · skip
      refine own_by (fun _ k => XS.icmpNo X0.here hx rfl (hb hby at_22) rfl (teq c5).2 k) ?_
      show own_Go p e below (s₁.setTop (mkF m 25 #[.val (.int p1), .val (.int ((p1 &&& (2147483647 : Int32)) % (5 : Int32))), .unset, .unset] [])) _
      obtain ⟨T6, X6, e6, st6⟩ := getS2 X0 hx hZ hown (host := "") (Or.inl (hw _ (List.mem_of_getElem? (i := 14) rfl))) Via.refl e0 (S_TRACKING.ext O0.2) (g := (mkF m 25 #[.val (.int p1), .val (.int ((p1 &&& (2147483647 : Int32)) % (5 : Int32))), .unset, .unset] [])) rfl (hb hby at_25)
      refine own_by st6 ?_
      show own_Go p e below (T6.setTop (mkF m 28 #[.val (.int p1), .val (.int ((p1 &&& (2147483647 : Int32)) % (5 : Int32))), .unset, .unset] [(.ref a_TRACKING)])) _
      refine own_by (fun _ k => XS.astoreN X6.here hx rfl (hb hby at_28) rfl rfl (l' := #[.val (.int p1), .val (.int ((p1 &&& (2147483647 : Int32)) % (5 : Int32))), .val (.ref a_TRACKING), .unset]) rfl k) ?_
      show own_Go p e below (T6.setTop (mkF m 29 #[.val (.int p1), .val (.int ((p1 &&& (2147483647 : Int32)) % (5 : Int32))), .val (.ref a_TRACKING), .unset] [])) _
      refine own_by (fun _ k => XS.iconst X6.here hx rfl (hb hby at_29) k) ?_
      show own_Go p e below (T6.setTop (mkF m 30 #[.val (.int p1), .val (.int ((p1 &&& (2147483647 : Int32)) % (5 : Int32))), .val (.ref a_TRACKING), .unset] [(.int (0 : Int32))])) _
      refine own_by (fun _ k => XS.istoreN X6.here hx rfl (hb hby at_30) rfl (l' := #[.val (.int p1), .val (.int ((p1 &&& (2147483647 : Int32)) % (5 : Int32))), .val (.ref a_TRACKING), .val (.int (0 : Int32))]) rfl k) ?_
      show own_Go p e below (T6.setTop (mkF m 31 #[.val (.int p1), .val (.int ((p1 &&& (2147483647 : Int32)) % (5 : Int32))), .val (.ref a_TRACKING), .val (.int (0 : Int32))] [])) _
      refine own_by (fun _ k => XS.goto X6.here hx rfl (pc0 := 31) (pc' := 68) rfl (hb hby at_31) (by decide) (by decide) k) ?_
      show own_Go p e below (T6.setTop (mkF m 68 #[.val (.int p1), .val (.int ((p1 &&& (2147483647 : Int32)) % (5 : Int32))), .val (.ref a_TRACKING), .val (.int (0 : Int32))] [])) _
      refine own_by (fun _ k => XS.aloadN X6.here hx rfl (hb hby at_68) rfl rfl k) ?_
      show own_Go p e below (T6.setTop (mkF m 69 #[.val (.int p1), .val (.int ((p1 &&& (2147483647 : Int32)) % (5 : Int32))), .val (.ref a_TRACKING), .val (.int (0 : Int32))] [(.ref a_TRACKING)])) _
      have f8 : Exa Z h0 a_TRACKING "com/example/commit_to_chain/committochain/core/TransactionState" := E_TRACKING.ext O0.2
      obtain ⟨cq7, kq7, q7a, q7b, q7c⟩ := isOf hZ e6 f8
      obtain ⟨_, _, ⟨T7, L7, k7, n7⟩, -, X7, ⟨Lc7, hQ7, l7, y7, z7⟩, st7⟩ := X6.virtualBack hx (y := (⟨"com/example/commit_to_chain/committochain/core/TransactionState", "isFinal", "()Z"⟩ : MethodName)) (z := (⟨"com/example/commit_to_chain/committochain/core/TransactionState", "isFinal", "()Z"⟩ : MethodName)) hown (mvT hZ (hw _ (List.mem_of_getElem? (i := 4) rfl))) (mvT hZ (hw _ (List.mem_of_getElem? (i := 5) rfl))) (notFace_of_selects (args := #[]) (mvT hZ (hw _ (List.mem_of_getElem? (i := 7) rfl)))) (mvT hZ (hw _ (List.mem_of_getElem? (i := 7) rfl))) (mvT hZ (hw _ (List.mem_of_getElem? (i := 6) rfl))) (by decide) (backOf (W := 0) (rm_no l Z a0 hw [] a_TRACKING a_CONFIRMED a_FAILED_FINAL h0 n0 O0 S_CONFIRMED S_FAILED_FINAL n_TRACKING_CONFIRMED n_TRACKING_FAILED_FINAL) hZ (hw _ (List.mem_of_getElem? (i := 8) rfl)) (hw _ (List.mem_of_getElem? (i := 2) rfl)) (by decide) (by decide)) q7a q7c (g := (mkF m 69 #[.val (.int p1), .val (.int ((p1 &&& (2147483647 : Int32)) % (5 : Int32))), .val (.ref a_TRACKING), .val (.int (0 : Int32))] [(.ref a_TRACKING)])) rfl (by rw [hml]; rfl) (Steps.refl _) (argsL := []) (rest := []) (lenOf own_pd__28_29Z rfl) rfl (by show 2 * 0 + _ ≤ _; exact Nat.le_of_eq rfl) (hb hby at_69) (fun _ _ => ⟨rfl, e6, (by decide : 0 + 0 ≤ _), (by decide : 0 + 0 ≤ _)⟩)
      dsimp only [Pt.U, Pt.locs, Pt.cells, Pt.slots] at X7 l7 y7 z7 st7 hQ7
      subst l7 y7 z7
      obtain ⟨rfl, M7, K7⟩ := hQ7
      have N7 := Fr.app N0 M7
      refine own_by (fun _ k => st7.trans k) ?_
      show own_Go p e below (T7.setTop (mkF m 72 #[.val (.int p1), .val (.int ((p1 &&& (2147483647 : Int32)) % (5 : Int32))), .val (.ref a_TRACKING), .val (.int (0 : Int32))] [(.int (0 : Int32))])) _
      refine own_by (fun _ k => XS.iloadN X7.here hx rfl (hb hby at_72) rfl k) ?_
      show own_Go p e below (T7.setTop (mkF m 73 #[.val (.int p1), .val (.int ((p1 &&& (2147483647 : Int32)) % (5 : Int32))), .val (.ref a_TRACKING), .val (.int (0 : Int32))] [(.int (0 : Int32)), (.int (0 : Int32))])) _
      refine own_by (fun _ k => XS.icmpNo X7.here hx rfl (hb hby at_73) rfl (teq (by decide : (0 : Int32) = (0 : Int32))).2 k) ?_
      show own_Go p e below (T7.setTop (mkF m 76 #[.val (.int p1), .val (.int ((p1 &&& (2147483647 : Int32)) % (5 : Int32))), .val (.ref a_TRACKING), .val (.int (0 : Int32))] [])) _
      refine own_by (fun _ k => XS.iconst X7.here hx rfl (hb hby at_76) k) ?_
      show own_Go p e below (T7.setTop (mkF m 77 #[.val (.int p1), .val (.int ((p1 &&& (2147483647 : Int32)) % (5 : Int32))), .val (.ref a_TRACKING), .val (.int (0 : Int32))] [(.int (1 : Int32))])) _
      refine own_by (fun _ k => XS.goto X7.here hx rfl (pc0 := 77) (pc' := 81) rfl (hb hby at_77) (by decide) (by decide) k) ?_
      show own_Go p e below (T7.setTop (mkF m 81 #[.val (.int p1), .val (.int ((p1 &&& (2147483647 : Int32)) % (5 : Int32))), .val (.ref a_TRACKING), .val (.int (0 : Int32))] [(.int (1 : Int32))])) _
      obtain ⟨fs, hr, hrun, hended, hW, hsame⟩ := X7.leave (v := some (.int (1 : Int32))) (fun h => by rw [Bd.returns] at h; cases h)
      refine ⟨_, _, retN X7 hx (t := .boolean) Bd.returns (by simp) (hb hby at_81) hr, hrun, hended, _, _, rfl, ?_, ⟨_, rfl⟩, hW, hsame.mono (by decide) (by decide)⟩
      show Q_rm_law Z p1 a_ALLOCATED a_TRACKING a_STUCK a_CONFIRMED a_FAILED_FINAL h0 n0 _ T7.heap _
      rw [K7]
      exact ⟨rfl, N7, rfl⟩
    · skip
      refine own_by (fun _ k => XS.icmpYes X0.here hx rfl (pc0 := 22) (pc' := 34) rfl (hb hby at_22) rfl (feq c5).2 (by decide) (by decide) k) ?_
      show own_Go p e below (s₁.setTop (mkF m 34 #[.val (.int p1), .val (.int ((p1 &&& (2147483647 : Int32)) % (5 : Int32))), .unset, .unset] [])) _
      refine own_by (fun _ k => XS.iloadN X0.here hx rfl (hb hby at_34) rfl k) ?_
      show own_Go p e below (s₁.setTop (mkF m 35 #[.val (.int p1), .val (.int ((p1 &&& (2147483647 : Int32)) % (5 : Int32))), .unset, .unset] [(.int ((p1 &&& (2147483647 : Int32)) % (5 : Int32)))])) _
      refine own_by (fun _ k => XS.iconst X0.here hx rfl (hb hby at_35) k) ?_
      show own_Go p e below (s₁.setTop (mkF m 36 #[.val (.int p1), .val (.int ((p1 &&& (2147483647 : Int32)) % (5 : Int32))), .unset, .unset] [(.int (2 : Int32)), (.int ((p1 &&& (2147483647 : Int32)) % (5 : Int32)))])) _
      by_cases c9 : ((p1 &&& (2147483647 : Int32)) % (5 : Int32)) = (2 : Int32)
      · skip
        refine own_by (fun _ k => XS.icmpNo X0.here hx rfl (hb hby at_36) rfl (teq c9).2 k) ?_
        show own_Go p e below (s₁.setTop (mkF m 39 #[.val (.int p1), .val (.int ((p1 &&& (2147483647 : Int32)) % (5 : Int32))), .unset, .unset] [])) _
        obtain ⟨T10, X10, e10, st10⟩ := getS2 X0 hx hZ hown (host := "") (Or.inl (hw _ (List.mem_of_getElem? (i := 17) rfl))) Via.refl e0 (S_STUCK.ext O0.2) (g := (mkF m 39 #[.val (.int p1), .val (.int ((p1 &&& (2147483647 : Int32)) % (5 : Int32))), .unset, .unset] [])) rfl (hb hby at_39)
        refine own_by st10 ?_
        show own_Go p e below (T10.setTop (mkF m 42 #[.val (.int p1), .val (.int ((p1 &&& (2147483647 : Int32)) % (5 : Int32))), .unset, .unset] [(.ref a_STUCK)])) _
        refine own_by (fun _ k => XS.astoreN X10.here hx rfl (hb hby at_42) rfl rfl (l' := #[.val (.int p1), .val (.int ((p1 &&& (2147483647 : Int32)) % (5 : Int32))), .val (.ref a_STUCK), .unset]) rfl k) ?_
        show own_Go p e below (T10.setTop (mkF m 43 #[.val (.int p1), .val (.int ((p1 &&& (2147483647 : Int32)) % (5 : Int32))), .val (.ref a_STUCK), .unset] [])) _
        refine own_by (fun _ k => XS.iconst X10.here hx rfl (hb hby at_43) k) ?_
        show own_Go p e below (T10.setTop (mkF m 44 #[.val (.int p1), .val (.int ((p1 &&& (2147483647 : Int32)) % (5 : Int32))), .val (.ref a_STUCK), .unset] [(.int (0 : Int32))])) _
        refine own_by (fun _ k => XS.istoreN X10.here hx rfl (hb hby at_44) rfl (l' := #[.val (.int p1), .val (.int ((p1 &&& (2147483647 : Int32)) % (5 : Int32))), .val (.ref a_STUCK), .val (.int (0 : Int32))]) rfl k) ?_
        show own_Go p e below (T10.setTop (mkF m 45 #[.val (.int p1), .val (.int ((p1 &&& (2147483647 : Int32)) % (5 : Int32))), .val (.ref a_STUCK), .val (.int (0 : Int32))] [])) _
        refine own_by (fun _ k => XS.goto X10.here hx rfl (pc0 := 45) (pc' := 68) rfl (hb hby at_45) (by decide) (by decide) k) ?_
        show own_Go p e below (T10.setTop (mkF m 68 #[.val (.int p1), .val (.int ((p1 &&& (2147483647 : Int32)) % (5 : Int32))), .val (.ref a_STUCK), .val (.int (0 : Int32))] [])) _
        refine own_by (fun _ k => XS.aloadN X10.here hx rfl (hb hby at_68) rfl rfl k) ?_
        show own_Go p e below (T10.setTop (mkF m 69 #[.val (.int p1), .val (.int ((p1 &&& (2147483647 : Int32)) % (5 : Int32))), .val (.ref a_STUCK), .val (.int (0 : Int32))] [(.ref a_STUCK)])) _
        have f12 : Exa Z h0 a_STUCK "com/example/commit_to_chain/committochain/core/TransactionState" := E_STUCK.ext O0.2
        obtain ⟨cq11, kq11, q11a, q11b, q11c⟩ := isOf hZ e10 f12
        obtain ⟨_, _, ⟨T11, L11, k11, n11⟩, -, X11, ⟨Lc11, hQ11, l11, y11, z11⟩, st11⟩ := X10.virtualBack hx (y := (⟨"com/example/commit_to_chain/committochain/core/TransactionState", "isFinal", "()Z"⟩ : MethodName)) (z := (⟨"com/example/commit_to_chain/committochain/core/TransactionState", "isFinal", "()Z"⟩ : MethodName)) hown (mvT hZ (hw _ (List.mem_of_getElem? (i := 4) rfl))) (mvT hZ (hw _ (List.mem_of_getElem? (i := 5) rfl))) (notFace_of_selects (args := #[]) (mvT hZ (hw _ (List.mem_of_getElem? (i := 7) rfl)))) (mvT hZ (hw _ (List.mem_of_getElem? (i := 7) rfl))) (mvT hZ (hw _ (List.mem_of_getElem? (i := 6) rfl))) (by decide) (backOf (W := 0) (rm_no l Z a0 hw [] a_STUCK a_CONFIRMED a_FAILED_FINAL h0 n0 O0 S_CONFIRMED S_FAILED_FINAL n_STUCK_CONFIRMED n_STUCK_FAILED_FINAL) hZ (hw _ (List.mem_of_getElem? (i := 8) rfl)) (hw _ (List.mem_of_getElem? (i := 2) rfl)) (by decide) (by decide)) q11a q11c (g := (mkF m 69 #[.val (.int p1), .val (.int ((p1 &&& (2147483647 : Int32)) % (5 : Int32))), .val (.ref a_STUCK), .val (.int (0 : Int32))] [(.ref a_STUCK)])) rfl (by rw [hml]; rfl) (Steps.refl _) (argsL := []) (rest := []) (lenOf own_pd__28_29Z rfl) rfl (by show 2 * 0 + _ ≤ _; exact Nat.le_of_eq rfl) (hb hby at_69) (fun _ _ => ⟨rfl, e10, (by decide : 0 + 0 ≤ _), (by decide : 0 + 0 ≤ _)⟩)
        dsimp only [Pt.U, Pt.locs, Pt.cells, Pt.slots] at X11 l11 y11 z11 st11 hQ11
        subst l11 y11 z11
        obtain ⟨rfl, M11, K11⟩ := hQ11
        have N11 := Fr.app N0 M11
        refine own_by (fun _ k => st11.trans k) ?_
        show own_Go p e below (T11.setTop (mkF m 72 #[.val (.int p1), .val (.int ((p1 &&& (2147483647 : Int32)) % (5 : Int32))), .val (.ref a_STUCK), .val (.int (0 : Int32))] [(.int (0 : Int32))])) _
        refine own_by (fun _ k => XS.iloadN X11.here hx rfl (hb hby at_72) rfl k) ?_
        show own_Go p e below (T11.setTop (mkF m 73 #[.val (.int p1), .val (.int ((p1 &&& (2147483647 : Int32)) % (5 : Int32))), .val (.ref a_STUCK), .val (.int (0 : Int32))] [(.int (0 : Int32)), (.int (0 : Int32))])) _
        refine own_by (fun _ k => XS.icmpNo X11.here hx rfl (hb hby at_73) rfl (teq (by decide : (0 : Int32) = (0 : Int32))).2 k) ?_
        show own_Go p e below (T11.setTop (mkF m 76 #[.val (.int p1), .val (.int ((p1 &&& (2147483647 : Int32)) % (5 : Int32))), .val (.ref a_STUCK), .val (.int (0 : Int32))] [])) _
        refine own_by (fun _ k => XS.iconst X11.here hx rfl (hb hby at_76) k) ?_
        show own_Go p e below (T11.setTop (mkF m 77 #[.val (.int p1), .val (.int ((p1 &&& (2147483647 : Int32)) % (5 : Int32))), .val (.ref a_STUCK), .val (.int (0 : Int32))] [(.int (1 : Int32))])) _
        refine own_by (fun _ k => XS.goto X11.here hx rfl (pc0 := 77) (pc' := 81) rfl (hb hby at_77) (by decide) (by decide) k) ?_
        show own_Go p e below (T11.setTop (mkF m 81 #[.val (.int p1), .val (.int ((p1 &&& (2147483647 : Int32)) % (5 : Int32))), .val (.ref a_STUCK), .val (.int (0 : Int32))] [(.int (1 : Int32))])) _
        obtain ⟨fs, hr, hrun, hended, hW, hsame⟩ := X11.leave (v := some (.int (1 : Int32))) (fun h => by rw [Bd.returns] at h; cases h)
        refine ⟨_, _, retN X11 hx (t := .boolean) Bd.returns (by simp) (hb hby at_81) hr, hrun, hended, _, _, rfl, ?_, ⟨_, rfl⟩, hW, hsame.mono (by decide) (by decide)⟩
        show Q_rm_law Z p1 a_ALLOCATED a_TRACKING a_STUCK a_CONFIRMED a_FAILED_FINAL h0 n0 _ T11.heap _
        rw [K11]
        exact ⟨rfl, N11, rfl⟩
      · skip
        refine own_by (fun _ k => XS.icmpYes X0.here hx rfl (pc0 := 36) (pc' := 48) rfl (hb hby at_36) rfl (feq c9).2 (by decide) (by decide) k) ?_
        show own_Go p e below (s₁.setTop (mkF m 48 #[.val (.int p1), .val (.int ((p1 &&& (2147483647 : Int32)) % (5 : Int32))), .unset, .unset] [])) _
        refine own_by (fun _ k => XS.iloadN X0.here hx rfl (hb hby at_48) rfl k) ?_
        show own_Go p e below (s₁.setTop (mkF m 49 #[.val (.int p1), .val (.int ((p1 &&& (2147483647 : Int32)) % (5 : Int32))), .unset, .unset] [(.int ((p1 &&& (2147483647 : Int32)) % (5 : Int32)))])) _
        refine own_by (fun _ k => XS.iconst X0.here hx rfl (hb hby at_49) k) ?_
        show own_Go p e below (s₁.setTop (mkF m 50 #[.val (.int p1), .val (.int ((p1 &&& (2147483647 : Int32)) % (5 : Int32))), .unset, .unset] [(.int (3 : Int32)), (.int ((p1 &&& (2147483647 : Int32)) % (5 : Int32)))])) _
        by_cases c13 : ((p1 &&& (2147483647 : Int32)) % (5 : Int32)) = (3 : Int32)
        · skip
          refine own_by (fun _ k => XS.icmpNo X0.here hx rfl (hb hby at_50) rfl (teq c13).2 k) ?_
          show own_Go p e below (s₁.setTop (mkF m 53 #[.val (.int p1), .val (.int ((p1 &&& (2147483647 : Int32)) % (5 : Int32))), .unset, .unset] [])) _
          obtain ⟨T14, X14, e14, st14⟩ := getS2 X0 hx hZ hown (host := "") (Or.inl (hw _ (List.mem_of_getElem? (i := 13) rfl))) Via.refl e0 (S_CONFIRMED.ext O0.2) (g := (mkF m 53 #[.val (.int p1), .val (.int ((p1 &&& (2147483647 : Int32)) % (5 : Int32))), .unset, .unset] [])) rfl (hb hby at_53)
          refine own_by st14 ?_
          show own_Go p e below (T14.setTop (mkF m 56 #[.val (.int p1), .val (.int ((p1 &&& (2147483647 : Int32)) % (5 : Int32))), .unset, .unset] [(.ref a_CONFIRMED)])) _
          refine own_by (fun _ k => XS.astoreN X14.here hx rfl (hb hby at_56) rfl rfl (l' := #[.val (.int p1), .val (.int ((p1 &&& (2147483647 : Int32)) % (5 : Int32))), .val (.ref a_CONFIRMED), .unset]) rfl k) ?_
          show own_Go p e below (T14.setTop (mkF m 57 #[.val (.int p1), .val (.int ((p1 &&& (2147483647 : Int32)) % (5 : Int32))), .val (.ref a_CONFIRMED), .unset] [])) _
          refine own_by (fun _ k => XS.iconst X14.here hx rfl (hb hby at_57) k) ?_
          show own_Go p e below (T14.setTop (mkF m 58 #[.val (.int p1), .val (.int ((p1 &&& (2147483647 : Int32)) % (5 : Int32))), .val (.ref a_CONFIRMED), .unset] [(.int (1 : Int32))])) _
          refine own_by (fun _ k => XS.istoreN X14.here hx rfl (hb hby at_58) rfl (l' := #[.val (.int p1), .val (.int ((p1 &&& (2147483647 : Int32)) % (5 : Int32))), .val (.ref a_CONFIRMED), .val (.int (1 : Int32))]) rfl k) ?_
          show own_Go p e below (T14.setTop (mkF m 59 #[.val (.int p1), .val (.int ((p1 &&& (2147483647 : Int32)) % (5 : Int32))), .val (.ref a_CONFIRMED), .val (.int (1 : Int32))] [])) _
          refine own_by (fun _ k => XS.goto X14.here hx rfl (pc0 := 59) (pc' := 68) rfl (hb hby at_59) (by decide) (by decide) k) ?_
          show own_Go p e below (T14.setTop (mkF m 68 #[.val (.int p1), .val (.int ((p1 &&& (2147483647 : Int32)) % (5 : Int32))), .val (.ref a_CONFIRMED), .val (.int (1 : Int32))] [])) _
          refine own_by (fun _ k => XS.aloadN X14.here hx rfl (hb hby at_68) rfl rfl k) ?_
          show own_Go p e below (T14.setTop (mkF m 69 #[.val (.int p1), .val (.int ((p1 &&& (2147483647 : Int32)) % (5 : Int32))), .val (.ref a_CONFIRMED), .val (.int (1 : Int32))] [(.ref a_CONFIRMED)])) _
          have f16 : Exa Z h0 a_CONFIRMED "com/example/commit_to_chain/committochain/core/TransactionState" := E_CONFIRMED.ext O0.2
          obtain ⟨cq15, kq15, q15a, q15b, q15c⟩ := isOf hZ e14 f16
          obtain ⟨_, _, ⟨T15, L15, k15, n15⟩, -, X15, ⟨Lc15, hQ15, l15, y15, z15⟩, st15⟩ := X14.virtualBack hx (y := (⟨"com/example/commit_to_chain/committochain/core/TransactionState", "isFinal", "()Z"⟩ : MethodName)) (z := (⟨"com/example/commit_to_chain/committochain/core/TransactionState", "isFinal", "()Z"⟩ : MethodName)) hown (mvT hZ (hw _ (List.mem_of_getElem? (i := 4) rfl))) (mvT hZ (hw _ (List.mem_of_getElem? (i := 5) rfl))) (notFace_of_selects (args := #[]) (mvT hZ (hw _ (List.mem_of_getElem? (i := 7) rfl)))) (mvT hZ (hw _ (List.mem_of_getElem? (i := 7) rfl))) (mvT hZ (hw _ (List.mem_of_getElem? (i := 6) rfl))) (by decide) (backOf (W := 0) (rm_conf l Z a0 hw [] a_CONFIRMED h0 n0 O0 S_CONFIRMED) hZ (hw _ (List.mem_of_getElem? (i := 8) rfl)) (hw _ (List.mem_of_getElem? (i := 2) rfl)) (by decide) (by decide)) q15a q15c (g := (mkF m 69 #[.val (.int p1), .val (.int ((p1 &&& (2147483647 : Int32)) % (5 : Int32))), .val (.ref a_CONFIRMED), .val (.int (1 : Int32))] [(.ref a_CONFIRMED)])) rfl (by rw [hml]; rfl) (Steps.refl _) (argsL := []) (rest := []) (lenOf own_pd__28_29Z rfl) rfl (by show 2 * 0 + _ ≤ _; exact Nat.le_of_eq rfl) (hb hby at_69) (fun _ _ => ⟨rfl, e14, (by decide : 0 + 0 ≤ _), (by decide : 0 + 0 ≤ _)⟩)
          dsimp only [Pt.U, Pt.locs, Pt.cells, Pt.slots] at X15 l15 y15 z15 st15 hQ15
          subst l15 y15 z15
          obtain ⟨rfl, M15, K15⟩ := hQ15
          have N15 := Fr.app N0 M15
          refine own_by (fun _ k => st15.trans k) ?_
          show own_Go p e below (T15.setTop (mkF m 72 #[.val (.int p1), .val (.int ((p1 &&& (2147483647 : Int32)) % (5 : Int32))), .val (.ref a_CONFIRMED), .val (.int (1 : Int32))] [(.int (1 : Int32))])) _
          refine own_by (fun _ k => XS.iloadN X15.here hx rfl (hb hby at_72) rfl k) ?_
          show own_Go p e below (T15.setTop (mkF m 73 #[.val (.int p1), .val (.int ((p1 &&& (2147483647 : Int32)) % (5 : Int32))), .val (.ref a_CONFIRMED), .val (.int (1 : Int32))] [(.int (1 : Int32)), (.int (1 : Int32))])) _
          refine own_by (fun _ k => XS.icmpNo X15.here hx rfl (hb hby at_73) rfl (teq (by decide : (1 : Int32) = (1 : Int32))).2 k) ?_
          show own_Go p e below (T15.setTop (mkF m 76 #[.val (.int p1), .val (.int ((p1 &&& (2147483647 : Int32)) % (5 : Int32))), .val (.ref a_CONFIRMED), .val (.int (1 : Int32))] [])) _
          refine own_by (fun _ k => XS.iconst X15.here hx rfl (hb hby at_76) k) ?_
          show own_Go p e below (T15.setTop (mkF m 77 #[.val (.int p1), .val (.int ((p1 &&& (2147483647 : Int32)) % (5 : Int32))), .val (.ref a_CONFIRMED), .val (.int (1 : Int32))] [(.int (1 : Int32))])) _
          refine own_by (fun _ k => XS.goto X15.here hx rfl (pc0 := 77) (pc' := 81) rfl (hb hby at_77) (by decide) (by decide) k) ?_
          show own_Go p e below (T15.setTop (mkF m 81 #[.val (.int p1), .val (.int ((p1 &&& (2147483647 : Int32)) % (5 : Int32))), .val (.ref a_CONFIRMED), .val (.int (1 : Int32))] [(.int (1 : Int32))])) _
          obtain ⟨fs, hr, hrun, hended, hW, hsame⟩ := X15.leave (v := some (.int (1 : Int32))) (fun h => by rw [Bd.returns] at h; cases h)
          refine ⟨_, _, retN X15 hx (t := .boolean) Bd.returns (by simp) (hb hby at_81) hr, hrun, hended, _, _, rfl, ?_, ⟨_, rfl⟩, hW, hsame.mono (by decide) (by decide)⟩
          show Q_rm_law Z p1 a_ALLOCATED a_TRACKING a_STUCK a_CONFIRMED a_FAILED_FINAL h0 n0 _ T15.heap _
          rw [K15]
          exact ⟨rfl, N15, rfl⟩
        · skip
          refine own_by (fun _ k => XS.icmpYes X0.here hx rfl (pc0 := 50) (pc' := 62) rfl (hb hby at_50) rfl (feq c13).2 (by decide) (by decide) k) ?_
          show own_Go p e below (s₁.setTop (mkF m 62 #[.val (.int p1), .val (.int ((p1 &&& (2147483647 : Int32)) % (5 : Int32))), .unset, .unset] [])) _
          obtain ⟨T17, X17, e17, st17⟩ := getS2 X0 hx hZ hown (host := "") (Or.inl (hw _ (List.mem_of_getElem? (i := 16) rfl))) Via.refl e0 (S_FAILED_FINAL.ext O0.2) (g := (mkF m 62 #[.val (.int p1), .val (.int ((p1 &&& (2147483647 : Int32)) % (5 : Int32))), .unset, .unset] [])) rfl (hb hby at_62)
          refine own_by st17 ?_
          show own_Go p e below (T17.setTop (mkF m 65 #[.val (.int p1), .val (.int ((p1 &&& (2147483647 : Int32)) % (5 : Int32))), .unset, .unset] [(.ref a_FAILED_FINAL)])) _
          refine own_by (fun _ k => XS.astoreN X17.here hx rfl (hb hby at_65) rfl rfl (l' := #[.val (.int p1), .val (.int ((p1 &&& (2147483647 : Int32)) % (5 : Int32))), .val (.ref a_FAILED_FINAL), .unset]) rfl k) ?_
          show own_Go p e below (T17.setTop (mkF m 66 #[.val (.int p1), .val (.int ((p1 &&& (2147483647 : Int32)) % (5 : Int32))), .val (.ref a_FAILED_FINAL), .unset] [])) _
          refine own_by (fun _ k => XS.iconst X17.here hx rfl (hb hby at_66) k) ?_
          show own_Go p e below (T17.setTop (mkF m 67 #[.val (.int p1), .val (.int ((p1 &&& (2147483647 : Int32)) % (5 : Int32))), .val (.ref a_FAILED_FINAL), .unset] [(.int (1 : Int32))])) _
          refine own_by (fun _ k => XS.istoreN X17.here hx rfl (hb hby at_67) rfl (l' := #[.val (.int p1), .val (.int ((p1 &&& (2147483647 : Int32)) % (5 : Int32))), .val (.ref a_FAILED_FINAL), .val (.int (1 : Int32))]) rfl k) ?_
          show own_Go p e below (T17.setTop (mkF m 68 #[.val (.int p1), .val (.int ((p1 &&& (2147483647 : Int32)) % (5 : Int32))), .val (.ref a_FAILED_FINAL), .val (.int (1 : Int32))] [])) _
          refine own_by (fun _ k => XS.aloadN X17.here hx rfl (hb hby at_68) rfl rfl k) ?_
          show own_Go p e below (T17.setTop (mkF m 69 #[.val (.int p1), .val (.int ((p1 &&& (2147483647 : Int32)) % (5 : Int32))), .val (.ref a_FAILED_FINAL), .val (.int (1 : Int32))] [(.ref a_FAILED_FINAL)])) _
          have f19 : Exa Z h0 a_FAILED_FINAL "com/example/commit_to_chain/committochain/core/TransactionState" := E_FAILED_FINAL.ext O0.2
          obtain ⟨cq18, kq18, q18a, q18b, q18c⟩ := isOf hZ e17 f19
          obtain ⟨_, _, ⟨T18, L18, k18, n18⟩, -, X18, ⟨Lc18, hQ18, l18, y18, z18⟩, st18⟩ := X17.virtualBack hx (y := (⟨"com/example/commit_to_chain/committochain/core/TransactionState", "isFinal", "()Z"⟩ : MethodName)) (z := (⟨"com/example/commit_to_chain/committochain/core/TransactionState", "isFinal", "()Z"⟩ : MethodName)) hown (mvT hZ (hw _ (List.mem_of_getElem? (i := 4) rfl))) (mvT hZ (hw _ (List.mem_of_getElem? (i := 5) rfl))) (notFace_of_selects (args := #[]) (mvT hZ (hw _ (List.mem_of_getElem? (i := 7) rfl)))) (mvT hZ (hw _ (List.mem_of_getElem? (i := 7) rfl))) (mvT hZ (hw _ (List.mem_of_getElem? (i := 6) rfl))) (by decide) (backOf (W := 0) (rm_ff l Z a0 hw [] a_CONFIRMED a_FAILED_FINAL h0 n0 O0 S_CONFIRMED S_FAILED_FINAL n_FAILED_FINAL_CONFIRMED) hZ (hw _ (List.mem_of_getElem? (i := 8) rfl)) (hw _ (List.mem_of_getElem? (i := 2) rfl)) (by decide) (by decide)) q18a q18c (g := (mkF m 69 #[.val (.int p1), .val (.int ((p1 &&& (2147483647 : Int32)) % (5 : Int32))), .val (.ref a_FAILED_FINAL), .val (.int (1 : Int32))] [(.ref a_FAILED_FINAL)])) rfl (by rw [hml]; rfl) (Steps.refl _) (argsL := []) (rest := []) (lenOf own_pd__28_29Z rfl) rfl (by show 2 * 0 + _ ≤ _; exact Nat.le_of_eq rfl) (hb hby at_69) (fun _ _ => ⟨rfl, e17, (by decide : 0 + 0 ≤ _), (by decide : 0 + 0 ≤ _)⟩)
          dsimp only [Pt.U, Pt.locs, Pt.cells, Pt.slots] at X18 l18 y18 z18 st18 hQ18
          subst l18 y18 z18
          obtain ⟨rfl, M18, K18⟩ := hQ18
          have N18 := Fr.app N0 M18
          refine own_by (fun _ k => st18.trans k) ?_
          show own_Go p e below (T18.setTop (mkF m 72 #[.val (.int p1), .val (.int ((p1 &&& (2147483647 : Int32)) % (5 : Int32))), .val (.ref a_FAILED_FINAL), .val (.int (1 : Int32))] [(.int (1 : Int32))])) _
          refine own_by (fun _ k => XS.iloadN X18.here hx rfl (hb hby at_72) rfl k) ?_
          show own_Go p e below (T18.setTop (mkF m 73 #[.val (.int p1), .val (.int ((p1 &&& (2147483647 : Int32)) % (5 : Int32))), .val (.ref a_FAILED_FINAL), .val (.int (1 : Int32))] [(.int (1 : Int32)), (.int (1 : Int32))])) _
          refine own_by (fun _ k => XS.icmpNo X18.here hx rfl (hb hby at_73) rfl (teq (by decide : (1 : Int32) = (1 : Int32))).2 k) ?_
          show own_Go p e below (T18.setTop (mkF m 76 #[.val (.int p1), .val (.int ((p1 &&& (2147483647 : Int32)) % (5 : Int32))), .val (.ref a_FAILED_FINAL), .val (.int (1 : Int32))] [])) _
          refine own_by (fun _ k => XS.iconst X18.here hx rfl (hb hby at_76) k) ?_
          show own_Go p e below (T18.setTop (mkF m 77 #[.val (.int p1), .val (.int ((p1 &&& (2147483647 : Int32)) % (5 : Int32))), .val (.ref a_FAILED_FINAL), .val (.int (1 : Int32))] [(.int (1 : Int32))])) _
          refine own_by (fun _ k => XS.goto X18.here hx rfl (pc0 := 77) (pc' := 81) rfl (hb hby at_77) (by decide) (by decide) k) ?_
          show own_Go p e below (T18.setTop (mkF m 81 #[.val (.int p1), .val (.int ((p1 &&& (2147483647 : Int32)) % (5 : Int32))), .val (.ref a_FAILED_FINAL), .val (.int (1 : Int32))] [(.int (1 : Int32))])) _
          obtain ⟨fs, hr, hrun, hended, hW, hsame⟩ := X18.leave (v := some (.int (1 : Int32))) (fun h => by rw [Bd.returns] at h; cases h)
          refine ⟨_, _, retN X18 hx (t := .boolean) Bd.returns (by simp) (hb hby at_81) hr, hrun, hended, _, _, rfl, ?_, ⟨_, rfl⟩, hW, hsame.mono (by decide) (by decide)⟩
          show Q_rm_law Z p1 a_ALLOCATED a_TRACKING a_STUCK a_CONFIRMED a_FAILED_FINAL h0 n0 _ T18.heap _
          rw [K18]
          exact ⟨rfl, N18, rfl⟩
set_option maxRecDepth 65536 in
set_option maxHeartbeats 40000000 in
theorem comes_1 {Post : Tables → Env → Array Value → State → Outcome → State → Prop} (hpost : ∀ tb e args s v u, (limb_1_1.after args s (.returned v) u = true ∧ limb_1_2.after args s (.returned v) u = true ∧ True) → FrameEnd s (.returned v) u (Jvm.fieldLocs frame_1_writes args s ++ Jvm.arrayLocs frame_1_arrays args s ++ Jvm.staticLocs frame_1_statics s) 0 0 → Post tb e args s (.returned v) u) :
    ArmFor flags0 classFile x code maxLocals ret World_1 tables_1 room_1 Calls_1 rest_1 Pre_1 Post := by
  intro l hfl _ _ p e ha hc hk s m args below hf hA hF happ hP
  obtain ⟨hcalls, hrest, hpre⟩ := hP
  obtain ⟨-, -, -, hnamed, -, -, -, hat⟩ := (Spec.applies_iff hf).mp happ
  obtain ⟨hg, hn⟩ := and_e (Cond.before_iff.mp (show (Jvm.Cond.and given_1 narrow_1).before args s = true from hpre))
  obtain ⟨hh0, hg0⟩ := and_e hg
  obtain ⟨w0, rfl⟩ : ∃ w0 : Value, args = #[w0] := by
    have hs : args.size = 1 := by simpa [Cond.value, given_1] using hh0
    obtain ⟨L⟩ := args
    match L, hs with
    | [w0], _ => exact ⟨w0, rfl⟩
  have hw := fun d (hd : d ∈ tables_1) => atoms_spec (ws := Jvm.Cond.code x code maxLocals ret :: tables_1) hat d (List.mem_cons_of_mem _ hd)
  have hfit : Fit s := fun {y c} hc i hi => by
    obtain ⟨ha, rfl⟩ := Array.getElem?_eq_some_iff.mp hc
    have q := List.all_eq_true.mp ((Array.all_eq_true_iff_forall_mem.mp hF) _ (Array.getElem_mem ha)) i (List.mem_range.mpr hi)
    simpa [Array.getElem?_eq_getElem hi] using q
  obtain ⟨i0, ea0⟩ := is_v hg0
  obtain rfl : w0 = (.int i0) := Option.some.inj ea0
  obtain ⟨m0, r0⟩ := and_e hn
  obtain ⟨m1, r1⟩ := and_e r0
  obtain ⟨m2, r2⟩ := and_e r1
  obtain ⟨m3, r3⟩ := and_e r2
  obtain ⟨m4, r4⟩ := and_e r3
  obtain ⟨m5, r5⟩ := and_e r4
  obtain ⟨m6, r6⟩ := and_e r5
  obtain ⟨m7, r7⟩ := and_e r6
  obtain ⟨m8, r8⟩ := and_e r7
  have m9 := r8
  obtain ⟨a_ALLOCATED, v_ALLOCATED⟩ := exa_v m0
  have E_ALLOCATED := Exa.start v_ALLOCATED m0
  have S_ALLOCATED := Sta.start v_ALLOCATED (Or.inr ⟨hw _ (List.mem_of_getElem? (i := 2) rfl), hw _ (List.mem_of_getElem? (i := 3) rfl)⟩)
  obtain ⟨a_CONFIRMED, v_CONFIRMED⟩ := exa_v m1
  have E_CONFIRMED := Exa.start v_CONFIRMED m1
  have S_CONFIRMED := Sta.start v_CONFIRMED (Or.inr ⟨hw _ (List.mem_of_getElem? (i := 2) rfl), hw _ (List.mem_of_getElem? (i := 10) rfl)⟩)
  obtain ⟨a_FAILED_FINAL, v_FAILED_FINAL⟩ := exa_v m4
  have E_FAILED_FINAL := Exa.start v_FAILED_FINAL m4
  have S_FAILED_FINAL := Sta.start v_FAILED_FINAL (Or.inr ⟨hw _ (List.mem_of_getElem? (i := 2) rfl), hw _ (List.mem_of_getElem? (i := 12) rfl)⟩)
  obtain ⟨a_TRACKING, v_TRACKING⟩ := exa_v m6
  have E_TRACKING := Exa.start v_TRACKING m6
  have S_TRACKING := Sta.start v_TRACKING (Or.inr ⟨hw _ (List.mem_of_getElem? (i := 2) rfl), hw _ (List.mem_of_getElem? (i := 15) rfl)⟩)
  obtain ⟨a_STUCK, v_STUCK⟩ := exa_v m8
  have E_STUCK := Exa.start v_STUCK m8
  have S_STUCK := Sta.start v_STUCK (Or.inr ⟨hw _ (List.mem_of_getElem? (i := 2) rfl), hw _ (List.mem_of_getElem? (i := 18) rfl)⟩)
  have F_ALLOCATED_ordinal := Fld.start ((fld_at v_ALLOCATED).symm.trans (own_eq_int m2))
  have F_CONFIRMED_ordinal := Fld.start ((fld_at v_CONFIRMED).symm.trans (own_eq_int m3))
  have F_FAILED_FINAL_ordinal := Fld.start ((fld_at v_FAILED_FINAL).symm.trans (own_eq_int m5))
  have F_TRACKING_ordinal := Fld.start ((fld_at v_TRACKING).symm.trans (own_eq_int m7))
  have F_STUCK_ordinal := Fld.start ((fld_at v_STUCK).symm.trans (own_eq_int m9))
  have n_ALLOCATED_CONFIRMED : ¬ (a_ALLOCATED = a_CONFIRMED) := Fld.ne F_ALLOCATED_ordinal F_CONFIRMED_ordinal (by decide)
  have n_ALLOCATED_FAILED_FINAL : ¬ (a_ALLOCATED = a_FAILED_FINAL) := Fld.ne F_ALLOCATED_ordinal F_FAILED_FINAL_ordinal (by decide)
  have n_TRACKING_CONFIRMED : ¬ (a_TRACKING = a_CONFIRMED) := Fld.ne F_TRACKING_ordinal F_CONFIRMED_ordinal (by decide)
  have n_TRACKING_FAILED_FINAL : ¬ (a_TRACKING = a_FAILED_FINAL) := Fld.ne F_TRACKING_ordinal F_FAILED_FINAL_ordinal (by decide)
  have n_STUCK_CONFIRMED : ¬ (a_STUCK = a_CONFIRMED) := Fld.ne F_STUCK_ordinal F_CONFIRMED_ordinal (by decide)
  have n_STUCK_FAILED_FINAL : ¬ (a_STUCK = a_FAILED_FINAL) := Fld.ne F_STUCK_ordinal F_FAILED_FINAL_ordinal (by decide)
  have n_CONFIRMED_FAILED_FINAL : ¬ (a_CONFIRMED = a_FAILED_FINAL) := Fld.ne F_CONFIRMED_ordinal F_FAILED_FINAL_ordinal (by decide)
  have n_FAILED_FINAL_CONFIRMED : ¬ (a_FAILED_FINAL = a_CONFIRMED) := Fld.ne F_FAILED_FINAL_ordinal F_CONFIRMED_ordinal (by decide)
  obtain ⟨n, o, h1, h2, h3, _, L, rfl, ⟨rfl, N, -⟩, hq⟩ := rm_law l s _ hw tables_1 i0 a_ALLOCATED a_TRACKING a_STUCK a_CONFIRMED a_FAILED_FINAL s.heap s.heap.size (Old.start s) S_ALLOCATED S_TRACKING S_STUCK S_CONFIRMED S_FAILED_FINAL E_ALLOCATED E_TRACKING E_STUCK E_CONFIRMED E_FAILED_FINAL n_ALLOCATED_CONFIRMED n_ALLOCATED_FAILED_FINAL n_TRACKING_CONFIRMED n_TRACKING_FAILED_FINAL n_STUCK_CONFIRMED n_STUCK_FAILED_FINAL n_CONFIRMED_FAILED_FINAL n_FAILED_FINAL_CONFIRMED p e ha hc hk s m _ below hf ((Spec.applies_iff_loose hf).mp happ).1 ⟨rfl, State.Warmed39.refl s, rfl⟩ trivial
  refine ⟨n, _, h1, h2, h3, hpost _ _ _ _ _ _ ⟨Cond.after_iff.mpr rfl, Cond.after_iff.mpr (eq_i res_at (Term.int_eval (1)) rfl), trivial⟩ ⟨hq.1, hq.2.1, (hq.2.2.sift fun y hy => Or.inr (N y hy)).mono (by decide) (by decide)⟩⟩
theorem main_1_1 : Claimed_1_1 := comes_1 fun _ _ _ _ _ _ h hF => ⟨h.1, hF⟩
theorem main_1_2 : Claimed_1_2 := comes_1 fun _ _ _ _ _ _ h hF => ⟨h.2.1, hF⟩
end Jvm.Pilot.@@N@@
namespace Jvm.Pilot.@@N@@
open Jvm Jvm.ClassFile Sem Op Lib Jvm.Free Jvm.Stand Jvm.Pilot.@@N@@.Jvm.D
/-! MADE BY PROGRAM (witnessworld.py) out of the Statement's table words and the real class files: 12 classes; the members and pool entries that the words name. The judged class is class 1, her method 1. -/
namespace start1
open Jvm.ClassFile
def u (s : String) : CpInfo := .utf8 (stringToUtf16 s)
/-- a pool by its gaps: so many unusable entries, then the entry; so many at the end -/
def gap : Nat → List CpInfo → List CpInfo
  | 0, r => r
  | n + 1, r => .unusable :: gap n r
def poolList (es : List (Nat × CpInfo)) (last : Nat) : List CpInfo := es.foldr (fun e r => gap e.1 (e.2 :: r)) (gap last [])
def pool (es : List (Nat × CpInfo)) (last : Nat) : Array CpInfo := ⟨poolList es last⟩
def fileOf (pool : Array CpInfo) (this : Nat) (attrs : Array Attribute := #[]) (ms : Array MethodInfo := #[]) (fl : Nat := 33) (sup : Nat := 0) (ifs : Array Nat := #[]) (fds : Array FieldInfo := #[]) : ClassFile where
  minorVersion := 0
  majorVersion := 65
  constantPool := pool
  accessFlags := fl
  thisClass := this
  superClass := sup
  interfaces := ifs
  fields := fds
  methods := ms
  attributes := attrs
def plain (name : String) (sup : Option ClassId) : Class where
  name := name
  kind := .ordinary
  loader := none
  accessFlags := 33
  super := sup
  interfaces := #[]
  cf := none
  fields := #[]
  methods := #[]
  instanceTypes := #[]
  staticTypes := #[]
  resolved := #[]
  callSites := []
  init := .initialized
  statics := none
  mirror := none

def pool0 : Array CpInfo := pool [(5, u "<init>"), (0, u "()V"), (1, .class_ 10), (1, u "java/lang/Object")] 113

def k0m0 : Method := { name := "<init>", desc := "()V", sig := { parameters := [], returnType := none }, accessFlags := 1, code := none }
/-- java/lang/Object -/
def k0 : Class := { plain "java/lang/Object" none with
  accessFlags := 33
  interfaces := #[]
  cf := some (fileOf pool0 8 #[] #[{ accessFlags := 1, nameIndex := 5, descriptorIndex := 6, attributes := #[] }] 33 0 #[] #[])
  fields := #[]
  methods := #[k0m0]
  instanceTypes := #[]
  staticTypes := #[]
  resolved := Array.replicate 124 none
  statics := none }

def pool1 : Array CpInfo := pool [(2, .class_ 4), (1, u "java/lang/Object"), (0, u "<init>"), (0, u "()V"), (0, .integer 2147483647), (0, .fieldref 9 10), (0, .class_ 11), (0, .nameAndType 12 13), (0, u "com/example/commit_to_chain/committochain/core/TransactionState"), (0, u "ALLOCATED"), (0, u "Lcom/example/commit_to_chain/committochain/core/TransactionState;"), (0, .fieldref 9 15), (0, .nameAndType 16 13), (0, u "TRACKING"), (0, .fieldref 9 18), (0, .nameAndType 19 13), (0, u "STUCK"), (0, .fieldref 9 21), (0, .nameAndType 22 13), (0, u "CONFIRMED"), (0, .fieldref 9 24), (0, .nameAndType 25 13), (0, u "FAILED_FINAL"), (0, .methodref 9 27), (0, .nameAndType 28 29), (0, u "isFinal"), (0, u "()Z"), (0, .class_ 31), (0, u "com/example/commit_to_chain/committochain/core/TransactionStateIsFinalPinLaw"), (2, u "law"), (0, u "(I)Z")] 3

def k1m0 : Method := { name := "<init>", desc := "()V", sig := { parameters := [], returnType := none }, accessFlags := 1, code := none }
def k1c1 : Code := { maxStack := 2, maxLocals := 4, code := code, exceptionTable := #[], attributes := #[] }
def k1m1 : Method := { name := "law", desc := "(I)Z", sig := { parameters := [.int], returnType := some .boolean }, accessFlags := 9, code := some k1c1 }
/-- com/example/commit_to_chain/committochain/core/TransactionStateIsFinalPinLaw -/
def k1 : Class := { plain "com/example/commit_to_chain/committochain/core/TransactionStateIsFinalPinLaw" (some 0) with
  accessFlags := 49
  interfaces := #[]
  cf := some (fileOf pool1 30 #[] #[{ accessFlags := 1, nameIndex := 5, descriptorIndex := 6, attributes := #[] }, { accessFlags := 9, nameIndex := 34, descriptorIndex := 35, attributes := #[] }] 49 2 #[] #[])
  fields := #[]
  methods := #[k1m0, k1m1]
  instanceTypes := #[]
  staticTypes := #[]
  resolved := Array.replicate 39 none
  statics := none }

def pool2 : Array CpInfo := pool [(1, .class_ 2), (0, u "java/lang/constant/Constable"), (0, .class_ 4), (0, u "java/lang/Object")] 6

/-- java/lang/constant/Constable -/
def k2 : Class := { plain "java/lang/constant/Constable" (some 0) with
  accessFlags := 1537
  interfaces := #[]
  cf := some (fileOf pool2 1 #[] #[] 1537 3 #[] #[])
  fields := #[]
  methods := #[]
  instanceTypes := #[]
  staticTypes := #[]
  resolved := Array.replicate 11 none
  statics := none }

def pool3 : Array CpInfo := pool [(1, .class_ 2), (0, u "java/lang/Comparable"), (0, .class_ 4), (0, u "java/lang/Object")] 7

/-- java/lang/Comparable -/
def k3 : Class := { plain "java/lang/Comparable" (some 0) with
  accessFlags := 1537
  interfaces := #[]
  cf := some (fileOf pool3 1 #[] #[] 1537 3 #[] #[])
  fields := #[]
  methods := #[]
  instanceTypes := #[]
  staticTypes := #[]
  resolved := Array.replicate 12 none
  statics := none }

def pool4 : Array CpInfo := pool [(1, .class_ 2), (0, u "java/io/Serializable"), (0, .class_ 4), (0, u "java/lang/Object")] 2

/-- java/io/Serializable -/
def k4 : Class := { plain "java/io/Serializable" (some 0) with
  accessFlags := 1537
  interfaces := #[]
  cf := some (fileOf pool4 1 #[] #[] 1537 3 #[] #[])
  fields := #[]
  methods := #[]
  instanceTypes := #[]
  staticTypes := #[]
  resolved := Array.replicate 7 none
  statics := none }

def pool5 : Array CpInfo := pool [(2, .class_ 4), (1, u "java/lang/Enum"), (0, u "name"), (0, u "Ljava/lang/String;"), (2, u "ordinal"), (0, u "I"), (1, .class_ 14), (1, u "java/lang/Object"), (4, u "hash"), (86, .class_ 108), (1, u "java/lang/Enum$EnumDesc"), (2, .class_ 112), (0, u "java/lang/constant/Constable"), (0, .class_ 114), (0, u "java/lang/Comparable"), (0, .class_ 116), (0, u "java/io/Serializable")] 87

/-- java/lang/Enum -/
def k5 : Class := { plain "java/lang/Enum" (some 0) with
  accessFlags := 1057
  interfaces := #[2, 3, 4]
  cf := some (fileOf pool5 2 #[.nestMembers #[106]] #[] 1057 12 #[111, 113, 115] #[{ accessFlags := 18, nameIndex := 5, descriptorIndex := 6, attributes := #[] }, { accessFlags := 18, nameIndex := 9, descriptorIndex := 10, attributes := #[] }, { accessFlags := 2, nameIndex := 19, descriptorIndex := 10, attributes := #[] }])
  fields := #[{ name := "name", type := (.object "java/lang/String"), accessFlags := 18, slot := 0, constantValue := 0 }, { name := "ordinal", type := .int, accessFlags := 18, slot := 1, constantValue := 0 }, { name := "hash", type := .int, accessFlags := 2, slot := 2, constantValue := 0 }]
  methods := #[]
  instanceTypes := #[(.object "java/lang/String"), .int, .int]
  staticTypes := #[]
  resolved := Array.replicate 204 none
  statics := none }

def pool6 : Array CpInfo := pool [(1, .class_ 2), (0, u "com/example/commit_to_chain/committochain/core/TransactionState"), (2, u "ALLOCATED"), (0, u "Lcom/example/commit_to_chain/committochain/core/TransactionState;"), (2, u "TRACKING"), (2, u "STUCK"), (0, .fieldref 1 14), (0, .nameAndType 15 6), (0, u "CONFIRMED"), (0, .fieldref 1 17), (0, .nameAndType 18 6), (0, u "FAILED_FINAL"), (2, u "$VALUES"), (0, u "[Lcom/example/commit_to_chain/committochain/core/TransactionState;"), (6, .class_ 31), (1, u "java/lang/Enum"), (23, u "isFinal"), (0, u "()Z")] 5

def k6c0 : Code := { maxStack := 2, maxLocals := 1, code := prog_40_method_4_code, exceptionTable := #[], attributes := #[] }
def k6m0 : Method := { name := "isFinal", desc := "()Z", sig := { parameters := [], returnType := some .boolean }, accessFlags := 1, code := some k6c0 }
/-- com/example/commit_to_chain/committochain/core/TransactionState -/
def k6 : Class := { plain "com/example/commit_to_chain/committochain/core/TransactionState" (some 5) with
  accessFlags := 16433
  interfaces := #[]
  cf := some (fileOf pool6 1 #[] #[{ accessFlags := 1, nameIndex := 55, descriptorIndex := 56, attributes := #[] }] 16433 29 #[] #[{ accessFlags := 16409, nameIndex := 5, descriptorIndex := 6, attributes := #[] }, { accessFlags := 16409, nameIndex := 9, descriptorIndex := 6, attributes := #[] }, { accessFlags := 16409, nameIndex := 12, descriptorIndex := 6, attributes := #[] }, { accessFlags := 16409, nameIndex := 15, descriptorIndex := 6, attributes := #[] }, { accessFlags := 16409, nameIndex := 18, descriptorIndex := 6, attributes := #[] }, { accessFlags := 4122, nameIndex := 21, descriptorIndex := 22, attributes := #[] }])
  fields := #[{ name := "ALLOCATED", type := (.object "com/example/commit_to_chain/committochain/core/TransactionState"), accessFlags := 16409, slot := 0, constantValue := 0 }, { name := "TRACKING", type := (.object "com/example/commit_to_chain/committochain/core/TransactionState"), accessFlags := 16409, slot := 1, constantValue := 0 }, { name := "STUCK", type := (.object "com/example/commit_to_chain/committochain/core/TransactionState"), accessFlags := 16409, slot := 2, constantValue := 0 }, { name := "CONFIRMED", type := (.object "com/example/commit_to_chain/committochain/core/TransactionState"), accessFlags := 16409, slot := 3, constantValue := 0 }, { name := "FAILED_FINAL", type := (.object "com/example/commit_to_chain/committochain/core/TransactionState"), accessFlags := 16409, slot := 4, constantValue := 0 }, { name := "$VALUES", type := (.array (.object "com/example/commit_to_chain/committochain/core/TransactionState")), accessFlags := 4122, slot := 5, constantValue := 0 }]
  methods := #[k6m0]
  instanceTypes := #[(.object "java/lang/String"), .int, .int]
  staticTypes := #[(.object "com/example/commit_to_chain/committochain/core/TransactionState"), (.object "com/example/commit_to_chain/committochain/core/TransactionState"), (.object "com/example/commit_to_chain/committochain/core/TransactionState"), (.object "com/example/commit_to_chain/committochain/core/TransactionState"), (.object "com/example/commit_to_chain/committochain/core/TransactionState"), (.array (.object "com/example/commit_to_chain/committochain/core/TransactionState"))]
  resolved := Array.replicate 62 none
  statics := some 0 }

def pool7 : Array CpInfo := pool [(1, u "java/lang/Cloneable"), (0, .class_ 1), (0, u "java/lang/Object"), (0, .class_ 3)] 3

/-- java/lang/Cloneable -/
def k7 : Class := { plain "java/lang/Cloneable" (some 0) with
  accessFlags := 1537
  interfaces := #[]
  cf := some (fileOf pool7 2 #[] #[] 1537 4 #[] #[])
  fields := #[]
  methods := #[]
  instanceTypes := #[]
  staticTypes := #[]
  resolved := Array.replicate 8 none
  statics := none }

/-- the primitive byte -/
def k8 : Class := { plain "byte" none with kind := .primitive 'B', accessFlags := 0x411 }
/-- [B -/
def k9 : Class := { plain "[B" (some 0) with kind := .array 8 .byte, interfaces := #[7, 4], accessFlags := 1041 }

/-- the primitive int -/
def k10 : Class := { plain "int" none with kind := .primitive 'I', accessFlags := 0x411 }
/-- [I -/
def k11 : Class := { plain "[I" (some 0) with kind := .array 10 .int, interfaces := #[7, 4], accessFlags := 1041 }

def heap : Heap := #[{ cls := 6, slots := #[.ref 1, .ref 2, .ref 3, .ref 4, .ref 5, .null], vm := .statics 6 },
  { cls := 6, slots := #[.null, .int 0, .int 0], vm := .none },
  { cls := 6, slots := #[.null, .int 1, .int 0], vm := .none },
  { cls := 6, slots := #[.null, .int 2, .int 0], vm := .none },
  { cls := 6, slots := #[.null, .int 3, .int 0], vm := .none },
  { cls := 6, slots := #[.null, .int 4, .int 0], vm := .none }]
def classes : Array Class := #[k0, k1, k2, k3, k4, k5, k6, k7, k8, k9, k10, k11]
def interned : List (Array UInt16 × Addr) := []
def slotsUsed : Nat := 21
def theMethod : MethodId := ⟨1, 1⟩
def args0 : Array Value := #[.int 5]
def aboutOver (below : List Frame) : State where
  vm := { classes := classes, interned := interned.toArray }
  heap := heap
  slotsUsed := slotsUsed
  threads := #[{ frames := .invoking theMethod args0 :: below }]
def below0 : List Frame := [.native { method := ⟨0, 0⟩, args := #[] }]
def about1 : State := aboutOver below0
def p0 : Program := .bare "" "" ""
def e0 : Env := launch0.env 0 0 0
theorem w_frames : about1.frames = Frame.invoking theMethod args0 :: below0 := rfl
set_option maxRecDepth 65536 in
theorem w_args : argsFit about1.vm theMethod args0 = true := by decide +kernel
set_option maxRecDepth 65536 in
theorem w_heap : heapFits about1 = true := by decide +kernel
set_option maxRecDepth 65536 in
theorem w_runnable : about1.curStatus? = some .runnable := by decide +kernel
set_option maxRecDepth 65536 in
theorem w_alone : about1.alone = true := by decide +kernel
set_option maxRecDepth 65536 in
theorem w_named : about1.methodNamed? x = some theMethod := by decide +kernel
set_option maxRecDepth 65536 in
theorem w_hears : about1.hears theMethod below0 = true := by decide +kernel
set_option maxRecDepth 65536 in
theorem w_ripe : about1.ripe theMethod args0 below0 = true := by decide +kernel
theorem w_running : about1.status = .running := rfl
set_option maxRecDepth 65536 in
theorem w_room : about1.hasRoom e0.platform room_1 = true :=
  launch0.hasRoom_least _ room_1 (by decide +kernel) (by decide +kernel) (by decide +kernel) (by decide +kernel) (by decide +kernel) (by decide +kernel)
theorem allAtoms_all (ts : List Jvm.Cond) (a : Array Jvm.Value) (st : Jvm.State) : (allAtoms ts).before a st = ts.all (fun c => c.before a st) := by
  induction ts with
  | nil => rfl
  | cons c t ih =>
    show (Jvm.Cond.and c (allAtoms t)).before a st = _
    rw [Jvm.Cond.before_and, ih, List.all_cons]
def words1 : List Jvm.Cond := Jvm.Cond.code x code maxLocals ret :: tables_1
/-- a 'code' word, met by the world's own term for the bytes: nothing is compared byte by byte -/
theorem code_word {y : MethodName} {bytes : ByteArray} {mx : Nat} {rt : Option FieldType} {a : Array Value} {s : State} {m : MethodId} {meth : Method} {c : Code} (h1 : s.methodNamed? y = some m) (h2 : s.vm.method? m = some meth) (h3 : meth.code = some c) (h4 : c.code = bytes)
    (h5 : (c.maxLocals == mx && c.exceptionTable.isEmpty && decide (c.maxStack ≤ mostOperands) && decide (meth.sig.returnType = rt) && !meth.locks && decide (parseMethodDescriptor y.desc = some meth.sig)) = true) : (Jvm.Cond.code y bytes mx rt).before a s = true := by
  simp only [Bool.and_eq_true, beq_iff_eq, Bool.not_eq_true', decide_eq_true_eq] at h5
  obtain ⟨⟨⟨⟨⟨g1, g2⟩, g3⟩, g4⟩, g5⟩, g6⟩ := h5
  simp [Cond.before, Cond.holds, Cond.value, h1, h2, h3, h4, g1, g2, g3, g4, g5, g6]
def isCode : Jvm.Cond → Bool
  | .code _ _ _ _ => true
  | _ => false
theorem all_split {L : List Jvm.Cond} {P : Jvm.Cond → Bool} (h1 : L.all (fun c => isCode c || P c) = true) (h2 : ∀ c ∈ L.filter isCode, P c = true) : L.all P = true := by
  refine List.all_eq_true.mpr fun c hc => ?_
  have h := List.all_eq_true.mp h1 c hc
  rcases Bool.eq_false_or_eq_true (isCode c) with hi | hi
  · exact h2 c (List.mem_filter.mpr ⟨hc, hi⟩)
  · simpa [hi] using h
set_option maxRecDepth 65536 in
theorem w_c0 : (Jvm.Cond.code x code maxLocals ret).before args0 about1 = true := code_word (m := ⟨1, 1⟩) (meth := k1m1) (c := k1c1) (by decide +kernel) rfl rfl rfl (by decide +kernel)
set_option maxRecDepth 65536 in
theorem w_c1 : (Jvm.Cond.code ({ cls := "com/example/commit_to_chain/committochain/core/TransactionState", name := "isFinal", desc := "()Z" } : Jvm.MethodName) prog_40_method_4_code (1 : Nat) (Option.some Jvm.ClassFile.FieldType.boolean)).before args0 about1 = true := code_word (m := ⟨6, 0⟩) (meth := k6m0) (c := k6c0) (by decide +kernel) rfl rfl rfl (by decide +kernel)
def codes1 : List Jvm.Cond := [Jvm.Cond.code x code maxLocals ret, Jvm.Cond.code ({ cls := "com/example/commit_to_chain/committochain/core/TransactionState", name := "isFinal", desc := "()Z" } : Jvm.MethodName) prog_40_method_4_code (1 : Nat) (Option.some Jvm.ClassFile.FieldType.boolean)]
set_option maxRecDepth 65536 in
theorem codes_eq : words1.filter isCode = codes1 := rfl
theorem w_codes : ∀ c ∈ words1.filter isCode, c.before args0 about1 = true := by
  rw [codes_eq]
  intro c hc
  simp only [codes1, List.mem_cons, List.not_mem_nil, or_false] at hc
  rcases hc with rfl | rfl
  · exact w_c0
  · exact w_c1
set_option maxRecDepth 65536 in
theorem w_t1 : words1.all (fun c => isCode c || c.before args0 about1) = true := by decide +kernel
theorem w_tables : (allAtoms (Jvm.Cond.code x code maxLocals ret :: tables_1)).before args0 about1 = true := by
  rw [allAtoms_all]
  show words1.all (fun c => c.before args0 about1) = true
  refine all_split ?_ w_codes
  rw [w_t1]
set_option maxRecDepth 65536 in
theorem w_case : (Jvm.Cond.and given_1 narrow_1).before args0 about1 = true := by decide +kernel
theorem w_applies : (headSpec (Jvm.Cond.code x code maxLocals ret :: tables_1) room_1).applies x e0.platform about1 = true :=
  (Spec.applies_iff w_frames).mpr ⟨w_running, w_runnable, w_alone, w_named, w_hears, w_ripe, w_room, w_tables⟩
theorem atStart : AtStart classFile x code maxLocals ret World_1 tables_1 room_1 Calls_1 rest_1 Pre_1 launch0 p0 e0 about1 theMethod args0 below0 :=
  ⟨lists_1, trivial, launch0.admits_env _ _ _, launch0.least_env, fairChoices_fair.cas, fairChoices_fair.clock, w_frames, w_args, w_heap, w_applies, trivial, trivial, w_case⟩
end start1
theorem witness_1 : WitnessClaimed_1 := ⟨start1.p0, start1.e0, start1.about1, start1.theMethod, start1.args0, start1.below0, start1.atStart⟩
end Jvm.Pilot.@@N@@
