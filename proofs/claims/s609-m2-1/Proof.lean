import JvmDerived
import JvmDerived.Pilot.@@N@@Statement
import JvmDerived.Pilot.@@N@@Code
set_option linter.unusedVariables false
set_option linter.unusedSimpArgs false
namespace Jvm.RoadKit
open Sem ClassFile Op Lib Jvm.Stand Jvm.Free Jvm.LawKit
section New
variable {p : Program} {l : Launch} {e : Env} {R : Room} {s : State} {m : MethodId} {args : Array Value} {below : List Frame} {meth : Method} {c : Code} {T : State} {locs : List Loc} {cells slots : Nat}
theorem retI (X : Stand p l e R s m args below meth c T locs cells slots) (hx : p.tables.exec = Jvm.exec) {pc : Nat} {Ls : Array Slot} {z : Int32} {rest : List Value} (hret : meth.sig.returnType = some .int) (hd : decode c.code pc = .ok (.ireturn, 1)) {fs : List Frame}
    (hl : ∀ (f : JFrame) (acts : List Action), f.method = m → f.locked = none → f.entered = [] → (doReturn e (T.setTop f) acts (some (.int z))).1 = T.setFrames fs) : Steps p.tables e below (T.setTop (mkF m pc Ls (.int z :: rest))) (T.setFrames fs) :=
  retOut X hx hret rfl (Or.inl ⟨rfl, Or.inl rfl, _, rfl⟩) hd hl
end New
end Jvm.RoadKit
namespace Jvm.Pilot.@@N@@
open Jvm Jvm.ClassFile Sem Op Lib Jvm.Free Jvm.Stand Jvm.LawKit Jvm.RoadKit Bundle Jvm.Pilot.@@N@@.Jvm.D
/-- the run goes on from A and comes to an end of which R holds -/
def own_Go (p : Program) (e : Env) (below : List Frame) (A : State) (R : State → Outcome → Prop) : Prop := ∃ s₂ o, Steps p.tables e below A s₂ ∧ s₂.status = .running ∧ Ended s₂ below o ∧ R s₂ o
theorem own_by {p : Program} {e : Env} {below : List Frame} {A B : State} {R : State → Outcome → Prop} (k : ∀ t, Steps p.tables e below B t → Steps p.tables e below A t) (h : own_Go p e below B R) : own_Go p e below A R := by
  obtain ⟨s₂, o, h1, h2⟩ := h
  exact ⟨s₂, o, k _ h1, h2⟩
theorem own_Ins_keep {Z : State} {h h' : Heap} {a : Addr} {C : String} {bo : Bool} {ws : List Addr} (F : Ins Z h a C bo) (K : Keep h h' ws) : Ins Z h' a C bo := by
  obtain ⟨cell, cT, h1, h2, h3⟩ := F
  obtain ⟨c', q, r1, r2, -⟩ := K.2.2 a cell h1
  exact ⟨c', cT, q, h2, by rw [r1, r2]; exact h3⟩
theorem own_narrow_ref {t : FieldType} {v : Value} (ht : t.isReference = true) (hv : v.isRef = true) : narrow t v = v := by
  cases t <;> first | (cases ht; done) | (cases v <;> first | rfl | (cases hv; done))
theorem own_fits_ref {t : FieldType} {v : Value} (hv : v.isRef = true) (ht : t.isReference = true := by rfl) : fits t v = true := by
  cases t <;> first | (cases ht; done) | (cases v <;> first | rfl | (cases hv; done))
theorem own_eq_int {args : Array Value} {first s : State} {o : Option Outcome} {idx : List Nat} {t : Term} {n : Int32} (h : (Cond.eq t (.int n)).value args first o s idx = some true) : t.eval args first o idx s = some (.int n) := by
  simp only [Cond.value, Term.eval] at h
  cases ht : t.eval args first o idx s with
  | none => simp [ht] at h
  | some x => cases x <;> simp [ht] at h ⊢; exact h
def own_takes (n mn mx : Int32) : Int32 := if n < mn then 0 else if mx < n then 0 else 1
theorem own_eleven {k i : Int32} (h : i = (k &&& (2147483647 : Int32)) % (11 : Int32)) : i = 0 ∨ i = 1 ∨ i = 2 ∨ i = 3 ∨ i = 4 ∨ i = 5 ∨ i = 6 ∨ i = 7 ∨ i = 8 ∨ i = 9 ∨ i = 10 := by
  have h1 := (c_andS k 2147483647).2.2 (by decide)
  have h2 := (c_irem (k &&& 2147483647) 11 11 (by decide)).1 h1
  rw [← h] at h2
  simp only [← Int32.toInt_inj]
  simp
  omega
theorem own_pn_com_example_admit1_admit1_server_Command : plainName "com/example/admit1/admit1/server/Command" = true := by first | (simp [plainName, overriddenIn]; done) | decide +kernel
theorem own_pn_com_example_admit1_admit1_server_CommandTakesPinLaw : plainName "com/example/admit1/admit1/server/CommandTakesPinLaw" = true := by first | (simp [plainName, overriddenIn]; done) | decide +kernel
theorem own_pd__28I_29Lcom_2fexample_2fadmit1_2fadmit1_2fserver_2fCommand_3b : parseMethodDescriptor "(I)Lcom/example/admit1/admit1/server/Command;" = some ⟨[.int], some (.object "com/example/admit1/admit1/server/Command")⟩ := by decide +kernel
theorem own_pd__28I_29Z : parseMethodDescriptor "(I)Z" = some ⟨[.int], some .boolean⟩ := by decide +kernel
theorem own_pd__28II_29Z : parseMethodDescriptor "(II)Z" = some ⟨[.int, .int], some .boolean⟩ := by decide +kernel
theorem d_rm_takes_0 : decode prog_32_method_6_code 0 = .ok (.iload_n 1, 1) := by decide +kernel
theorem d_rm_takes_1 : decode prog_32_method_6_code 1 = .ok (.aload_n 0, 1) := by decide +kernel
theorem d_rm_takes_2 : decode prog_32_method_6_code 2 = .ok (.getfield 56, 3) := by decide +kernel
theorem d_rm_takes_5 : decode prog_32_method_6_code 5 = .ok (.if_icmp .lt 15, 3) := by decide +kernel
theorem d_rm_takes_8 : decode prog_32_method_6_code 8 = .ok (.iload_n 1, 1) := by decide +kernel
theorem d_rm_takes_9 : decode prog_32_method_6_code 9 = .ok (.aload_n 0, 1) := by decide +kernel
theorem d_rm_takes_10 : decode prog_32_method_6_code 10 = .ok (.getfield 60, 3) := by decide +kernel
theorem d_rm_takes_13 : decode prog_32_method_6_code 13 = .ok (.if_icmp .gt 7, 3) := by decide +kernel
theorem d_rm_takes_16 : decode prog_32_method_6_code 16 = .ok (.iconst 1, 1) := by decide +kernel
theorem d_rm_takes_17 : decode prog_32_method_6_code 17 = .ok (.goto 4, 3) := by decide +kernel
theorem d_rm_takes_20 : decode prog_32_method_6_code 20 = .ok (.iconst 0, 1) := by decide +kernel
theorem d_rm_takes_21 : decode prog_32_method_6_code 21 = .ok (.ireturn, 1) := by decide +kernel
def Q_rm_takes (Z : State) (a1 : Addr) (n1 : Int32) (mn : Int32) (mx : Int32) (h0 : Heap) (n0 : Nat) (v : Option Value) (h : Heap) (L : List Loc) : Prop := v = some (.int (own_takes n1 mn mx)) ∧ Fr n0 L ∧ h = h0
theorem ef_rm_takes (m : MethodId) (a1 : Addr) (n1 : Int32) (mn : Int32) (mx : Int32) : entryFrame m #[(.ref a1), (.int n1)] 2 = mkF m 0 #[.val (.ref a1), .val (.int n1)] [] := by first | (simp [entryFrame, mkF, argsToLocals, Value.category]; done) | rfl
set_option maxRecDepth 65536 in
set_option maxHeartbeats 40000000 in
theorem rm_takes (l : Launch) (Z : State) (a0 : Array Value) (hw : ∀ d ∈ tables_1, d.before a0 Z = true) (ws : List Jvm.Cond) (a1 : Addr) (n1 : Int32) (mn : Int32) (mx : Int32) (h0 : Heap) (n0 : Nat) (O0 : Old Z n0 h0) (F1 : Fld Z h0 a1 "com/example/admit1/admit1/server/Command" "minArgs" "I" (.int mn)) (F2 : Fld Z h0 a1 "com/example/admit1/admit1/server/Command" "maxArgs" "I" (.int mx)) :
    MetFree l (⟨"com/example/admit1/admit1/server/Command", "takes", "(I)Z"⟩ : MethodName) (head1 (Jvm.Cond.code (⟨"com/example/admit1/admit1/server/Command", "takes", "(I)Z"⟩ : MethodName) prog_32_method_6_code 2 (some .boolean) :: ws) ({ frames := 0, cells := 0, slots := 0, locals := 0 } : Room)) (fun a U => a = #[(.ref a1), (.int n1)] ∧ Z.Warmed39 U.vm ∧ U.heap = h0) (fun _ _ _ _ _ => True) (fun _ U o U' => ∃ v L, o = .returned v ∧ Q_rm_takes Z a1 n1 mn mx h0 n0 v U'.heap L ∧ FrameEnd U o U' L ({ frames := 0, cells := 0, slots := 0, locals := 0 } : Room).cells ({ frames := 0, cells := 0, slots := 0, locals := 0 } : Room).slots) := by
  refine MetFree.of_bodySF (plainFor_of_name own_pn_com_example_admit1_admit1_server_Command) hisR ?_
  intro p e s m args below meth c s₁ Bd hml0 hP hK
  obtain ⟨rfl, hZ, hh⟩ := hP
  have hx := Bd.exec
  have hby := Bd.bytes
  have hml : c.maxLocals = 2 := hml0
  have hown : s.vm.findClass "com/example/admit1/admit1/server/Command" = some m.cls := findClass_of_methodNamed Bd.named
  have hnm := (name_of_methodNamed Bd.named Bd.method).1
  have X0 : Stand p l e ({ frames := 0, cells := 0, slots := 0, locals := 0 } : Room) s m #[(.ref a1), (.int n1)] below meth c s₁ [] 0 0 := Stand.of_body Bd
  have e0 : s₁.heap = h0 := by rw [← hh, Bd.state]; rfl
  have N0 := Fr.nil n0
  have Z0 : n0 ≤ h0.size := by rw [← O0.1]; exact O0.2.1
  show own_Go p e below (s₁.setTop (entryFrame m #[(.ref a1), (.int n1)] 2)) (fun t o => ∃ v L, o = .returned v ∧ Q_rm_takes Z a1 n1 mn mx h0 n0 v t.heap L ∧ FrameEnd s o t L ({ frames := 0, cells := 0, slots := 0, locals := 0 } : Room).cells ({ frames := 0, cells := 0, slots := 0, locals := 0 } : Room).slots)
  rw [ef_rm_takes m a1 n1 mn mx]
  have lt_F1 := F1.lt
  have lt_F2 := F2.lt
  refine own_by (fun _ k => XS.iloadN X0.here hx rfl (hb hby d_rm_takes_0) rfl k) ?_
  show own_Go p e below (s₁.setTop (mkF m 1 #[.val (.ref a1), .val (.int n1)] [(.int n1)])) _
  refine own_by (fun _ k => XS.aloadN X0.here hx rfl (hb hby d_rm_takes_1) rfl rfl k) ?_
  show own_Go p e below (s₁.setTop (mkF m 2 #[.val (.ref a1), .val (.int n1)] [(.ref a1), (.int n1)])) _
  obtain ⟨T1, X1, e1, st1⟩ := getF X0 hx hZ hown (host := "") (Or.inl (hw _ (List.mem_of_getElem? (i := 13) rfl))) Via.refl e0 F1 (g := (mkF m 2 #[.val (.ref a1), .val (.int n1)] [(.ref a1), (.int n1)])) rfl rfl (hb hby d_rm_takes_2)
  refine own_by st1 ?_
  show own_Go p e below (T1.setTop (mkF m 5 #[.val (.ref a1), .val (.int n1)] [(.int mn), (.int n1)])) _
  by_cases c2 : n1 < mn
  · skip
    refine own_by (fun _ k => XS.icmpYes X1.here hx rfl (pc0 := 5) (pc' := 20) rfl (hb hby d_rm_takes_5) rfl (tlt c2).1 (by decide) (by decide) k) ?_
    show own_Go p e below (T1.setTop (mkF m 20 #[.val (.ref a1), .val (.int n1)] [])) _
    refine own_by (fun _ k => XS.iconst X1.here hx rfl (hb hby d_rm_takes_20) k) ?_
    show own_Go p e below (T1.setTop (mkF m 21 #[.val (.ref a1), .val (.int n1)] [(.int (0 : Int32))])) _
    obtain ⟨fs, hr, hrun, hended, hW, hsame⟩ := X1.leave (v := some (.int (0 : Int32))) (fun h => by rw [Bd.returns] at h; cases h)
    refine ⟨_, _, retN X1 hx (t := .boolean) Bd.returns (by simp) (hb hby d_rm_takes_21) hr, hrun, hended, _, _, rfl, ?_, ⟨_, rfl⟩, hW, hsame.mono (by decide) (by decide)⟩
    show Q_rm_takes Z a1 n1 mn mx h0 n0 _ T1.heap _
    rw [e1]
    exact ⟨(by unfold own_takes; simp [c2]), N0, rfl⟩
  · skip
    refine own_by (fun _ k => XS.icmpNo X1.here hx rfl (hb hby d_rm_takes_5) rfl (flt c2).1 k) ?_
    show own_Go p e below (T1.setTop (mkF m 8 #[.val (.ref a1), .val (.int n1)] [])) _
    refine own_by (fun _ k => XS.iloadN X1.here hx rfl (hb hby d_rm_takes_8) rfl k) ?_
    show own_Go p e below (T1.setTop (mkF m 9 #[.val (.ref a1), .val (.int n1)] [(.int n1)])) _
    refine own_by (fun _ k => XS.aloadN X1.here hx rfl (hb hby d_rm_takes_9) rfl rfl k) ?_
    show own_Go p e below (T1.setTop (mkF m 10 #[.val (.ref a1), .val (.int n1)] [(.ref a1), (.int n1)])) _
    obtain ⟨T3, X3, e3, st3⟩ := getF X1 hx hZ hown (host := "") (Or.inl (hw _ (List.mem_of_getElem? (i := 15) rfl))) Via.refl e1 F2 (g := (mkF m 10 #[.val (.ref a1), .val (.int n1)] [(.ref a1), (.int n1)])) rfl rfl (hb hby d_rm_takes_10)
    refine own_by st3 ?_
    show own_Go p e below (T3.setTop (mkF m 13 #[.val (.ref a1), .val (.int n1)] [(.int mx), (.int n1)])) _
    by_cases c4 : mx < n1
    · skip
      refine own_by (fun _ k => XS.icmpYes X3.here hx rfl (pc0 := 13) (pc' := 20) rfl (hb hby d_rm_takes_13) rfl (tlt c4).2.2.1 (by decide) (by decide) k) ?_
      show own_Go p e below (T3.setTop (mkF m 20 #[.val (.ref a1), .val (.int n1)] [])) _
      refine own_by (fun _ k => XS.iconst X3.here hx rfl (hb hby d_rm_takes_20) k) ?_
      show own_Go p e below (T3.setTop (mkF m 21 #[.val (.ref a1), .val (.int n1)] [(.int (0 : Int32))])) _
      obtain ⟨fs, hr, hrun, hended, hW, hsame⟩ := X3.leave (v := some (.int (0 : Int32))) (fun h => by rw [Bd.returns] at h; cases h)
      refine ⟨_, _, retN X3 hx (t := .boolean) Bd.returns (by simp) (hb hby d_rm_takes_21) hr, hrun, hended, _, _, rfl, ?_, ⟨_, rfl⟩, hW, hsame.mono (by decide) (by decide)⟩
      show Q_rm_takes Z a1 n1 mn mx h0 n0 _ T3.heap _
      rw [e3]
      exact ⟨(by unfold own_takes; simp [c2, c4]), N0, rfl⟩
    · skip
      refine own_by (fun _ k => XS.icmpNo X3.here hx rfl (hb hby d_rm_takes_13) rfl (flt c4).2.2.1 k) ?_
      show own_Go p e below (T3.setTop (mkF m 16 #[.val (.ref a1), .val (.int n1)] [])) _
      refine own_by (fun _ k => XS.iconst X3.here hx rfl (hb hby d_rm_takes_16) k) ?_
      show own_Go p e below (T3.setTop (mkF m 17 #[.val (.ref a1), .val (.int n1)] [(.int (1 : Int32))])) _
      refine own_by (fun _ k => XS.goto X3.here hx rfl (pc0 := 17) (pc' := 21) rfl (hb hby d_rm_takes_17) (by decide) (by decide) k) ?_
      show own_Go p e below (T3.setTop (mkF m 21 #[.val (.ref a1), .val (.int n1)] [(.int (1 : Int32))])) _
      obtain ⟨fs, hr, hrun, hended, hW, hsame⟩ := X3.leave (v := some (.int (1 : Int32))) (fun h => by rw [Bd.returns] at h; cases h)
      refine ⟨_, _, retN X3 hx (t := .boolean) Bd.returns (by simp) (hb hby d_rm_takes_21) hr, hrun, hended, _, _, rfl, ?_, ⟨_, rfl⟩, hW, hsame.mono (by decide) (by decide)⟩
      show Q_rm_takes Z a1 n1 mn mx h0 n0 _ T3.heap _
      rw [e3]
      exact ⟨(by unfold own_takes; simp [c2, c4]), N0, rfl⟩
theorem d_rm_pick0_0 : decode method_3_code 0 = .ok (.iload_n 0, 1) := by decide +kernel
theorem d_rm_pick0_1 : decode method_3_code 1 = .ok (.ifCond .ne 7, 3) := by decide +kernel
theorem d_rm_pick0_4 : decode method_3_code 4 = .ok (.getstatic 24, 3) := by decide +kernel
theorem d_rm_pick0_7 : decode method_3_code 7 = .ok (.areturn, 1) := by decide +kernel
def Q_rm_pick0 (Z : State) (a_PING : Addr) (h0 : Heap) (n0 : Nat) (v : Option Value) (h : Heap) (L : List Loc) : Prop := v = some (.ref a_PING) ∧ Fr n0 L ∧ h = h0
theorem ef_rm_pick0 (m : MethodId) (a_PING : Addr) : entryFrame m #[(.int (0 : Int32))] 1 = mkF m 0 #[.val (.int (0 : Int32))] [] := by first | (simp [entryFrame, mkF, argsToLocals, Value.category]; done) | rfl
set_option maxRecDepth 65536 in
set_option maxHeartbeats 40000000 in
theorem rm_pick0 (l : Launch) (Z : State) (a0 : Array Value) (hw : ∀ d ∈ tables_1, d.before a0 Z = true) (ws : List Jvm.Cond) (a_PING : Addr) (h0 : Heap) (n0 : Nat) (O0 : Old Z n0 h0) (S_PING : Sta Z Z.heap "com/example/admit1/admit1/server/Command" "PING" "Lcom/example/admit1/admit1/server/Command;" (.ref a_PING)) :
    MetFree l (⟨"com/example/admit1/admit1/server/CommandTakesPinLaw", "pick", "(I)Lcom/example/admit1/admit1/server/Command;"⟩ : MethodName) (head1 (Jvm.Cond.code (⟨"com/example/admit1/admit1/server/CommandTakesPinLaw", "pick", "(I)Lcom/example/admit1/admit1/server/Command;"⟩ : MethodName) method_3_code 1 (some (.object "com/example/admit1/admit1/server/Command")) :: ws) ({ frames := 0, cells := 0, slots := 0, locals := 0 } : Room)) (fun a U => a = #[(.int (0 : Int32))] ∧ Z.Warmed39 U.vm ∧ U.heap = h0) (fun _ _ _ _ _ => True) (fun _ U o U' => ∃ v L, o = .returned v ∧ Q_rm_pick0 Z a_PING h0 n0 v U'.heap L ∧ FrameEnd U o U' L ({ frames := 0, cells := 0, slots := 0, locals := 0 } : Room).cells ({ frames := 0, cells := 0, slots := 0, locals := 0 } : Room).slots) := by
  refine MetFree.of_bodySF (plainFor_of_name own_pn_com_example_admit1_admit1_server_CommandTakesPinLaw) hisR ?_
  intro p e s m args below meth c s₁ Bd hml0 hP hK
  obtain ⟨rfl, hZ, hh⟩ := hP
  have hx := Bd.exec
  have hby := Bd.bytes
  have hml : c.maxLocals = 1 := hml0
  have hown : s.vm.findClass "com/example/admit1/admit1/server/CommandTakesPinLaw" = some m.cls := findClass_of_methodNamed Bd.named
  have hnm := (name_of_methodNamed Bd.named Bd.method).1
  have X0 : Stand p l e ({ frames := 0, cells := 0, slots := 0, locals := 0 } : Room) s m #[(.int (0 : Int32))] below meth c s₁ [] 0 0 := Stand.of_body Bd
  have e0 : s₁.heap = h0 := by rw [← hh, Bd.state]; rfl
  have N0 := Fr.nil n0
  have Z0 : n0 ≤ h0.size := by rw [← O0.1]; exact O0.2.1
  show own_Go p e below (s₁.setTop (entryFrame m #[(.int (0 : Int32))] 1)) (fun t o => ∃ v L, o = .returned v ∧ Q_rm_pick0 Z a_PING h0 n0 v t.heap L ∧ FrameEnd s o t L ({ frames := 0, cells := 0, slots := 0, locals := 0 } : Room).cells ({ frames := 0, cells := 0, slots := 0, locals := 0 } : Room).slots)
  rw [ef_rm_pick0 m a_PING]
  refine own_by (fun _ k => XS.iloadN X0.here hx rfl (hb hby d_rm_pick0_0) rfl k) ?_
  show own_Go p e below (s₁.setTop (mkF m 1 #[.val (.int (0 : Int32))] [(.int (0 : Int32))])) _
  refine own_by (fun _ k => XS.ifNo X0.here hx rfl (hb hby d_rm_pick0_1) rfl ((if0 _ _).trans (teq (by decide : (0 : Int32) = (0 : Int32))).2) k) ?_
  show own_Go p e below (s₁.setTop (mkF m 4 #[.val (.int (0 : Int32))] [])) _
  obtain ⟨T1, X1, e1, st1⟩ := getS2 X0 hx hZ hown (host := "") (Or.inl (hw _ (List.mem_of_getElem? (i := 5) rfl))) Via.refl e0 (S_PING.ext O0.2) (g := (mkF m 4 #[.val (.int (0 : Int32))] [])) rfl (hb hby d_rm_pick0_4)
  refine own_by st1 ?_
  show own_Go p e below (T1.setTop (mkF m 7 #[.val (.int (0 : Int32))] [(.ref a_PING)])) _
  obtain ⟨fs, hr, hrun, hended, hW, hsame⟩ := X1.leave (v := some (.ref a_PING)) (fun h => by rw [Bd.returns] at h; cases h)
  refine ⟨_, _, retOut X1 hx Bd.returns (own_narrow_ref (by decide) rfl) (Or.inr (Or.inr (Or.inr (Or.inr ⟨rfl, by decide, rfl⟩)))) (hb hby d_rm_pick0_7) hr, hrun, hended, _, _, rfl, ?_, ⟨_, rfl⟩, hW, hsame.mono (by decide) (by decide)⟩
  show Q_rm_pick0 Z a_PING h0 n0 _ T1.heap _
  rw [e1]
  exact ⟨rfl, N0, rfl⟩
theorem d_rm_exp0_0 : decode method_4_code 0 = .ok (.iload_n 0, 1) := by decide +kernel
theorem d_rm_exp0_1 : decode method_4_code 1 = .ok (.ifCond .ne 18, 3) := by decide +kernel
theorem d_rm_exp0_4 : decode method_4_code 4 = .ok (.iload_n 1, 1) := by decide +kernel
theorem d_rm_exp0_5 : decode method_4_code 5 = .ok (.ifCond .eq 8, 3) := by decide +kernel
theorem d_rm_exp0_8 : decode method_4_code 8 = .ok (.iload_n 1, 1) := by decide +kernel
theorem d_rm_exp0_9 : decode method_4_code 9 = .ok (.iconst 1, 1) := by decide +kernel
theorem d_rm_exp0_10 : decode method_4_code 10 = .ok (.if_icmp .ne 7, 3) := by decide +kernel
theorem d_rm_exp0_13 : decode method_4_code 13 = .ok (.iconst 1, 1) := by decide +kernel
theorem d_rm_exp0_14 : decode method_4_code 14 = .ok (.goto 4, 3) := by decide +kernel
theorem d_rm_exp0_17 : decode method_4_code 17 = .ok (.iconst 0, 1) := by decide +kernel
theorem d_rm_exp0_18 : decode method_4_code 18 = .ok (.ireturn, 1) := by decide +kernel
def Q_rm_exp0 (Z : State) (n1 : Int32) (h0 : Heap) (n0 : Nat) (v : Option Value) (h : Heap) (L : List Loc) : Prop := v = some (.int (own_takes n1 (0 : Int32) (1 : Int32))) ∧ Fr n0 L ∧ h = h0
theorem ef_rm_exp0 (m : MethodId) (n1 : Int32) : entryFrame m #[(.int (0 : Int32)), (.int n1)] 2 = mkF m 0 #[.val (.int (0 : Int32)), .val (.int n1)] [] := by first | (simp [entryFrame, mkF, argsToLocals, Value.category]; done) | rfl
set_option maxRecDepth 65536 in
set_option maxHeartbeats 40000000 in
theorem rm_exp0 (l : Launch) (Z : State) (a0 : Array Value) (hw : ∀ d ∈ tables_1, d.before a0 Z = true) (ws : List Jvm.Cond) (n1 : Int32) (h0 : Heap) (n0 : Nat) (O0 : Old Z n0 h0) :
    MetFree l (⟨"com/example/admit1/admit1/server/CommandTakesPinLaw", "expected", "(II)Z"⟩ : MethodName) (head1 (Jvm.Cond.code (⟨"com/example/admit1/admit1/server/CommandTakesPinLaw", "expected", "(II)Z"⟩ : MethodName) method_4_code 2 (some .boolean) :: ws) ({ frames := 0, cells := 0, slots := 0, locals := 0 } : Room)) (fun a U => a = #[(.int (0 : Int32)), (.int n1)] ∧ Z.Warmed39 U.vm ∧ U.heap = h0) (fun _ _ _ _ _ => True) (fun _ U o U' => ∃ v L, o = .returned v ∧ Q_rm_exp0 Z n1 h0 n0 v U'.heap L ∧ FrameEnd U o U' L ({ frames := 0, cells := 0, slots := 0, locals := 0 } : Room).cells ({ frames := 0, cells := 0, slots := 0, locals := 0 } : Room).slots) := by
  refine MetFree.of_bodySF (plainFor_of_name own_pn_com_example_admit1_admit1_server_CommandTakesPinLaw) hisR ?_
  intro p e s m args below meth c s₁ Bd hml0 hP hK
  obtain ⟨rfl, hZ, hh⟩ := hP
  have hx := Bd.exec
  have hby := Bd.bytes
  have hml : c.maxLocals = 2 := hml0
  have hown : s.vm.findClass "com/example/admit1/admit1/server/CommandTakesPinLaw" = some m.cls := findClass_of_methodNamed Bd.named
  have hnm := (name_of_methodNamed Bd.named Bd.method).1
  have X0 : Stand p l e ({ frames := 0, cells := 0, slots := 0, locals := 0 } : Room) s m #[(.int (0 : Int32)), (.int n1)] below meth c s₁ [] 0 0 := Stand.of_body Bd
  have e0 : s₁.heap = h0 := by rw [← hh, Bd.state]; rfl
  have N0 := Fr.nil n0
  have Z0 : n0 ≤ h0.size := by rw [← O0.1]; exact O0.2.1
  show own_Go p e below (s₁.setTop (entryFrame m #[(.int (0 : Int32)), (.int n1)] 2)) (fun t o => ∃ v L, o = .returned v ∧ Q_rm_exp0 Z n1 h0 n0 v t.heap L ∧ FrameEnd s o t L ({ frames := 0, cells := 0, slots := 0, locals := 0 } : Room).cells ({ frames := 0, cells := 0, slots := 0, locals := 0 } : Room).slots)
  rw [ef_rm_exp0 m n1]
  refine own_by (fun _ k => XS.iloadN X0.here hx rfl (hb hby d_rm_exp0_0) rfl k) ?_
  show own_Go p e below (s₁.setTop (mkF m 1 #[.val (.int (0 : Int32)), .val (.int n1)] [(.int (0 : Int32))])) _
  refine own_by (fun _ k => XS.ifNo X0.here hx rfl (hb hby d_rm_exp0_1) rfl ((if0 _ _).trans (teq (by decide : (0 : Int32) = (0 : Int32))).2) k) ?_
  show own_Go p e below (s₁.setTop (mkF m 4 #[.val (.int (0 : Int32)), .val (.int n1)] [])) _
  refine own_by (fun _ k => XS.iloadN X0.here hx rfl (hb hby d_rm_exp0_4) rfl k) ?_
  show own_Go p e below (s₁.setTop (mkF m 5 #[.val (.int (0 : Int32)), .val (.int n1)] [(.int n1)])) _
  by_cases c1 : n1 = (0 : Int32)
  · skip
    refine own_by (fun _ k => XS.ifYes X0.here hx rfl (pc0 := 5) (pc' := 13) rfl (hb hby d_rm_exp0_5) rfl ((if0 _ _).trans (teq c1).1) (by decide) (by decide) k) ?_
    show own_Go p e below (s₁.setTop (mkF m 13 #[.val (.int (0 : Int32)), .val (.int n1)] [])) _
    refine own_by (fun _ k => XS.iconst X0.here hx rfl (hb hby d_rm_exp0_13) k) ?_
    show own_Go p e below (s₁.setTop (mkF m 14 #[.val (.int (0 : Int32)), .val (.int n1)] [(.int (1 : Int32))])) _
    refine own_by (fun _ k => XS.goto X0.here hx rfl (pc0 := 14) (pc' := 18) rfl (hb hby d_rm_exp0_14) (by decide) (by decide) k) ?_
    show own_Go p e below (s₁.setTop (mkF m 18 #[.val (.int (0 : Int32)), .val (.int n1)] [(.int (1 : Int32))])) _
    obtain ⟨fs, hr, hrun, hended, hW, hsame⟩ := X0.leave (v := some (.int (1 : Int32))) (fun h => by rw [Bd.returns] at h; cases h)
    refine ⟨_, _, retN X0 hx (t := .boolean) Bd.returns (by simp) (hb hby d_rm_exp0_18) hr, hrun, hended, _, _, rfl, ?_, ⟨_, rfl⟩, hW, hsame.mono (by decide) (by decide)⟩
    show Q_rm_exp0 Z n1 h0 n0 _ s₁.heap _
    rw [e0]
    exact ⟨(by first | (congr 2; unfold own_takes; split <;> (try split) <;> simp_all [Int32.lt_iff_toInt_lt, ← Int32.toInt_inj] <;> omega)), N0, rfl⟩
  · skip
    refine own_by (fun _ k => XS.ifNo X0.here hx rfl (hb hby d_rm_exp0_5) rfl ((if0 _ _).trans (feq c1).1) k) ?_
    show own_Go p e below (s₁.setTop (mkF m 8 #[.val (.int (0 : Int32)), .val (.int n1)] [])) _
    refine own_by (fun _ k => XS.iloadN X0.here hx rfl (hb hby d_rm_exp0_8) rfl k) ?_
    show own_Go p e below (s₁.setTop (mkF m 9 #[.val (.int (0 : Int32)), .val (.int n1)] [(.int n1)])) _
    refine own_by (fun _ k => XS.iconst X0.here hx rfl (hb hby d_rm_exp0_9) k) ?_
    show own_Go p e below (s₁.setTop (mkF m 10 #[.val (.int (0 : Int32)), .val (.int n1)] [(.int (1 : Int32)), (.int n1)])) _
    by_cases c2 : n1 = (1 : Int32)
    · skip
      refine own_by (fun _ k => XS.icmpNo X0.here hx rfl (hb hby d_rm_exp0_10) rfl (teq c2).2 k) ?_
      show own_Go p e below (s₁.setTop (mkF m 13 #[.val (.int (0 : Int32)), .val (.int n1)] [])) _
      refine own_by (fun _ k => XS.iconst X0.here hx rfl (hb hby d_rm_exp0_13) k) ?_
      show own_Go p e below (s₁.setTop (mkF m 14 #[.val (.int (0 : Int32)), .val (.int n1)] [(.int (1 : Int32))])) _
      refine own_by (fun _ k => XS.goto X0.here hx rfl (pc0 := 14) (pc' := 18) rfl (hb hby d_rm_exp0_14) (by decide) (by decide) k) ?_
      show own_Go p e below (s₁.setTop (mkF m 18 #[.val (.int (0 : Int32)), .val (.int n1)] [(.int (1 : Int32))])) _
      obtain ⟨fs, hr, hrun, hended, hW, hsame⟩ := X0.leave (v := some (.int (1 : Int32))) (fun h => by rw [Bd.returns] at h; cases h)
      refine ⟨_, _, retN X0 hx (t := .boolean) Bd.returns (by simp) (hb hby d_rm_exp0_18) hr, hrun, hended, _, _, rfl, ?_, ⟨_, rfl⟩, hW, hsame.mono (by decide) (by decide)⟩
      show Q_rm_exp0 Z n1 h0 n0 _ s₁.heap _
      rw [e0]
      exact ⟨(by first | (congr 2; unfold own_takes; split <;> (try split) <;> simp_all [Int32.lt_iff_toInt_lt, ← Int32.toInt_inj] <;> omega)), N0, rfl⟩
    · skip
      refine own_by (fun _ k => XS.icmpYes X0.here hx rfl (pc0 := 10) (pc' := 17) rfl (hb hby d_rm_exp0_10) rfl (feq c2).2 (by decide) (by decide) k) ?_
      show own_Go p e below (s₁.setTop (mkF m 17 #[.val (.int (0 : Int32)), .val (.int n1)] [])) _
      refine own_by (fun _ k => XS.iconst X0.here hx rfl (hb hby d_rm_exp0_17) k) ?_
      show own_Go p e below (s₁.setTop (mkF m 18 #[.val (.int (0 : Int32)), .val (.int n1)] [(.int (0 : Int32))])) _
      obtain ⟨fs, hr, hrun, hended, hW, hsame⟩ := X0.leave (v := some (.int (0 : Int32))) (fun h => by rw [Bd.returns] at h; cases h)
      refine ⟨_, _, retN X0 hx (t := .boolean) Bd.returns (by simp) (hb hby d_rm_exp0_18) hr, hrun, hended, _, _, rfl, ?_, ⟨_, rfl⟩, hW, hsame.mono (by decide) (by decide)⟩
      show Q_rm_exp0 Z n1 h0 n0 _ s₁.heap _
      rw [e0]
      exact ⟨(by first | (congr 2; unfold own_takes; split <;> (try split) <;> simp_all [Int32.lt_iff_toInt_lt, ← Int32.toInt_inj] <;> omega)), N0, rfl⟩
theorem d_rm_pick1_0 : decode method_3_code 0 = .ok (.iload_n 0, 1) := by decide +kernel
theorem d_rm_pick1_1 : decode method_3_code 1 = .ok (.ifCond .ne 7, 3) := by decide +kernel
theorem d_rm_pick1_8 : decode method_3_code 8 = .ok (.iload_n 0, 1) := by decide +kernel
theorem d_rm_pick1_9 : decode method_3_code 9 = .ok (.iconst 1, 1) := by decide +kernel
theorem d_rm_pick1_10 : decode method_3_code 10 = .ok (.if_icmp .ne 7, 3) := by decide +kernel
theorem d_rm_pick1_13 : decode method_3_code 13 = .ok (.getstatic 28, 3) := by decide +kernel
theorem d_rm_pick1_16 : decode method_3_code 16 = .ok (.areturn, 1) := by decide +kernel
def Q_rm_pick1 (Z : State) (a_ECHO : Addr) (h0 : Heap) (n0 : Nat) (v : Option Value) (h : Heap) (L : List Loc) : Prop := v = some (.ref a_ECHO) ∧ Fr n0 L ∧ h = h0
theorem ef_rm_pick1 (m : MethodId) (a_ECHO : Addr) : entryFrame m #[(.int (1 : Int32))] 1 = mkF m 0 #[.val (.int (1 : Int32))] [] := by first | (simp [entryFrame, mkF, argsToLocals, Value.category]; done) | rfl
set_option maxRecDepth 65536 in
set_option maxHeartbeats 40000000 in
theorem rm_pick1 (l : Launch) (Z : State) (a0 : Array Value) (hw : ∀ d ∈ tables_1, d.before a0 Z = true) (ws : List Jvm.Cond) (a_ECHO : Addr) (h0 : Heap) (n0 : Nat) (O0 : Old Z n0 h0) (S_ECHO : Sta Z Z.heap "com/example/admit1/admit1/server/Command" "ECHO" "Lcom/example/admit1/admit1/server/Command;" (.ref a_ECHO)) :
    MetFree l (⟨"com/example/admit1/admit1/server/CommandTakesPinLaw", "pick", "(I)Lcom/example/admit1/admit1/server/Command;"⟩ : MethodName) (head1 (Jvm.Cond.code (⟨"com/example/admit1/admit1/server/CommandTakesPinLaw", "pick", "(I)Lcom/example/admit1/admit1/server/Command;"⟩ : MethodName) method_3_code 1 (some (.object "com/example/admit1/admit1/server/Command")) :: ws) ({ frames := 0, cells := 0, slots := 0, locals := 0 } : Room)) (fun a U => a = #[(.int (1 : Int32))] ∧ Z.Warmed39 U.vm ∧ U.heap = h0) (fun _ _ _ _ _ => True) (fun _ U o U' => ∃ v L, o = .returned v ∧ Q_rm_pick1 Z a_ECHO h0 n0 v U'.heap L ∧ FrameEnd U o U' L ({ frames := 0, cells := 0, slots := 0, locals := 0 } : Room).cells ({ frames := 0, cells := 0, slots := 0, locals := 0 } : Room).slots) := by
  refine MetFree.of_bodySF (plainFor_of_name own_pn_com_example_admit1_admit1_server_CommandTakesPinLaw) hisR ?_
  intro p e s m args below meth c s₁ Bd hml0 hP hK
  obtain ⟨rfl, hZ, hh⟩ := hP
  have hx := Bd.exec
  have hby := Bd.bytes
  have hml : c.maxLocals = 1 := hml0
  have hown : s.vm.findClass "com/example/admit1/admit1/server/CommandTakesPinLaw" = some m.cls := findClass_of_methodNamed Bd.named
  have hnm := (name_of_methodNamed Bd.named Bd.method).1
  have X0 : Stand p l e ({ frames := 0, cells := 0, slots := 0, locals := 0 } : Room) s m #[(.int (1 : Int32))] below meth c s₁ [] 0 0 := Stand.of_body Bd
  have e0 : s₁.heap = h0 := by rw [← hh, Bd.state]; rfl
  have N0 := Fr.nil n0
  have Z0 : n0 ≤ h0.size := by rw [← O0.1]; exact O0.2.1
  show own_Go p e below (s₁.setTop (entryFrame m #[(.int (1 : Int32))] 1)) (fun t o => ∃ v L, o = .returned v ∧ Q_rm_pick1 Z a_ECHO h0 n0 v t.heap L ∧ FrameEnd s o t L ({ frames := 0, cells := 0, slots := 0, locals := 0 } : Room).cells ({ frames := 0, cells := 0, slots := 0, locals := 0 } : Room).slots)
  rw [ef_rm_pick1 m a_ECHO]
  refine own_by (fun _ k => XS.iloadN X0.here hx rfl (hb hby d_rm_pick1_0) rfl k) ?_
  show own_Go p e below (s₁.setTop (mkF m 1 #[.val (.int (1 : Int32))] [(.int (1 : Int32))])) _
  refine own_by (fun _ k => XS.ifYes X0.here hx rfl (pc0 := 1) (pc' := 8) rfl (hb hby d_rm_pick1_1) rfl ((if0 _ _).trans (feq (by decide : ¬ ((1 : Int32) = (0 : Int32)))).2) (by decide) (by decide) k) ?_
  show own_Go p e below (s₁.setTop (mkF m 8 #[.val (.int (1 : Int32))] [])) _
  refine own_by (fun _ k => XS.iloadN X0.here hx rfl (hb hby d_rm_pick1_8) rfl k) ?_
  show own_Go p e below (s₁.setTop (mkF m 9 #[.val (.int (1 : Int32))] [(.int (1 : Int32))])) _
  refine own_by (fun _ k => XS.iconst X0.here hx rfl (hb hby d_rm_pick1_9) k) ?_
  show own_Go p e below (s₁.setTop (mkF m 10 #[.val (.int (1 : Int32))] [(.int (1 : Int32)), (.int (1 : Int32))])) _
  refine own_by (fun _ k => XS.icmpNo X0.here hx rfl (hb hby d_rm_pick1_10) rfl (teq (by decide : (1 : Int32) = (1 : Int32))).2 k) ?_
  show own_Go p e below (s₁.setTop (mkF m 13 #[.val (.int (1 : Int32))] [])) _
  obtain ⟨T1, X1, e1, st1⟩ := getS2 X0 hx hZ hown (host := "") (Or.inl (hw _ (List.mem_of_getElem? (i := 30) rfl))) Via.refl e0 (S_ECHO.ext O0.2) (g := (mkF m 13 #[.val (.int (1 : Int32))] [])) rfl (hb hby d_rm_pick1_13)
  refine own_by st1 ?_
  show own_Go p e below (T1.setTop (mkF m 16 #[.val (.int (1 : Int32))] [(.ref a_ECHO)])) _
  obtain ⟨fs, hr, hrun, hended, hW, hsame⟩ := X1.leave (v := some (.ref a_ECHO)) (fun h => by rw [Bd.returns] at h; cases h)
  refine ⟨_, _, retOut X1 hx Bd.returns (own_narrow_ref (by decide) rfl) (Or.inr (Or.inr (Or.inr (Or.inr ⟨rfl, by decide, rfl⟩)))) (hb hby d_rm_pick1_16) hr, hrun, hended, _, _, rfl, ?_, ⟨_, rfl⟩, hW, hsame.mono (by decide) (by decide)⟩
  show Q_rm_pick1 Z a_ECHO h0 n0 _ T1.heap _
  rw [e1]
  exact ⟨rfl, N0, rfl⟩
theorem d_rm_exp1_0 : decode method_4_code 0 = .ok (.iload_n 0, 1) := by decide +kernel
theorem d_rm_exp1_1 : decode method_4_code 1 = .ok (.ifCond .ne 18, 3) := by decide +kernel
theorem d_rm_exp1_19 : decode method_4_code 19 = .ok (.iload_n 0, 1) := by decide +kernel
theorem d_rm_exp1_20 : decode method_4_code 20 = .ok (.iconst 1, 1) := by decide +kernel
theorem d_rm_exp1_21 : decode method_4_code 21 = .ok (.if_icmp .ne 14, 3) := by decide +kernel
theorem d_rm_exp1_24 : decode method_4_code 24 = .ok (.iload_n 1, 1) := by decide +kernel
theorem d_rm_exp1_25 : decode method_4_code 25 = .ok (.iconst 1, 1) := by decide +kernel
theorem d_rm_exp1_26 : decode method_4_code 26 = .ok (.if_icmp .ne 7, 3) := by decide +kernel
theorem d_rm_exp1_29 : decode method_4_code 29 = .ok (.iconst 1, 1) := by decide +kernel
theorem d_rm_exp1_30 : decode method_4_code 30 = .ok (.goto 4, 3) := by decide +kernel
theorem d_rm_exp1_33 : decode method_4_code 33 = .ok (.iconst 0, 1) := by decide +kernel
theorem d_rm_exp1_34 : decode method_4_code 34 = .ok (.ireturn, 1) := by decide +kernel
def Q_rm_exp1 (Z : State) (n1 : Int32) (h0 : Heap) (n0 : Nat) (v : Option Value) (h : Heap) (L : List Loc) : Prop := v = some (.int (own_takes n1 (1 : Int32) (1 : Int32))) ∧ Fr n0 L ∧ h = h0
theorem ef_rm_exp1 (m : MethodId) (n1 : Int32) : entryFrame m #[(.int (1 : Int32)), (.int n1)] 2 = mkF m 0 #[.val (.int (1 : Int32)), .val (.int n1)] [] := by first | (simp [entryFrame, mkF, argsToLocals, Value.category]; done) | rfl
set_option maxRecDepth 65536 in
set_option maxHeartbeats 40000000 in
theorem rm_exp1 (l : Launch) (Z : State) (a0 : Array Value) (hw : ∀ d ∈ tables_1, d.before a0 Z = true) (ws : List Jvm.Cond) (n1 : Int32) (h0 : Heap) (n0 : Nat) (O0 : Old Z n0 h0) :
    MetFree l (⟨"com/example/admit1/admit1/server/CommandTakesPinLaw", "expected", "(II)Z"⟩ : MethodName) (head1 (Jvm.Cond.code (⟨"com/example/admit1/admit1/server/CommandTakesPinLaw", "expected", "(II)Z"⟩ : MethodName) method_4_code 2 (some .boolean) :: ws) ({ frames := 0, cells := 0, slots := 0, locals := 0 } : Room)) (fun a U => a = #[(.int (1 : Int32)), (.int n1)] ∧ Z.Warmed39 U.vm ∧ U.heap = h0) (fun _ _ _ _ _ => True) (fun _ U o U' => ∃ v L, o = .returned v ∧ Q_rm_exp1 Z n1 h0 n0 v U'.heap L ∧ FrameEnd U o U' L ({ frames := 0, cells := 0, slots := 0, locals := 0 } : Room).cells ({ frames := 0, cells := 0, slots := 0, locals := 0 } : Room).slots) := by
  refine MetFree.of_bodySF (plainFor_of_name own_pn_com_example_admit1_admit1_server_CommandTakesPinLaw) hisR ?_
  intro p e s m args below meth c s₁ Bd hml0 hP hK
  obtain ⟨rfl, hZ, hh⟩ := hP
  have hx := Bd.exec
  have hby := Bd.bytes
  have hml : c.maxLocals = 2 := hml0
  have hown : s.vm.findClass "com/example/admit1/admit1/server/CommandTakesPinLaw" = some m.cls := findClass_of_methodNamed Bd.named
  have hnm := (name_of_methodNamed Bd.named Bd.method).1
  have X0 : Stand p l e ({ frames := 0, cells := 0, slots := 0, locals := 0 } : Room) s m #[(.int (1 : Int32)), (.int n1)] below meth c s₁ [] 0 0 := Stand.of_body Bd
  have e0 : s₁.heap = h0 := by rw [← hh, Bd.state]; rfl
  have N0 := Fr.nil n0
  have Z0 : n0 ≤ h0.size := by rw [← O0.1]; exact O0.2.1
  show own_Go p e below (s₁.setTop (entryFrame m #[(.int (1 : Int32)), (.int n1)] 2)) (fun t o => ∃ v L, o = .returned v ∧ Q_rm_exp1 Z n1 h0 n0 v t.heap L ∧ FrameEnd s o t L ({ frames := 0, cells := 0, slots := 0, locals := 0 } : Room).cells ({ frames := 0, cells := 0, slots := 0, locals := 0 } : Room).slots)
  rw [ef_rm_exp1 m n1]
  refine own_by (fun _ k => XS.iloadN X0.here hx rfl (hb hby d_rm_exp1_0) rfl k) ?_
  show own_Go p e below (s₁.setTop (mkF m 1 #[.val (.int (1 : Int32)), .val (.int n1)] [(.int (1 : Int32))])) _
  refine own_by (fun _ k => XS.ifYes X0.here hx rfl (pc0 := 1) (pc' := 19) rfl (hb hby d_rm_exp1_1) rfl ((if0 _ _).trans (feq (by decide : ¬ ((1 : Int32) = (0 : Int32)))).2) (by decide) (by decide) k) ?_
  show own_Go p e below (s₁.setTop (mkF m 19 #[.val (.int (1 : Int32)), .val (.int n1)] [])) _
  refine own_by (fun _ k => XS.iloadN X0.here hx rfl (hb hby d_rm_exp1_19) rfl k) ?_
  show own_Go p e below (s₁.setTop (mkF m 20 #[.val (.int (1 : Int32)), .val (.int n1)] [(.int (1 : Int32))])) _
  refine own_by (fun _ k => XS.iconst X0.here hx rfl (hb hby d_rm_exp1_20) k) ?_
  show own_Go p e below (s₁.setTop (mkF m 21 #[.val (.int (1 : Int32)), .val (.int n1)] [(.int (1 : Int32)), (.int (1 : Int32))])) _
  refine own_by (fun _ k => XS.icmpNo X0.here hx rfl (hb hby d_rm_exp1_21) rfl (teq (by decide : (1 : Int32) = (1 : Int32))).2 k) ?_
  show own_Go p e below (s₁.setTop (mkF m 24 #[.val (.int (1 : Int32)), .val (.int n1)] [])) _
  refine own_by (fun _ k => XS.iloadN X0.here hx rfl (hb hby d_rm_exp1_24) rfl k) ?_
  show own_Go p e below (s₁.setTop (mkF m 25 #[.val (.int (1 : Int32)), .val (.int n1)] [(.int n1)])) _
  refine own_by (fun _ k => XS.iconst X0.here hx rfl (hb hby d_rm_exp1_25) k) ?_
  show own_Go p e below (s₁.setTop (mkF m 26 #[.val (.int (1 : Int32)), .val (.int n1)] [(.int (1 : Int32)), (.int n1)])) _
  by_cases c1 : n1 = (1 : Int32)
  · skip
    refine own_by (fun _ k => XS.icmpNo X0.here hx rfl (hb hby d_rm_exp1_26) rfl (teq c1).2 k) ?_
    show own_Go p e below (s₁.setTop (mkF m 29 #[.val (.int (1 : Int32)), .val (.int n1)] [])) _
    refine own_by (fun _ k => XS.iconst X0.here hx rfl (hb hby d_rm_exp1_29) k) ?_
    show own_Go p e below (s₁.setTop (mkF m 30 #[.val (.int (1 : Int32)), .val (.int n1)] [(.int (1 : Int32))])) _
    refine own_by (fun _ k => XS.goto X0.here hx rfl (pc0 := 30) (pc' := 34) rfl (hb hby d_rm_exp1_30) (by decide) (by decide) k) ?_
    show own_Go p e below (s₁.setTop (mkF m 34 #[.val (.int (1 : Int32)), .val (.int n1)] [(.int (1 : Int32))])) _
    obtain ⟨fs, hr, hrun, hended, hW, hsame⟩ := X0.leave (v := some (.int (1 : Int32))) (fun h => by rw [Bd.returns] at h; cases h)
    refine ⟨_, _, retN X0 hx (t := .boolean) Bd.returns (by simp) (hb hby d_rm_exp1_34) hr, hrun, hended, _, _, rfl, ?_, ⟨_, rfl⟩, hW, hsame.mono (by decide) (by decide)⟩
    show Q_rm_exp1 Z n1 h0 n0 _ s₁.heap _
    rw [e0]
    exact ⟨(by first | (congr 2; unfold own_takes; split <;> (try split) <;> simp_all [Int32.lt_iff_toInt_lt, ← Int32.toInt_inj] <;> omega)), N0, rfl⟩
  · skip
    refine own_by (fun _ k => XS.icmpYes X0.here hx rfl (pc0 := 26) (pc' := 33) rfl (hb hby d_rm_exp1_26) rfl (feq c1).2 (by decide) (by decide) k) ?_
    show own_Go p e below (s₁.setTop (mkF m 33 #[.val (.int (1 : Int32)), .val (.int n1)] [])) _
    refine own_by (fun _ k => XS.iconst X0.here hx rfl (hb hby d_rm_exp1_33) k) ?_
    show own_Go p e below (s₁.setTop (mkF m 34 #[.val (.int (1 : Int32)), .val (.int n1)] [(.int (0 : Int32))])) _
    obtain ⟨fs, hr, hrun, hended, hW, hsame⟩ := X0.leave (v := some (.int (0 : Int32))) (fun h => by rw [Bd.returns] at h; cases h)
    refine ⟨_, _, retN X0 hx (t := .boolean) Bd.returns (by simp) (hb hby d_rm_exp1_34) hr, hrun, hended, _, _, rfl, ?_, ⟨_, rfl⟩, hW, hsame.mono (by decide) (by decide)⟩
    show Q_rm_exp1 Z n1 h0 n0 _ s₁.heap _
    rw [e0]
    exact ⟨(by first | (congr 2; unfold own_takes; split <;> (try split) <;> simp_all [Int32.lt_iff_toInt_lt, ← Int32.toInt_inj] <;> omega)), N0, rfl⟩
theorem d_rm_pick2_0 : decode method_3_code 0 = .ok (.iload_n 0, 1) := by decide +kernel
theorem d_rm_pick2_1 : decode method_3_code 1 = .ok (.ifCond .ne 7, 3) := by decide +kernel
theorem d_rm_pick2_8 : decode method_3_code 8 = .ok (.iload_n 0, 1) := by decide +kernel
theorem d_rm_pick2_9 : decode method_3_code 9 = .ok (.iconst 1, 1) := by decide +kernel
theorem d_rm_pick2_10 : decode method_3_code 10 = .ok (.if_icmp .ne 7, 3) := by decide +kernel
theorem d_rm_pick2_17 : decode method_3_code 17 = .ok (.iload_n 0, 1) := by decide +kernel
theorem d_rm_pick2_18 : decode method_3_code 18 = .ok (.iconst 2, 1) := by decide +kernel
theorem d_rm_pick2_19 : decode method_3_code 19 = .ok (.if_icmp .ne 7, 3) := by decide +kernel
theorem d_rm_pick2_22 : decode method_3_code 22 = .ok (.getstatic 31, 3) := by decide +kernel
theorem d_rm_pick2_25 : decode method_3_code 25 = .ok (.areturn, 1) := by decide +kernel
def Q_rm_pick2 (Z : State) (a_QUIT : Addr) (h0 : Heap) (n0 : Nat) (v : Option Value) (h : Heap) (L : List Loc) : Prop := v = some (.ref a_QUIT) ∧ Fr n0 L ∧ h = h0
theorem ef_rm_pick2 (m : MethodId) (a_QUIT : Addr) : entryFrame m #[(.int (2 : Int32))] 1 = mkF m 0 #[.val (.int (2 : Int32))] [] := by first | (simp [entryFrame, mkF, argsToLocals, Value.category]; done) | rfl
set_option maxRecDepth 65536 in
set_option maxHeartbeats 40000000 in
theorem rm_pick2 (l : Launch) (Z : State) (a0 : Array Value) (hw : ∀ d ∈ tables_1, d.before a0 Z = true) (ws : List Jvm.Cond) (a_QUIT : Addr) (h0 : Heap) (n0 : Nat) (O0 : Old Z n0 h0) (S_QUIT : Sta Z Z.heap "com/example/admit1/admit1/server/Command" "QUIT" "Lcom/example/admit1/admit1/server/Command;" (.ref a_QUIT)) :
    MetFree l (⟨"com/example/admit1/admit1/server/CommandTakesPinLaw", "pick", "(I)Lcom/example/admit1/admit1/server/Command;"⟩ : MethodName) (head1 (Jvm.Cond.code (⟨"com/example/admit1/admit1/server/CommandTakesPinLaw", "pick", "(I)Lcom/example/admit1/admit1/server/Command;"⟩ : MethodName) method_3_code 1 (some (.object "com/example/admit1/admit1/server/Command")) :: ws) ({ frames := 0, cells := 0, slots := 0, locals := 0 } : Room)) (fun a U => a = #[(.int (2 : Int32))] ∧ Z.Warmed39 U.vm ∧ U.heap = h0) (fun _ _ _ _ _ => True) (fun _ U o U' => ∃ v L, o = .returned v ∧ Q_rm_pick2 Z a_QUIT h0 n0 v U'.heap L ∧ FrameEnd U o U' L ({ frames := 0, cells := 0, slots := 0, locals := 0 } : Room).cells ({ frames := 0, cells := 0, slots := 0, locals := 0 } : Room).slots) := by
  refine MetFree.of_bodySF (plainFor_of_name own_pn_com_example_admit1_admit1_server_CommandTakesPinLaw) hisR ?_
  intro p e s m args below meth c s₁ Bd hml0 hP hK
  obtain ⟨rfl, hZ, hh⟩ := hP
  have hx := Bd.exec
  have hby := Bd.bytes
  have hml : c.maxLocals = 1 := hml0
  have hown : s.vm.findClass "com/example/admit1/admit1/server/CommandTakesPinLaw" = some m.cls := findClass_of_methodNamed Bd.named
  have hnm := (name_of_methodNamed Bd.named Bd.method).1
  have X0 : Stand p l e ({ frames := 0, cells := 0, slots := 0, locals := 0 } : Room) s m #[(.int (2 : Int32))] below meth c s₁ [] 0 0 := Stand.of_body Bd
  have e0 : s₁.heap = h0 := by rw [← hh, Bd.state]; rfl
  have N0 := Fr.nil n0
  have Z0 : n0 ≤ h0.size := by rw [← O0.1]; exact O0.2.1
  show own_Go p e below (s₁.setTop (entryFrame m #[(.int (2 : Int32))] 1)) (fun t o => ∃ v L, o = .returned v ∧ Q_rm_pick2 Z a_QUIT h0 n0 v t.heap L ∧ FrameEnd s o t L ({ frames := 0, cells := 0, slots := 0, locals := 0 } : Room).cells ({ frames := 0, cells := 0, slots := 0, locals := 0 } : Room).slots)
  rw [ef_rm_pick2 m a_QUIT]
  refine own_by (fun _ k => XS.iloadN X0.here hx rfl (hb hby d_rm_pick2_0) rfl k) ?_
  show own_Go p e below (s₁.setTop (mkF m 1 #[.val (.int (2 : Int32))] [(.int (2 : Int32))])) _
  refine own_by (fun _ k => XS.ifYes X0.here hx rfl (pc0 := 1) (pc' := 8) rfl (hb hby d_rm_pick2_1) rfl ((if0 _ _).trans (feq (by decide : ¬ ((2 : Int32) = (0 : Int32)))).2) (by decide) (by decide) k) ?_
  show own_Go p e below (s₁.setTop (mkF m 8 #[.val (.int (2 : Int32))] [])) _
  refine own_by (fun _ k => XS.iloadN X0.here hx rfl (hb hby d_rm_pick2_8) rfl k) ?_
  show own_Go p e below (s₁.setTop (mkF m 9 #[.val (.int (2 : Int32))] [(.int (2 : Int32))])) _
  refine own_by (fun _ k => XS.iconst X0.here hx rfl (hb hby d_rm_pick2_9) k) ?_
  show own_Go p e below (s₁.setTop (mkF m 10 #[.val (.int (2 : Int32))] [(.int (1 : Int32)), (.int (2 : Int32))])) _
  refine own_by (fun _ k => XS.icmpYes X0.here hx rfl (pc0 := 10) (pc' := 17) rfl (hb hby d_rm_pick2_10) rfl (feq (by decide : ¬ ((2 : Int32) = (1 : Int32)))).2 (by decide) (by decide) k) ?_
  show own_Go p e below (s₁.setTop (mkF m 17 #[.val (.int (2 : Int32))] [])) _
  refine own_by (fun _ k => XS.iloadN X0.here hx rfl (hb hby d_rm_pick2_17) rfl k) ?_
  show own_Go p e below (s₁.setTop (mkF m 18 #[.val (.int (2 : Int32))] [(.int (2 : Int32))])) _
  refine own_by (fun _ k => XS.iconst X0.here hx rfl (hb hby d_rm_pick2_18) k) ?_
  show own_Go p e below (s₁.setTop (mkF m 19 #[.val (.int (2 : Int32))] [(.int (2 : Int32)), (.int (2 : Int32))])) _
  refine own_by (fun _ k => XS.icmpNo X0.here hx rfl (hb hby d_rm_pick2_19) rfl (teq (by decide : (2 : Int32) = (2 : Int32))).2 k) ?_
  show own_Go p e below (s₁.setTop (mkF m 22 #[.val (.int (2 : Int32))] [])) _
  obtain ⟨T1, X1, e1, st1⟩ := getS2 X0 hx hZ hown (host := "") (Or.inl (hw _ (List.mem_of_getElem? (i := 32) rfl))) Via.refl e0 (S_QUIT.ext O0.2) (g := (mkF m 22 #[.val (.int (2 : Int32))] [])) rfl (hb hby d_rm_pick2_22)
  refine own_by st1 ?_
  show own_Go p e below (T1.setTop (mkF m 25 #[.val (.int (2 : Int32))] [(.ref a_QUIT)])) _
  obtain ⟨fs, hr, hrun, hended, hW, hsame⟩ := X1.leave (v := some (.ref a_QUIT)) (fun h => by rw [Bd.returns] at h; cases h)
  refine ⟨_, _, retOut X1 hx Bd.returns (own_narrow_ref (by decide) rfl) (Or.inr (Or.inr (Or.inr (Or.inr ⟨rfl, by decide, rfl⟩)))) (hb hby d_rm_pick2_25) hr, hrun, hended, _, _, rfl, ?_, ⟨_, rfl⟩, hW, hsame.mono (by decide) (by decide)⟩
  show Q_rm_pick2 Z a_QUIT h0 n0 _ T1.heap _
  rw [e1]
  exact ⟨rfl, N0, rfl⟩
theorem d_rm_exp2_0 : decode method_4_code 0 = .ok (.iload_n 0, 1) := by decide +kernel
theorem d_rm_exp2_1 : decode method_4_code 1 = .ok (.ifCond .ne 18, 3) := by decide +kernel
theorem d_rm_exp2_19 : decode method_4_code 19 = .ok (.iload_n 0, 1) := by decide +kernel
theorem d_rm_exp2_20 : decode method_4_code 20 = .ok (.iconst 1, 1) := by decide +kernel
theorem d_rm_exp2_21 : decode method_4_code 21 = .ok (.if_icmp .ne 14, 3) := by decide +kernel
theorem d_rm_exp2_35 : decode method_4_code 35 = .ok (.iload_n 0, 1) := by decide +kernel
theorem d_rm_exp2_36 : decode method_4_code 36 = .ok (.iconst 2, 1) := by decide +kernel
theorem d_rm_exp2_37 : decode method_4_code 37 = .ok (.if_icmp .ne 13, 3) := by decide +kernel
theorem d_rm_exp2_40 : decode method_4_code 40 = .ok (.iload_n 1, 1) := by decide +kernel
theorem d_rm_exp2_41 : decode method_4_code 41 = .ok (.ifCond .ne 7, 3) := by decide +kernel
theorem d_rm_exp2_44 : decode method_4_code 44 = .ok (.iconst 1, 1) := by decide +kernel
theorem d_rm_exp2_45 : decode method_4_code 45 = .ok (.goto 4, 3) := by decide +kernel
theorem d_rm_exp2_48 : decode method_4_code 48 = .ok (.iconst 0, 1) := by decide +kernel
theorem d_rm_exp2_49 : decode method_4_code 49 = .ok (.ireturn, 1) := by decide +kernel
def Q_rm_exp2 (Z : State) (n1 : Int32) (h0 : Heap) (n0 : Nat) (v : Option Value) (h : Heap) (L : List Loc) : Prop := v = some (.int (own_takes n1 (0 : Int32) (0 : Int32))) ∧ Fr n0 L ∧ h = h0
theorem ef_rm_exp2 (m : MethodId) (n1 : Int32) : entryFrame m #[(.int (2 : Int32)), (.int n1)] 2 = mkF m 0 #[.val (.int (2 : Int32)), .val (.int n1)] [] := by first | (simp [entryFrame, mkF, argsToLocals, Value.category]; done) | rfl
set_option maxRecDepth 65536 in
set_option maxHeartbeats 40000000 in
theorem rm_exp2 (l : Launch) (Z : State) (a0 : Array Value) (hw : ∀ d ∈ tables_1, d.before a0 Z = true) (ws : List Jvm.Cond) (n1 : Int32) (h0 : Heap) (n0 : Nat) (O0 : Old Z n0 h0) :
    MetFree l (⟨"com/example/admit1/admit1/server/CommandTakesPinLaw", "expected", "(II)Z"⟩ : MethodName) (head1 (Jvm.Cond.code (⟨"com/example/admit1/admit1/server/CommandTakesPinLaw", "expected", "(II)Z"⟩ : MethodName) method_4_code 2 (some .boolean) :: ws) ({ frames := 0, cells := 0, slots := 0, locals := 0 } : Room)) (fun a U => a = #[(.int (2 : Int32)), (.int n1)] ∧ Z.Warmed39 U.vm ∧ U.heap = h0) (fun _ _ _ _ _ => True) (fun _ U o U' => ∃ v L, o = .returned v ∧ Q_rm_exp2 Z n1 h0 n0 v U'.heap L ∧ FrameEnd U o U' L ({ frames := 0, cells := 0, slots := 0, locals := 0 } : Room).cells ({ frames := 0, cells := 0, slots := 0, locals := 0 } : Room).slots) := by
  refine MetFree.of_bodySF (plainFor_of_name own_pn_com_example_admit1_admit1_server_CommandTakesPinLaw) hisR ?_
  intro p e s m args below meth c s₁ Bd hml0 hP hK
  obtain ⟨rfl, hZ, hh⟩ := hP
  have hx := Bd.exec
  have hby := Bd.bytes
  have hml : c.maxLocals = 2 := hml0
  have hown : s.vm.findClass "com/example/admit1/admit1/server/CommandTakesPinLaw" = some m.cls := findClass_of_methodNamed Bd.named
  have hnm := (name_of_methodNamed Bd.named Bd.method).1
  have X0 : Stand p l e ({ frames := 0, cells := 0, slots := 0, locals := 0 } : Room) s m #[(.int (2 : Int32)), (.int n1)] below meth c s₁ [] 0 0 := Stand.of_body Bd
  have e0 : s₁.heap = h0 := by rw [← hh, Bd.state]; rfl
  have N0 := Fr.nil n0
  have Z0 : n0 ≤ h0.size := by rw [← O0.1]; exact O0.2.1
  show own_Go p e below (s₁.setTop (entryFrame m #[(.int (2 : Int32)), (.int n1)] 2)) (fun t o => ∃ v L, o = .returned v ∧ Q_rm_exp2 Z n1 h0 n0 v t.heap L ∧ FrameEnd s o t L ({ frames := 0, cells := 0, slots := 0, locals := 0 } : Room).cells ({ frames := 0, cells := 0, slots := 0, locals := 0 } : Room).slots)
  rw [ef_rm_exp2 m n1]
  refine own_by (fun _ k => XS.iloadN X0.here hx rfl (hb hby d_rm_exp2_0) rfl k) ?_
  show own_Go p e below (s₁.setTop (mkF m 1 #[.val (.int (2 : Int32)), .val (.int n1)] [(.int (2 : Int32))])) _
  refine own_by (fun _ k => XS.ifYes X0.here hx rfl (pc0 := 1) (pc' := 19) rfl (hb hby d_rm_exp2_1) rfl ((if0 _ _).trans (feq (by decide : ¬ ((2 : Int32) = (0 : Int32)))).2) (by decide) (by decide) k) ?_
  show own_Go p e below (s₁.setTop (mkF m 19 #[.val (.int (2 : Int32)), .val (.int n1)] [])) _
  refine own_by (fun _ k => XS.iloadN X0.here hx rfl (hb hby d_rm_exp2_19) rfl k) ?_
  show own_Go p e below (s₁.setTop (mkF m 20 #[.val (.int (2 : Int32)), .val (.int n1)] [(.int (2 : Int32))])) _
  refine own_by (fun _ k => XS.iconst X0.here hx rfl (hb hby d_rm_exp2_20) k) ?_
  show own_Go p e below (s₁.setTop (mkF m 21 #[.val (.int (2 : Int32)), .val (.int n1)] [(.int (1 : Int32)), (.int (2 : Int32))])) _
  refine own_by (fun _ k => XS.icmpYes X0.here hx rfl (pc0 := 21) (pc' := 35) rfl (hb hby d_rm_exp2_21) rfl (feq (by decide : ¬ ((2 : Int32) = (1 : Int32)))).2 (by decide) (by decide) k) ?_
  show own_Go p e below (s₁.setTop (mkF m 35 #[.val (.int (2 : Int32)), .val (.int n1)] [])) _
  refine own_by (fun _ k => XS.iloadN X0.here hx rfl (hb hby d_rm_exp2_35) rfl k) ?_
  show own_Go p e below (s₁.setTop (mkF m 36 #[.val (.int (2 : Int32)), .val (.int n1)] [(.int (2 : Int32))])) _
  refine own_by (fun _ k => XS.iconst X0.here hx rfl (hb hby d_rm_exp2_36) k) ?_
  show own_Go p e below (s₁.setTop (mkF m 37 #[.val (.int (2 : Int32)), .val (.int n1)] [(.int (2 : Int32)), (.int (2 : Int32))])) _
  refine own_by (fun _ k => XS.icmpNo X0.here hx rfl (hb hby d_rm_exp2_37) rfl (teq (by decide : (2 : Int32) = (2 : Int32))).2 k) ?_
  show own_Go p e below (s₁.setTop (mkF m 40 #[.val (.int (2 : Int32)), .val (.int n1)] [])) _
  refine own_by (fun _ k => XS.iloadN X0.here hx rfl (hb hby d_rm_exp2_40) rfl k) ?_
  show own_Go p e below (s₁.setTop (mkF m 41 #[.val (.int (2 : Int32)), .val (.int n1)] [(.int n1)])) _
  by_cases c1 : n1 = (0 : Int32)
  · skip
    refine own_by (fun _ k => XS.ifNo X0.here hx rfl (hb hby d_rm_exp2_41) rfl ((if0 _ _).trans (teq c1).2) k) ?_
    show own_Go p e below (s₁.setTop (mkF m 44 #[.val (.int (2 : Int32)), .val (.int n1)] [])) _
    refine own_by (fun _ k => XS.iconst X0.here hx rfl (hb hby d_rm_exp2_44) k) ?_
    show own_Go p e below (s₁.setTop (mkF m 45 #[.val (.int (2 : Int32)), .val (.int n1)] [(.int (1 : Int32))])) _
    refine own_by (fun _ k => XS.goto X0.here hx rfl (pc0 := 45) (pc' := 49) rfl (hb hby d_rm_exp2_45) (by decide) (by decide) k) ?_
    show own_Go p e below (s₁.setTop (mkF m 49 #[.val (.int (2 : Int32)), .val (.int n1)] [(.int (1 : Int32))])) _
    obtain ⟨fs, hr, hrun, hended, hW, hsame⟩ := X0.leave (v := some (.int (1 : Int32))) (fun h => by rw [Bd.returns] at h; cases h)
    refine ⟨_, _, retN X0 hx (t := .boolean) Bd.returns (by simp) (hb hby d_rm_exp2_49) hr, hrun, hended, _, _, rfl, ?_, ⟨_, rfl⟩, hW, hsame.mono (by decide) (by decide)⟩
    show Q_rm_exp2 Z n1 h0 n0 _ s₁.heap _
    rw [e0]
    exact ⟨(by first | (congr 2; unfold own_takes; split <;> (try split) <;> simp_all [Int32.lt_iff_toInt_lt, ← Int32.toInt_inj] <;> omega)), N0, rfl⟩
  · skip
    refine own_by (fun _ k => XS.ifYes X0.here hx rfl (pc0 := 41) (pc' := 48) rfl (hb hby d_rm_exp2_41) rfl ((if0 _ _).trans (feq c1).2) (by decide) (by decide) k) ?_
    show own_Go p e below (s₁.setTop (mkF m 48 #[.val (.int (2 : Int32)), .val (.int n1)] [])) _
    refine own_by (fun _ k => XS.iconst X0.here hx rfl (hb hby d_rm_exp2_48) k) ?_
    show own_Go p e below (s₁.setTop (mkF m 49 #[.val (.int (2 : Int32)), .val (.int n1)] [(.int (0 : Int32))])) _
    obtain ⟨fs, hr, hrun, hended, hW, hsame⟩ := X0.leave (v := some (.int (0 : Int32))) (fun h => by rw [Bd.returns] at h; cases h)
    refine ⟨_, _, retN X0 hx (t := .boolean) Bd.returns (by simp) (hb hby d_rm_exp2_49) hr, hrun, hended, _, _, rfl, ?_, ⟨_, rfl⟩, hW, hsame.mono (by decide) (by decide)⟩
    show Q_rm_exp2 Z n1 h0 n0 _ s₁.heap _
    rw [e0]
    exact ⟨(by first | (congr 2; unfold own_takes; split <;> (try split) <;> simp_all [Int32.lt_iff_toInt_lt, ← Int32.toInt_inj] <;> omega)), N0, rfl⟩
theorem d_rm_pick3_0 : decode method_3_code 0 = .ok (.iload_n 0, 1) := by decide +kernel
theorem d_rm_pick3_1 : decode method_3_code 1 = .ok (.ifCond .ne 7, 3) := by decide +kernel
theorem d_rm_pick3_8 : decode method_3_code 8 = .ok (.iload_n 0, 1) := by decide +kernel
theorem d_rm_pick3_9 : decode method_3_code 9 = .ok (.iconst 1, 1) := by decide +kernel
theorem d_rm_pick3_10 : decode method_3_code 10 = .ok (.if_icmp .ne 7, 3) := by decide +kernel
theorem d_rm_pick3_17 : decode method_3_code 17 = .ok (.iload_n 0, 1) := by decide +kernel
theorem d_rm_pick3_18 : decode method_3_code 18 = .ok (.iconst 2, 1) := by decide +kernel
theorem d_rm_pick3_19 : decode method_3_code 19 = .ok (.if_icmp .ne 7, 3) := by decide +kernel
theorem d_rm_pick3_26 : decode method_3_code 26 = .ok (.iload_n 0, 1) := by decide +kernel
theorem d_rm_pick3_27 : decode method_3_code 27 = .ok (.iconst 3, 1) := by decide +kernel
theorem d_rm_pick3_28 : decode method_3_code 28 = .ok (.if_icmp .ne 7, 3) := by decide +kernel
theorem d_rm_pick3_31 : decode method_3_code 31 = .ok (.getstatic 34, 3) := by decide +kernel
theorem d_rm_pick3_34 : decode method_3_code 34 = .ok (.areturn, 1) := by decide +kernel
def Q_rm_pick3 (Z : State) (a_REQUEST : Addr) (h0 : Heap) (n0 : Nat) (v : Option Value) (h : Heap) (L : List Loc) : Prop := v = some (.ref a_REQUEST) ∧ Fr n0 L ∧ h = h0
theorem ef_rm_pick3 (m : MethodId) (a_REQUEST : Addr) : entryFrame m #[(.int (3 : Int32))] 1 = mkF m 0 #[.val (.int (3 : Int32))] [] := by first | (simp [entryFrame, mkF, argsToLocals, Value.category]; done) | rfl
set_option maxRecDepth 65536 in
set_option maxHeartbeats 40000000 in
theorem rm_pick3 (l : Launch) (Z : State) (a0 : Array Value) (hw : ∀ d ∈ tables_1, d.before a0 Z = true) (ws : List Jvm.Cond) (a_REQUEST : Addr) (h0 : Heap) (n0 : Nat) (O0 : Old Z n0 h0) (S_REQUEST : Sta Z Z.heap "com/example/admit1/admit1/server/Command" "REQUEST" "Lcom/example/admit1/admit1/server/Command;" (.ref a_REQUEST)) :
    MetFree l (⟨"com/example/admit1/admit1/server/CommandTakesPinLaw", "pick", "(I)Lcom/example/admit1/admit1/server/Command;"⟩ : MethodName) (head1 (Jvm.Cond.code (⟨"com/example/admit1/admit1/server/CommandTakesPinLaw", "pick", "(I)Lcom/example/admit1/admit1/server/Command;"⟩ : MethodName) method_3_code 1 (some (.object "com/example/admit1/admit1/server/Command")) :: ws) ({ frames := 0, cells := 0, slots := 0, locals := 0 } : Room)) (fun a U => a = #[(.int (3 : Int32))] ∧ Z.Warmed39 U.vm ∧ U.heap = h0) (fun _ _ _ _ _ => True) (fun _ U o U' => ∃ v L, o = .returned v ∧ Q_rm_pick3 Z a_REQUEST h0 n0 v U'.heap L ∧ FrameEnd U o U' L ({ frames := 0, cells := 0, slots := 0, locals := 0 } : Room).cells ({ frames := 0, cells := 0, slots := 0, locals := 0 } : Room).slots) := by
  refine MetFree.of_bodySF (plainFor_of_name own_pn_com_example_admit1_admit1_server_CommandTakesPinLaw) hisR ?_
  intro p e s m args below meth c s₁ Bd hml0 hP hK
  obtain ⟨rfl, hZ, hh⟩ := hP
  have hx := Bd.exec
  have hby := Bd.bytes
  have hml : c.maxLocals = 1 := hml0
  have hown : s.vm.findClass "com/example/admit1/admit1/server/CommandTakesPinLaw" = some m.cls := findClass_of_methodNamed Bd.named
  have hnm := (name_of_methodNamed Bd.named Bd.method).1
  have X0 : Stand p l e ({ frames := 0, cells := 0, slots := 0, locals := 0 } : Room) s m #[(.int (3 : Int32))] below meth c s₁ [] 0 0 := Stand.of_body Bd
  have e0 : s₁.heap = h0 := by rw [← hh, Bd.state]; rfl
  have N0 := Fr.nil n0
  have Z0 : n0 ≤ h0.size := by rw [← O0.1]; exact O0.2.1
  show own_Go p e below (s₁.setTop (entryFrame m #[(.int (3 : Int32))] 1)) (fun t o => ∃ v L, o = .returned v ∧ Q_rm_pick3 Z a_REQUEST h0 n0 v t.heap L ∧ FrameEnd s o t L ({ frames := 0, cells := 0, slots := 0, locals := 0 } : Room).cells ({ frames := 0, cells := 0, slots := 0, locals := 0 } : Room).slots)
  rw [ef_rm_pick3 m a_REQUEST]
  refine own_by (fun _ k => XS.iloadN X0.here hx rfl (hb hby d_rm_pick3_0) rfl k) ?_
  show own_Go p e below (s₁.setTop (mkF m 1 #[.val (.int (3 : Int32))] [(.int (3 : Int32))])) _
  refine own_by (fun _ k => XS.ifYes X0.here hx rfl (pc0 := 1) (pc' := 8) rfl (hb hby d_rm_pick3_1) rfl ((if0 _ _).trans (feq (by decide : ¬ ((3 : Int32) = (0 : Int32)))).2) (by decide) (by decide) k) ?_
  show own_Go p e below (s₁.setTop (mkF m 8 #[.val (.int (3 : Int32))] [])) _
  refine own_by (fun _ k => XS.iloadN X0.here hx rfl (hb hby d_rm_pick3_8) rfl k) ?_
  show own_Go p e below (s₁.setTop (mkF m 9 #[.val (.int (3 : Int32))] [(.int (3 : Int32))])) _
  refine own_by (fun _ k => XS.iconst X0.here hx rfl (hb hby d_rm_pick3_9) k) ?_
  show own_Go p e below (s₁.setTop (mkF m 10 #[.val (.int (3 : Int32))] [(.int (1 : Int32)), (.int (3 : Int32))])) _
  refine own_by (fun _ k => XS.icmpYes X0.here hx rfl (pc0 := 10) (pc' := 17) rfl (hb hby d_rm_pick3_10) rfl (feq (by decide : ¬ ((3 : Int32) = (1 : Int32)))).2 (by decide) (by decide) k) ?_
  show own_Go p e below (s₁.setTop (mkF m 17 #[.val (.int (3 : Int32))] [])) _
  refine own_by (fun _ k => XS.iloadN X0.here hx rfl (hb hby d_rm_pick3_17) rfl k) ?_
  show own_Go p e below (s₁.setTop (mkF m 18 #[.val (.int (3 : Int32))] [(.int (3 : Int32))])) _
  refine own_by (fun _ k => XS.iconst X0.here hx rfl (hb hby d_rm_pick3_18) k) ?_
  show own_Go p e below (s₁.setTop (mkF m 19 #[.val (.int (3 : Int32))] [(.int (2 : Int32)), (.int (3 : Int32))])) _
  refine own_by (fun _ k => XS.icmpYes X0.here hx rfl (pc0 := 19) (pc' := 26) rfl (hb hby d_rm_pick3_19) rfl (feq (by decide : ¬ ((3 : Int32) = (2 : Int32)))).2 (by decide) (by decide) k) ?_
  show own_Go p e below (s₁.setTop (mkF m 26 #[.val (.int (3 : Int32))] [])) _
  refine own_by (fun _ k => XS.iloadN X0.here hx rfl (hb hby d_rm_pick3_26) rfl k) ?_
  show own_Go p e below (s₁.setTop (mkF m 27 #[.val (.int (3 : Int32))] [(.int (3 : Int32))])) _
  refine own_by (fun _ k => XS.iconst X0.here hx rfl (hb hby d_rm_pick3_27) k) ?_
  show own_Go p e below (s₁.setTop (mkF m 28 #[.val (.int (3 : Int32))] [(.int (3 : Int32)), (.int (3 : Int32))])) _
  refine own_by (fun _ k => XS.icmpNo X0.here hx rfl (hb hby d_rm_pick3_28) rfl (teq (by decide : (3 : Int32) = (3 : Int32))).2 k) ?_
  show own_Go p e below (s₁.setTop (mkF m 31 #[.val (.int (3 : Int32))] [])) _
  obtain ⟨T1, X1, e1, st1⟩ := getS2 X0 hx hZ hown (host := "") (Or.inl (hw _ (List.mem_of_getElem? (i := 20) rfl))) Via.refl e0 (S_REQUEST.ext O0.2) (g := (mkF m 31 #[.val (.int (3 : Int32))] [])) rfl (hb hby d_rm_pick3_31)
  refine own_by st1 ?_
  show own_Go p e below (T1.setTop (mkF m 34 #[.val (.int (3 : Int32))] [(.ref a_REQUEST)])) _
  obtain ⟨fs, hr, hrun, hended, hW, hsame⟩ := X1.leave (v := some (.ref a_REQUEST)) (fun h => by rw [Bd.returns] at h; cases h)
  refine ⟨_, _, retOut X1 hx Bd.returns (own_narrow_ref (by decide) rfl) (Or.inr (Or.inr (Or.inr (Or.inr ⟨rfl, by decide, rfl⟩)))) (hb hby d_rm_pick3_34) hr, hrun, hended, _, _, rfl, ?_, ⟨_, rfl⟩, hW, hsame.mono (by decide) (by decide)⟩
  show Q_rm_pick3 Z a_REQUEST h0 n0 _ T1.heap _
  rw [e1]
  exact ⟨rfl, N0, rfl⟩
theorem d_rm_exp3_0 : decode method_4_code 0 = .ok (.iload_n 0, 1) := by decide +kernel
theorem d_rm_exp3_1 : decode method_4_code 1 = .ok (.ifCond .ne 18, 3) := by decide +kernel
theorem d_rm_exp3_19 : decode method_4_code 19 = .ok (.iload_n 0, 1) := by decide +kernel
theorem d_rm_exp3_20 : decode method_4_code 20 = .ok (.iconst 1, 1) := by decide +kernel
theorem d_rm_exp3_21 : decode method_4_code 21 = .ok (.if_icmp .ne 14, 3) := by decide +kernel
theorem d_rm_exp3_35 : decode method_4_code 35 = .ok (.iload_n 0, 1) := by decide +kernel
theorem d_rm_exp3_36 : decode method_4_code 36 = .ok (.iconst 2, 1) := by decide +kernel
theorem d_rm_exp3_37 : decode method_4_code 37 = .ok (.if_icmp .ne 13, 3) := by decide +kernel
theorem d_rm_exp3_50 : decode method_4_code 50 = .ok (.iload_n 0, 1) := by decide +kernel
theorem d_rm_exp3_51 : decode method_4_code 51 = .ok (.iconst 3, 1) := by decide +kernel
theorem d_rm_exp3_52 : decode method_4_code 52 = .ok (.if_icmp .ne 29, 3) := by decide +kernel
theorem d_rm_exp3_55 : decode method_4_code 55 = .ok (.iload_n 1, 1) := by decide +kernel
theorem d_rm_exp3_56 : decode method_4_code 56 = .ok (.iconst 1, 1) := by decide +kernel
theorem d_rm_exp3_57 : decode method_4_code 57 = .ok (.if_icmp .eq 18, 3) := by decide +kernel
theorem d_rm_exp3_60 : decode method_4_code 60 = .ok (.iload_n 1, 1) := by decide +kernel
theorem d_rm_exp3_61 : decode method_4_code 61 = .ok (.iconst 2, 1) := by decide +kernel
theorem d_rm_exp3_62 : decode method_4_code 62 = .ok (.if_icmp .eq 13, 3) := by decide +kernel
theorem d_rm_exp3_65 : decode method_4_code 65 = .ok (.iload_n 1, 1) := by decide +kernel
theorem d_rm_exp3_66 : decode method_4_code 66 = .ok (.iconst 3, 1) := by decide +kernel
theorem d_rm_exp3_67 : decode method_4_code 67 = .ok (.if_icmp .eq 8, 3) := by decide +kernel
theorem d_rm_exp3_70 : decode method_4_code 70 = .ok (.iload_n 1, 1) := by decide +kernel
theorem d_rm_exp3_71 : decode method_4_code 71 = .ok (.iconst 4, 1) := by decide +kernel
theorem d_rm_exp3_72 : decode method_4_code 72 = .ok (.if_icmp .ne 7, 3) := by decide +kernel
theorem d_rm_exp3_75 : decode method_4_code 75 = .ok (.iconst 1, 1) := by decide +kernel
theorem d_rm_exp3_76 : decode method_4_code 76 = .ok (.goto 4, 3) := by decide +kernel
theorem d_rm_exp3_79 : decode method_4_code 79 = .ok (.iconst 0, 1) := by decide +kernel
theorem d_rm_exp3_80 : decode method_4_code 80 = .ok (.ireturn, 1) := by decide +kernel
def Q_rm_exp3 (Z : State) (n1 : Int32) (h0 : Heap) (n0 : Nat) (v : Option Value) (h : Heap) (L : List Loc) : Prop := v = some (.int (own_takes n1 (1 : Int32) (4 : Int32))) ∧ Fr n0 L ∧ h = h0
theorem ef_rm_exp3 (m : MethodId) (n1 : Int32) : entryFrame m #[(.int (3 : Int32)), (.int n1)] 2 = mkF m 0 #[.val (.int (3 : Int32)), .val (.int n1)] [] := by first | (simp [entryFrame, mkF, argsToLocals, Value.category]; done) | rfl
set_option maxRecDepth 65536 in
set_option maxHeartbeats 40000000 in
theorem rm_exp3 (l : Launch) (Z : State) (a0 : Array Value) (hw : ∀ d ∈ tables_1, d.before a0 Z = true) (ws : List Jvm.Cond) (n1 : Int32) (h0 : Heap) (n0 : Nat) (O0 : Old Z n0 h0) :
    MetFree l (⟨"com/example/admit1/admit1/server/CommandTakesPinLaw", "expected", "(II)Z"⟩ : MethodName) (head1 (Jvm.Cond.code (⟨"com/example/admit1/admit1/server/CommandTakesPinLaw", "expected", "(II)Z"⟩ : MethodName) method_4_code 2 (some .boolean) :: ws) ({ frames := 0, cells := 0, slots := 0, locals := 0 } : Room)) (fun a U => a = #[(.int (3 : Int32)), (.int n1)] ∧ Z.Warmed39 U.vm ∧ U.heap = h0) (fun _ _ _ _ _ => True) (fun _ U o U' => ∃ v L, o = .returned v ∧ Q_rm_exp3 Z n1 h0 n0 v U'.heap L ∧ FrameEnd U o U' L ({ frames := 0, cells := 0, slots := 0, locals := 0 } : Room).cells ({ frames := 0, cells := 0, slots := 0, locals := 0 } : Room).slots) := by
  refine MetFree.of_bodySF (plainFor_of_name own_pn_com_example_admit1_admit1_server_CommandTakesPinLaw) hisR ?_
  intro p e s m args below meth c s₁ Bd hml0 hP hK
  obtain ⟨rfl, hZ, hh⟩ := hP
  have hx := Bd.exec
  have hby := Bd.bytes
  have hml : c.maxLocals = 2 := hml0
  have hown : s.vm.findClass "com/example/admit1/admit1/server/CommandTakesPinLaw" = some m.cls := findClass_of_methodNamed Bd.named
  have hnm := (name_of_methodNamed Bd.named Bd.method).1
  have X0 : Stand p l e ({ frames := 0, cells := 0, slots := 0, locals := 0 } : Room) s m #[(.int (3 : Int32)), (.int n1)] below meth c s₁ [] 0 0 := Stand.of_body Bd
  have e0 : s₁.heap = h0 := by rw [← hh, Bd.state]; rfl
  have N0 := Fr.nil n0
  have Z0 : n0 ≤ h0.size := by rw [← O0.1]; exact O0.2.1
  show own_Go p e below (s₁.setTop (entryFrame m #[(.int (3 : Int32)), (.int n1)] 2)) (fun t o => ∃ v L, o = .returned v ∧ Q_rm_exp3 Z n1 h0 n0 v t.heap L ∧ FrameEnd s o t L ({ frames := 0, cells := 0, slots := 0, locals := 0 } : Room).cells ({ frames := 0, cells := 0, slots := 0, locals := 0 } : Room).slots)
  rw [ef_rm_exp3 m n1]
  refine own_by (fun _ k => XS.iloadN X0.here hx rfl (hb hby d_rm_exp3_0) rfl k) ?_
  show own_Go p e below (s₁.setTop (mkF m 1 #[.val (.int (3 : Int32)), .val (.int n1)] [(.int (3 : Int32))])) _
  refine own_by (fun _ k => XS.ifYes X0.here hx rfl (pc0 := 1) (pc' := 19) rfl (hb hby d_rm_exp3_1) rfl ((if0 _ _).trans (feq (by decide : ¬ ((3 : Int32) = (0 : Int32)))).2) (by decide) (by decide) k) ?_
  show own_Go p e below (s₁.setTop (mkF m 19 #[.val (.int (3 : Int32)), .val (.int n1)] [])) _
  refine own_by (fun _ k => XS.iloadN X0.here hx rfl (hb hby d_rm_exp3_19) rfl k) ?_
  show own_Go p e below (s₁.setTop (mkF m 20 #[.val (.int (3 : Int32)), .val (.int n1)] [(.int (3 : Int32))])) _
  refine own_by (fun _ k => XS.iconst X0.here hx rfl (hb hby d_rm_exp3_20) k) ?_
  show own_Go p e below (s₁.setTop (mkF m 21 #[.val (.int (3 : Int32)), .val (.int n1)] [(.int (1 : Int32)), (.int (3 : Int32))])) _
  refine own_by (fun _ k => XS.icmpYes X0.here hx rfl (pc0 := 21) (pc' := 35) rfl (hb hby d_rm_exp3_21) rfl (feq (by decide : ¬ ((3 : Int32) = (1 : Int32)))).2 (by decide) (by decide) k) ?_
  show own_Go p e below (s₁.setTop (mkF m 35 #[.val (.int (3 : Int32)), .val (.int n1)] [])) _
  refine own_by (fun _ k => XS.iloadN X0.here hx rfl (hb hby d_rm_exp3_35) rfl k) ?_
  show own_Go p e below (s₁.setTop (mkF m 36 #[.val (.int (3 : Int32)), .val (.int n1)] [(.int (3 : Int32))])) _
  refine own_by (fun _ k => XS.iconst X0.here hx rfl (hb hby d_rm_exp3_36) k) ?_
  show own_Go p e below (s₁.setTop (mkF m 37 #[.val (.int (3 : Int32)), .val (.int n1)] [(.int (2 : Int32)), (.int (3 : Int32))])) _
  refine own_by (fun _ k => XS.icmpYes X0.here hx rfl (pc0 := 37) (pc' := 50) rfl (hb hby d_rm_exp3_37) rfl (feq (by decide : ¬ ((3 : Int32) = (2 : Int32)))).2 (by decide) (by decide) k) ?_
  show own_Go p e below (s₁.setTop (mkF m 50 #[.val (.int (3 : Int32)), .val (.int n1)] [])) _
  refine own_by (fun _ k => XS.iloadN X0.here hx rfl (hb hby d_rm_exp3_50) rfl k) ?_
  show own_Go p e below (s₁.setTop (mkF m 51 #[.val (.int (3 : Int32)), .val (.int n1)] [(.int (3 : Int32))])) _
  refine own_by (fun _ k => XS.iconst X0.here hx rfl (hb hby d_rm_exp3_51) k) ?_
  show own_Go p e below (s₁.setTop (mkF m 52 #[.val (.int (3 : Int32)), .val (.int n1)] [(.int (3 : Int32)), (.int (3 : Int32))])) _
  refine own_by (fun _ k => XS.icmpNo X0.here hx rfl (hb hby d_rm_exp3_52) rfl (teq (by decide : (3 : Int32) = (3 : Int32))).2 k) ?_
  show own_Go p e below (s₁.setTop (mkF m 55 #[.val (.int (3 : Int32)), .val (.int n1)] [])) _
  refine own_by (fun _ k => XS.iloadN X0.here hx rfl (hb hby d_rm_exp3_55) rfl k) ?_
  show own_Go p e below (s₁.setTop (mkF m 56 #[.val (.int (3 : Int32)), .val (.int n1)] [(.int n1)])) _
  refine own_by (fun _ k => XS.iconst X0.here hx rfl (hb hby d_rm_exp3_56) k) ?_
  show own_Go p e below (s₁.setTop (mkF m 57 #[.val (.int (3 : Int32)), .val (.int n1)] [(.int (1 : Int32)), (.int n1)])) _
  by_cases c1 : n1 = (1 : Int32)
  · skip
    refine own_by (fun _ k => XS.icmpYes X0.here hx rfl (pc0 := 57) (pc' := 75) rfl (hb hby d_rm_exp3_57) rfl (teq c1).1 (by decide) (by decide) k) ?_
    show own_Go p e below (s₁.setTop (mkF m 75 #[.val (.int (3 : Int32)), .val (.int n1)] [])) _
    refine own_by (fun _ k => XS.iconst X0.here hx rfl (hb hby d_rm_exp3_75) k) ?_
    show own_Go p e below (s₁.setTop (mkF m 76 #[.val (.int (3 : Int32)), .val (.int n1)] [(.int (1 : Int32))])) _
    refine own_by (fun _ k => XS.goto X0.here hx rfl (pc0 := 76) (pc' := 80) rfl (hb hby d_rm_exp3_76) (by decide) (by decide) k) ?_
    show own_Go p e below (s₁.setTop (mkF m 80 #[.val (.int (3 : Int32)), .val (.int n1)] [(.int (1 : Int32))])) _
    obtain ⟨fs, hr, hrun, hended, hW, hsame⟩ := X0.leave (v := some (.int (1 : Int32))) (fun h => by rw [Bd.returns] at h; cases h)
    refine ⟨_, _, retN X0 hx (t := .boolean) Bd.returns (by simp) (hb hby d_rm_exp3_80) hr, hrun, hended, _, _, rfl, ?_, ⟨_, rfl⟩, hW, hsame.mono (by decide) (by decide)⟩
    show Q_rm_exp3 Z n1 h0 n0 _ s₁.heap _
    rw [e0]
    exact ⟨(by first | (congr 2; unfold own_takes; split <;> (try split) <;> simp_all [Int32.lt_iff_toInt_lt, ← Int32.toInt_inj] <;> omega)), N0, rfl⟩
  · skip
    refine own_by (fun _ k => XS.icmpNo X0.here hx rfl (hb hby d_rm_exp3_57) rfl (feq c1).1 k) ?_
    show own_Go p e below (s₁.setTop (mkF m 60 #[.val (.int (3 : Int32)), .val (.int n1)] [])) _
    refine own_by (fun _ k => XS.iloadN X0.here hx rfl (hb hby d_rm_exp3_60) rfl k) ?_
    show own_Go p e below (s₁.setTop (mkF m 61 #[.val (.int (3 : Int32)), .val (.int n1)] [(.int n1)])) _
    refine own_by (fun _ k => XS.iconst X0.here hx rfl (hb hby d_rm_exp3_61) k) ?_
    show own_Go p e below (s₁.setTop (mkF m 62 #[.val (.int (3 : Int32)), .val (.int n1)] [(.int (2 : Int32)), (.int n1)])) _
    by_cases c2 : n1 = (2 : Int32)
    · skip
      refine own_by (fun _ k => XS.icmpYes X0.here hx rfl (pc0 := 62) (pc' := 75) rfl (hb hby d_rm_exp3_62) rfl (teq c2).1 (by decide) (by decide) k) ?_
      show own_Go p e below (s₁.setTop (mkF m 75 #[.val (.int (3 : Int32)), .val (.int n1)] [])) _
      refine own_by (fun _ k => XS.iconst X0.here hx rfl (hb hby d_rm_exp3_75) k) ?_
      show own_Go p e below (s₁.setTop (mkF m 76 #[.val (.int (3 : Int32)), .val (.int n1)] [(.int (1 : Int32))])) _
      refine own_by (fun _ k => XS.goto X0.here hx rfl (pc0 := 76) (pc' := 80) rfl (hb hby d_rm_exp3_76) (by decide) (by decide) k) ?_
      show own_Go p e below (s₁.setTop (mkF m 80 #[.val (.int (3 : Int32)), .val (.int n1)] [(.int (1 : Int32))])) _
      obtain ⟨fs, hr, hrun, hended, hW, hsame⟩ := X0.leave (v := some (.int (1 : Int32))) (fun h => by rw [Bd.returns] at h; cases h)
      refine ⟨_, _, retN X0 hx (t := .boolean) Bd.returns (by simp) (hb hby d_rm_exp3_80) hr, hrun, hended, _, _, rfl, ?_, ⟨_, rfl⟩, hW, hsame.mono (by decide) (by decide)⟩
      show Q_rm_exp3 Z n1 h0 n0 _ s₁.heap _
      rw [e0]
      exact ⟨(by first | (congr 2; unfold own_takes; split <;> (try split) <;> simp_all [Int32.lt_iff_toInt_lt, ← Int32.toInt_inj] <;> omega)), N0, rfl⟩
    · skip
      refine own_by (fun _ k => XS.icmpNo X0.here hx rfl (hb hby d_rm_exp3_62) rfl (feq c2).1 k) ?_
      show own_Go p e below (s₁.setTop (mkF m 65 #[.val (.int (3 : Int32)), .val (.int n1)] [])) _
      refine own_by (fun _ k => XS.iloadN X0.here hx rfl (hb hby d_rm_exp3_65) rfl k) ?_
      show own_Go p e below (s₁.setTop (mkF m 66 #[.val (.int (3 : Int32)), .val (.int n1)] [(.int n1)])) _
      refine own_by (fun _ k => XS.iconst X0.here hx rfl (hb hby d_rm_exp3_66) k) ?_
      show own_Go p e below (s₁.setTop (mkF m 67 #[.val (.int (3 : Int32)), .val (.int n1)] [(.int (3 : Int32)), (.int n1)])) _
      by_cases c3 : n1 = (3 : Int32)
      · skip
        refine own_by (fun _ k => XS.icmpYes X0.here hx rfl (pc0 := 67) (pc' := 75) rfl (hb hby d_rm_exp3_67) rfl (teq c3).1 (by decide) (by decide) k) ?_
        show own_Go p e below (s₁.setTop (mkF m 75 #[.val (.int (3 : Int32)), .val (.int n1)] [])) _
        refine own_by (fun _ k => XS.iconst X0.here hx rfl (hb hby d_rm_exp3_75) k) ?_
        show own_Go p e below (s₁.setTop (mkF m 76 #[.val (.int (3 : Int32)), .val (.int n1)] [(.int (1 : Int32))])) _
        refine own_by (fun _ k => XS.goto X0.here hx rfl (pc0 := 76) (pc' := 80) rfl (hb hby d_rm_exp3_76) (by decide) (by decide) k) ?_
        show own_Go p e below (s₁.setTop (mkF m 80 #[.val (.int (3 : Int32)), .val (.int n1)] [(.int (1 : Int32))])) _
        obtain ⟨fs, hr, hrun, hended, hW, hsame⟩ := X0.leave (v := some (.int (1 : Int32))) (fun h => by rw [Bd.returns] at h; cases h)
        refine ⟨_, _, retN X0 hx (t := .boolean) Bd.returns (by simp) (hb hby d_rm_exp3_80) hr, hrun, hended, _, _, rfl, ?_, ⟨_, rfl⟩, hW, hsame.mono (by decide) (by decide)⟩
        show Q_rm_exp3 Z n1 h0 n0 _ s₁.heap _
        rw [e0]
        exact ⟨(by first | (congr 2; unfold own_takes; split <;> (try split) <;> simp_all [Int32.lt_iff_toInt_lt, ← Int32.toInt_inj] <;> omega)), N0, rfl⟩
      · skip
        refine own_by (fun _ k => XS.icmpNo X0.here hx rfl (hb hby d_rm_exp3_67) rfl (feq c3).1 k) ?_
        show own_Go p e below (s₁.setTop (mkF m 70 #[.val (.int (3 : Int32)), .val (.int n1)] [])) _
        refine own_by (fun _ k => XS.iloadN X0.here hx rfl (hb hby d_rm_exp3_70) rfl k) ?_
        show own_Go p e below (s₁.setTop (mkF m 71 #[.val (.int (3 : Int32)), .val (.int n1)] [(.int n1)])) _
        refine own_by (fun _ k => XS.iconst X0.here hx rfl (hb hby d_rm_exp3_71) k) ?_
        show own_Go p e below (s₁.setTop (mkF m 72 #[.val (.int (3 : Int32)), .val (.int n1)] [(.int (4 : Int32)), (.int n1)])) _
        by_cases c4 : n1 = (4 : Int32)
        · skip
          refine own_by (fun _ k => XS.icmpNo X0.here hx rfl (hb hby d_rm_exp3_72) rfl (teq c4).2 k) ?_
          show own_Go p e below (s₁.setTop (mkF m 75 #[.val (.int (3 : Int32)), .val (.int n1)] [])) _
          refine own_by (fun _ k => XS.iconst X0.here hx rfl (hb hby d_rm_exp3_75) k) ?_
          show own_Go p e below (s₁.setTop (mkF m 76 #[.val (.int (3 : Int32)), .val (.int n1)] [(.int (1 : Int32))])) _
          refine own_by (fun _ k => XS.goto X0.here hx rfl (pc0 := 76) (pc' := 80) rfl (hb hby d_rm_exp3_76) (by decide) (by decide) k) ?_
          show own_Go p e below (s₁.setTop (mkF m 80 #[.val (.int (3 : Int32)), .val (.int n1)] [(.int (1 : Int32))])) _
          obtain ⟨fs, hr, hrun, hended, hW, hsame⟩ := X0.leave (v := some (.int (1 : Int32))) (fun h => by rw [Bd.returns] at h; cases h)
          refine ⟨_, _, retN X0 hx (t := .boolean) Bd.returns (by simp) (hb hby d_rm_exp3_80) hr, hrun, hended, _, _, rfl, ?_, ⟨_, rfl⟩, hW, hsame.mono (by decide) (by decide)⟩
          show Q_rm_exp3 Z n1 h0 n0 _ s₁.heap _
          rw [e0]
          exact ⟨(by first | (congr 2; unfold own_takes; split <;> (try split) <;> simp_all [Int32.lt_iff_toInt_lt, ← Int32.toInt_inj] <;> omega)), N0, rfl⟩
        · skip
          refine own_by (fun _ k => XS.icmpYes X0.here hx rfl (pc0 := 72) (pc' := 79) rfl (hb hby d_rm_exp3_72) rfl (feq c4).2 (by decide) (by decide) k) ?_
          show own_Go p e below (s₁.setTop (mkF m 79 #[.val (.int (3 : Int32)), .val (.int n1)] [])) _
          refine own_by (fun _ k => XS.iconst X0.here hx rfl (hb hby d_rm_exp3_79) k) ?_
          show own_Go p e below (s₁.setTop (mkF m 80 #[.val (.int (3 : Int32)), .val (.int n1)] [(.int (0 : Int32))])) _
          obtain ⟨fs, hr, hrun, hended, hW, hsame⟩ := X0.leave (v := some (.int (0 : Int32))) (fun h => by rw [Bd.returns] at h; cases h)
          refine ⟨_, _, retN X0 hx (t := .boolean) Bd.returns (by simp) (hb hby d_rm_exp3_80) hr, hrun, hended, _, _, rfl, ?_, ⟨_, rfl⟩, hW, hsame.mono (by decide) (by decide)⟩
          show Q_rm_exp3 Z n1 h0 n0 _ s₁.heap _
          rw [e0]
          exact ⟨(by first | (congr 2; unfold own_takes; split <;> (try split) <;> simp_all [Int32.lt_iff_toInt_lt, ← Int32.toInt_inj] <;> omega)), N0, rfl⟩
theorem d_rm_pick4_0 : decode method_3_code 0 = .ok (.iload_n 0, 1) := by decide +kernel
theorem d_rm_pick4_1 : decode method_3_code 1 = .ok (.ifCond .ne 7, 3) := by decide +kernel
theorem d_rm_pick4_8 : decode method_3_code 8 = .ok (.iload_n 0, 1) := by decide +kernel
theorem d_rm_pick4_9 : decode method_3_code 9 = .ok (.iconst 1, 1) := by decide +kernel
theorem d_rm_pick4_10 : decode method_3_code 10 = .ok (.if_icmp .ne 7, 3) := by decide +kernel
theorem d_rm_pick4_17 : decode method_3_code 17 = .ok (.iload_n 0, 1) := by decide +kernel
theorem d_rm_pick4_18 : decode method_3_code 18 = .ok (.iconst 2, 1) := by decide +kernel
theorem d_rm_pick4_19 : decode method_3_code 19 = .ok (.if_icmp .ne 7, 3) := by decide +kernel
theorem d_rm_pick4_26 : decode method_3_code 26 = .ok (.iload_n 0, 1) := by decide +kernel
theorem d_rm_pick4_27 : decode method_3_code 27 = .ok (.iconst 3, 1) := by decide +kernel
theorem d_rm_pick4_28 : decode method_3_code 28 = .ok (.if_icmp .ne 7, 3) := by decide +kernel
theorem d_rm_pick4_35 : decode method_3_code 35 = .ok (.iload_n 0, 1) := by decide +kernel
theorem d_rm_pick4_36 : decode method_3_code 36 = .ok (.iconst 4, 1) := by decide +kernel
theorem d_rm_pick4_37 : decode method_3_code 37 = .ok (.if_icmp .ne 7, 3) := by decide +kernel
theorem d_rm_pick4_40 : decode method_3_code 40 = .ok (.getstatic 37, 3) := by decide +kernel
theorem d_rm_pick4_43 : decode method_3_code 43 = .ok (.areturn, 1) := by decide +kernel
def Q_rm_pick4 (Z : State) (a_CONVERT : Addr) (h0 : Heap) (n0 : Nat) (v : Option Value) (h : Heap) (L : List Loc) : Prop := v = some (.ref a_CONVERT) ∧ Fr n0 L ∧ h = h0
theorem ef_rm_pick4 (m : MethodId) (a_CONVERT : Addr) : entryFrame m #[(.int (4 : Int32))] 1 = mkF m 0 #[.val (.int (4 : Int32))] [] := by first | (simp [entryFrame, mkF, argsToLocals, Value.category]; done) | rfl
set_option maxRecDepth 65536 in
set_option maxHeartbeats 40000000 in
theorem rm_pick4 (l : Launch) (Z : State) (a0 : Array Value) (hw : ∀ d ∈ tables_1, d.before a0 Z = true) (ws : List Jvm.Cond) (a_CONVERT : Addr) (h0 : Heap) (n0 : Nat) (O0 : Old Z n0 h0) (S_CONVERT : Sta Z Z.heap "com/example/admit1/admit1/server/Command" "CONVERT" "Lcom/example/admit1/admit1/server/Command;" (.ref a_CONVERT)) :
    MetFree l (⟨"com/example/admit1/admit1/server/CommandTakesPinLaw", "pick", "(I)Lcom/example/admit1/admit1/server/Command;"⟩ : MethodName) (head1 (Jvm.Cond.code (⟨"com/example/admit1/admit1/server/CommandTakesPinLaw", "pick", "(I)Lcom/example/admit1/admit1/server/Command;"⟩ : MethodName) method_3_code 1 (some (.object "com/example/admit1/admit1/server/Command")) :: ws) ({ frames := 0, cells := 0, slots := 0, locals := 0 } : Room)) (fun a U => a = #[(.int (4 : Int32))] ∧ Z.Warmed39 U.vm ∧ U.heap = h0) (fun _ _ _ _ _ => True) (fun _ U o U' => ∃ v L, o = .returned v ∧ Q_rm_pick4 Z a_CONVERT h0 n0 v U'.heap L ∧ FrameEnd U o U' L ({ frames := 0, cells := 0, slots := 0, locals := 0 } : Room).cells ({ frames := 0, cells := 0, slots := 0, locals := 0 } : Room).slots) := by
  refine MetFree.of_bodySF (plainFor_of_name own_pn_com_example_admit1_admit1_server_CommandTakesPinLaw) hisR ?_
  intro p e s m args below meth c s₁ Bd hml0 hP hK
  obtain ⟨rfl, hZ, hh⟩ := hP
  have hx := Bd.exec
  have hby := Bd.bytes
  have hml : c.maxLocals = 1 := hml0
  have hown : s.vm.findClass "com/example/admit1/admit1/server/CommandTakesPinLaw" = some m.cls := findClass_of_methodNamed Bd.named
  have hnm := (name_of_methodNamed Bd.named Bd.method).1
  have X0 : Stand p l e ({ frames := 0, cells := 0, slots := 0, locals := 0 } : Room) s m #[(.int (4 : Int32))] below meth c s₁ [] 0 0 := Stand.of_body Bd
  have e0 : s₁.heap = h0 := by rw [← hh, Bd.state]; rfl
  have N0 := Fr.nil n0
  have Z0 : n0 ≤ h0.size := by rw [← O0.1]; exact O0.2.1
  show own_Go p e below (s₁.setTop (entryFrame m #[(.int (4 : Int32))] 1)) (fun t o => ∃ v L, o = .returned v ∧ Q_rm_pick4 Z a_CONVERT h0 n0 v t.heap L ∧ FrameEnd s o t L ({ frames := 0, cells := 0, slots := 0, locals := 0 } : Room).cells ({ frames := 0, cells := 0, slots := 0, locals := 0 } : Room).slots)
  rw [ef_rm_pick4 m a_CONVERT]
  refine own_by (fun _ k => XS.iloadN X0.here hx rfl (hb hby d_rm_pick4_0) rfl k) ?_
  show own_Go p e below (s₁.setTop (mkF m 1 #[.val (.int (4 : Int32))] [(.int (4 : Int32))])) _
  refine own_by (fun _ k => XS.ifYes X0.here hx rfl (pc0 := 1) (pc' := 8) rfl (hb hby d_rm_pick4_1) rfl ((if0 _ _).trans (feq (by decide : ¬ ((4 : Int32) = (0 : Int32)))).2) (by decide) (by decide) k) ?_
  show own_Go p e below (s₁.setTop (mkF m 8 #[.val (.int (4 : Int32))] [])) _
  refine own_by (fun _ k => XS.iloadN X0.here hx rfl (hb hby d_rm_pick4_8) rfl k) ?_
  show own_Go p e below (s₁.setTop (mkF m 9 #[.val (.int (4 : Int32))] [(.int (4 : Int32))])) _
  refine own_by (fun _ k => XS.iconst X0.here hx rfl (hb hby d_rm_pick4_9) k) ?_
  show own_Go p e below (s₁.setTop (mkF m 10 #[.val (.int (4 : Int32))] [(.int (1 : Int32)), (.int (4 : Int32))])) _
  refine own_by (fun _ k => XS.icmpYes X0.here hx rfl (pc0 := 10) (pc' := 17) rfl (hb hby d_rm_pick4_10) rfl (feq (by decide : ¬ ((4 : Int32) = (1 : Int32)))).2 (by decide) (by decide) k) ?_
  show own_Go p e below (s₁.setTop (mkF m 17 #[.val (.int (4 : Int32))] [])) _
  refine own_by (fun _ k => XS.iloadN X0.here hx rfl (hb hby d_rm_pick4_17) rfl k) ?_
  show own_Go p e below (s₁.setTop (mkF m 18 #[.val (.int (4 : Int32))] [(.int (4 : Int32))])) _
  refine own_by (fun _ k => XS.iconst X0.here hx rfl (hb hby d_rm_pick4_18) k) ?_
  show own_Go p e below (s₁.setTop (mkF m 19 #[.val (.int (4 : Int32))] [(.int (2 : Int32)), (.int (4 : Int32))])) _
  refine own_by (fun _ k => XS.icmpYes X0.here hx rfl (pc0 := 19) (pc' := 26) rfl (hb hby d_rm_pick4_19) rfl (feq (by decide : ¬ ((4 : Int32) = (2 : Int32)))).2 (by decide) (by decide) k) ?_
  show own_Go p e below (s₁.setTop (mkF m 26 #[.val (.int (4 : Int32))] [])) _
  refine own_by (fun _ k => XS.iloadN X0.here hx rfl (hb hby d_rm_pick4_26) rfl k) ?_
  show own_Go p e below (s₁.setTop (mkF m 27 #[.val (.int (4 : Int32))] [(.int (4 : Int32))])) _
  refine own_by (fun _ k => XS.iconst X0.here hx rfl (hb hby d_rm_pick4_27) k) ?_
  show own_Go p e below (s₁.setTop (mkF m 28 #[.val (.int (4 : Int32))] [(.int (3 : Int32)), (.int (4 : Int32))])) _
  refine own_by (fun _ k => XS.icmpYes X0.here hx rfl (pc0 := 28) (pc' := 35) rfl (hb hby d_rm_pick4_28) rfl (feq (by decide : ¬ ((4 : Int32) = (3 : Int32)))).2 (by decide) (by decide) k) ?_
  show own_Go p e below (s₁.setTop (mkF m 35 #[.val (.int (4 : Int32))] [])) _
  refine own_by (fun _ k => XS.iloadN X0.here hx rfl (hb hby d_rm_pick4_35) rfl k) ?_
  show own_Go p e below (s₁.setTop (mkF m 36 #[.val (.int (4 : Int32))] [(.int (4 : Int32))])) _
  refine own_by (fun _ k => XS.iconst X0.here hx rfl (hb hby d_rm_pick4_36) k) ?_
  show own_Go p e below (s₁.setTop (mkF m 37 #[.val (.int (4 : Int32))] [(.int (4 : Int32)), (.int (4 : Int32))])) _
  refine own_by (fun _ k => XS.icmpNo X0.here hx rfl (hb hby d_rm_pick4_37) rfl (teq (by decide : (4 : Int32) = (4 : Int32))).2 k) ?_
  show own_Go p e below (s₁.setTop (mkF m 40 #[.val (.int (4 : Int32))] [])) _
  obtain ⟨T1, X1, e1, st1⟩ := getS2 X0 hx hZ hown (host := "") (Or.inl (hw _ (List.mem_of_getElem? (i := 38) rfl))) Via.refl e0 (S_CONVERT.ext O0.2) (g := (mkF m 40 #[.val (.int (4 : Int32))] [])) rfl (hb hby d_rm_pick4_40)
  refine own_by st1 ?_
  show own_Go p e below (T1.setTop (mkF m 43 #[.val (.int (4 : Int32))] [(.ref a_CONVERT)])) _
  obtain ⟨fs, hr, hrun, hended, hW, hsame⟩ := X1.leave (v := some (.ref a_CONVERT)) (fun h => by rw [Bd.returns] at h; cases h)
  refine ⟨_, _, retOut X1 hx Bd.returns (own_narrow_ref (by decide) rfl) (Or.inr (Or.inr (Or.inr (Or.inr ⟨rfl, by decide, rfl⟩)))) (hb hby d_rm_pick4_43) hr, hrun, hended, _, _, rfl, ?_, ⟨_, rfl⟩, hW, hsame.mono (by decide) (by decide)⟩
  show Q_rm_pick4 Z a_CONVERT h0 n0 _ T1.heap _
  rw [e1]
  exact ⟨rfl, N0, rfl⟩
theorem d_rm_exp4_0 : decode method_4_code 0 = .ok (.iload_n 0, 1) := by decide +kernel
theorem d_rm_exp4_1 : decode method_4_code 1 = .ok (.ifCond .ne 18, 3) := by decide +kernel
theorem d_rm_exp4_19 : decode method_4_code 19 = .ok (.iload_n 0, 1) := by decide +kernel
theorem d_rm_exp4_20 : decode method_4_code 20 = .ok (.iconst 1, 1) := by decide +kernel
theorem d_rm_exp4_21 : decode method_4_code 21 = .ok (.if_icmp .ne 14, 3) := by decide +kernel
theorem d_rm_exp4_35 : decode method_4_code 35 = .ok (.iload_n 0, 1) := by decide +kernel
theorem d_rm_exp4_36 : decode method_4_code 36 = .ok (.iconst 2, 1) := by decide +kernel
theorem d_rm_exp4_37 : decode method_4_code 37 = .ok (.if_icmp .ne 13, 3) := by decide +kernel
theorem d_rm_exp4_50 : decode method_4_code 50 = .ok (.iload_n 0, 1) := by decide +kernel
theorem d_rm_exp4_51 : decode method_4_code 51 = .ok (.iconst 3, 1) := by decide +kernel
theorem d_rm_exp4_52 : decode method_4_code 52 = .ok (.if_icmp .ne 29, 3) := by decide +kernel
theorem d_rm_exp4_81 : decode method_4_code 81 = .ok (.iload_n 0, 1) := by decide +kernel
theorem d_rm_exp4_82 : decode method_4_code 82 = .ok (.iconst 4, 1) := by decide +kernel
theorem d_rm_exp4_83 : decode method_4_code 83 = .ok (.if_icmp .ne 19, 3) := by decide +kernel
theorem d_rm_exp4_86 : decode method_4_code 86 = .ok (.iload_n 1, 1) := by decide +kernel
theorem d_rm_exp4_87 : decode method_4_code 87 = .ok (.iconst 2, 1) := by decide +kernel
theorem d_rm_exp4_88 : decode method_4_code 88 = .ok (.if_icmp .eq 8, 3) := by decide +kernel
theorem d_rm_exp4_91 : decode method_4_code 91 = .ok (.iload_n 1, 1) := by decide +kernel
theorem d_rm_exp4_92 : decode method_4_code 92 = .ok (.iconst 3, 1) := by decide +kernel
theorem d_rm_exp4_93 : decode method_4_code 93 = .ok (.if_icmp .ne 7, 3) := by decide +kernel
theorem d_rm_exp4_96 : decode method_4_code 96 = .ok (.iconst 1, 1) := by decide +kernel
theorem d_rm_exp4_97 : decode method_4_code 97 = .ok (.goto 4, 3) := by decide +kernel
theorem d_rm_exp4_100 : decode method_4_code 100 = .ok (.iconst 0, 1) := by decide +kernel
theorem d_rm_exp4_101 : decode method_4_code 101 = .ok (.ireturn, 1) := by decide +kernel
def Q_rm_exp4 (Z : State) (n1 : Int32) (h0 : Heap) (n0 : Nat) (v : Option Value) (h : Heap) (L : List Loc) : Prop := v = some (.int (own_takes n1 (2 : Int32) (3 : Int32))) ∧ Fr n0 L ∧ h = h0
theorem ef_rm_exp4 (m : MethodId) (n1 : Int32) : entryFrame m #[(.int (4 : Int32)), (.int n1)] 2 = mkF m 0 #[.val (.int (4 : Int32)), .val (.int n1)] [] := by first | (simp [entryFrame, mkF, argsToLocals, Value.category]; done) | rfl
set_option maxRecDepth 65536 in
set_option maxHeartbeats 40000000 in
theorem rm_exp4 (l : Launch) (Z : State) (a0 : Array Value) (hw : ∀ d ∈ tables_1, d.before a0 Z = true) (ws : List Jvm.Cond) (n1 : Int32) (h0 : Heap) (n0 : Nat) (O0 : Old Z n0 h0) :
    MetFree l (⟨"com/example/admit1/admit1/server/CommandTakesPinLaw", "expected", "(II)Z"⟩ : MethodName) (head1 (Jvm.Cond.code (⟨"com/example/admit1/admit1/server/CommandTakesPinLaw", "expected", "(II)Z"⟩ : MethodName) method_4_code 2 (some .boolean) :: ws) ({ frames := 0, cells := 0, slots := 0, locals := 0 } : Room)) (fun a U => a = #[(.int (4 : Int32)), (.int n1)] ∧ Z.Warmed39 U.vm ∧ U.heap = h0) (fun _ _ _ _ _ => True) (fun _ U o U' => ∃ v L, o = .returned v ∧ Q_rm_exp4 Z n1 h0 n0 v U'.heap L ∧ FrameEnd U o U' L ({ frames := 0, cells := 0, slots := 0, locals := 0 } : Room).cells ({ frames := 0, cells := 0, slots := 0, locals := 0 } : Room).slots) := by
  refine MetFree.of_bodySF (plainFor_of_name own_pn_com_example_admit1_admit1_server_CommandTakesPinLaw) hisR ?_
  intro p e s m args below meth c s₁ Bd hml0 hP hK
  obtain ⟨rfl, hZ, hh⟩ := hP
  have hx := Bd.exec
  have hby := Bd.bytes
  have hml : c.maxLocals = 2 := hml0
  have hown : s.vm.findClass "com/example/admit1/admit1/server/CommandTakesPinLaw" = some m.cls := findClass_of_methodNamed Bd.named
  have hnm := (name_of_methodNamed Bd.named Bd.method).1
  have X0 : Stand p l e ({ frames := 0, cells := 0, slots := 0, locals := 0 } : Room) s m #[(.int (4 : Int32)), (.int n1)] below meth c s₁ [] 0 0 := Stand.of_body Bd
  have e0 : s₁.heap = h0 := by rw [← hh, Bd.state]; rfl
  have N0 := Fr.nil n0
  have Z0 : n0 ≤ h0.size := by rw [← O0.1]; exact O0.2.1
  show own_Go p e below (s₁.setTop (entryFrame m #[(.int (4 : Int32)), (.int n1)] 2)) (fun t o => ∃ v L, o = .returned v ∧ Q_rm_exp4 Z n1 h0 n0 v t.heap L ∧ FrameEnd s o t L ({ frames := 0, cells := 0, slots := 0, locals := 0 } : Room).cells ({ frames := 0, cells := 0, slots := 0, locals := 0 } : Room).slots)
  rw [ef_rm_exp4 m n1]
  refine own_by (fun _ k => XS.iloadN X0.here hx rfl (hb hby d_rm_exp4_0) rfl k) ?_
  show own_Go p e below (s₁.setTop (mkF m 1 #[.val (.int (4 : Int32)), .val (.int n1)] [(.int (4 : Int32))])) _
  refine own_by (fun _ k => XS.ifYes X0.here hx rfl (pc0 := 1) (pc' := 19) rfl (hb hby d_rm_exp4_1) rfl ((if0 _ _).trans (feq (by decide : ¬ ((4 : Int32) = (0 : Int32)))).2) (by decide) (by decide) k) ?_
  show own_Go p e below (s₁.setTop (mkF m 19 #[.val (.int (4 : Int32)), .val (.int n1)] [])) _
  refine own_by (fun _ k => XS.iloadN X0.here hx rfl (hb hby d_rm_exp4_19) rfl k) ?_
  show own_Go p e below (s₁.setTop (mkF m 20 #[.val (.int (4 : Int32)), .val (.int n1)] [(.int (4 : Int32))])) _
  refine own_by (fun _ k => XS.iconst X0.here hx rfl (hb hby d_rm_exp4_20) k) ?_
  show own_Go p e below (s₁.setTop (mkF m 21 #[.val (.int (4 : Int32)), .val (.int n1)] [(.int (1 : Int32)), (.int (4 : Int32))])) _
  refine own_by (fun _ k => XS.icmpYes X0.here hx rfl (pc0 := 21) (pc' := 35) rfl (hb hby d_rm_exp4_21) rfl (feq (by decide : ¬ ((4 : Int32) = (1 : Int32)))).2 (by decide) (by decide) k) ?_
  show own_Go p e below (s₁.setTop (mkF m 35 #[.val (.int (4 : Int32)), .val (.int n1)] [])) _
  refine own_by (fun _ k => XS.iloadN X0.here hx rfl (hb hby d_rm_exp4_35) rfl k) ?_
  show own_Go p e below (s₁.setTop (mkF m 36 #[.val (.int (4 : Int32)), .val (.int n1)] [(.int (4 : Int32))])) _
  refine own_by (fun _ k => XS.iconst X0.here hx rfl (hb hby d_rm_exp4_36) k) ?_
  show own_Go p e below (s₁.setTop (mkF m 37 #[.val (.int (4 : Int32)), .val (.int n1)] [(.int (2 : Int32)), (.int (4 : Int32))])) _
  refine own_by (fun _ k => XS.icmpYes X0.here hx rfl (pc0 := 37) (pc' := 50) rfl (hb hby d_rm_exp4_37) rfl (feq (by decide : ¬ ((4 : Int32) = (2 : Int32)))).2 (by decide) (by decide) k) ?_
  show own_Go p e below (s₁.setTop (mkF m 50 #[.val (.int (4 : Int32)), .val (.int n1)] [])) _
  refine own_by (fun _ k => XS.iloadN X0.here hx rfl (hb hby d_rm_exp4_50) rfl k) ?_
  show own_Go p e below (s₁.setTop (mkF m 51 #[.val (.int (4 : Int32)), .val (.int n1)] [(.int (4 : Int32))])) _
  refine own_by (fun _ k => XS.iconst X0.here hx rfl (hb hby d_rm_exp4_51) k) ?_
  show own_Go p e below (s₁.setTop (mkF m 52 #[.val (.int (4 : Int32)), .val (.int n1)] [(.int (3 : Int32)), (.int (4 : Int32))])) _
  refine own_by (fun _ k => XS.icmpYes X0.here hx rfl (pc0 := 52) (pc' := 81) rfl (hb hby d_rm_exp4_52) rfl (feq (by decide : ¬ ((4 : Int32) = (3 : Int32)))).2 (by decide) (by decide) k) ?_
  show own_Go p e below (s₁.setTop (mkF m 81 #[.val (.int (4 : Int32)), .val (.int n1)] [])) _
  refine own_by (fun _ k => XS.iloadN X0.here hx rfl (hb hby d_rm_exp4_81) rfl k) ?_
  show own_Go p e below (s₁.setTop (mkF m 82 #[.val (.int (4 : Int32)), .val (.int n1)] [(.int (4 : Int32))])) _
  refine own_by (fun _ k => XS.iconst X0.here hx rfl (hb hby d_rm_exp4_82) k) ?_
  show own_Go p e below (s₁.setTop (mkF m 83 #[.val (.int (4 : Int32)), .val (.int n1)] [(.int (4 : Int32)), (.int (4 : Int32))])) _
  refine own_by (fun _ k => XS.icmpNo X0.here hx rfl (hb hby d_rm_exp4_83) rfl (teq (by decide : (4 : Int32) = (4 : Int32))).2 k) ?_
  show own_Go p e below (s₁.setTop (mkF m 86 #[.val (.int (4 : Int32)), .val (.int n1)] [])) _
  refine own_by (fun _ k => XS.iloadN X0.here hx rfl (hb hby d_rm_exp4_86) rfl k) ?_
  show own_Go p e below (s₁.setTop (mkF m 87 #[.val (.int (4 : Int32)), .val (.int n1)] [(.int n1)])) _
  refine own_by (fun _ k => XS.iconst X0.here hx rfl (hb hby d_rm_exp4_87) k) ?_
  show own_Go p e below (s₁.setTop (mkF m 88 #[.val (.int (4 : Int32)), .val (.int n1)] [(.int (2 : Int32)), (.int n1)])) _
  by_cases c1 : n1 = (2 : Int32)
  · skip
    refine own_by (fun _ k => XS.icmpYes X0.here hx rfl (pc0 := 88) (pc' := 96) rfl (hb hby d_rm_exp4_88) rfl (teq c1).1 (by decide) (by decide) k) ?_
    show own_Go p e below (s₁.setTop (mkF m 96 #[.val (.int (4 : Int32)), .val (.int n1)] [])) _
    refine own_by (fun _ k => XS.iconst X0.here hx rfl (hb hby d_rm_exp4_96) k) ?_
    show own_Go p e below (s₁.setTop (mkF m 97 #[.val (.int (4 : Int32)), .val (.int n1)] [(.int (1 : Int32))])) _
    refine own_by (fun _ k => XS.goto X0.here hx rfl (pc0 := 97) (pc' := 101) rfl (hb hby d_rm_exp4_97) (by decide) (by decide) k) ?_
    show own_Go p e below (s₁.setTop (mkF m 101 #[.val (.int (4 : Int32)), .val (.int n1)] [(.int (1 : Int32))])) _
    obtain ⟨fs, hr, hrun, hended, hW, hsame⟩ := X0.leave (v := some (.int (1 : Int32))) (fun h => by rw [Bd.returns] at h; cases h)
    refine ⟨_, _, retN X0 hx (t := .boolean) Bd.returns (by simp) (hb hby d_rm_exp4_101) hr, hrun, hended, _, _, rfl, ?_, ⟨_, rfl⟩, hW, hsame.mono (by decide) (by decide)⟩
    show Q_rm_exp4 Z n1 h0 n0 _ s₁.heap _
    rw [e0]
    exact ⟨(by first | (congr 2; unfold own_takes; split <;> (try split) <;> simp_all [Int32.lt_iff_toInt_lt, ← Int32.toInt_inj] <;> omega)), N0, rfl⟩
  · skip
    refine own_by (fun _ k => XS.icmpNo X0.here hx rfl (hb hby d_rm_exp4_88) rfl (feq c1).1 k) ?_
    show own_Go p e below (s₁.setTop (mkF m 91 #[.val (.int (4 : Int32)), .val (.int n1)] [])) _
    refine own_by (fun _ k => XS.iloadN X0.here hx rfl (hb hby d_rm_exp4_91) rfl k) ?_
    show own_Go p e below (s₁.setTop (mkF m 92 #[.val (.int (4 : Int32)), .val (.int n1)] [(.int n1)])) _
    refine own_by (fun _ k => XS.iconst X0.here hx rfl (hb hby d_rm_exp4_92) k) ?_
    show own_Go p e below (s₁.setTop (mkF m 93 #[.val (.int (4 : Int32)), .val (.int n1)] [(.int (3 : Int32)), (.int n1)])) _
    by_cases c2 : n1 = (3 : Int32)
    · skip
      refine own_by (fun _ k => XS.icmpNo X0.here hx rfl (hb hby d_rm_exp4_93) rfl (teq c2).2 k) ?_
      show own_Go p e below (s₁.setTop (mkF m 96 #[.val (.int (4 : Int32)), .val (.int n1)] [])) _
      refine own_by (fun _ k => XS.iconst X0.here hx rfl (hb hby d_rm_exp4_96) k) ?_
      show own_Go p e below (s₁.setTop (mkF m 97 #[.val (.int (4 : Int32)), .val (.int n1)] [(.int (1 : Int32))])) _
      refine own_by (fun _ k => XS.goto X0.here hx rfl (pc0 := 97) (pc' := 101) rfl (hb hby d_rm_exp4_97) (by decide) (by decide) k) ?_
      show own_Go p e below (s₁.setTop (mkF m 101 #[.val (.int (4 : Int32)), .val (.int n1)] [(.int (1 : Int32))])) _
      obtain ⟨fs, hr, hrun, hended, hW, hsame⟩ := X0.leave (v := some (.int (1 : Int32))) (fun h => by rw [Bd.returns] at h; cases h)
      refine ⟨_, _, retN X0 hx (t := .boolean) Bd.returns (by simp) (hb hby d_rm_exp4_101) hr, hrun, hended, _, _, rfl, ?_, ⟨_, rfl⟩, hW, hsame.mono (by decide) (by decide)⟩
      show Q_rm_exp4 Z n1 h0 n0 _ s₁.heap _
      rw [e0]
      exact ⟨(by first | (congr 2; unfold own_takes; split <;> (try split) <;> simp_all [Int32.lt_iff_toInt_lt, ← Int32.toInt_inj] <;> omega)), N0, rfl⟩
    · skip
      refine own_by (fun _ k => XS.icmpYes X0.here hx rfl (pc0 := 93) (pc' := 100) rfl (hb hby d_rm_exp4_93) rfl (feq c2).2 (by decide) (by decide) k) ?_
      show own_Go p e below (s₁.setTop (mkF m 100 #[.val (.int (4 : Int32)), .val (.int n1)] [])) _
      refine own_by (fun _ k => XS.iconst X0.here hx rfl (hb hby d_rm_exp4_100) k) ?_
      show own_Go p e below (s₁.setTop (mkF m 101 #[.val (.int (4 : Int32)), .val (.int n1)] [(.int (0 : Int32))])) _
      obtain ⟨fs, hr, hrun, hended, hW, hsame⟩ := X0.leave (v := some (.int (0 : Int32))) (fun h => by rw [Bd.returns] at h; cases h)
      refine ⟨_, _, retN X0 hx (t := .boolean) Bd.returns (by simp) (hb hby d_rm_exp4_101) hr, hrun, hended, _, _, rfl, ?_, ⟨_, rfl⟩, hW, hsame.mono (by decide) (by decide)⟩
      show Q_rm_exp4 Z n1 h0 n0 _ s₁.heap _
      rw [e0]
      exact ⟨(by first | (congr 2; unfold own_takes; split <;> (try split) <;> simp_all [Int32.lt_iff_toInt_lt, ← Int32.toInt_inj] <;> omega)), N0, rfl⟩
theorem d_rm_pick5_0 : decode method_3_code 0 = .ok (.iload_n 0, 1) := by decide +kernel
theorem d_rm_pick5_1 : decode method_3_code 1 = .ok (.ifCond .ne 7, 3) := by decide +kernel
theorem d_rm_pick5_8 : decode method_3_code 8 = .ok (.iload_n 0, 1) := by decide +kernel
theorem d_rm_pick5_9 : decode method_3_code 9 = .ok (.iconst 1, 1) := by decide +kernel
theorem d_rm_pick5_10 : decode method_3_code 10 = .ok (.if_icmp .ne 7, 3) := by decide +kernel
theorem d_rm_pick5_17 : decode method_3_code 17 = .ok (.iload_n 0, 1) := by decide +kernel
theorem d_rm_pick5_18 : decode method_3_code 18 = .ok (.iconst 2, 1) := by decide +kernel
theorem d_rm_pick5_19 : decode method_3_code 19 = .ok (.if_icmp .ne 7, 3) := by decide +kernel
theorem d_rm_pick5_26 : decode method_3_code 26 = .ok (.iload_n 0, 1) := by decide +kernel
theorem d_rm_pick5_27 : decode method_3_code 27 = .ok (.iconst 3, 1) := by decide +kernel
theorem d_rm_pick5_28 : decode method_3_code 28 = .ok (.if_icmp .ne 7, 3) := by decide +kernel
theorem d_rm_pick5_35 : decode method_3_code 35 = .ok (.iload_n 0, 1) := by decide +kernel
theorem d_rm_pick5_36 : decode method_3_code 36 = .ok (.iconst 4, 1) := by decide +kernel
theorem d_rm_pick5_37 : decode method_3_code 37 = .ok (.if_icmp .ne 7, 3) := by decide +kernel
theorem d_rm_pick5_44 : decode method_3_code 44 = .ok (.iload_n 0, 1) := by decide +kernel
theorem d_rm_pick5_45 : decode method_3_code 45 = .ok (.iconst 5, 1) := by decide +kernel
theorem d_rm_pick5_46 : decode method_3_code 46 = .ok (.if_icmp .ne 7, 3) := by decide +kernel
theorem d_rm_pick5_49 : decode method_3_code 49 = .ok (.getstatic 40, 3) := by decide +kernel
theorem d_rm_pick5_52 : decode method_3_code 52 = .ok (.areturn, 1) := by decide +kernel
def Q_rm_pick5 (Z : State) (a_RELEASE : Addr) (h0 : Heap) (n0 : Nat) (v : Option Value) (h : Heap) (L : List Loc) : Prop := v = some (.ref a_RELEASE) ∧ Fr n0 L ∧ h = h0
theorem ef_rm_pick5 (m : MethodId) (a_RELEASE : Addr) : entryFrame m #[(.int (5 : Int32))] 1 = mkF m 0 #[.val (.int (5 : Int32))] [] := by first | (simp [entryFrame, mkF, argsToLocals, Value.category]; done) | rfl
set_option maxRecDepth 65536 in
set_option maxHeartbeats 40000000 in
theorem rm_pick5 (l : Launch) (Z : State) (a0 : Array Value) (hw : ∀ d ∈ tables_1, d.before a0 Z = true) (ws : List Jvm.Cond) (a_RELEASE : Addr) (h0 : Heap) (n0 : Nat) (O0 : Old Z n0 h0) (S_RELEASE : Sta Z Z.heap "com/example/admit1/admit1/server/Command" "RELEASE" "Lcom/example/admit1/admit1/server/Command;" (.ref a_RELEASE)) :
    MetFree l (⟨"com/example/admit1/admit1/server/CommandTakesPinLaw", "pick", "(I)Lcom/example/admit1/admit1/server/Command;"⟩ : MethodName) (head1 (Jvm.Cond.code (⟨"com/example/admit1/admit1/server/CommandTakesPinLaw", "pick", "(I)Lcom/example/admit1/admit1/server/Command;"⟩ : MethodName) method_3_code 1 (some (.object "com/example/admit1/admit1/server/Command")) :: ws) ({ frames := 0, cells := 0, slots := 0, locals := 0 } : Room)) (fun a U => a = #[(.int (5 : Int32))] ∧ Z.Warmed39 U.vm ∧ U.heap = h0) (fun _ _ _ _ _ => True) (fun _ U o U' => ∃ v L, o = .returned v ∧ Q_rm_pick5 Z a_RELEASE h0 n0 v U'.heap L ∧ FrameEnd U o U' L ({ frames := 0, cells := 0, slots := 0, locals := 0 } : Room).cells ({ frames := 0, cells := 0, slots := 0, locals := 0 } : Room).slots) := by
  refine MetFree.of_bodySF (plainFor_of_name own_pn_com_example_admit1_admit1_server_CommandTakesPinLaw) hisR ?_
  intro p e s m args below meth c s₁ Bd hml0 hP hK
  obtain ⟨rfl, hZ, hh⟩ := hP
  have hx := Bd.exec
  have hby := Bd.bytes
  have hml : c.maxLocals = 1 := hml0
  have hown : s.vm.findClass "com/example/admit1/admit1/server/CommandTakesPinLaw" = some m.cls := findClass_of_methodNamed Bd.named
  have hnm := (name_of_methodNamed Bd.named Bd.method).1
  have X0 : Stand p l e ({ frames := 0, cells := 0, slots := 0, locals := 0 } : Room) s m #[(.int (5 : Int32))] below meth c s₁ [] 0 0 := Stand.of_body Bd
  have e0 : s₁.heap = h0 := by rw [← hh, Bd.state]; rfl
  have N0 := Fr.nil n0
  have Z0 : n0 ≤ h0.size := by rw [← O0.1]; exact O0.2.1
  show own_Go p e below (s₁.setTop (entryFrame m #[(.int (5 : Int32))] 1)) (fun t o => ∃ v L, o = .returned v ∧ Q_rm_pick5 Z a_RELEASE h0 n0 v t.heap L ∧ FrameEnd s o t L ({ frames := 0, cells := 0, slots := 0, locals := 0 } : Room).cells ({ frames := 0, cells := 0, slots := 0, locals := 0 } : Room).slots)
  rw [ef_rm_pick5 m a_RELEASE]
  refine own_by (fun _ k => XS.iloadN X0.here hx rfl (hb hby d_rm_pick5_0) rfl k) ?_
  show own_Go p e below (s₁.setTop (mkF m 1 #[.val (.int (5 : Int32))] [(.int (5 : Int32))])) _
  refine own_by (fun _ k => XS.ifYes X0.here hx rfl (pc0 := 1) (pc' := 8) rfl (hb hby d_rm_pick5_1) rfl ((if0 _ _).trans (feq (by decide : ¬ ((5 : Int32) = (0 : Int32)))).2) (by decide) (by decide) k) ?_
  show own_Go p e below (s₁.setTop (mkF m 8 #[.val (.int (5 : Int32))] [])) _
  refine own_by (fun _ k => XS.iloadN X0.here hx rfl (hb hby d_rm_pick5_8) rfl k) ?_
  show own_Go p e below (s₁.setTop (mkF m 9 #[.val (.int (5 : Int32))] [(.int (5 : Int32))])) _
  refine own_by (fun _ k => XS.iconst X0.here hx rfl (hb hby d_rm_pick5_9) k) ?_
  show own_Go p e below (s₁.setTop (mkF m 10 #[.val (.int (5 : Int32))] [(.int (1 : Int32)), (.int (5 : Int32))])) _
  refine own_by (fun _ k => XS.icmpYes X0.here hx rfl (pc0 := 10) (pc' := 17) rfl (hb hby d_rm_pick5_10) rfl (feq (by decide : ¬ ((5 : Int32) = (1 : Int32)))).2 (by decide) (by decide) k) ?_
  show own_Go p e below (s₁.setTop (mkF m 17 #[.val (.int (5 : Int32))] [])) _
  refine own_by (fun _ k => XS.iloadN X0.here hx rfl (hb hby d_rm_pick5_17) rfl k) ?_
  show own_Go p e below (s₁.setTop (mkF m 18 #[.val (.int (5 : Int32))] [(.int (5 : Int32))])) _
  refine own_by (fun _ k => XS.iconst X0.here hx rfl (hb hby d_rm_pick5_18) k) ?_
  show own_Go p e below (s₁.setTop (mkF m 19 #[.val (.int (5 : Int32))] [(.int (2 : Int32)), (.int (5 : Int32))])) _
  refine own_by (fun _ k => XS.icmpYes X0.here hx rfl (pc0 := 19) (pc' := 26) rfl (hb hby d_rm_pick5_19) rfl (feq (by decide : ¬ ((5 : Int32) = (2 : Int32)))).2 (by decide) (by decide) k) ?_
  show own_Go p e below (s₁.setTop (mkF m 26 #[.val (.int (5 : Int32))] [])) _
  refine own_by (fun _ k => XS.iloadN X0.here hx rfl (hb hby d_rm_pick5_26) rfl k) ?_
  show own_Go p e below (s₁.setTop (mkF m 27 #[.val (.int (5 : Int32))] [(.int (5 : Int32))])) _
  refine own_by (fun _ k => XS.iconst X0.here hx rfl (hb hby d_rm_pick5_27) k) ?_
  show own_Go p e below (s₁.setTop (mkF m 28 #[.val (.int (5 : Int32))] [(.int (3 : Int32)), (.int (5 : Int32))])) _
  refine own_by (fun _ k => XS.icmpYes X0.here hx rfl (pc0 := 28) (pc' := 35) rfl (hb hby d_rm_pick5_28) rfl (feq (by decide : ¬ ((5 : Int32) = (3 : Int32)))).2 (by decide) (by decide) k) ?_
  show own_Go p e below (s₁.setTop (mkF m 35 #[.val (.int (5 : Int32))] [])) _
  refine own_by (fun _ k => XS.iloadN X0.here hx rfl (hb hby d_rm_pick5_35) rfl k) ?_
  show own_Go p e below (s₁.setTop (mkF m 36 #[.val (.int (5 : Int32))] [(.int (5 : Int32))])) _
  refine own_by (fun _ k => XS.iconst X0.here hx rfl (hb hby d_rm_pick5_36) k) ?_
  show own_Go p e below (s₁.setTop (mkF m 37 #[.val (.int (5 : Int32))] [(.int (4 : Int32)), (.int (5 : Int32))])) _
  refine own_by (fun _ k => XS.icmpYes X0.here hx rfl (pc0 := 37) (pc' := 44) rfl (hb hby d_rm_pick5_37) rfl (feq (by decide : ¬ ((5 : Int32) = (4 : Int32)))).2 (by decide) (by decide) k) ?_
  show own_Go p e below (s₁.setTop (mkF m 44 #[.val (.int (5 : Int32))] [])) _
  refine own_by (fun _ k => XS.iloadN X0.here hx rfl (hb hby d_rm_pick5_44) rfl k) ?_
  show own_Go p e below (s₁.setTop (mkF m 45 #[.val (.int (5 : Int32))] [(.int (5 : Int32))])) _
  refine own_by (fun _ k => XS.iconst X0.here hx rfl (hb hby d_rm_pick5_45) k) ?_
  show own_Go p e below (s₁.setTop (mkF m 46 #[.val (.int (5 : Int32))] [(.int (5 : Int32)), (.int (5 : Int32))])) _
  refine own_by (fun _ k => XS.icmpNo X0.here hx rfl (hb hby d_rm_pick5_46) rfl (teq (by decide : (5 : Int32) = (5 : Int32))).2 k) ?_
  show own_Go p e below (s₁.setTop (mkF m 49 #[.val (.int (5 : Int32))] [])) _
  obtain ⟨T1, X1, e1, st1⟩ := getS2 X0 hx hZ hown (host := "") (Or.inl (hw _ (List.mem_of_getElem? (i := 24) rfl))) Via.refl e0 (S_RELEASE.ext O0.2) (g := (mkF m 49 #[.val (.int (5 : Int32))] [])) rfl (hb hby d_rm_pick5_49)
  refine own_by st1 ?_
  show own_Go p e below (T1.setTop (mkF m 52 #[.val (.int (5 : Int32))] [(.ref a_RELEASE)])) _
  obtain ⟨fs, hr, hrun, hended, hW, hsame⟩ := X1.leave (v := some (.ref a_RELEASE)) (fun h => by rw [Bd.returns] at h; cases h)
  refine ⟨_, _, retOut X1 hx Bd.returns (own_narrow_ref (by decide) rfl) (Or.inr (Or.inr (Or.inr (Or.inr ⟨rfl, by decide, rfl⟩)))) (hb hby d_rm_pick5_52) hr, hrun, hended, _, _, rfl, ?_, ⟨_, rfl⟩, hW, hsame.mono (by decide) (by decide)⟩
  show Q_rm_pick5 Z a_RELEASE h0 n0 _ T1.heap _
  rw [e1]
  exact ⟨rfl, N0, rfl⟩
theorem d_rm_exp5_0 : decode method_4_code 0 = .ok (.iload_n 0, 1) := by decide +kernel
theorem d_rm_exp5_1 : decode method_4_code 1 = .ok (.ifCond .ne 18, 3) := by decide +kernel
theorem d_rm_exp5_19 : decode method_4_code 19 = .ok (.iload_n 0, 1) := by decide +kernel
theorem d_rm_exp5_20 : decode method_4_code 20 = .ok (.iconst 1, 1) := by decide +kernel
theorem d_rm_exp5_21 : decode method_4_code 21 = .ok (.if_icmp .ne 14, 3) := by decide +kernel
theorem d_rm_exp5_35 : decode method_4_code 35 = .ok (.iload_n 0, 1) := by decide +kernel
theorem d_rm_exp5_36 : decode method_4_code 36 = .ok (.iconst 2, 1) := by decide +kernel
theorem d_rm_exp5_37 : decode method_4_code 37 = .ok (.if_icmp .ne 13, 3) := by decide +kernel
theorem d_rm_exp5_50 : decode method_4_code 50 = .ok (.iload_n 0, 1) := by decide +kernel
theorem d_rm_exp5_51 : decode method_4_code 51 = .ok (.iconst 3, 1) := by decide +kernel
theorem d_rm_exp5_52 : decode method_4_code 52 = .ok (.if_icmp .ne 29, 3) := by decide +kernel
theorem d_rm_exp5_81 : decode method_4_code 81 = .ok (.iload_n 0, 1) := by decide +kernel
theorem d_rm_exp5_82 : decode method_4_code 82 = .ok (.iconst 4, 1) := by decide +kernel
theorem d_rm_exp5_83 : decode method_4_code 83 = .ok (.if_icmp .ne 19, 3) := by decide +kernel
theorem d_rm_exp5_102 : decode method_4_code 102 = .ok (.iload_n 0, 1) := by decide +kernel
theorem d_rm_exp5_103 : decode method_4_code 103 = .ok (.iconst 5, 1) := by decide +kernel
theorem d_rm_exp5_104 : decode method_4_code 104 = .ok (.if_icmp .ne 14, 3) := by decide +kernel
theorem d_rm_exp5_107 : decode method_4_code 107 = .ok (.iload_n 1, 1) := by decide +kernel
theorem d_rm_exp5_108 : decode method_4_code 108 = .ok (.iconst 1, 1) := by decide +kernel
theorem d_rm_exp5_109 : decode method_4_code 109 = .ok (.if_icmp .ne 7, 3) := by decide +kernel
theorem d_rm_exp5_112 : decode method_4_code 112 = .ok (.iconst 1, 1) := by decide +kernel
theorem d_rm_exp5_113 : decode method_4_code 113 = .ok (.goto 4, 3) := by decide +kernel
theorem d_rm_exp5_116 : decode method_4_code 116 = .ok (.iconst 0, 1) := by decide +kernel
theorem d_rm_exp5_117 : decode method_4_code 117 = .ok (.ireturn, 1) := by decide +kernel
def Q_rm_exp5 (Z : State) (n1 : Int32) (h0 : Heap) (n0 : Nat) (v : Option Value) (h : Heap) (L : List Loc) : Prop := v = some (.int (own_takes n1 (1 : Int32) (1 : Int32))) ∧ Fr n0 L ∧ h = h0
theorem ef_rm_exp5 (m : MethodId) (n1 : Int32) : entryFrame m #[(.int (5 : Int32)), (.int n1)] 2 = mkF m 0 #[.val (.int (5 : Int32)), .val (.int n1)] [] := by first | (simp [entryFrame, mkF, argsToLocals, Value.category]; done) | rfl
set_option maxRecDepth 65536 in
set_option maxHeartbeats 40000000 in
theorem rm_exp5 (l : Launch) (Z : State) (a0 : Array Value) (hw : ∀ d ∈ tables_1, d.before a0 Z = true) (ws : List Jvm.Cond) (n1 : Int32) (h0 : Heap) (n0 : Nat) (O0 : Old Z n0 h0) :
    MetFree l (⟨"com/example/admit1/admit1/server/CommandTakesPinLaw", "expected", "(II)Z"⟩ : MethodName) (head1 (Jvm.Cond.code (⟨"com/example/admit1/admit1/server/CommandTakesPinLaw", "expected", "(II)Z"⟩ : MethodName) method_4_code 2 (some .boolean) :: ws) ({ frames := 0, cells := 0, slots := 0, locals := 0 } : Room)) (fun a U => a = #[(.int (5 : Int32)), (.int n1)] ∧ Z.Warmed39 U.vm ∧ U.heap = h0) (fun _ _ _ _ _ => True) (fun _ U o U' => ∃ v L, o = .returned v ∧ Q_rm_exp5 Z n1 h0 n0 v U'.heap L ∧ FrameEnd U o U' L ({ frames := 0, cells := 0, slots := 0, locals := 0 } : Room).cells ({ frames := 0, cells := 0, slots := 0, locals := 0 } : Room).slots) := by
  refine MetFree.of_bodySF (plainFor_of_name own_pn_com_example_admit1_admit1_server_CommandTakesPinLaw) hisR ?_
  intro p e s m args below meth c s₁ Bd hml0 hP hK
  obtain ⟨rfl, hZ, hh⟩ := hP
  have hx := Bd.exec
  have hby := Bd.bytes
  have hml : c.maxLocals = 2 := hml0
  have hown : s.vm.findClass "com/example/admit1/admit1/server/CommandTakesPinLaw" = some m.cls := findClass_of_methodNamed Bd.named
  have hnm := (name_of_methodNamed Bd.named Bd.method).1
  have X0 : Stand p l e ({ frames := 0, cells := 0, slots := 0, locals := 0 } : Room) s m #[(.int (5 : Int32)), (.int n1)] below meth c s₁ [] 0 0 := Stand.of_body Bd
  have e0 : s₁.heap = h0 := by rw [← hh, Bd.state]; rfl
  have N0 := Fr.nil n0
  have Z0 : n0 ≤ h0.size := by rw [← O0.1]; exact O0.2.1
  show own_Go p e below (s₁.setTop (entryFrame m #[(.int (5 : Int32)), (.int n1)] 2)) (fun t o => ∃ v L, o = .returned v ∧ Q_rm_exp5 Z n1 h0 n0 v t.heap L ∧ FrameEnd s o t L ({ frames := 0, cells := 0, slots := 0, locals := 0 } : Room).cells ({ frames := 0, cells := 0, slots := 0, locals := 0 } : Room).slots)
  rw [ef_rm_exp5 m n1]
  refine own_by (fun _ k => XS.iloadN X0.here hx rfl (hb hby d_rm_exp5_0) rfl k) ?_
  show own_Go p e below (s₁.setTop (mkF m 1 #[.val (.int (5 : Int32)), .val (.int n1)] [(.int (5 : Int32))])) _
  refine own_by (fun _ k => XS.ifYes X0.here hx rfl (pc0 := 1) (pc' := 19) rfl (hb hby d_rm_exp5_1) rfl ((if0 _ _).trans (feq (by decide : ¬ ((5 : Int32) = (0 : Int32)))).2) (by decide) (by decide) k) ?_
  show own_Go p e below (s₁.setTop (mkF m 19 #[.val (.int (5 : Int32)), .val (.int n1)] [])) _
  refine own_by (fun _ k => XS.iloadN X0.here hx rfl (hb hby d_rm_exp5_19) rfl k) ?_
  show own_Go p e below (s₁.setTop (mkF m 20 #[.val (.int (5 : Int32)), .val (.int n1)] [(.int (5 : Int32))])) _
  refine own_by (fun _ k => XS.iconst X0.here hx rfl (hb hby d_rm_exp5_20) k) ?_
  show own_Go p e below (s₁.setTop (mkF m 21 #[.val (.int (5 : Int32)), .val (.int n1)] [(.int (1 : Int32)), (.int (5 : Int32))])) _
  refine own_by (fun _ k => XS.icmpYes X0.here hx rfl (pc0 := 21) (pc' := 35) rfl (hb hby d_rm_exp5_21) rfl (feq (by decide : ¬ ((5 : Int32) = (1 : Int32)))).2 (by decide) (by decide) k) ?_
  show own_Go p e below (s₁.setTop (mkF m 35 #[.val (.int (5 : Int32)), .val (.int n1)] [])) _
  refine own_by (fun _ k => XS.iloadN X0.here hx rfl (hb hby d_rm_exp5_35) rfl k) ?_
  show own_Go p e below (s₁.setTop (mkF m 36 #[.val (.int (5 : Int32)), .val (.int n1)] [(.int (5 : Int32))])) _
  refine own_by (fun _ k => XS.iconst X0.here hx rfl (hb hby d_rm_exp5_36) k) ?_
  show own_Go p e below (s₁.setTop (mkF m 37 #[.val (.int (5 : Int32)), .val (.int n1)] [(.int (2 : Int32)), (.int (5 : Int32))])) _
  refine own_by (fun _ k => XS.icmpYes X0.here hx rfl (pc0 := 37) (pc' := 50) rfl (hb hby d_rm_exp5_37) rfl (feq (by decide : ¬ ((5 : Int32) = (2 : Int32)))).2 (by decide) (by decide) k) ?_
  show own_Go p e below (s₁.setTop (mkF m 50 #[.val (.int (5 : Int32)), .val (.int n1)] [])) _
  refine own_by (fun _ k => XS.iloadN X0.here hx rfl (hb hby d_rm_exp5_50) rfl k) ?_
  show own_Go p e below (s₁.setTop (mkF m 51 #[.val (.int (5 : Int32)), .val (.int n1)] [(.int (5 : Int32))])) _
  refine own_by (fun _ k => XS.iconst X0.here hx rfl (hb hby d_rm_exp5_51) k) ?_
  show own_Go p e below (s₁.setTop (mkF m 52 #[.val (.int (5 : Int32)), .val (.int n1)] [(.int (3 : Int32)), (.int (5 : Int32))])) _
  refine own_by (fun _ k => XS.icmpYes X0.here hx rfl (pc0 := 52) (pc' := 81) rfl (hb hby d_rm_exp5_52) rfl (feq (by decide : ¬ ((5 : Int32) = (3 : Int32)))).2 (by decide) (by decide) k) ?_
  show own_Go p e below (s₁.setTop (mkF m 81 #[.val (.int (5 : Int32)), .val (.int n1)] [])) _
  refine own_by (fun _ k => XS.iloadN X0.here hx rfl (hb hby d_rm_exp5_81) rfl k) ?_
  show own_Go p e below (s₁.setTop (mkF m 82 #[.val (.int (5 : Int32)), .val (.int n1)] [(.int (5 : Int32))])) _
  refine own_by (fun _ k => XS.iconst X0.here hx rfl (hb hby d_rm_exp5_82) k) ?_
  show own_Go p e below (s₁.setTop (mkF m 83 #[.val (.int (5 : Int32)), .val (.int n1)] [(.int (4 : Int32)), (.int (5 : Int32))])) _
  refine own_by (fun _ k => XS.icmpYes X0.here hx rfl (pc0 := 83) (pc' := 102) rfl (hb hby d_rm_exp5_83) rfl (feq (by decide : ¬ ((5 : Int32) = (4 : Int32)))).2 (by decide) (by decide) k) ?_
  show own_Go p e below (s₁.setTop (mkF m 102 #[.val (.int (5 : Int32)), .val (.int n1)] [])) _
  refine own_by (fun _ k => XS.iloadN X0.here hx rfl (hb hby d_rm_exp5_102) rfl k) ?_
  show own_Go p e below (s₁.setTop (mkF m 103 #[.val (.int (5 : Int32)), .val (.int n1)] [(.int (5 : Int32))])) _
  refine own_by (fun _ k => XS.iconst X0.here hx rfl (hb hby d_rm_exp5_103) k) ?_
  show own_Go p e below (s₁.setTop (mkF m 104 #[.val (.int (5 : Int32)), .val (.int n1)] [(.int (5 : Int32)), (.int (5 : Int32))])) _
  refine own_by (fun _ k => XS.icmpNo X0.here hx rfl (hb hby d_rm_exp5_104) rfl (teq (by decide : (5 : Int32) = (5 : Int32))).2 k) ?_
  show own_Go p e below (s₁.setTop (mkF m 107 #[.val (.int (5 : Int32)), .val (.int n1)] [])) _
  refine own_by (fun _ k => XS.iloadN X0.here hx rfl (hb hby d_rm_exp5_107) rfl k) ?_
  show own_Go p e below (s₁.setTop (mkF m 108 #[.val (.int (5 : Int32)), .val (.int n1)] [(.int n1)])) _
  refine own_by (fun _ k => XS.iconst X0.here hx rfl (hb hby d_rm_exp5_108) k) ?_
  show own_Go p e below (s₁.setTop (mkF m 109 #[.val (.int (5 : Int32)), .val (.int n1)] [(.int (1 : Int32)), (.int n1)])) _
  by_cases c1 : n1 = (1 : Int32)
  · skip
    refine own_by (fun _ k => XS.icmpNo X0.here hx rfl (hb hby d_rm_exp5_109) rfl (teq c1).2 k) ?_
    show own_Go p e below (s₁.setTop (mkF m 112 #[.val (.int (5 : Int32)), .val (.int n1)] [])) _
    refine own_by (fun _ k => XS.iconst X0.here hx rfl (hb hby d_rm_exp5_112) k) ?_
    show own_Go p e below (s₁.setTop (mkF m 113 #[.val (.int (5 : Int32)), .val (.int n1)] [(.int (1 : Int32))])) _
    refine own_by (fun _ k => XS.goto X0.here hx rfl (pc0 := 113) (pc' := 117) rfl (hb hby d_rm_exp5_113) (by decide) (by decide) k) ?_
    show own_Go p e below (s₁.setTop (mkF m 117 #[.val (.int (5 : Int32)), .val (.int n1)] [(.int (1 : Int32))])) _
    obtain ⟨fs, hr, hrun, hended, hW, hsame⟩ := X0.leave (v := some (.int (1 : Int32))) (fun h => by rw [Bd.returns] at h; cases h)
    refine ⟨_, _, retN X0 hx (t := .boolean) Bd.returns (by simp) (hb hby d_rm_exp5_117) hr, hrun, hended, _, _, rfl, ?_, ⟨_, rfl⟩, hW, hsame.mono (by decide) (by decide)⟩
    show Q_rm_exp5 Z n1 h0 n0 _ s₁.heap _
    rw [e0]
    exact ⟨(by first | (congr 2; unfold own_takes; split <;> (try split) <;> simp_all [Int32.lt_iff_toInt_lt, ← Int32.toInt_inj] <;> omega)), N0, rfl⟩
  · skip
    refine own_by (fun _ k => XS.icmpYes X0.here hx rfl (pc0 := 109) (pc' := 116) rfl (hb hby d_rm_exp5_109) rfl (feq c1).2 (by decide) (by decide) k) ?_
    show own_Go p e below (s₁.setTop (mkF m 116 #[.val (.int (5 : Int32)), .val (.int n1)] [])) _
    refine own_by (fun _ k => XS.iconst X0.here hx rfl (hb hby d_rm_exp5_116) k) ?_
    show own_Go p e below (s₁.setTop (mkF m 117 #[.val (.int (5 : Int32)), .val (.int n1)] [(.int (0 : Int32))])) _
    obtain ⟨fs, hr, hrun, hended, hW, hsame⟩ := X0.leave (v := some (.int (0 : Int32))) (fun h => by rw [Bd.returns] at h; cases h)
    refine ⟨_, _, retN X0 hx (t := .boolean) Bd.returns (by simp) (hb hby d_rm_exp5_117) hr, hrun, hended, _, _, rfl, ?_, ⟨_, rfl⟩, hW, hsame.mono (by decide) (by decide)⟩
    show Q_rm_exp5 Z n1 h0 n0 _ s₁.heap _
    rw [e0]
    exact ⟨(by first | (congr 2; unfold own_takes; split <;> (try split) <;> simp_all [Int32.lt_iff_toInt_lt, ← Int32.toInt_inj] <;> omega)), N0, rfl⟩
theorem d_rm_pick6_0 : decode method_3_code 0 = .ok (.iload_n 0, 1) := by decide +kernel
theorem d_rm_pick6_1 : decode method_3_code 1 = .ok (.ifCond .ne 7, 3) := by decide +kernel
theorem d_rm_pick6_8 : decode method_3_code 8 = .ok (.iload_n 0, 1) := by decide +kernel
theorem d_rm_pick6_9 : decode method_3_code 9 = .ok (.iconst 1, 1) := by decide +kernel
theorem d_rm_pick6_10 : decode method_3_code 10 = .ok (.if_icmp .ne 7, 3) := by decide +kernel
theorem d_rm_pick6_17 : decode method_3_code 17 = .ok (.iload_n 0, 1) := by decide +kernel
theorem d_rm_pick6_18 : decode method_3_code 18 = .ok (.iconst 2, 1) := by decide +kernel
theorem d_rm_pick6_19 : decode method_3_code 19 = .ok (.if_icmp .ne 7, 3) := by decide +kernel
theorem d_rm_pick6_26 : decode method_3_code 26 = .ok (.iload_n 0, 1) := by decide +kernel
theorem d_rm_pick6_27 : decode method_3_code 27 = .ok (.iconst 3, 1) := by decide +kernel
theorem d_rm_pick6_28 : decode method_3_code 28 = .ok (.if_icmp .ne 7, 3) := by decide +kernel
theorem d_rm_pick6_35 : decode method_3_code 35 = .ok (.iload_n 0, 1) := by decide +kernel
theorem d_rm_pick6_36 : decode method_3_code 36 = .ok (.iconst 4, 1) := by decide +kernel
theorem d_rm_pick6_37 : decode method_3_code 37 = .ok (.if_icmp .ne 7, 3) := by decide +kernel
theorem d_rm_pick6_44 : decode method_3_code 44 = .ok (.iload_n 0, 1) := by decide +kernel
theorem d_rm_pick6_45 : decode method_3_code 45 = .ok (.iconst 5, 1) := by decide +kernel
theorem d_rm_pick6_46 : decode method_3_code 46 = .ok (.if_icmp .ne 7, 3) := by decide +kernel
theorem d_rm_pick6_53 : decode method_3_code 53 = .ok (.iload_n 0, 1) := by decide +kernel
theorem d_rm_pick6_54 : decode method_3_code 54 = .ok (.bipush 6, 2) := by decide +kernel
theorem d_rm_pick6_56 : decode method_3_code 56 = .ok (.if_icmp .ne 7, 3) := by decide +kernel
theorem d_rm_pick6_59 : decode method_3_code 59 = .ok (.getstatic 43, 3) := by decide +kernel
theorem d_rm_pick6_62 : decode method_3_code 62 = .ok (.areturn, 1) := by decide +kernel
def Q_rm_pick6 (Z : State) (a_COMMIT : Addr) (h0 : Heap) (n0 : Nat) (v : Option Value) (h : Heap) (L : List Loc) : Prop := v = some (.ref a_COMMIT) ∧ Fr n0 L ∧ h = h0
theorem ef_rm_pick6 (m : MethodId) (a_COMMIT : Addr) : entryFrame m #[(.int (6 : Int32))] 1 = mkF m 0 #[.val (.int (6 : Int32))] [] := by first | (simp [entryFrame, mkF, argsToLocals, Value.category]; done) | rfl
set_option maxRecDepth 65536 in
set_option maxHeartbeats 40000000 in
theorem rm_pick6 (l : Launch) (Z : State) (a0 : Array Value) (hw : ∀ d ∈ tables_1, d.before a0 Z = true) (ws : List Jvm.Cond) (a_COMMIT : Addr) (h0 : Heap) (n0 : Nat) (O0 : Old Z n0 h0) (S_COMMIT : Sta Z Z.heap "com/example/admit1/admit1/server/Command" "COMMIT" "Lcom/example/admit1/admit1/server/Command;" (.ref a_COMMIT)) :
    MetFree l (⟨"com/example/admit1/admit1/server/CommandTakesPinLaw", "pick", "(I)Lcom/example/admit1/admit1/server/Command;"⟩ : MethodName) (head1 (Jvm.Cond.code (⟨"com/example/admit1/admit1/server/CommandTakesPinLaw", "pick", "(I)Lcom/example/admit1/admit1/server/Command;"⟩ : MethodName) method_3_code 1 (some (.object "com/example/admit1/admit1/server/Command")) :: ws) ({ frames := 0, cells := 0, slots := 0, locals := 0 } : Room)) (fun a U => a = #[(.int (6 : Int32))] ∧ Z.Warmed39 U.vm ∧ U.heap = h0) (fun _ _ _ _ _ => True) (fun _ U o U' => ∃ v L, o = .returned v ∧ Q_rm_pick6 Z a_COMMIT h0 n0 v U'.heap L ∧ FrameEnd U o U' L ({ frames := 0, cells := 0, slots := 0, locals := 0 } : Room).cells ({ frames := 0, cells := 0, slots := 0, locals := 0 } : Room).slots) := by
  refine MetFree.of_bodySF (plainFor_of_name own_pn_com_example_admit1_admit1_server_CommandTakesPinLaw) hisR ?_
  intro p e s m args below meth c s₁ Bd hml0 hP hK
  obtain ⟨rfl, hZ, hh⟩ := hP
  have hx := Bd.exec
  have hby := Bd.bytes
  have hml : c.maxLocals = 1 := hml0
  have hown : s.vm.findClass "com/example/admit1/admit1/server/CommandTakesPinLaw" = some m.cls := findClass_of_methodNamed Bd.named
  have hnm := (name_of_methodNamed Bd.named Bd.method).1
  have X0 : Stand p l e ({ frames := 0, cells := 0, slots := 0, locals := 0 } : Room) s m #[(.int (6 : Int32))] below meth c s₁ [] 0 0 := Stand.of_body Bd
  have e0 : s₁.heap = h0 := by rw [← hh, Bd.state]; rfl
  have N0 := Fr.nil n0
  have Z0 : n0 ≤ h0.size := by rw [← O0.1]; exact O0.2.1
  show own_Go p e below (s₁.setTop (entryFrame m #[(.int (6 : Int32))] 1)) (fun t o => ∃ v L, o = .returned v ∧ Q_rm_pick6 Z a_COMMIT h0 n0 v t.heap L ∧ FrameEnd s o t L ({ frames := 0, cells := 0, slots := 0, locals := 0 } : Room).cells ({ frames := 0, cells := 0, slots := 0, locals := 0 } : Room).slots)
  rw [ef_rm_pick6 m a_COMMIT]
  refine own_by (fun _ k => XS.iloadN X0.here hx rfl (hb hby d_rm_pick6_0) rfl k) ?_
  show own_Go p e below (s₁.setTop (mkF m 1 #[.val (.int (6 : Int32))] [(.int (6 : Int32))])) _
  refine own_by (fun _ k => XS.ifYes X0.here hx rfl (pc0 := 1) (pc' := 8) rfl (hb hby d_rm_pick6_1) rfl ((if0 _ _).trans (feq (by decide : ¬ ((6 : Int32) = (0 : Int32)))).2) (by decide) (by decide) k) ?_
  show own_Go p e below (s₁.setTop (mkF m 8 #[.val (.int (6 : Int32))] [])) _
  refine own_by (fun _ k => XS.iloadN X0.here hx rfl (hb hby d_rm_pick6_8) rfl k) ?_
  show own_Go p e below (s₁.setTop (mkF m 9 #[.val (.int (6 : Int32))] [(.int (6 : Int32))])) _
  refine own_by (fun _ k => XS.iconst X0.here hx rfl (hb hby d_rm_pick6_9) k) ?_
  show own_Go p e below (s₁.setTop (mkF m 10 #[.val (.int (6 : Int32))] [(.int (1 : Int32)), (.int (6 : Int32))])) _
  refine own_by (fun _ k => XS.icmpYes X0.here hx rfl (pc0 := 10) (pc' := 17) rfl (hb hby d_rm_pick6_10) rfl (feq (by decide : ¬ ((6 : Int32) = (1 : Int32)))).2 (by decide) (by decide) k) ?_
  show own_Go p e below (s₁.setTop (mkF m 17 #[.val (.int (6 : Int32))] [])) _
  refine own_by (fun _ k => XS.iloadN X0.here hx rfl (hb hby d_rm_pick6_17) rfl k) ?_
  show own_Go p e below (s₁.setTop (mkF m 18 #[.val (.int (6 : Int32))] [(.int (6 : Int32))])) _
  refine own_by (fun _ k => XS.iconst X0.here hx rfl (hb hby d_rm_pick6_18) k) ?_
  show own_Go p e below (s₁.setTop (mkF m 19 #[.val (.int (6 : Int32))] [(.int (2 : Int32)), (.int (6 : Int32))])) _
  refine own_by (fun _ k => XS.icmpYes X0.here hx rfl (pc0 := 19) (pc' := 26) rfl (hb hby d_rm_pick6_19) rfl (feq (by decide : ¬ ((6 : Int32) = (2 : Int32)))).2 (by decide) (by decide) k) ?_
  show own_Go p e below (s₁.setTop (mkF m 26 #[.val (.int (6 : Int32))] [])) _
  refine own_by (fun _ k => XS.iloadN X0.here hx rfl (hb hby d_rm_pick6_26) rfl k) ?_
  show own_Go p e below (s₁.setTop (mkF m 27 #[.val (.int (6 : Int32))] [(.int (6 : Int32))])) _
  refine own_by (fun _ k => XS.iconst X0.here hx rfl (hb hby d_rm_pick6_27) k) ?_
  show own_Go p e below (s₁.setTop (mkF m 28 #[.val (.int (6 : Int32))] [(.int (3 : Int32)), (.int (6 : Int32))])) _
  refine own_by (fun _ k => XS.icmpYes X0.here hx rfl (pc0 := 28) (pc' := 35) rfl (hb hby d_rm_pick6_28) rfl (feq (by decide : ¬ ((6 : Int32) = (3 : Int32)))).2 (by decide) (by decide) k) ?_
  show own_Go p e below (s₁.setTop (mkF m 35 #[.val (.int (6 : Int32))] [])) _
  refine own_by (fun _ k => XS.iloadN X0.here hx rfl (hb hby d_rm_pick6_35) rfl k) ?_
  show own_Go p e below (s₁.setTop (mkF m 36 #[.val (.int (6 : Int32))] [(.int (6 : Int32))])) _
  refine own_by (fun _ k => XS.iconst X0.here hx rfl (hb hby d_rm_pick6_36) k) ?_
  show own_Go p e below (s₁.setTop (mkF m 37 #[.val (.int (6 : Int32))] [(.int (4 : Int32)), (.int (6 : Int32))])) _
  refine own_by (fun _ k => XS.icmpYes X0.here hx rfl (pc0 := 37) (pc' := 44) rfl (hb hby d_rm_pick6_37) rfl (feq (by decide : ¬ ((6 : Int32) = (4 : Int32)))).2 (by decide) (by decide) k) ?_
  show own_Go p e below (s₁.setTop (mkF m 44 #[.val (.int (6 : Int32))] [])) _
  refine own_by (fun _ k => XS.iloadN X0.here hx rfl (hb hby d_rm_pick6_44) rfl k) ?_
  show own_Go p e below (s₁.setTop (mkF m 45 #[.val (.int (6 : Int32))] [(.int (6 : Int32))])) _
  refine own_by (fun _ k => XS.iconst X0.here hx rfl (hb hby d_rm_pick6_45) k) ?_
  show own_Go p e below (s₁.setTop (mkF m 46 #[.val (.int (6 : Int32))] [(.int (5 : Int32)), (.int (6 : Int32))])) _
  refine own_by (fun _ k => XS.icmpYes X0.here hx rfl (pc0 := 46) (pc' := 53) rfl (hb hby d_rm_pick6_46) rfl (feq (by decide : ¬ ((6 : Int32) = (5 : Int32)))).2 (by decide) (by decide) k) ?_
  show own_Go p e below (s₁.setTop (mkF m 53 #[.val (.int (6 : Int32))] [])) _
  refine own_by (fun _ k => XS.iloadN X0.here hx rfl (hb hby d_rm_pick6_53) rfl k) ?_
  show own_Go p e below (s₁.setTop (mkF m 54 #[.val (.int (6 : Int32))] [(.int (6 : Int32))])) _
  refine own_by (fun _ k => XS.bipush X0.here hx rfl (hb hby d_rm_pick6_54) k) ?_
  show own_Go p e below (s₁.setTop (mkF m 56 #[.val (.int (6 : Int32))] [(.int (6 : Int32)), (.int (6 : Int32))])) _
  refine own_by (fun _ k => XS.icmpNo X0.here hx rfl (hb hby d_rm_pick6_56) rfl (teq (by decide : (6 : Int32) = (6 : Int32))).2 k) ?_
  show own_Go p e below (s₁.setTop (mkF m 59 #[.val (.int (6 : Int32))] [])) _
  obtain ⟨T1, X1, e1, st1⟩ := getS2 X0 hx hZ hown (host := "") (Or.inl (hw _ (List.mem_of_getElem? (i := 26) rfl))) Via.refl e0 (S_COMMIT.ext O0.2) (g := (mkF m 59 #[.val (.int (6 : Int32))] [])) rfl (hb hby d_rm_pick6_59)
  refine own_by st1 ?_
  show own_Go p e below (T1.setTop (mkF m 62 #[.val (.int (6 : Int32))] [(.ref a_COMMIT)])) _
  obtain ⟨fs, hr, hrun, hended, hW, hsame⟩ := X1.leave (v := some (.ref a_COMMIT)) (fun h => by rw [Bd.returns] at h; cases h)
  refine ⟨_, _, retOut X1 hx Bd.returns (own_narrow_ref (by decide) rfl) (Or.inr (Or.inr (Or.inr (Or.inr ⟨rfl, by decide, rfl⟩)))) (hb hby d_rm_pick6_62) hr, hrun, hended, _, _, rfl, ?_, ⟨_, rfl⟩, hW, hsame.mono (by decide) (by decide)⟩
  show Q_rm_pick6 Z a_COMMIT h0 n0 _ T1.heap _
  rw [e1]
  exact ⟨rfl, N0, rfl⟩
theorem d_rm_exp6_0 : decode method_4_code 0 = .ok (.iload_n 0, 1) := by decide +kernel
theorem d_rm_exp6_1 : decode method_4_code 1 = .ok (.ifCond .ne 18, 3) := by decide +kernel
theorem d_rm_exp6_19 : decode method_4_code 19 = .ok (.iload_n 0, 1) := by decide +kernel
theorem d_rm_exp6_20 : decode method_4_code 20 = .ok (.iconst 1, 1) := by decide +kernel
theorem d_rm_exp6_21 : decode method_4_code 21 = .ok (.if_icmp .ne 14, 3) := by decide +kernel
theorem d_rm_exp6_35 : decode method_4_code 35 = .ok (.iload_n 0, 1) := by decide +kernel
theorem d_rm_exp6_36 : decode method_4_code 36 = .ok (.iconst 2, 1) := by decide +kernel
theorem d_rm_exp6_37 : decode method_4_code 37 = .ok (.if_icmp .ne 13, 3) := by decide +kernel
theorem d_rm_exp6_50 : decode method_4_code 50 = .ok (.iload_n 0, 1) := by decide +kernel
theorem d_rm_exp6_51 : decode method_4_code 51 = .ok (.iconst 3, 1) := by decide +kernel
theorem d_rm_exp6_52 : decode method_4_code 52 = .ok (.if_icmp .ne 29, 3) := by decide +kernel
theorem d_rm_exp6_81 : decode method_4_code 81 = .ok (.iload_n 0, 1) := by decide +kernel
theorem d_rm_exp6_82 : decode method_4_code 82 = .ok (.iconst 4, 1) := by decide +kernel
theorem d_rm_exp6_83 : decode method_4_code 83 = .ok (.if_icmp .ne 19, 3) := by decide +kernel
theorem d_rm_exp6_102 : decode method_4_code 102 = .ok (.iload_n 0, 1) := by decide +kernel
theorem d_rm_exp6_103 : decode method_4_code 103 = .ok (.iconst 5, 1) := by decide +kernel
theorem d_rm_exp6_104 : decode method_4_code 104 = .ok (.if_icmp .ne 14, 3) := by decide +kernel
theorem d_rm_exp6_118 : decode method_4_code 118 = .ok (.iload_n 0, 1) := by decide +kernel
theorem d_rm_exp6_119 : decode method_4_code 119 = .ok (.bipush 6, 2) := by decide +kernel
theorem d_rm_exp6_121 : decode method_4_code 121 = .ok (.if_icmp .ne 13, 3) := by decide +kernel
theorem d_rm_exp6_124 : decode method_4_code 124 = .ok (.iload_n 1, 1) := by decide +kernel
theorem d_rm_exp6_125 : decode method_4_code 125 = .ok (.ifCond .ne 7, 3) := by decide +kernel
theorem d_rm_exp6_128 : decode method_4_code 128 = .ok (.iconst 1, 1) := by decide +kernel
theorem d_rm_exp6_129 : decode method_4_code 129 = .ok (.goto 4, 3) := by decide +kernel
theorem d_rm_exp6_132 : decode method_4_code 132 = .ok (.iconst 0, 1) := by decide +kernel
theorem d_rm_exp6_133 : decode method_4_code 133 = .ok (.ireturn, 1) := by decide +kernel
def Q_rm_exp6 (Z : State) (n1 : Int32) (h0 : Heap) (n0 : Nat) (v : Option Value) (h : Heap) (L : List Loc) : Prop := v = some (.int (own_takes n1 (0 : Int32) (0 : Int32))) ∧ Fr n0 L ∧ h = h0
theorem ef_rm_exp6 (m : MethodId) (n1 : Int32) : entryFrame m #[(.int (6 : Int32)), (.int n1)] 2 = mkF m 0 #[.val (.int (6 : Int32)), .val (.int n1)] [] := by first | (simp [entryFrame, mkF, argsToLocals, Value.category]; done) | rfl
set_option maxRecDepth 65536 in
set_option maxHeartbeats 40000000 in
theorem rm_exp6 (l : Launch) (Z : State) (a0 : Array Value) (hw : ∀ d ∈ tables_1, d.before a0 Z = true) (ws : List Jvm.Cond) (n1 : Int32) (h0 : Heap) (n0 : Nat) (O0 : Old Z n0 h0) :
    MetFree l (⟨"com/example/admit1/admit1/server/CommandTakesPinLaw", "expected", "(II)Z"⟩ : MethodName) (head1 (Jvm.Cond.code (⟨"com/example/admit1/admit1/server/CommandTakesPinLaw", "expected", "(II)Z"⟩ : MethodName) method_4_code 2 (some .boolean) :: ws) ({ frames := 0, cells := 0, slots := 0, locals := 0 } : Room)) (fun a U => a = #[(.int (6 : Int32)), (.int n1)] ∧ Z.Warmed39 U.vm ∧ U.heap = h0) (fun _ _ _ _ _ => True) (fun _ U o U' => ∃ v L, o = .returned v ∧ Q_rm_exp6 Z n1 h0 n0 v U'.heap L ∧ FrameEnd U o U' L ({ frames := 0, cells := 0, slots := 0, locals := 0 } : Room).cells ({ frames := 0, cells := 0, slots := 0, locals := 0 } : Room).slots) := by
  refine MetFree.of_bodySF (plainFor_of_name own_pn_com_example_admit1_admit1_server_CommandTakesPinLaw) hisR ?_
  intro p e s m args below meth c s₁ Bd hml0 hP hK
  obtain ⟨rfl, hZ, hh⟩ := hP
  have hx := Bd.exec
  have hby := Bd.bytes
  have hml : c.maxLocals = 2 := hml0
  have hown : s.vm.findClass "com/example/admit1/admit1/server/CommandTakesPinLaw" = some m.cls := findClass_of_methodNamed Bd.named
  have hnm := (name_of_methodNamed Bd.named Bd.method).1
  have X0 : Stand p l e ({ frames := 0, cells := 0, slots := 0, locals := 0 } : Room) s m #[(.int (6 : Int32)), (.int n1)] below meth c s₁ [] 0 0 := Stand.of_body Bd
  have e0 : s₁.heap = h0 := by rw [← hh, Bd.state]; rfl
  have N0 := Fr.nil n0
  have Z0 : n0 ≤ h0.size := by rw [← O0.1]; exact O0.2.1
  show own_Go p e below (s₁.setTop (entryFrame m #[(.int (6 : Int32)), (.int n1)] 2)) (fun t o => ∃ v L, o = .returned v ∧ Q_rm_exp6 Z n1 h0 n0 v t.heap L ∧ FrameEnd s o t L ({ frames := 0, cells := 0, slots := 0, locals := 0 } : Room).cells ({ frames := 0, cells := 0, slots := 0, locals := 0 } : Room).slots)
  rw [ef_rm_exp6 m n1]
  refine own_by (fun _ k => XS.iloadN X0.here hx rfl (hb hby d_rm_exp6_0) rfl k) ?_
  show own_Go p e below (s₁.setTop (mkF m 1 #[.val (.int (6 : Int32)), .val (.int n1)] [(.int (6 : Int32))])) _
  refine own_by (fun _ k => XS.ifYes X0.here hx rfl (pc0 := 1) (pc' := 19) rfl (hb hby d_rm_exp6_1) rfl ((if0 _ _).trans (feq (by decide : ¬ ((6 : Int32) = (0 : Int32)))).2) (by decide) (by decide) k) ?_
  show own_Go p e below (s₁.setTop (mkF m 19 #[.val (.int (6 : Int32)), .val (.int n1)] [])) _
  refine own_by (fun _ k => XS.iloadN X0.here hx rfl (hb hby d_rm_exp6_19) rfl k) ?_
  show own_Go p e below (s₁.setTop (mkF m 20 #[.val (.int (6 : Int32)), .val (.int n1)] [(.int (6 : Int32))])) _
  refine own_by (fun _ k => XS.iconst X0.here hx rfl (hb hby d_rm_exp6_20) k) ?_
  show own_Go p e below (s₁.setTop (mkF m 21 #[.val (.int (6 : Int32)), .val (.int n1)] [(.int (1 : Int32)), (.int (6 : Int32))])) _
  refine own_by (fun _ k => XS.icmpYes X0.here hx rfl (pc0 := 21) (pc' := 35) rfl (hb hby d_rm_exp6_21) rfl (feq (by decide : ¬ ((6 : Int32) = (1 : Int32)))).2 (by decide) (by decide) k) ?_
  show own_Go p e below (s₁.setTop (mkF m 35 #[.val (.int (6 : Int32)), .val (.int n1)] [])) _
  refine own_by (fun _ k => XS.iloadN X0.here hx rfl (hb hby d_rm_exp6_35) rfl k) ?_
  show own_Go p e below (s₁.setTop (mkF m 36 #[.val (.int (6 : Int32)), .val (.int n1)] [(.int (6 : Int32))])) _
  refine own_by (fun _ k => XS.iconst X0.here hx rfl (hb hby d_rm_exp6_36) k) ?_
  show own_Go p e below (s₁.setTop (mkF m 37 #[.val (.int (6 : Int32)), .val (.int n1)] [(.int (2 : Int32)), (.int (6 : Int32))])) _
  refine own_by (fun _ k => XS.icmpYes X0.here hx rfl (pc0 := 37) (pc' := 50) rfl (hb hby d_rm_exp6_37) rfl (feq (by decide : ¬ ((6 : Int32) = (2 : Int32)))).2 (by decide) (by decide) k) ?_
  show own_Go p e below (s₁.setTop (mkF m 50 #[.val (.int (6 : Int32)), .val (.int n1)] [])) _
  refine own_by (fun _ k => XS.iloadN X0.here hx rfl (hb hby d_rm_exp6_50) rfl k) ?_
  show own_Go p e below (s₁.setTop (mkF m 51 #[.val (.int (6 : Int32)), .val (.int n1)] [(.int (6 : Int32))])) _
  refine own_by (fun _ k => XS.iconst X0.here hx rfl (hb hby d_rm_exp6_51) k) ?_
  show own_Go p e below (s₁.setTop (mkF m 52 #[.val (.int (6 : Int32)), .val (.int n1)] [(.int (3 : Int32)), (.int (6 : Int32))])) _
  refine own_by (fun _ k => XS.icmpYes X0.here hx rfl (pc0 := 52) (pc' := 81) rfl (hb hby d_rm_exp6_52) rfl (feq (by decide : ¬ ((6 : Int32) = (3 : Int32)))).2 (by decide) (by decide) k) ?_
  show own_Go p e below (s₁.setTop (mkF m 81 #[.val (.int (6 : Int32)), .val (.int n1)] [])) _
  refine own_by (fun _ k => XS.iloadN X0.here hx rfl (hb hby d_rm_exp6_81) rfl k) ?_
  show own_Go p e below (s₁.setTop (mkF m 82 #[.val (.int (6 : Int32)), .val (.int n1)] [(.int (6 : Int32))])) _
  refine own_by (fun _ k => XS.iconst X0.here hx rfl (hb hby d_rm_exp6_82) k) ?_
  show own_Go p e below (s₁.setTop (mkF m 83 #[.val (.int (6 : Int32)), .val (.int n1)] [(.int (4 : Int32)), (.int (6 : Int32))])) _
  refine own_by (fun _ k => XS.icmpYes X0.here hx rfl (pc0 := 83) (pc' := 102) rfl (hb hby d_rm_exp6_83) rfl (feq (by decide : ¬ ((6 : Int32) = (4 : Int32)))).2 (by decide) (by decide) k) ?_
  show own_Go p e below (s₁.setTop (mkF m 102 #[.val (.int (6 : Int32)), .val (.int n1)] [])) _
  refine own_by (fun _ k => XS.iloadN X0.here hx rfl (hb hby d_rm_exp6_102) rfl k) ?_
  show own_Go p e below (s₁.setTop (mkF m 103 #[.val (.int (6 : Int32)), .val (.int n1)] [(.int (6 : Int32))])) _
  refine own_by (fun _ k => XS.iconst X0.here hx rfl (hb hby d_rm_exp6_103) k) ?_
  show own_Go p e below (s₁.setTop (mkF m 104 #[.val (.int (6 : Int32)), .val (.int n1)] [(.int (5 : Int32)), (.int (6 : Int32))])) _
  refine own_by (fun _ k => XS.icmpYes X0.here hx rfl (pc0 := 104) (pc' := 118) rfl (hb hby d_rm_exp6_104) rfl (feq (by decide : ¬ ((6 : Int32) = (5 : Int32)))).2 (by decide) (by decide) k) ?_
  show own_Go p e below (s₁.setTop (mkF m 118 #[.val (.int (6 : Int32)), .val (.int n1)] [])) _
  refine own_by (fun _ k => XS.iloadN X0.here hx rfl (hb hby d_rm_exp6_118) rfl k) ?_
  show own_Go p e below (s₁.setTop (mkF m 119 #[.val (.int (6 : Int32)), .val (.int n1)] [(.int (6 : Int32))])) _
  refine own_by (fun _ k => XS.bipush X0.here hx rfl (hb hby d_rm_exp6_119) k) ?_
  show own_Go p e below (s₁.setTop (mkF m 121 #[.val (.int (6 : Int32)), .val (.int n1)] [(.int (6 : Int32)), (.int (6 : Int32))])) _
  refine own_by (fun _ k => XS.icmpNo X0.here hx rfl (hb hby d_rm_exp6_121) rfl (teq (by decide : (6 : Int32) = (6 : Int32))).2 k) ?_
  show own_Go p e below (s₁.setTop (mkF m 124 #[.val (.int (6 : Int32)), .val (.int n1)] [])) _
  refine own_by (fun _ k => XS.iloadN X0.here hx rfl (hb hby d_rm_exp6_124) rfl k) ?_
  show own_Go p e below (s₁.setTop (mkF m 125 #[.val (.int (6 : Int32)), .val (.int n1)] [(.int n1)])) _
  by_cases c1 : n1 = (0 : Int32)
  · skip
    refine own_by (fun _ k => XS.ifNo X0.here hx rfl (hb hby d_rm_exp6_125) rfl ((if0 _ _).trans (teq c1).2) k) ?_
    show own_Go p e below (s₁.setTop (mkF m 128 #[.val (.int (6 : Int32)), .val (.int n1)] [])) _
    refine own_by (fun _ k => XS.iconst X0.here hx rfl (hb hby d_rm_exp6_128) k) ?_
    show own_Go p e below (s₁.setTop (mkF m 129 #[.val (.int (6 : Int32)), .val (.int n1)] [(.int (1 : Int32))])) _
    refine own_by (fun _ k => XS.goto X0.here hx rfl (pc0 := 129) (pc' := 133) rfl (hb hby d_rm_exp6_129) (by decide) (by decide) k) ?_
    show own_Go p e below (s₁.setTop (mkF m 133 #[.val (.int (6 : Int32)), .val (.int n1)] [(.int (1 : Int32))])) _
    obtain ⟨fs, hr, hrun, hended, hW, hsame⟩ := X0.leave (v := some (.int (1 : Int32))) (fun h => by rw [Bd.returns] at h; cases h)
    refine ⟨_, _, retN X0 hx (t := .boolean) Bd.returns (by simp) (hb hby d_rm_exp6_133) hr, hrun, hended, _, _, rfl, ?_, ⟨_, rfl⟩, hW, hsame.mono (by decide) (by decide)⟩
    show Q_rm_exp6 Z n1 h0 n0 _ s₁.heap _
    rw [e0]
    exact ⟨(by first | (congr 2; unfold own_takes; split <;> (try split) <;> simp_all [Int32.lt_iff_toInt_lt, ← Int32.toInt_inj] <;> omega)), N0, rfl⟩
  · skip
    refine own_by (fun _ k => XS.ifYes X0.here hx rfl (pc0 := 125) (pc' := 132) rfl (hb hby d_rm_exp6_125) rfl ((if0 _ _).trans (feq c1).2) (by decide) (by decide) k) ?_
    show own_Go p e below (s₁.setTop (mkF m 132 #[.val (.int (6 : Int32)), .val (.int n1)] [])) _
    refine own_by (fun _ k => XS.iconst X0.here hx rfl (hb hby d_rm_exp6_132) k) ?_
    show own_Go p e below (s₁.setTop (mkF m 133 #[.val (.int (6 : Int32)), .val (.int n1)] [(.int (0 : Int32))])) _
    obtain ⟨fs, hr, hrun, hended, hW, hsame⟩ := X0.leave (v := some (.int (0 : Int32))) (fun h => by rw [Bd.returns] at h; cases h)
    refine ⟨_, _, retN X0 hx (t := .boolean) Bd.returns (by simp) (hb hby d_rm_exp6_133) hr, hrun, hended, _, _, rfl, ?_, ⟨_, rfl⟩, hW, hsame.mono (by decide) (by decide)⟩
    show Q_rm_exp6 Z n1 h0 n0 _ s₁.heap _
    rw [e0]
    exact ⟨(by first | (congr 2; unfold own_takes; split <;> (try split) <;> simp_all [Int32.lt_iff_toInt_lt, ← Int32.toInt_inj] <;> omega)), N0, rfl⟩
theorem d_rm_pick7_0 : decode method_3_code 0 = .ok (.iload_n 0, 1) := by decide +kernel
theorem d_rm_pick7_1 : decode method_3_code 1 = .ok (.ifCond .ne 7, 3) := by decide +kernel
theorem d_rm_pick7_8 : decode method_3_code 8 = .ok (.iload_n 0, 1) := by decide +kernel
theorem d_rm_pick7_9 : decode method_3_code 9 = .ok (.iconst 1, 1) := by decide +kernel
theorem d_rm_pick7_10 : decode method_3_code 10 = .ok (.if_icmp .ne 7, 3) := by decide +kernel
theorem d_rm_pick7_17 : decode method_3_code 17 = .ok (.iload_n 0, 1) := by decide +kernel
theorem d_rm_pick7_18 : decode method_3_code 18 = .ok (.iconst 2, 1) := by decide +kernel
theorem d_rm_pick7_19 : decode method_3_code 19 = .ok (.if_icmp .ne 7, 3) := by decide +kernel
theorem d_rm_pick7_26 : decode method_3_code 26 = .ok (.iload_n 0, 1) := by decide +kernel
theorem d_rm_pick7_27 : decode method_3_code 27 = .ok (.iconst 3, 1) := by decide +kernel
theorem d_rm_pick7_28 : decode method_3_code 28 = .ok (.if_icmp .ne 7, 3) := by decide +kernel
theorem d_rm_pick7_35 : decode method_3_code 35 = .ok (.iload_n 0, 1) := by decide +kernel
theorem d_rm_pick7_36 : decode method_3_code 36 = .ok (.iconst 4, 1) := by decide +kernel
theorem d_rm_pick7_37 : decode method_3_code 37 = .ok (.if_icmp .ne 7, 3) := by decide +kernel
theorem d_rm_pick7_44 : decode method_3_code 44 = .ok (.iload_n 0, 1) := by decide +kernel
theorem d_rm_pick7_45 : decode method_3_code 45 = .ok (.iconst 5, 1) := by decide +kernel
theorem d_rm_pick7_46 : decode method_3_code 46 = .ok (.if_icmp .ne 7, 3) := by decide +kernel
theorem d_rm_pick7_53 : decode method_3_code 53 = .ok (.iload_n 0, 1) := by decide +kernel
theorem d_rm_pick7_54 : decode method_3_code 54 = .ok (.bipush 6, 2) := by decide +kernel
theorem d_rm_pick7_56 : decode method_3_code 56 = .ok (.if_icmp .ne 7, 3) := by decide +kernel
theorem d_rm_pick7_63 : decode method_3_code 63 = .ok (.iload_n 0, 1) := by decide +kernel
theorem d_rm_pick7_64 : decode method_3_code 64 = .ok (.bipush 7, 2) := by decide +kernel
theorem d_rm_pick7_66 : decode method_3_code 66 = .ok (.if_icmp .ne 7, 3) := by decide +kernel
theorem d_rm_pick7_69 : decode method_3_code 69 = .ok (.getstatic 46, 3) := by decide +kernel
theorem d_rm_pick7_72 : decode method_3_code 72 = .ok (.areturn, 1) := by decide +kernel
def Q_rm_pick7 (Z : State) (a_ROLLBACK : Addr) (h0 : Heap) (n0 : Nat) (v : Option Value) (h : Heap) (L : List Loc) : Prop := v = some (.ref a_ROLLBACK) ∧ Fr n0 L ∧ h = h0
theorem ef_rm_pick7 (m : MethodId) (a_ROLLBACK : Addr) : entryFrame m #[(.int (7 : Int32))] 1 = mkF m 0 #[.val (.int (7 : Int32))] [] := by first | (simp [entryFrame, mkF, argsToLocals, Value.category]; done) | rfl
set_option maxRecDepth 65536 in
set_option maxHeartbeats 40000000 in
theorem rm_pick7 (l : Launch) (Z : State) (a0 : Array Value) (hw : ∀ d ∈ tables_1, d.before a0 Z = true) (ws : List Jvm.Cond) (a_ROLLBACK : Addr) (h0 : Heap) (n0 : Nat) (O0 : Old Z n0 h0) (S_ROLLBACK : Sta Z Z.heap "com/example/admit1/admit1/server/Command" "ROLLBACK" "Lcom/example/admit1/admit1/server/Command;" (.ref a_ROLLBACK)) :
    MetFree l (⟨"com/example/admit1/admit1/server/CommandTakesPinLaw", "pick", "(I)Lcom/example/admit1/admit1/server/Command;"⟩ : MethodName) (head1 (Jvm.Cond.code (⟨"com/example/admit1/admit1/server/CommandTakesPinLaw", "pick", "(I)Lcom/example/admit1/admit1/server/Command;"⟩ : MethodName) method_3_code 1 (some (.object "com/example/admit1/admit1/server/Command")) :: ws) ({ frames := 0, cells := 0, slots := 0, locals := 0 } : Room)) (fun a U => a = #[(.int (7 : Int32))] ∧ Z.Warmed39 U.vm ∧ U.heap = h0) (fun _ _ _ _ _ => True) (fun _ U o U' => ∃ v L, o = .returned v ∧ Q_rm_pick7 Z a_ROLLBACK h0 n0 v U'.heap L ∧ FrameEnd U o U' L ({ frames := 0, cells := 0, slots := 0, locals := 0 } : Room).cells ({ frames := 0, cells := 0, slots := 0, locals := 0 } : Room).slots) := by
  refine MetFree.of_bodySF (plainFor_of_name own_pn_com_example_admit1_admit1_server_CommandTakesPinLaw) hisR ?_
  intro p e s m args below meth c s₁ Bd hml0 hP hK
  obtain ⟨rfl, hZ, hh⟩ := hP
  have hx := Bd.exec
  have hby := Bd.bytes
  have hml : c.maxLocals = 1 := hml0
  have hown : s.vm.findClass "com/example/admit1/admit1/server/CommandTakesPinLaw" = some m.cls := findClass_of_methodNamed Bd.named
  have hnm := (name_of_methodNamed Bd.named Bd.method).1
  have X0 : Stand p l e ({ frames := 0, cells := 0, slots := 0, locals := 0 } : Room) s m #[(.int (7 : Int32))] below meth c s₁ [] 0 0 := Stand.of_body Bd
  have e0 : s₁.heap = h0 := by rw [← hh, Bd.state]; rfl
  have N0 := Fr.nil n0
  have Z0 : n0 ≤ h0.size := by rw [← O0.1]; exact O0.2.1
  show own_Go p e below (s₁.setTop (entryFrame m #[(.int (7 : Int32))] 1)) (fun t o => ∃ v L, o = .returned v ∧ Q_rm_pick7 Z a_ROLLBACK h0 n0 v t.heap L ∧ FrameEnd s o t L ({ frames := 0, cells := 0, slots := 0, locals := 0 } : Room).cells ({ frames := 0, cells := 0, slots := 0, locals := 0 } : Room).slots)
  rw [ef_rm_pick7 m a_ROLLBACK]
  refine own_by (fun _ k => XS.iloadN X0.here hx rfl (hb hby d_rm_pick7_0) rfl k) ?_
  show own_Go p e below (s₁.setTop (mkF m 1 #[.val (.int (7 : Int32))] [(.int (7 : Int32))])) _
  refine own_by (fun _ k => XS.ifYes X0.here hx rfl (pc0 := 1) (pc' := 8) rfl (hb hby d_rm_pick7_1) rfl ((if0 _ _).trans (feq (by decide : ¬ ((7 : Int32) = (0 : Int32)))).2) (by decide) (by decide) k) ?_
  show own_Go p e below (s₁.setTop (mkF m 8 #[.val (.int (7 : Int32))] [])) _
  refine own_by (fun _ k => XS.iloadN X0.here hx rfl (hb hby d_rm_pick7_8) rfl k) ?_
  show own_Go p e below (s₁.setTop (mkF m 9 #[.val (.int (7 : Int32))] [(.int (7 : Int32))])) _
  refine own_by (fun _ k => XS.iconst X0.here hx rfl (hb hby d_rm_pick7_9) k) ?_
  show own_Go p e below (s₁.setTop (mkF m 10 #[.val (.int (7 : Int32))] [(.int (1 : Int32)), (.int (7 : Int32))])) _
  refine own_by (fun _ k => XS.icmpYes X0.here hx rfl (pc0 := 10) (pc' := 17) rfl (hb hby d_rm_pick7_10) rfl (feq (by decide : ¬ ((7 : Int32) = (1 : Int32)))).2 (by decide) (by decide) k) ?_
  show own_Go p e below (s₁.setTop (mkF m 17 #[.val (.int (7 : Int32))] [])) _
  refine own_by (fun _ k => XS.iloadN X0.here hx rfl (hb hby d_rm_pick7_17) rfl k) ?_
  show own_Go p e below (s₁.setTop (mkF m 18 #[.val (.int (7 : Int32))] [(.int (7 : Int32))])) _
  refine own_by (fun _ k => XS.iconst X0.here hx rfl (hb hby d_rm_pick7_18) k) ?_
  show own_Go p e below (s₁.setTop (mkF m 19 #[.val (.int (7 : Int32))] [(.int (2 : Int32)), (.int (7 : Int32))])) _
  refine own_by (fun _ k => XS.icmpYes X0.here hx rfl (pc0 := 19) (pc' := 26) rfl (hb hby d_rm_pick7_19) rfl (feq (by decide : ¬ ((7 : Int32) = (2 : Int32)))).2 (by decide) (by decide) k) ?_
  show own_Go p e below (s₁.setTop (mkF m 26 #[.val (.int (7 : Int32))] [])) _
  refine own_by (fun _ k => XS.iloadN X0.here hx rfl (hb hby d_rm_pick7_26) rfl k) ?_
  show own_Go p e below (s₁.setTop (mkF m 27 #[.val (.int (7 : Int32))] [(.int (7 : Int32))])) _
  refine own_by (fun _ k => XS.iconst X0.here hx rfl (hb hby d_rm_pick7_27) k) ?_
  show own_Go p e below (s₁.setTop (mkF m 28 #[.val (.int (7 : Int32))] [(.int (3 : Int32)), (.int (7 : Int32))])) _
  refine own_by (fun _ k => XS.icmpYes X0.here hx rfl (pc0 := 28) (pc' := 35) rfl (hb hby d_rm_pick7_28) rfl (feq (by decide : ¬ ((7 : Int32) = (3 : Int32)))).2 (by decide) (by decide) k) ?_
  show own_Go p e below (s₁.setTop (mkF m 35 #[.val (.int (7 : Int32))] [])) _
  refine own_by (fun _ k => XS.iloadN X0.here hx rfl (hb hby d_rm_pick7_35) rfl k) ?_
  show own_Go p e below (s₁.setTop (mkF m 36 #[.val (.int (7 : Int32))] [(.int (7 : Int32))])) _
  refine own_by (fun _ k => XS.iconst X0.here hx rfl (hb hby d_rm_pick7_36) k) ?_
  show own_Go p e below (s₁.setTop (mkF m 37 #[.val (.int (7 : Int32))] [(.int (4 : Int32)), (.int (7 : Int32))])) _
  refine own_by (fun _ k => XS.icmpYes X0.here hx rfl (pc0 := 37) (pc' := 44) rfl (hb hby d_rm_pick7_37) rfl (feq (by decide : ¬ ((7 : Int32) = (4 : Int32)))).2 (by decide) (by decide) k) ?_
  show own_Go p e below (s₁.setTop (mkF m 44 #[.val (.int (7 : Int32))] [])) _
  refine own_by (fun _ k => XS.iloadN X0.here hx rfl (hb hby d_rm_pick7_44) rfl k) ?_
  show own_Go p e below (s₁.setTop (mkF m 45 #[.val (.int (7 : Int32))] [(.int (7 : Int32))])) _
  refine own_by (fun _ k => XS.iconst X0.here hx rfl (hb hby d_rm_pick7_45) k) ?_
  show own_Go p e below (s₁.setTop (mkF m 46 #[.val (.int (7 : Int32))] [(.int (5 : Int32)), (.int (7 : Int32))])) _
  refine own_by (fun _ k => XS.icmpYes X0.here hx rfl (pc0 := 46) (pc' := 53) rfl (hb hby d_rm_pick7_46) rfl (feq (by decide : ¬ ((7 : Int32) = (5 : Int32)))).2 (by decide) (by decide) k) ?_
  show own_Go p e below (s₁.setTop (mkF m 53 #[.val (.int (7 : Int32))] [])) _
  refine own_by (fun _ k => XS.iloadN X0.here hx rfl (hb hby d_rm_pick7_53) rfl k) ?_
  show own_Go p e below (s₁.setTop (mkF m 54 #[.val (.int (7 : Int32))] [(.int (7 : Int32))])) _
  refine own_by (fun _ k => XS.bipush X0.here hx rfl (hb hby d_rm_pick7_54) k) ?_
  show own_Go p e below (s₁.setTop (mkF m 56 #[.val (.int (7 : Int32))] [(.int (6 : Int32)), (.int (7 : Int32))])) _
  refine own_by (fun _ k => XS.icmpYes X0.here hx rfl (pc0 := 56) (pc' := 63) rfl (hb hby d_rm_pick7_56) rfl (feq (by decide : ¬ ((7 : Int32) = (6 : Int32)))).2 (by decide) (by decide) k) ?_
  show own_Go p e below (s₁.setTop (mkF m 63 #[.val (.int (7 : Int32))] [])) _
  refine own_by (fun _ k => XS.iloadN X0.here hx rfl (hb hby d_rm_pick7_63) rfl k) ?_
  show own_Go p e below (s₁.setTop (mkF m 64 #[.val (.int (7 : Int32))] [(.int (7 : Int32))])) _
  refine own_by (fun _ k => XS.bipush X0.here hx rfl (hb hby d_rm_pick7_64) k) ?_
  show own_Go p e below (s₁.setTop (mkF m 66 #[.val (.int (7 : Int32))] [(.int (7 : Int32)), (.int (7 : Int32))])) _
  refine own_by (fun _ k => XS.icmpNo X0.here hx rfl (hb hby d_rm_pick7_66) rfl (teq (by decide : (7 : Int32) = (7 : Int32))).2 k) ?_
  show own_Go p e below (s₁.setTop (mkF m 69 #[.val (.int (7 : Int32))] [])) _
  obtain ⟨T1, X1, e1, st1⟩ := getS2 X0 hx hZ hown (host := "") (Or.inl (hw _ (List.mem_of_getElem? (i := 36) rfl))) Via.refl e0 (S_ROLLBACK.ext O0.2) (g := (mkF m 69 #[.val (.int (7 : Int32))] [])) rfl (hb hby d_rm_pick7_69)
  refine own_by st1 ?_
  show own_Go p e below (T1.setTop (mkF m 72 #[.val (.int (7 : Int32))] [(.ref a_ROLLBACK)])) _
  obtain ⟨fs, hr, hrun, hended, hW, hsame⟩ := X1.leave (v := some (.ref a_ROLLBACK)) (fun h => by rw [Bd.returns] at h; cases h)
  refine ⟨_, _, retOut X1 hx Bd.returns (own_narrow_ref (by decide) rfl) (Or.inr (Or.inr (Or.inr (Or.inr ⟨rfl, by decide, rfl⟩)))) (hb hby d_rm_pick7_72) hr, hrun, hended, _, _, rfl, ?_, ⟨_, rfl⟩, hW, hsame.mono (by decide) (by decide)⟩
  show Q_rm_pick7 Z a_ROLLBACK h0 n0 _ T1.heap _
  rw [e1]
  exact ⟨rfl, N0, rfl⟩
theorem d_rm_exp7_0 : decode method_4_code 0 = .ok (.iload_n 0, 1) := by decide +kernel
theorem d_rm_exp7_1 : decode method_4_code 1 = .ok (.ifCond .ne 18, 3) := by decide +kernel
theorem d_rm_exp7_19 : decode method_4_code 19 = .ok (.iload_n 0, 1) := by decide +kernel
theorem d_rm_exp7_20 : decode method_4_code 20 = .ok (.iconst 1, 1) := by decide +kernel
theorem d_rm_exp7_21 : decode method_4_code 21 = .ok (.if_icmp .ne 14, 3) := by decide +kernel
theorem d_rm_exp7_35 : decode method_4_code 35 = .ok (.iload_n 0, 1) := by decide +kernel
theorem d_rm_exp7_36 : decode method_4_code 36 = .ok (.iconst 2, 1) := by decide +kernel
theorem d_rm_exp7_37 : decode method_4_code 37 = .ok (.if_icmp .ne 13, 3) := by decide +kernel
theorem d_rm_exp7_50 : decode method_4_code 50 = .ok (.iload_n 0, 1) := by decide +kernel
theorem d_rm_exp7_51 : decode method_4_code 51 = .ok (.iconst 3, 1) := by decide +kernel
theorem d_rm_exp7_52 : decode method_4_code 52 = .ok (.if_icmp .ne 29, 3) := by decide +kernel
theorem d_rm_exp7_81 : decode method_4_code 81 = .ok (.iload_n 0, 1) := by decide +kernel
theorem d_rm_exp7_82 : decode method_4_code 82 = .ok (.iconst 4, 1) := by decide +kernel
theorem d_rm_exp7_83 : decode method_4_code 83 = .ok (.if_icmp .ne 19, 3) := by decide +kernel
theorem d_rm_exp7_102 : decode method_4_code 102 = .ok (.iload_n 0, 1) := by decide +kernel
theorem d_rm_exp7_103 : decode method_4_code 103 = .ok (.iconst 5, 1) := by decide +kernel
theorem d_rm_exp7_104 : decode method_4_code 104 = .ok (.if_icmp .ne 14, 3) := by decide +kernel
theorem d_rm_exp7_118 : decode method_4_code 118 = .ok (.iload_n 0, 1) := by decide +kernel
theorem d_rm_exp7_119 : decode method_4_code 119 = .ok (.bipush 6, 2) := by decide +kernel
theorem d_rm_exp7_121 : decode method_4_code 121 = .ok (.if_icmp .ne 13, 3) := by decide +kernel
theorem d_rm_exp7_134 : decode method_4_code 134 = .ok (.iload_n 0, 1) := by decide +kernel
theorem d_rm_exp7_135 : decode method_4_code 135 = .ok (.bipush 7, 2) := by decide +kernel
theorem d_rm_exp7_137 : decode method_4_code 137 = .ok (.if_icmp .ne 13, 3) := by decide +kernel
theorem d_rm_exp7_140 : decode method_4_code 140 = .ok (.iload_n 1, 1) := by decide +kernel
theorem d_rm_exp7_141 : decode method_4_code 141 = .ok (.ifCond .ne 7, 3) := by decide +kernel
theorem d_rm_exp7_144 : decode method_4_code 144 = .ok (.iconst 1, 1) := by decide +kernel
theorem d_rm_exp7_145 : decode method_4_code 145 = .ok (.goto 4, 3) := by decide +kernel
theorem d_rm_exp7_148 : decode method_4_code 148 = .ok (.iconst 0, 1) := by decide +kernel
theorem d_rm_exp7_149 : decode method_4_code 149 = .ok (.ireturn, 1) := by decide +kernel
def Q_rm_exp7 (Z : State) (n1 : Int32) (h0 : Heap) (n0 : Nat) (v : Option Value) (h : Heap) (L : List Loc) : Prop := v = some (.int (own_takes n1 (0 : Int32) (0 : Int32))) ∧ Fr n0 L ∧ h = h0
theorem ef_rm_exp7 (m : MethodId) (n1 : Int32) : entryFrame m #[(.int (7 : Int32)), (.int n1)] 2 = mkF m 0 #[.val (.int (7 : Int32)), .val (.int n1)] [] := by first | (simp [entryFrame, mkF, argsToLocals, Value.category]; done) | rfl
set_option maxRecDepth 65536 in
set_option maxHeartbeats 40000000 in
theorem rm_exp7 (l : Launch) (Z : State) (a0 : Array Value) (hw : ∀ d ∈ tables_1, d.before a0 Z = true) (ws : List Jvm.Cond) (n1 : Int32) (h0 : Heap) (n0 : Nat) (O0 : Old Z n0 h0) :
    MetFree l (⟨"com/example/admit1/admit1/server/CommandTakesPinLaw", "expected", "(II)Z"⟩ : MethodName) (head1 (Jvm.Cond.code (⟨"com/example/admit1/admit1/server/CommandTakesPinLaw", "expected", "(II)Z"⟩ : MethodName) method_4_code 2 (some .boolean) :: ws) ({ frames := 0, cells := 0, slots := 0, locals := 0 } : Room)) (fun a U => a = #[(.int (7 : Int32)), (.int n1)] ∧ Z.Warmed39 U.vm ∧ U.heap = h0) (fun _ _ _ _ _ => True) (fun _ U o U' => ∃ v L, o = .returned v ∧ Q_rm_exp7 Z n1 h0 n0 v U'.heap L ∧ FrameEnd U o U' L ({ frames := 0, cells := 0, slots := 0, locals := 0 } : Room).cells ({ frames := 0, cells := 0, slots := 0, locals := 0 } : Room).slots) := by
  refine MetFree.of_bodySF (plainFor_of_name own_pn_com_example_admit1_admit1_server_CommandTakesPinLaw) hisR ?_
  intro p e s m args below meth c s₁ Bd hml0 hP hK
  obtain ⟨rfl, hZ, hh⟩ := hP
  have hx := Bd.exec
  have hby := Bd.bytes
  have hml : c.maxLocals = 2 := hml0
  have hown : s.vm.findClass "com/example/admit1/admit1/server/CommandTakesPinLaw" = some m.cls := findClass_of_methodNamed Bd.named
  have hnm := (name_of_methodNamed Bd.named Bd.method).1
  have X0 : Stand p l e ({ frames := 0, cells := 0, slots := 0, locals := 0 } : Room) s m #[(.int (7 : Int32)), (.int n1)] below meth c s₁ [] 0 0 := Stand.of_body Bd
  have e0 : s₁.heap = h0 := by rw [← hh, Bd.state]; rfl
  have N0 := Fr.nil n0
  have Z0 : n0 ≤ h0.size := by rw [← O0.1]; exact O0.2.1
  show own_Go p e below (s₁.setTop (entryFrame m #[(.int (7 : Int32)), (.int n1)] 2)) (fun t o => ∃ v L, o = .returned v ∧ Q_rm_exp7 Z n1 h0 n0 v t.heap L ∧ FrameEnd s o t L ({ frames := 0, cells := 0, slots := 0, locals := 0 } : Room).cells ({ frames := 0, cells := 0, slots := 0, locals := 0 } : Room).slots)
  rw [ef_rm_exp7 m n1]
  refine own_by (fun _ k => XS.iloadN X0.here hx rfl (hb hby d_rm_exp7_0) rfl k) ?_
  show own_Go p e below (s₁.setTop (mkF m 1 #[.val (.int (7 : Int32)), .val (.int n1)] [(.int (7 : Int32))])) _
  refine own_by (fun _ k => XS.ifYes X0.here hx rfl (pc0 := 1) (pc' := 19) rfl (hb hby d_rm_exp7_1) rfl ((if0 _ _).trans (feq (by decide : ¬ ((7 : Int32) = (0 : Int32)))).2) (by decide) (by decide) k) ?_
  show own_Go p e below (s₁.setTop (mkF m 19 #[.val (.int (7 : Int32)), .val (.int n1)] [])) _
  refine own_by (fun _ k => XS.iloadN X0.here hx rfl (hb hby d_rm_exp7_19) rfl k) ?_
  show own_Go p e below (s₁.setTop (mkF m 20 #[.val (.int (7 : Int32)), .val (.int n1)] [(.int (7 : Int32))])) _
  refine own_by (fun _ k => XS.iconst X0.here hx rfl (hb hby d_rm_exp7_20) k) ?_
  show own_Go p e below (s₁.setTop (mkF m 21 #[.val (.int (7 : Int32)), .val (.int n1)] [(.int (1 : Int32)), (.int (7 : Int32))])) _
  refine own_by (fun _ k => XS.icmpYes X0.here hx rfl (pc0 := 21) (pc' := 35) rfl (hb hby d_rm_exp7_21) rfl (feq (by decide : ¬ ((7 : Int32) = (1 : Int32)))).2 (by decide) (by decide) k) ?_
  show own_Go p e below (s₁.setTop (mkF m 35 #[.val (.int (7 : Int32)), .val (.int n1)] [])) _
  refine own_by (fun _ k => XS.iloadN X0.here hx rfl (hb hby d_rm_exp7_35) rfl k) ?_
  show own_Go p e below (s₁.setTop (mkF m 36 #[.val (.int (7 : Int32)), .val (.int n1)] [(.int (7 : Int32))])) _
  refine own_by (fun _ k => XS.iconst X0.here hx rfl (hb hby d_rm_exp7_36) k) ?_
  show own_Go p e below (s₁.setTop (mkF m 37 #[.val (.int (7 : Int32)), .val (.int n1)] [(.int (2 : Int32)), (.int (7 : Int32))])) _
  refine own_by (fun _ k => XS.icmpYes X0.here hx rfl (pc0 := 37) (pc' := 50) rfl (hb hby d_rm_exp7_37) rfl (feq (by decide : ¬ ((7 : Int32) = (2 : Int32)))).2 (by decide) (by decide) k) ?_
  show own_Go p e below (s₁.setTop (mkF m 50 #[.val (.int (7 : Int32)), .val (.int n1)] [])) _
  refine own_by (fun _ k => XS.iloadN X0.here hx rfl (hb hby d_rm_exp7_50) rfl k) ?_
  show own_Go p e below (s₁.setTop (mkF m 51 #[.val (.int (7 : Int32)), .val (.int n1)] [(.int (7 : Int32))])) _
  refine own_by (fun _ k => XS.iconst X0.here hx rfl (hb hby d_rm_exp7_51) k) ?_
  show own_Go p e below (s₁.setTop (mkF m 52 #[.val (.int (7 : Int32)), .val (.int n1)] [(.int (3 : Int32)), (.int (7 : Int32))])) _
  refine own_by (fun _ k => XS.icmpYes X0.here hx rfl (pc0 := 52) (pc' := 81) rfl (hb hby d_rm_exp7_52) rfl (feq (by decide : ¬ ((7 : Int32) = (3 : Int32)))).2 (by decide) (by decide) k) ?_
  show own_Go p e below (s₁.setTop (mkF m 81 #[.val (.int (7 : Int32)), .val (.int n1)] [])) _
  refine own_by (fun _ k => XS.iloadN X0.here hx rfl (hb hby d_rm_exp7_81) rfl k) ?_
  show own_Go p e below (s₁.setTop (mkF m 82 #[.val (.int (7 : Int32)), .val (.int n1)] [(.int (7 : Int32))])) _
  refine own_by (fun _ k => XS.iconst X0.here hx rfl (hb hby d_rm_exp7_82) k) ?_
  show own_Go p e below (s₁.setTop (mkF m 83 #[.val (.int (7 : Int32)), .val (.int n1)] [(.int (4 : Int32)), (.int (7 : Int32))])) _
  refine own_by (fun _ k => XS.icmpYes X0.here hx rfl (pc0 := 83) (pc' := 102) rfl (hb hby d_rm_exp7_83) rfl (feq (by decide : ¬ ((7 : Int32) = (4 : Int32)))).2 (by decide) (by decide) k) ?_
  show own_Go p e below (s₁.setTop (mkF m 102 #[.val (.int (7 : Int32)), .val (.int n1)] [])) _
  refine own_by (fun _ k => XS.iloadN X0.here hx rfl (hb hby d_rm_exp7_102) rfl k) ?_
  show own_Go p e below (s₁.setTop (mkF m 103 #[.val (.int (7 : Int32)), .val (.int n1)] [(.int (7 : Int32))])) _
  refine own_by (fun _ k => XS.iconst X0.here hx rfl (hb hby d_rm_exp7_103) k) ?_
  show own_Go p e below (s₁.setTop (mkF m 104 #[.val (.int (7 : Int32)), .val (.int n1)] [(.int (5 : Int32)), (.int (7 : Int32))])) _
  refine own_by (fun _ k => XS.icmpYes X0.here hx rfl (pc0 := 104) (pc' := 118) rfl (hb hby d_rm_exp7_104) rfl (feq (by decide : ¬ ((7 : Int32) = (5 : Int32)))).2 (by decide) (by decide) k) ?_
  show own_Go p e below (s₁.setTop (mkF m 118 #[.val (.int (7 : Int32)), .val (.int n1)] [])) _
  refine own_by (fun _ k => XS.iloadN X0.here hx rfl (hb hby d_rm_exp7_118) rfl k) ?_
  show own_Go p e below (s₁.setTop (mkF m 119 #[.val (.int (7 : Int32)), .val (.int n1)] [(.int (7 : Int32))])) _
  refine own_by (fun _ k => XS.bipush X0.here hx rfl (hb hby d_rm_exp7_119) k) ?_
  show own_Go p e below (s₁.setTop (mkF m 121 #[.val (.int (7 : Int32)), .val (.int n1)] [(.int (6 : Int32)), (.int (7 : Int32))])) _
  refine own_by (fun _ k => XS.icmpYes X0.here hx rfl (pc0 := 121) (pc' := 134) rfl (hb hby d_rm_exp7_121) rfl (feq (by decide : ¬ ((7 : Int32) = (6 : Int32)))).2 (by decide) (by decide) k) ?_
  show own_Go p e below (s₁.setTop (mkF m 134 #[.val (.int (7 : Int32)), .val (.int n1)] [])) _
  refine own_by (fun _ k => XS.iloadN X0.here hx rfl (hb hby d_rm_exp7_134) rfl k) ?_
  show own_Go p e below (s₁.setTop (mkF m 135 #[.val (.int (7 : Int32)), .val (.int n1)] [(.int (7 : Int32))])) _
  refine own_by (fun _ k => XS.bipush X0.here hx rfl (hb hby d_rm_exp7_135) k) ?_
  show own_Go p e below (s₁.setTop (mkF m 137 #[.val (.int (7 : Int32)), .val (.int n1)] [(.int (7 : Int32)), (.int (7 : Int32))])) _
  refine own_by (fun _ k => XS.icmpNo X0.here hx rfl (hb hby d_rm_exp7_137) rfl (teq (by decide : (7 : Int32) = (7 : Int32))).2 k) ?_
  show own_Go p e below (s₁.setTop (mkF m 140 #[.val (.int (7 : Int32)), .val (.int n1)] [])) _
  refine own_by (fun _ k => XS.iloadN X0.here hx rfl (hb hby d_rm_exp7_140) rfl k) ?_
  show own_Go p e below (s₁.setTop (mkF m 141 #[.val (.int (7 : Int32)), .val (.int n1)] [(.int n1)])) _
  by_cases c1 : n1 = (0 : Int32)
  · skip
    refine own_by (fun _ k => XS.ifNo X0.here hx rfl (hb hby d_rm_exp7_141) rfl ((if0 _ _).trans (teq c1).2) k) ?_
    show own_Go p e below (s₁.setTop (mkF m 144 #[.val (.int (7 : Int32)), .val (.int n1)] [])) _
    refine own_by (fun _ k => XS.iconst X0.here hx rfl (hb hby d_rm_exp7_144) k) ?_
    show own_Go p e below (s₁.setTop (mkF m 145 #[.val (.int (7 : Int32)), .val (.int n1)] [(.int (1 : Int32))])) _
    refine own_by (fun _ k => XS.goto X0.here hx rfl (pc0 := 145) (pc' := 149) rfl (hb hby d_rm_exp7_145) (by decide) (by decide) k) ?_
    show own_Go p e below (s₁.setTop (mkF m 149 #[.val (.int (7 : Int32)), .val (.int n1)] [(.int (1 : Int32))])) _
    obtain ⟨fs, hr, hrun, hended, hW, hsame⟩ := X0.leave (v := some (.int (1 : Int32))) (fun h => by rw [Bd.returns] at h; cases h)
    refine ⟨_, _, retN X0 hx (t := .boolean) Bd.returns (by simp) (hb hby d_rm_exp7_149) hr, hrun, hended, _, _, rfl, ?_, ⟨_, rfl⟩, hW, hsame.mono (by decide) (by decide)⟩
    show Q_rm_exp7 Z n1 h0 n0 _ s₁.heap _
    rw [e0]
    exact ⟨(by first | (congr 2; unfold own_takes; split <;> (try split) <;> simp_all [Int32.lt_iff_toInt_lt, ← Int32.toInt_inj] <;> omega)), N0, rfl⟩
  · skip
    refine own_by (fun _ k => XS.ifYes X0.here hx rfl (pc0 := 141) (pc' := 148) rfl (hb hby d_rm_exp7_141) rfl ((if0 _ _).trans (feq c1).2) (by decide) (by decide) k) ?_
    show own_Go p e below (s₁.setTop (mkF m 148 #[.val (.int (7 : Int32)), .val (.int n1)] [])) _
    refine own_by (fun _ k => XS.iconst X0.here hx rfl (hb hby d_rm_exp7_148) k) ?_
    show own_Go p e below (s₁.setTop (mkF m 149 #[.val (.int (7 : Int32)), .val (.int n1)] [(.int (0 : Int32))])) _
    obtain ⟨fs, hr, hrun, hended, hW, hsame⟩ := X0.leave (v := some (.int (0 : Int32))) (fun h => by rw [Bd.returns] at h; cases h)
    refine ⟨_, _, retN X0 hx (t := .boolean) Bd.returns (by simp) (hb hby d_rm_exp7_149) hr, hrun, hended, _, _, rfl, ?_, ⟨_, rfl⟩, hW, hsame.mono (by decide) (by decide)⟩
    show Q_rm_exp7 Z n1 h0 n0 _ s₁.heap _
    rw [e0]
    exact ⟨(by first | (congr 2; unfold own_takes; split <;> (try split) <;> simp_all [Int32.lt_iff_toInt_lt, ← Int32.toInt_inj] <;> omega)), N0, rfl⟩
theorem d_rm_pick8_0 : decode method_3_code 0 = .ok (.iload_n 0, 1) := by decide +kernel
theorem d_rm_pick8_1 : decode method_3_code 1 = .ok (.ifCond .ne 7, 3) := by decide +kernel
theorem d_rm_pick8_8 : decode method_3_code 8 = .ok (.iload_n 0, 1) := by decide +kernel
theorem d_rm_pick8_9 : decode method_3_code 9 = .ok (.iconst 1, 1) := by decide +kernel
theorem d_rm_pick8_10 : decode method_3_code 10 = .ok (.if_icmp .ne 7, 3) := by decide +kernel
theorem d_rm_pick8_17 : decode method_3_code 17 = .ok (.iload_n 0, 1) := by decide +kernel
theorem d_rm_pick8_18 : decode method_3_code 18 = .ok (.iconst 2, 1) := by decide +kernel
theorem d_rm_pick8_19 : decode method_3_code 19 = .ok (.if_icmp .ne 7, 3) := by decide +kernel
theorem d_rm_pick8_26 : decode method_3_code 26 = .ok (.iload_n 0, 1) := by decide +kernel
theorem d_rm_pick8_27 : decode method_3_code 27 = .ok (.iconst 3, 1) := by decide +kernel
theorem d_rm_pick8_28 : decode method_3_code 28 = .ok (.if_icmp .ne 7, 3) := by decide +kernel
theorem d_rm_pick8_35 : decode method_3_code 35 = .ok (.iload_n 0, 1) := by decide +kernel
theorem d_rm_pick8_36 : decode method_3_code 36 = .ok (.iconst 4, 1) := by decide +kernel
theorem d_rm_pick8_37 : decode method_3_code 37 = .ok (.if_icmp .ne 7, 3) := by decide +kernel
theorem d_rm_pick8_44 : decode method_3_code 44 = .ok (.iload_n 0, 1) := by decide +kernel
theorem d_rm_pick8_45 : decode method_3_code 45 = .ok (.iconst 5, 1) := by decide +kernel
theorem d_rm_pick8_46 : decode method_3_code 46 = .ok (.if_icmp .ne 7, 3) := by decide +kernel
theorem d_rm_pick8_53 : decode method_3_code 53 = .ok (.iload_n 0, 1) := by decide +kernel
theorem d_rm_pick8_54 : decode method_3_code 54 = .ok (.bipush 6, 2) := by decide +kernel
theorem d_rm_pick8_56 : decode method_3_code 56 = .ok (.if_icmp .ne 7, 3) := by decide +kernel
theorem d_rm_pick8_63 : decode method_3_code 63 = .ok (.iload_n 0, 1) := by decide +kernel
theorem d_rm_pick8_64 : decode method_3_code 64 = .ok (.bipush 7, 2) := by decide +kernel
theorem d_rm_pick8_66 : decode method_3_code 66 = .ok (.if_icmp .ne 7, 3) := by decide +kernel
theorem d_rm_pick8_73 : decode method_3_code 73 = .ok (.iload_n 0, 1) := by decide +kernel
theorem d_rm_pick8_74 : decode method_3_code 74 = .ok (.bipush 8, 2) := by decide +kernel
theorem d_rm_pick8_76 : decode method_3_code 76 = .ok (.if_icmp .ne 7, 3) := by decide +kernel
theorem d_rm_pick8_79 : decode method_3_code 79 = .ok (.getstatic 49, 3) := by decide +kernel
theorem d_rm_pick8_82 : decode method_3_code 82 = .ok (.areturn, 1) := by decide +kernel
def Q_rm_pick8 (Z : State) (a_ALLOCATE : Addr) (h0 : Heap) (n0 : Nat) (v : Option Value) (h : Heap) (L : List Loc) : Prop := v = some (.ref a_ALLOCATE) ∧ Fr n0 L ∧ h = h0
theorem ef_rm_pick8 (m : MethodId) (a_ALLOCATE : Addr) : entryFrame m #[(.int (8 : Int32))] 1 = mkF m 0 #[.val (.int (8 : Int32))] [] := by first | (simp [entryFrame, mkF, argsToLocals, Value.category]; done) | rfl
set_option maxRecDepth 65536 in
set_option maxHeartbeats 40000000 in
theorem rm_pick8 (l : Launch) (Z : State) (a0 : Array Value) (hw : ∀ d ∈ tables_1, d.before a0 Z = true) (ws : List Jvm.Cond) (a_ALLOCATE : Addr) (h0 : Heap) (n0 : Nat) (O0 : Old Z n0 h0) (S_ALLOCATE : Sta Z Z.heap "com/example/admit1/admit1/server/Command" "ALLOCATE" "Lcom/example/admit1/admit1/server/Command;" (.ref a_ALLOCATE)) :
    MetFree l (⟨"com/example/admit1/admit1/server/CommandTakesPinLaw", "pick", "(I)Lcom/example/admit1/admit1/server/Command;"⟩ : MethodName) (head1 (Jvm.Cond.code (⟨"com/example/admit1/admit1/server/CommandTakesPinLaw", "pick", "(I)Lcom/example/admit1/admit1/server/Command;"⟩ : MethodName) method_3_code 1 (some (.object "com/example/admit1/admit1/server/Command")) :: ws) ({ frames := 0, cells := 0, slots := 0, locals := 0 } : Room)) (fun a U => a = #[(.int (8 : Int32))] ∧ Z.Warmed39 U.vm ∧ U.heap = h0) (fun _ _ _ _ _ => True) (fun _ U o U' => ∃ v L, o = .returned v ∧ Q_rm_pick8 Z a_ALLOCATE h0 n0 v U'.heap L ∧ FrameEnd U o U' L ({ frames := 0, cells := 0, slots := 0, locals := 0 } : Room).cells ({ frames := 0, cells := 0, slots := 0, locals := 0 } : Room).slots) := by
  refine MetFree.of_bodySF (plainFor_of_name own_pn_com_example_admit1_admit1_server_CommandTakesPinLaw) hisR ?_
  intro p e s m args below meth c s₁ Bd hml0 hP hK
  obtain ⟨rfl, hZ, hh⟩ := hP
  have hx := Bd.exec
  have hby := Bd.bytes
  have hml : c.maxLocals = 1 := hml0
  have hown : s.vm.findClass "com/example/admit1/admit1/server/CommandTakesPinLaw" = some m.cls := findClass_of_methodNamed Bd.named
  have hnm := (name_of_methodNamed Bd.named Bd.method).1
  have X0 : Stand p l e ({ frames := 0, cells := 0, slots := 0, locals := 0 } : Room) s m #[(.int (8 : Int32))] below meth c s₁ [] 0 0 := Stand.of_body Bd
  have e0 : s₁.heap = h0 := by rw [← hh, Bd.state]; rfl
  have N0 := Fr.nil n0
  have Z0 : n0 ≤ h0.size := by rw [← O0.1]; exact O0.2.1
  show own_Go p e below (s₁.setTop (entryFrame m #[(.int (8 : Int32))] 1)) (fun t o => ∃ v L, o = .returned v ∧ Q_rm_pick8 Z a_ALLOCATE h0 n0 v t.heap L ∧ FrameEnd s o t L ({ frames := 0, cells := 0, slots := 0, locals := 0 } : Room).cells ({ frames := 0, cells := 0, slots := 0, locals := 0 } : Room).slots)
  rw [ef_rm_pick8 m a_ALLOCATE]
  refine own_by (fun _ k => XS.iloadN X0.here hx rfl (hb hby d_rm_pick8_0) rfl k) ?_
  show own_Go p e below (s₁.setTop (mkF m 1 #[.val (.int (8 : Int32))] [(.int (8 : Int32))])) _
  refine own_by (fun _ k => XS.ifYes X0.here hx rfl (pc0 := 1) (pc' := 8) rfl (hb hby d_rm_pick8_1) rfl ((if0 _ _).trans (feq (by decide : ¬ ((8 : Int32) = (0 : Int32)))).2) (by decide) (by decide) k) ?_
  show own_Go p e below (s₁.setTop (mkF m 8 #[.val (.int (8 : Int32))] [])) _
  refine own_by (fun _ k => XS.iloadN X0.here hx rfl (hb hby d_rm_pick8_8) rfl k) ?_
  show own_Go p e below (s₁.setTop (mkF m 9 #[.val (.int (8 : Int32))] [(.int (8 : Int32))])) _
  refine own_by (fun _ k => XS.iconst X0.here hx rfl (hb hby d_rm_pick8_9) k) ?_
  show own_Go p e below (s₁.setTop (mkF m 10 #[.val (.int (8 : Int32))] [(.int (1 : Int32)), (.int (8 : Int32))])) _
  refine own_by (fun _ k => XS.icmpYes X0.here hx rfl (pc0 := 10) (pc' := 17) rfl (hb hby d_rm_pick8_10) rfl (feq (by decide : ¬ ((8 : Int32) = (1 : Int32)))).2 (by decide) (by decide) k) ?_
  show own_Go p e below (s₁.setTop (mkF m 17 #[.val (.int (8 : Int32))] [])) _
  refine own_by (fun _ k => XS.iloadN X0.here hx rfl (hb hby d_rm_pick8_17) rfl k) ?_
  show own_Go p e below (s₁.setTop (mkF m 18 #[.val (.int (8 : Int32))] [(.int (8 : Int32))])) _
  refine own_by (fun _ k => XS.iconst X0.here hx rfl (hb hby d_rm_pick8_18) k) ?_
  show own_Go p e below (s₁.setTop (mkF m 19 #[.val (.int (8 : Int32))] [(.int (2 : Int32)), (.int (8 : Int32))])) _
  refine own_by (fun _ k => XS.icmpYes X0.here hx rfl (pc0 := 19) (pc' := 26) rfl (hb hby d_rm_pick8_19) rfl (feq (by decide : ¬ ((8 : Int32) = (2 : Int32)))).2 (by decide) (by decide) k) ?_
  show own_Go p e below (s₁.setTop (mkF m 26 #[.val (.int (8 : Int32))] [])) _
  refine own_by (fun _ k => XS.iloadN X0.here hx rfl (hb hby d_rm_pick8_26) rfl k) ?_
  show own_Go p e below (s₁.setTop (mkF m 27 #[.val (.int (8 : Int32))] [(.int (8 : Int32))])) _
  refine own_by (fun _ k => XS.iconst X0.here hx rfl (hb hby d_rm_pick8_27) k) ?_
  show own_Go p e below (s₁.setTop (mkF m 28 #[.val (.int (8 : Int32))] [(.int (3 : Int32)), (.int (8 : Int32))])) _
  refine own_by (fun _ k => XS.icmpYes X0.here hx rfl (pc0 := 28) (pc' := 35) rfl (hb hby d_rm_pick8_28) rfl (feq (by decide : ¬ ((8 : Int32) = (3 : Int32)))).2 (by decide) (by decide) k) ?_
  show own_Go p e below (s₁.setTop (mkF m 35 #[.val (.int (8 : Int32))] [])) _
  refine own_by (fun _ k => XS.iloadN X0.here hx rfl (hb hby d_rm_pick8_35) rfl k) ?_
  show own_Go p e below (s₁.setTop (mkF m 36 #[.val (.int (8 : Int32))] [(.int (8 : Int32))])) _
  refine own_by (fun _ k => XS.iconst X0.here hx rfl (hb hby d_rm_pick8_36) k) ?_
  show own_Go p e below (s₁.setTop (mkF m 37 #[.val (.int (8 : Int32))] [(.int (4 : Int32)), (.int (8 : Int32))])) _
  refine own_by (fun _ k => XS.icmpYes X0.here hx rfl (pc0 := 37) (pc' := 44) rfl (hb hby d_rm_pick8_37) rfl (feq (by decide : ¬ ((8 : Int32) = (4 : Int32)))).2 (by decide) (by decide) k) ?_
  show own_Go p e below (s₁.setTop (mkF m 44 #[.val (.int (8 : Int32))] [])) _
  refine own_by (fun _ k => XS.iloadN X0.here hx rfl (hb hby d_rm_pick8_44) rfl k) ?_
  show own_Go p e below (s₁.setTop (mkF m 45 #[.val (.int (8 : Int32))] [(.int (8 : Int32))])) _
  refine own_by (fun _ k => XS.iconst X0.here hx rfl (hb hby d_rm_pick8_45) k) ?_
  show own_Go p e below (s₁.setTop (mkF m 46 #[.val (.int (8 : Int32))] [(.int (5 : Int32)), (.int (8 : Int32))])) _
  refine own_by (fun _ k => XS.icmpYes X0.here hx rfl (pc0 := 46) (pc' := 53) rfl (hb hby d_rm_pick8_46) rfl (feq (by decide : ¬ ((8 : Int32) = (5 : Int32)))).2 (by decide) (by decide) k) ?_
  show own_Go p e below (s₁.setTop (mkF m 53 #[.val (.int (8 : Int32))] [])) _
  refine own_by (fun _ k => XS.iloadN X0.here hx rfl (hb hby d_rm_pick8_53) rfl k) ?_
  show own_Go p e below (s₁.setTop (mkF m 54 #[.val (.int (8 : Int32))] [(.int (8 : Int32))])) _
  refine own_by (fun _ k => XS.bipush X0.here hx rfl (hb hby d_rm_pick8_54) k) ?_
  show own_Go p e below (s₁.setTop (mkF m 56 #[.val (.int (8 : Int32))] [(.int (6 : Int32)), (.int (8 : Int32))])) _
  refine own_by (fun _ k => XS.icmpYes X0.here hx rfl (pc0 := 56) (pc' := 63) rfl (hb hby d_rm_pick8_56) rfl (feq (by decide : ¬ ((8 : Int32) = (6 : Int32)))).2 (by decide) (by decide) k) ?_
  show own_Go p e below (s₁.setTop (mkF m 63 #[.val (.int (8 : Int32))] [])) _
  refine own_by (fun _ k => XS.iloadN X0.here hx rfl (hb hby d_rm_pick8_63) rfl k) ?_
  show own_Go p e below (s₁.setTop (mkF m 64 #[.val (.int (8 : Int32))] [(.int (8 : Int32))])) _
  refine own_by (fun _ k => XS.bipush X0.here hx rfl (hb hby d_rm_pick8_64) k) ?_
  show own_Go p e below (s₁.setTop (mkF m 66 #[.val (.int (8 : Int32))] [(.int (7 : Int32)), (.int (8 : Int32))])) _
  refine own_by (fun _ k => XS.icmpYes X0.here hx rfl (pc0 := 66) (pc' := 73) rfl (hb hby d_rm_pick8_66) rfl (feq (by decide : ¬ ((8 : Int32) = (7 : Int32)))).2 (by decide) (by decide) k) ?_
  show own_Go p e below (s₁.setTop (mkF m 73 #[.val (.int (8 : Int32))] [])) _
  refine own_by (fun _ k => XS.iloadN X0.here hx rfl (hb hby d_rm_pick8_73) rfl k) ?_
  show own_Go p e below (s₁.setTop (mkF m 74 #[.val (.int (8 : Int32))] [(.int (8 : Int32))])) _
  refine own_by (fun _ k => XS.bipush X0.here hx rfl (hb hby d_rm_pick8_74) k) ?_
  show own_Go p e below (s₁.setTop (mkF m 76 #[.val (.int (8 : Int32))] [(.int (8 : Int32)), (.int (8 : Int32))])) _
  refine own_by (fun _ k => XS.icmpNo X0.here hx rfl (hb hby d_rm_pick8_76) rfl (teq (by decide : (8 : Int32) = (8 : Int32))).2 k) ?_
  show own_Go p e below (s₁.setTop (mkF m 79 #[.val (.int (8 : Int32))] [])) _
  obtain ⟨T1, X1, e1, st1⟩ := getS2 X0 hx hZ hown (host := "") (Or.inl (hw _ (List.mem_of_getElem? (i := 28) rfl))) Via.refl e0 (S_ALLOCATE.ext O0.2) (g := (mkF m 79 #[.val (.int (8 : Int32))] [])) rfl (hb hby d_rm_pick8_79)
  refine own_by st1 ?_
  show own_Go p e below (T1.setTop (mkF m 82 #[.val (.int (8 : Int32))] [(.ref a_ALLOCATE)])) _
  obtain ⟨fs, hr, hrun, hended, hW, hsame⟩ := X1.leave (v := some (.ref a_ALLOCATE)) (fun h => by rw [Bd.returns] at h; cases h)
  refine ⟨_, _, retOut X1 hx Bd.returns (own_narrow_ref (by decide) rfl) (Or.inr (Or.inr (Or.inr (Or.inr ⟨rfl, by decide, rfl⟩)))) (hb hby d_rm_pick8_82) hr, hrun, hended, _, _, rfl, ?_, ⟨_, rfl⟩, hW, hsame.mono (by decide) (by decide)⟩
  show Q_rm_pick8 Z a_ALLOCATE h0 n0 _ T1.heap _
  rw [e1]
  exact ⟨rfl, N0, rfl⟩
theorem d_rm_exp8_0 : decode method_4_code 0 = .ok (.iload_n 0, 1) := by decide +kernel
theorem d_rm_exp8_1 : decode method_4_code 1 = .ok (.ifCond .ne 18, 3) := by decide +kernel
theorem d_rm_exp8_19 : decode method_4_code 19 = .ok (.iload_n 0, 1) := by decide +kernel
theorem d_rm_exp8_20 : decode method_4_code 20 = .ok (.iconst 1, 1) := by decide +kernel
theorem d_rm_exp8_21 : decode method_4_code 21 = .ok (.if_icmp .ne 14, 3) := by decide +kernel
theorem d_rm_exp8_35 : decode method_4_code 35 = .ok (.iload_n 0, 1) := by decide +kernel
theorem d_rm_exp8_36 : decode method_4_code 36 = .ok (.iconst 2, 1) := by decide +kernel
theorem d_rm_exp8_37 : decode method_4_code 37 = .ok (.if_icmp .ne 13, 3) := by decide +kernel
theorem d_rm_exp8_50 : decode method_4_code 50 = .ok (.iload_n 0, 1) := by decide +kernel
theorem d_rm_exp8_51 : decode method_4_code 51 = .ok (.iconst 3, 1) := by decide +kernel
theorem d_rm_exp8_52 : decode method_4_code 52 = .ok (.if_icmp .ne 29, 3) := by decide +kernel
theorem d_rm_exp8_81 : decode method_4_code 81 = .ok (.iload_n 0, 1) := by decide +kernel
theorem d_rm_exp8_82 : decode method_4_code 82 = .ok (.iconst 4, 1) := by decide +kernel
theorem d_rm_exp8_83 : decode method_4_code 83 = .ok (.if_icmp .ne 19, 3) := by decide +kernel
theorem d_rm_exp8_102 : decode method_4_code 102 = .ok (.iload_n 0, 1) := by decide +kernel
theorem d_rm_exp8_103 : decode method_4_code 103 = .ok (.iconst 5, 1) := by decide +kernel
theorem d_rm_exp8_104 : decode method_4_code 104 = .ok (.if_icmp .ne 14, 3) := by decide +kernel
theorem d_rm_exp8_118 : decode method_4_code 118 = .ok (.iload_n 0, 1) := by decide +kernel
theorem d_rm_exp8_119 : decode method_4_code 119 = .ok (.bipush 6, 2) := by decide +kernel
theorem d_rm_exp8_121 : decode method_4_code 121 = .ok (.if_icmp .ne 13, 3) := by decide +kernel
theorem d_rm_exp8_134 : decode method_4_code 134 = .ok (.iload_n 0, 1) := by decide +kernel
theorem d_rm_exp8_135 : decode method_4_code 135 = .ok (.bipush 7, 2) := by decide +kernel
theorem d_rm_exp8_137 : decode method_4_code 137 = .ok (.if_icmp .ne 13, 3) := by decide +kernel
theorem d_rm_exp8_150 : decode method_4_code 150 = .ok (.iload_n 0, 1) := by decide +kernel
theorem d_rm_exp8_151 : decode method_4_code 151 = .ok (.bipush 8, 2) := by decide +kernel
theorem d_rm_exp8_153 : decode method_4_code 153 = .ok (.if_icmp .ne 19, 3) := by decide +kernel
theorem d_rm_exp8_156 : decode method_4_code 156 = .ok (.iload_n 1, 1) := by decide +kernel
theorem d_rm_exp8_157 : decode method_4_code 157 = .ok (.iconst 1, 1) := by decide +kernel
theorem d_rm_exp8_158 : decode method_4_code 158 = .ok (.if_icmp .eq 8, 3) := by decide +kernel
theorem d_rm_exp8_161 : decode method_4_code 161 = .ok (.iload_n 1, 1) := by decide +kernel
theorem d_rm_exp8_162 : decode method_4_code 162 = .ok (.iconst 2, 1) := by decide +kernel
theorem d_rm_exp8_163 : decode method_4_code 163 = .ok (.if_icmp .ne 7, 3) := by decide +kernel
theorem d_rm_exp8_166 : decode method_4_code 166 = .ok (.iconst 1, 1) := by decide +kernel
theorem d_rm_exp8_167 : decode method_4_code 167 = .ok (.goto 4, 3) := by decide +kernel
theorem d_rm_exp8_170 : decode method_4_code 170 = .ok (.iconst 0, 1) := by decide +kernel
theorem d_rm_exp8_171 : decode method_4_code 171 = .ok (.ireturn, 1) := by decide +kernel
def Q_rm_exp8 (Z : State) (n1 : Int32) (h0 : Heap) (n0 : Nat) (v : Option Value) (h : Heap) (L : List Loc) : Prop := v = some (.int (own_takes n1 (1 : Int32) (2 : Int32))) ∧ Fr n0 L ∧ h = h0
theorem ef_rm_exp8 (m : MethodId) (n1 : Int32) : entryFrame m #[(.int (8 : Int32)), (.int n1)] 2 = mkF m 0 #[.val (.int (8 : Int32)), .val (.int n1)] [] := by first | (simp [entryFrame, mkF, argsToLocals, Value.category]; done) | rfl
set_option maxRecDepth 65536 in
set_option maxHeartbeats 40000000 in
theorem rm_exp8 (l : Launch) (Z : State) (a0 : Array Value) (hw : ∀ d ∈ tables_1, d.before a0 Z = true) (ws : List Jvm.Cond) (n1 : Int32) (h0 : Heap) (n0 : Nat) (O0 : Old Z n0 h0) :
    MetFree l (⟨"com/example/admit1/admit1/server/CommandTakesPinLaw", "expected", "(II)Z"⟩ : MethodName) (head1 (Jvm.Cond.code (⟨"com/example/admit1/admit1/server/CommandTakesPinLaw", "expected", "(II)Z"⟩ : MethodName) method_4_code 2 (some .boolean) :: ws) ({ frames := 0, cells := 0, slots := 0, locals := 0 } : Room)) (fun a U => a = #[(.int (8 : Int32)), (.int n1)] ∧ Z.Warmed39 U.vm ∧ U.heap = h0) (fun _ _ _ _ _ => True) (fun _ U o U' => ∃ v L, o = .returned v ∧ Q_rm_exp8 Z n1 h0 n0 v U'.heap L ∧ FrameEnd U o U' L ({ frames := 0, cells := 0, slots := 0, locals := 0 } : Room).cells ({ frames := 0, cells := 0, slots := 0, locals := 0 } : Room).slots) := by
  refine MetFree.of_bodySF (plainFor_of_name own_pn_com_example_admit1_admit1_server_CommandTakesPinLaw) hisR ?_
  intro p e s m args below meth c s₁ Bd hml0 hP hK
  obtain ⟨rfl, hZ, hh⟩ := hP
  have hx := Bd.exec
  have hby := Bd.bytes
  have hml : c.maxLocals = 2 := hml0
  have hown : s.vm.findClass "com/example/admit1/admit1/server/CommandTakesPinLaw" = some m.cls := findClass_of_methodNamed Bd.named
  have hnm := (name_of_methodNamed Bd.named Bd.method).1
  have X0 : Stand p l e ({ frames := 0, cells := 0, slots := 0, locals := 0 } : Room) s m #[(.int (8 : Int32)), (.int n1)] below meth c s₁ [] 0 0 := Stand.of_body Bd
  have e0 : s₁.heap = h0 := by rw [← hh, Bd.state]; rfl
  have N0 := Fr.nil n0
  have Z0 : n0 ≤ h0.size := by rw [← O0.1]; exact O0.2.1
  show own_Go p e below (s₁.setTop (entryFrame m #[(.int (8 : Int32)), (.int n1)] 2)) (fun t o => ∃ v L, o = .returned v ∧ Q_rm_exp8 Z n1 h0 n0 v t.heap L ∧ FrameEnd s o t L ({ frames := 0, cells := 0, slots := 0, locals := 0 } : Room).cells ({ frames := 0, cells := 0, slots := 0, locals := 0 } : Room).slots)
  rw [ef_rm_exp8 m n1]
  refine own_by (fun _ k => XS.iloadN X0.here hx rfl (hb hby d_rm_exp8_0) rfl k) ?_
  show own_Go p e below (s₁.setTop (mkF m 1 #[.val (.int (8 : Int32)), .val (.int n1)] [(.int (8 : Int32))])) _
  refine own_by (fun _ k => XS.ifYes X0.here hx rfl (pc0 := 1) (pc' := 19) rfl (hb hby d_rm_exp8_1) rfl ((if0 _ _).trans (feq (by decide : ¬ ((8 : Int32) = (0 : Int32)))).2) (by decide) (by decide) k) ?_
  show own_Go p e below (s₁.setTop (mkF m 19 #[.val (.int (8 : Int32)), .val (.int n1)] [])) _
  refine own_by (fun _ k => XS.iloadN X0.here hx rfl (hb hby d_rm_exp8_19) rfl k) ?_
  show own_Go p e below (s₁.setTop (mkF m 20 #[.val (.int (8 : Int32)), .val (.int n1)] [(.int (8 : Int32))])) _
  refine own_by (fun _ k => XS.iconst X0.here hx rfl (hb hby d_rm_exp8_20) k) ?_
  show own_Go p e below (s₁.setTop (mkF m 21 #[.val (.int (8 : Int32)), .val (.int n1)] [(.int (1 : Int32)), (.int (8 : Int32))])) _
  refine own_by (fun _ k => XS.icmpYes X0.here hx rfl (pc0 := 21) (pc' := 35) rfl (hb hby d_rm_exp8_21) rfl (feq (by decide : ¬ ((8 : Int32) = (1 : Int32)))).2 (by decide) (by decide) k) ?_
  show own_Go p e below (s₁.setTop (mkF m 35 #[.val (.int (8 : Int32)), .val (.int n1)] [])) _
  refine own_by (fun _ k => XS.iloadN X0.here hx rfl (hb hby d_rm_exp8_35) rfl k) ?_
  show own_Go p e below (s₁.setTop (mkF m 36 #[.val (.int (8 : Int32)), .val (.int n1)] [(.int (8 : Int32))])) _
  refine own_by (fun _ k => XS.iconst X0.here hx rfl (hb hby d_rm_exp8_36) k) ?_
  show own_Go p e below (s₁.setTop (mkF m 37 #[.val (.int (8 : Int32)), .val (.int n1)] [(.int (2 : Int32)), (.int (8 : Int32))])) _
  refine own_by (fun _ k => XS.icmpYes X0.here hx rfl (pc0 := 37) (pc' := 50) rfl (hb hby d_rm_exp8_37) rfl (feq (by decide : ¬ ((8 : Int32) = (2 : Int32)))).2 (by decide) (by decide) k) ?_
  show own_Go p e below (s₁.setTop (mkF m 50 #[.val (.int (8 : Int32)), .val (.int n1)] [])) _
  refine own_by (fun _ k => XS.iloadN X0.here hx rfl (hb hby d_rm_exp8_50) rfl k) ?_
  show own_Go p e below (s₁.setTop (mkF m 51 #[.val (.int (8 : Int32)), .val (.int n1)] [(.int (8 : Int32))])) _
  refine own_by (fun _ k => XS.iconst X0.here hx rfl (hb hby d_rm_exp8_51) k) ?_
  show own_Go p e below (s₁.setTop (mkF m 52 #[.val (.int (8 : Int32)), .val (.int n1)] [(.int (3 : Int32)), (.int (8 : Int32))])) _
  refine own_by (fun _ k => XS.icmpYes X0.here hx rfl (pc0 := 52) (pc' := 81) rfl (hb hby d_rm_exp8_52) rfl (feq (by decide : ¬ ((8 : Int32) = (3 : Int32)))).2 (by decide) (by decide) k) ?_
  show own_Go p e below (s₁.setTop (mkF m 81 #[.val (.int (8 : Int32)), .val (.int n1)] [])) _
  refine own_by (fun _ k => XS.iloadN X0.here hx rfl (hb hby d_rm_exp8_81) rfl k) ?_
  show own_Go p e below (s₁.setTop (mkF m 82 #[.val (.int (8 : Int32)), .val (.int n1)] [(.int (8 : Int32))])) _
  refine own_by (fun _ k => XS.iconst X0.here hx rfl (hb hby d_rm_exp8_82) k) ?_
  show own_Go p e below (s₁.setTop (mkF m 83 #[.val (.int (8 : Int32)), .val (.int n1)] [(.int (4 : Int32)), (.int (8 : Int32))])) _
  refine own_by (fun _ k => XS.icmpYes X0.here hx rfl (pc0 := 83) (pc' := 102) rfl (hb hby d_rm_exp8_83) rfl (feq (by decide : ¬ ((8 : Int32) = (4 : Int32)))).2 (by decide) (by decide) k) ?_
  show own_Go p e below (s₁.setTop (mkF m 102 #[.val (.int (8 : Int32)), .val (.int n1)] [])) _
  refine own_by (fun _ k => XS.iloadN X0.here hx rfl (hb hby d_rm_exp8_102) rfl k) ?_
  show own_Go p e below (s₁.setTop (mkF m 103 #[.val (.int (8 : Int32)), .val (.int n1)] [(.int (8 : Int32))])) _
  refine own_by (fun _ k => XS.iconst X0.here hx rfl (hb hby d_rm_exp8_103) k) ?_
  show own_Go p e below (s₁.setTop (mkF m 104 #[.val (.int (8 : Int32)), .val (.int n1)] [(.int (5 : Int32)), (.int (8 : Int32))])) _
  refine own_by (fun _ k => XS.icmpYes X0.here hx rfl (pc0 := 104) (pc' := 118) rfl (hb hby d_rm_exp8_104) rfl (feq (by decide : ¬ ((8 : Int32) = (5 : Int32)))).2 (by decide) (by decide) k) ?_
  show own_Go p e below (s₁.setTop (mkF m 118 #[.val (.int (8 : Int32)), .val (.int n1)] [])) _
  refine own_by (fun _ k => XS.iloadN X0.here hx rfl (hb hby d_rm_exp8_118) rfl k) ?_
  show own_Go p e below (s₁.setTop (mkF m 119 #[.val (.int (8 : Int32)), .val (.int n1)] [(.int (8 : Int32))])) _
  refine own_by (fun _ k => XS.bipush X0.here hx rfl (hb hby d_rm_exp8_119) k) ?_
  show own_Go p e below (s₁.setTop (mkF m 121 #[.val (.int (8 : Int32)), .val (.int n1)] [(.int (6 : Int32)), (.int (8 : Int32))])) _
  refine own_by (fun _ k => XS.icmpYes X0.here hx rfl (pc0 := 121) (pc' := 134) rfl (hb hby d_rm_exp8_121) rfl (feq (by decide : ¬ ((8 : Int32) = (6 : Int32)))).2 (by decide) (by decide) k) ?_
  show own_Go p e below (s₁.setTop (mkF m 134 #[.val (.int (8 : Int32)), .val (.int n1)] [])) _
  refine own_by (fun _ k => XS.iloadN X0.here hx rfl (hb hby d_rm_exp8_134) rfl k) ?_
  show own_Go p e below (s₁.setTop (mkF m 135 #[.val (.int (8 : Int32)), .val (.int n1)] [(.int (8 : Int32))])) _
  refine own_by (fun _ k => XS.bipush X0.here hx rfl (hb hby d_rm_exp8_135) k) ?_
  show own_Go p e below (s₁.setTop (mkF m 137 #[.val (.int (8 : Int32)), .val (.int n1)] [(.int (7 : Int32)), (.int (8 : Int32))])) _
  refine own_by (fun _ k => XS.icmpYes X0.here hx rfl (pc0 := 137) (pc' := 150) rfl (hb hby d_rm_exp8_137) rfl (feq (by decide : ¬ ((8 : Int32) = (7 : Int32)))).2 (by decide) (by decide) k) ?_
  show own_Go p e below (s₁.setTop (mkF m 150 #[.val (.int (8 : Int32)), .val (.int n1)] [])) _
  refine own_by (fun _ k => XS.iloadN X0.here hx rfl (hb hby d_rm_exp8_150) rfl k) ?_
  show own_Go p e below (s₁.setTop (mkF m 151 #[.val (.int (8 : Int32)), .val (.int n1)] [(.int (8 : Int32))])) _
  refine own_by (fun _ k => XS.bipush X0.here hx rfl (hb hby d_rm_exp8_151) k) ?_
  show own_Go p e below (s₁.setTop (mkF m 153 #[.val (.int (8 : Int32)), .val (.int n1)] [(.int (8 : Int32)), (.int (8 : Int32))])) _
  refine own_by (fun _ k => XS.icmpNo X0.here hx rfl (hb hby d_rm_exp8_153) rfl (teq (by decide : (8 : Int32) = (8 : Int32))).2 k) ?_
  show own_Go p e below (s₁.setTop (mkF m 156 #[.val (.int (8 : Int32)), .val (.int n1)] [])) _
  refine own_by (fun _ k => XS.iloadN X0.here hx rfl (hb hby d_rm_exp8_156) rfl k) ?_
  show own_Go p e below (s₁.setTop (mkF m 157 #[.val (.int (8 : Int32)), .val (.int n1)] [(.int n1)])) _
  refine own_by (fun _ k => XS.iconst X0.here hx rfl (hb hby d_rm_exp8_157) k) ?_
  show own_Go p e below (s₁.setTop (mkF m 158 #[.val (.int (8 : Int32)), .val (.int n1)] [(.int (1 : Int32)), (.int n1)])) _
  by_cases c1 : n1 = (1 : Int32)
  · skip
    refine own_by (fun _ k => XS.icmpYes X0.here hx rfl (pc0 := 158) (pc' := 166) rfl (hb hby d_rm_exp8_158) rfl (teq c1).1 (by decide) (by decide) k) ?_
    show own_Go p e below (s₁.setTop (mkF m 166 #[.val (.int (8 : Int32)), .val (.int n1)] [])) _
    refine own_by (fun _ k => XS.iconst X0.here hx rfl (hb hby d_rm_exp8_166) k) ?_
    show own_Go p e below (s₁.setTop (mkF m 167 #[.val (.int (8 : Int32)), .val (.int n1)] [(.int (1 : Int32))])) _
    refine own_by (fun _ k => XS.goto X0.here hx rfl (pc0 := 167) (pc' := 171) rfl (hb hby d_rm_exp8_167) (by decide) (by decide) k) ?_
    show own_Go p e below (s₁.setTop (mkF m 171 #[.val (.int (8 : Int32)), .val (.int n1)] [(.int (1 : Int32))])) _
    obtain ⟨fs, hr, hrun, hended, hW, hsame⟩ := X0.leave (v := some (.int (1 : Int32))) (fun h => by rw [Bd.returns] at h; cases h)
    refine ⟨_, _, retN X0 hx (t := .boolean) Bd.returns (by simp) (hb hby d_rm_exp8_171) hr, hrun, hended, _, _, rfl, ?_, ⟨_, rfl⟩, hW, hsame.mono (by decide) (by decide)⟩
    show Q_rm_exp8 Z n1 h0 n0 _ s₁.heap _
    rw [e0]
    exact ⟨(by first | (congr 2; unfold own_takes; split <;> (try split) <;> simp_all [Int32.lt_iff_toInt_lt, ← Int32.toInt_inj] <;> omega)), N0, rfl⟩
  · skip
    refine own_by (fun _ k => XS.icmpNo X0.here hx rfl (hb hby d_rm_exp8_158) rfl (feq c1).1 k) ?_
    show own_Go p e below (s₁.setTop (mkF m 161 #[.val (.int (8 : Int32)), .val (.int n1)] [])) _
    refine own_by (fun _ k => XS.iloadN X0.here hx rfl (hb hby d_rm_exp8_161) rfl k) ?_
    show own_Go p e below (s₁.setTop (mkF m 162 #[.val (.int (8 : Int32)), .val (.int n1)] [(.int n1)])) _
    refine own_by (fun _ k => XS.iconst X0.here hx rfl (hb hby d_rm_exp8_162) k) ?_
    show own_Go p e below (s₁.setTop (mkF m 163 #[.val (.int (8 : Int32)), .val (.int n1)] [(.int (2 : Int32)), (.int n1)])) _
    by_cases c2 : n1 = (2 : Int32)
    · skip
      refine own_by (fun _ k => XS.icmpNo X0.here hx rfl (hb hby d_rm_exp8_163) rfl (teq c2).2 k) ?_
      show own_Go p e below (s₁.setTop (mkF m 166 #[.val (.int (8 : Int32)), .val (.int n1)] [])) _
      refine own_by (fun _ k => XS.iconst X0.here hx rfl (hb hby d_rm_exp8_166) k) ?_
      show own_Go p e below (s₁.setTop (mkF m 167 #[.val (.int (8 : Int32)), .val (.int n1)] [(.int (1 : Int32))])) _
      refine own_by (fun _ k => XS.goto X0.here hx rfl (pc0 := 167) (pc' := 171) rfl (hb hby d_rm_exp8_167) (by decide) (by decide) k) ?_
      show own_Go p e below (s₁.setTop (mkF m 171 #[.val (.int (8 : Int32)), .val (.int n1)] [(.int (1 : Int32))])) _
      obtain ⟨fs, hr, hrun, hended, hW, hsame⟩ := X0.leave (v := some (.int (1 : Int32))) (fun h => by rw [Bd.returns] at h; cases h)
      refine ⟨_, _, retN X0 hx (t := .boolean) Bd.returns (by simp) (hb hby d_rm_exp8_171) hr, hrun, hended, _, _, rfl, ?_, ⟨_, rfl⟩, hW, hsame.mono (by decide) (by decide)⟩
      show Q_rm_exp8 Z n1 h0 n0 _ s₁.heap _
      rw [e0]
      exact ⟨(by first | (congr 2; unfold own_takes; split <;> (try split) <;> simp_all [Int32.lt_iff_toInt_lt, ← Int32.toInt_inj] <;> omega)), N0, rfl⟩
    · skip
      refine own_by (fun _ k => XS.icmpYes X0.here hx rfl (pc0 := 163) (pc' := 170) rfl (hb hby d_rm_exp8_163) rfl (feq c2).2 (by decide) (by decide) k) ?_
      show own_Go p e below (s₁.setTop (mkF m 170 #[.val (.int (8 : Int32)), .val (.int n1)] [])) _
      refine own_by (fun _ k => XS.iconst X0.here hx rfl (hb hby d_rm_exp8_170) k) ?_
      show own_Go p e below (s₁.setTop (mkF m 171 #[.val (.int (8 : Int32)), .val (.int n1)] [(.int (0 : Int32))])) _
      obtain ⟨fs, hr, hrun, hended, hW, hsame⟩ := X0.leave (v := some (.int (0 : Int32))) (fun h => by rw [Bd.returns] at h; cases h)
      refine ⟨_, _, retN X0 hx (t := .boolean) Bd.returns (by simp) (hb hby d_rm_exp8_171) hr, hrun, hended, _, _, rfl, ?_, ⟨_, rfl⟩, hW, hsame.mono (by decide) (by decide)⟩
      show Q_rm_exp8 Z n1 h0 n0 _ s₁.heap _
      rw [e0]
      exact ⟨(by first | (congr 2; unfold own_takes; split <;> (try split) <;> simp_all [Int32.lt_iff_toInt_lt, ← Int32.toInt_inj] <;> omega)), N0, rfl⟩
theorem d_rm_pick9_0 : decode method_3_code 0 = .ok (.iload_n 0, 1) := by decide +kernel
theorem d_rm_pick9_1 : decode method_3_code 1 = .ok (.ifCond .ne 7, 3) := by decide +kernel
theorem d_rm_pick9_8 : decode method_3_code 8 = .ok (.iload_n 0, 1) := by decide +kernel
theorem d_rm_pick9_9 : decode method_3_code 9 = .ok (.iconst 1, 1) := by decide +kernel
theorem d_rm_pick9_10 : decode method_3_code 10 = .ok (.if_icmp .ne 7, 3) := by decide +kernel
theorem d_rm_pick9_17 : decode method_3_code 17 = .ok (.iload_n 0, 1) := by decide +kernel
theorem d_rm_pick9_18 : decode method_3_code 18 = .ok (.iconst 2, 1) := by decide +kernel
theorem d_rm_pick9_19 : decode method_3_code 19 = .ok (.if_icmp .ne 7, 3) := by decide +kernel
theorem d_rm_pick9_26 : decode method_3_code 26 = .ok (.iload_n 0, 1) := by decide +kernel
theorem d_rm_pick9_27 : decode method_3_code 27 = .ok (.iconst 3, 1) := by decide +kernel
theorem d_rm_pick9_28 : decode method_3_code 28 = .ok (.if_icmp .ne 7, 3) := by decide +kernel
theorem d_rm_pick9_35 : decode method_3_code 35 = .ok (.iload_n 0, 1) := by decide +kernel
theorem d_rm_pick9_36 : decode method_3_code 36 = .ok (.iconst 4, 1) := by decide +kernel
theorem d_rm_pick9_37 : decode method_3_code 37 = .ok (.if_icmp .ne 7, 3) := by decide +kernel
theorem d_rm_pick9_44 : decode method_3_code 44 = .ok (.iload_n 0, 1) := by decide +kernel
theorem d_rm_pick9_45 : decode method_3_code 45 = .ok (.iconst 5, 1) := by decide +kernel
theorem d_rm_pick9_46 : decode method_3_code 46 = .ok (.if_icmp .ne 7, 3) := by decide +kernel
theorem d_rm_pick9_53 : decode method_3_code 53 = .ok (.iload_n 0, 1) := by decide +kernel
theorem d_rm_pick9_54 : decode method_3_code 54 = .ok (.bipush 6, 2) := by decide +kernel
theorem d_rm_pick9_56 : decode method_3_code 56 = .ok (.if_icmp .ne 7, 3) := by decide +kernel
theorem d_rm_pick9_63 : decode method_3_code 63 = .ok (.iload_n 0, 1) := by decide +kernel
theorem d_rm_pick9_64 : decode method_3_code 64 = .ok (.bipush 7, 2) := by decide +kernel
theorem d_rm_pick9_66 : decode method_3_code 66 = .ok (.if_icmp .ne 7, 3) := by decide +kernel
theorem d_rm_pick9_73 : decode method_3_code 73 = .ok (.iload_n 0, 1) := by decide +kernel
theorem d_rm_pick9_74 : decode method_3_code 74 = .ok (.bipush 8, 2) := by decide +kernel
theorem d_rm_pick9_76 : decode method_3_code 76 = .ok (.if_icmp .ne 7, 3) := by decide +kernel
theorem d_rm_pick9_83 : decode method_3_code 83 = .ok (.iload_n 0, 1) := by decide +kernel
theorem d_rm_pick9_84 : decode method_3_code 84 = .ok (.bipush 9, 2) := by decide +kernel
theorem d_rm_pick9_86 : decode method_3_code 86 = .ok (.if_icmp .ne 7, 3) := by decide +kernel
theorem d_rm_pick9_89 : decode method_3_code 89 = .ok (.getstatic 52, 3) := by decide +kernel
theorem d_rm_pick9_92 : decode method_3_code 92 = .ok (.areturn, 1) := by decide +kernel
def Q_rm_pick9 (Z : State) (a_ALLOCATED : Addr) (h0 : Heap) (n0 : Nat) (v : Option Value) (h : Heap) (L : List Loc) : Prop := v = some (.ref a_ALLOCATED) ∧ Fr n0 L ∧ h = h0
theorem ef_rm_pick9 (m : MethodId) (a_ALLOCATED : Addr) : entryFrame m #[(.int (9 : Int32))] 1 = mkF m 0 #[.val (.int (9 : Int32))] [] := by first | (simp [entryFrame, mkF, argsToLocals, Value.category]; done) | rfl
set_option maxRecDepth 65536 in
set_option maxHeartbeats 40000000 in
theorem rm_pick9 (l : Launch) (Z : State) (a0 : Array Value) (hw : ∀ d ∈ tables_1, d.before a0 Z = true) (ws : List Jvm.Cond) (a_ALLOCATED : Addr) (h0 : Heap) (n0 : Nat) (O0 : Old Z n0 h0) (S_ALLOCATED : Sta Z Z.heap "com/example/admit1/admit1/server/Command" "ALLOCATED" "Lcom/example/admit1/admit1/server/Command;" (.ref a_ALLOCATED)) :
    MetFree l (⟨"com/example/admit1/admit1/server/CommandTakesPinLaw", "pick", "(I)Lcom/example/admit1/admit1/server/Command;"⟩ : MethodName) (head1 (Jvm.Cond.code (⟨"com/example/admit1/admit1/server/CommandTakesPinLaw", "pick", "(I)Lcom/example/admit1/admit1/server/Command;"⟩ : MethodName) method_3_code 1 (some (.object "com/example/admit1/admit1/server/Command")) :: ws) ({ frames := 0, cells := 0, slots := 0, locals := 0 } : Room)) (fun a U => a = #[(.int (9 : Int32))] ∧ Z.Warmed39 U.vm ∧ U.heap = h0) (fun _ _ _ _ _ => True) (fun _ U o U' => ∃ v L, o = .returned v ∧ Q_rm_pick9 Z a_ALLOCATED h0 n0 v U'.heap L ∧ FrameEnd U o U' L ({ frames := 0, cells := 0, slots := 0, locals := 0 } : Room).cells ({ frames := 0, cells := 0, slots := 0, locals := 0 } : Room).slots) := by
  refine MetFree.of_bodySF (plainFor_of_name own_pn_com_example_admit1_admit1_server_CommandTakesPinLaw) hisR ?_
  intro p e s m args below meth c s₁ Bd hml0 hP hK
  obtain ⟨rfl, hZ, hh⟩ := hP
  have hx := Bd.exec
  have hby := Bd.bytes
  have hml : c.maxLocals = 1 := hml0
  have hown : s.vm.findClass "com/example/admit1/admit1/server/CommandTakesPinLaw" = some m.cls := findClass_of_methodNamed Bd.named
  have hnm := (name_of_methodNamed Bd.named Bd.method).1
  have X0 : Stand p l e ({ frames := 0, cells := 0, slots := 0, locals := 0 } : Room) s m #[(.int (9 : Int32))] below meth c s₁ [] 0 0 := Stand.of_body Bd
  have e0 : s₁.heap = h0 := by rw [← hh, Bd.state]; rfl
  have N0 := Fr.nil n0
  have Z0 : n0 ≤ h0.size := by rw [← O0.1]; exact O0.2.1
  show own_Go p e below (s₁.setTop (entryFrame m #[(.int (9 : Int32))] 1)) (fun t o => ∃ v L, o = .returned v ∧ Q_rm_pick9 Z a_ALLOCATED h0 n0 v t.heap L ∧ FrameEnd s o t L ({ frames := 0, cells := 0, slots := 0, locals := 0 } : Room).cells ({ frames := 0, cells := 0, slots := 0, locals := 0 } : Room).slots)
  rw [ef_rm_pick9 m a_ALLOCATED]
  refine own_by (fun _ k => XS.iloadN X0.here hx rfl (hb hby d_rm_pick9_0) rfl k) ?_
  show own_Go p e below (s₁.setTop (mkF m 1 #[.val (.int (9 : Int32))] [(.int (9 : Int32))])) _
  refine own_by (fun _ k => XS.ifYes X0.here hx rfl (pc0 := 1) (pc' := 8) rfl (hb hby d_rm_pick9_1) rfl ((if0 _ _).trans (feq (by decide : ¬ ((9 : Int32) = (0 : Int32)))).2) (by decide) (by decide) k) ?_
  show own_Go p e below (s₁.setTop (mkF m 8 #[.val (.int (9 : Int32))] [])) _
  refine own_by (fun _ k => XS.iloadN X0.here hx rfl (hb hby d_rm_pick9_8) rfl k) ?_
  show own_Go p e below (s₁.setTop (mkF m 9 #[.val (.int (9 : Int32))] [(.int (9 : Int32))])) _
  refine own_by (fun _ k => XS.iconst X0.here hx rfl (hb hby d_rm_pick9_9) k) ?_
  show own_Go p e below (s₁.setTop (mkF m 10 #[.val (.int (9 : Int32))] [(.int (1 : Int32)), (.int (9 : Int32))])) _
  refine own_by (fun _ k => XS.icmpYes X0.here hx rfl (pc0 := 10) (pc' := 17) rfl (hb hby d_rm_pick9_10) rfl (feq (by decide : ¬ ((9 : Int32) = (1 : Int32)))).2 (by decide) (by decide) k) ?_
  show own_Go p e below (s₁.setTop (mkF m 17 #[.val (.int (9 : Int32))] [])) _
  refine own_by (fun _ k => XS.iloadN X0.here hx rfl (hb hby d_rm_pick9_17) rfl k) ?_
  show own_Go p e below (s₁.setTop (mkF m 18 #[.val (.int (9 : Int32))] [(.int (9 : Int32))])) _
  refine own_by (fun _ k => XS.iconst X0.here hx rfl (hb hby d_rm_pick9_18) k) ?_
  show own_Go p e below (s₁.setTop (mkF m 19 #[.val (.int (9 : Int32))] [(.int (2 : Int32)), (.int (9 : Int32))])) _
  refine own_by (fun _ k => XS.icmpYes X0.here hx rfl (pc0 := 19) (pc' := 26) rfl (hb hby d_rm_pick9_19) rfl (feq (by decide : ¬ ((9 : Int32) = (2 : Int32)))).2 (by decide) (by decide) k) ?_
  show own_Go p e below (s₁.setTop (mkF m 26 #[.val (.int (9 : Int32))] [])) _
  refine own_by (fun _ k => XS.iloadN X0.here hx rfl (hb hby d_rm_pick9_26) rfl k) ?_
  show own_Go p e below (s₁.setTop (mkF m 27 #[.val (.int (9 : Int32))] [(.int (9 : Int32))])) _
  refine own_by (fun _ k => XS.iconst X0.here hx rfl (hb hby d_rm_pick9_27) k) ?_
  show own_Go p e below (s₁.setTop (mkF m 28 #[.val (.int (9 : Int32))] [(.int (3 : Int32)), (.int (9 : Int32))])) _
  refine own_by (fun _ k => XS.icmpYes X0.here hx rfl (pc0 := 28) (pc' := 35) rfl (hb hby d_rm_pick9_28) rfl (feq (by decide : ¬ ((9 : Int32) = (3 : Int32)))).2 (by decide) (by decide) k) ?_
  show own_Go p e below (s₁.setTop (mkF m 35 #[.val (.int (9 : Int32))] [])) _
  refine own_by (fun _ k => XS.iloadN X0.here hx rfl (hb hby d_rm_pick9_35) rfl k) ?_
  show own_Go p e below (s₁.setTop (mkF m 36 #[.val (.int (9 : Int32))] [(.int (9 : Int32))])) _
  refine own_by (fun _ k => XS.iconst X0.here hx rfl (hb hby d_rm_pick9_36) k) ?_
  show own_Go p e below (s₁.setTop (mkF m 37 #[.val (.int (9 : Int32))] [(.int (4 : Int32)), (.int (9 : Int32))])) _
  refine own_by (fun _ k => XS.icmpYes X0.here hx rfl (pc0 := 37) (pc' := 44) rfl (hb hby d_rm_pick9_37) rfl (feq (by decide : ¬ ((9 : Int32) = (4 : Int32)))).2 (by decide) (by decide) k) ?_
  show own_Go p e below (s₁.setTop (mkF m 44 #[.val (.int (9 : Int32))] [])) _
  refine own_by (fun _ k => XS.iloadN X0.here hx rfl (hb hby d_rm_pick9_44) rfl k) ?_
  show own_Go p e below (s₁.setTop (mkF m 45 #[.val (.int (9 : Int32))] [(.int (9 : Int32))])) _
  refine own_by (fun _ k => XS.iconst X0.here hx rfl (hb hby d_rm_pick9_45) k) ?_
  show own_Go p e below (s₁.setTop (mkF m 46 #[.val (.int (9 : Int32))] [(.int (5 : Int32)), (.int (9 : Int32))])) _
  refine own_by (fun _ k => XS.icmpYes X0.here hx rfl (pc0 := 46) (pc' := 53) rfl (hb hby d_rm_pick9_46) rfl (feq (by decide : ¬ ((9 : Int32) = (5 : Int32)))).2 (by decide) (by decide) k) ?_
  show own_Go p e below (s₁.setTop (mkF m 53 #[.val (.int (9 : Int32))] [])) _
  refine own_by (fun _ k => XS.iloadN X0.here hx rfl (hb hby d_rm_pick9_53) rfl k) ?_
  show own_Go p e below (s₁.setTop (mkF m 54 #[.val (.int (9 : Int32))] [(.int (9 : Int32))])) _
  refine own_by (fun _ k => XS.bipush X0.here hx rfl (hb hby d_rm_pick9_54) k) ?_
  show own_Go p e below (s₁.setTop (mkF m 56 #[.val (.int (9 : Int32))] [(.int (6 : Int32)), (.int (9 : Int32))])) _
  refine own_by (fun _ k => XS.icmpYes X0.here hx rfl (pc0 := 56) (pc' := 63) rfl (hb hby d_rm_pick9_56) rfl (feq (by decide : ¬ ((9 : Int32) = (6 : Int32)))).2 (by decide) (by decide) k) ?_
  show own_Go p e below (s₁.setTop (mkF m 63 #[.val (.int (9 : Int32))] [])) _
  refine own_by (fun _ k => XS.iloadN X0.here hx rfl (hb hby d_rm_pick9_63) rfl k) ?_
  show own_Go p e below (s₁.setTop (mkF m 64 #[.val (.int (9 : Int32))] [(.int (9 : Int32))])) _
  refine own_by (fun _ k => XS.bipush X0.here hx rfl (hb hby d_rm_pick9_64) k) ?_
  show own_Go p e below (s₁.setTop (mkF m 66 #[.val (.int (9 : Int32))] [(.int (7 : Int32)), (.int (9 : Int32))])) _
  refine own_by (fun _ k => XS.icmpYes X0.here hx rfl (pc0 := 66) (pc' := 73) rfl (hb hby d_rm_pick9_66) rfl (feq (by decide : ¬ ((9 : Int32) = (7 : Int32)))).2 (by decide) (by decide) k) ?_
  show own_Go p e below (s₁.setTop (mkF m 73 #[.val (.int (9 : Int32))] [])) _
  refine own_by (fun _ k => XS.iloadN X0.here hx rfl (hb hby d_rm_pick9_73) rfl k) ?_
  show own_Go p e below (s₁.setTop (mkF m 74 #[.val (.int (9 : Int32))] [(.int (9 : Int32))])) _
  refine own_by (fun _ k => XS.bipush X0.here hx rfl (hb hby d_rm_pick9_74) k) ?_
  show own_Go p e below (s₁.setTop (mkF m 76 #[.val (.int (9 : Int32))] [(.int (8 : Int32)), (.int (9 : Int32))])) _
  refine own_by (fun _ k => XS.icmpYes X0.here hx rfl (pc0 := 76) (pc' := 83) rfl (hb hby d_rm_pick9_76) rfl (feq (by decide : ¬ ((9 : Int32) = (8 : Int32)))).2 (by decide) (by decide) k) ?_
  show own_Go p e below (s₁.setTop (mkF m 83 #[.val (.int (9 : Int32))] [])) _
  refine own_by (fun _ k => XS.iloadN X0.here hx rfl (hb hby d_rm_pick9_83) rfl k) ?_
  show own_Go p e below (s₁.setTop (mkF m 84 #[.val (.int (9 : Int32))] [(.int (9 : Int32))])) _
  refine own_by (fun _ k => XS.bipush X0.here hx rfl (hb hby d_rm_pick9_84) k) ?_
  show own_Go p e below (s₁.setTop (mkF m 86 #[.val (.int (9 : Int32))] [(.int (9 : Int32)), (.int (9 : Int32))])) _
  refine own_by (fun _ k => XS.icmpNo X0.here hx rfl (hb hby d_rm_pick9_86) rfl (teq (by decide : (9 : Int32) = (9 : Int32))).2 k) ?_
  show own_Go p e below (s₁.setTop (mkF m 89 #[.val (.int (9 : Int32))] [])) _
  obtain ⟨T1, X1, e1, st1⟩ := getS2 X0 hx hZ hown (host := "") (Or.inl (hw _ (List.mem_of_getElem? (i := 22) rfl))) Via.refl e0 (S_ALLOCATED.ext O0.2) (g := (mkF m 89 #[.val (.int (9 : Int32))] [])) rfl (hb hby d_rm_pick9_89)
  refine own_by st1 ?_
  show own_Go p e below (T1.setTop (mkF m 92 #[.val (.int (9 : Int32))] [(.ref a_ALLOCATED)])) _
  obtain ⟨fs, hr, hrun, hended, hW, hsame⟩ := X1.leave (v := some (.ref a_ALLOCATED)) (fun h => by rw [Bd.returns] at h; cases h)
  refine ⟨_, _, retOut X1 hx Bd.returns (own_narrow_ref (by decide) rfl) (Or.inr (Or.inr (Or.inr (Or.inr ⟨rfl, by decide, rfl⟩)))) (hb hby d_rm_pick9_92) hr, hrun, hended, _, _, rfl, ?_, ⟨_, rfl⟩, hW, hsame.mono (by decide) (by decide)⟩
  show Q_rm_pick9 Z a_ALLOCATED h0 n0 _ T1.heap _
  rw [e1]
  exact ⟨rfl, N0, rfl⟩
theorem d_rm_exp9_0 : decode method_4_code 0 = .ok (.iload_n 0, 1) := by decide +kernel
theorem d_rm_exp9_1 : decode method_4_code 1 = .ok (.ifCond .ne 18, 3) := by decide +kernel
theorem d_rm_exp9_19 : decode method_4_code 19 = .ok (.iload_n 0, 1) := by decide +kernel
theorem d_rm_exp9_20 : decode method_4_code 20 = .ok (.iconst 1, 1) := by decide +kernel
theorem d_rm_exp9_21 : decode method_4_code 21 = .ok (.if_icmp .ne 14, 3) := by decide +kernel
theorem d_rm_exp9_35 : decode method_4_code 35 = .ok (.iload_n 0, 1) := by decide +kernel
theorem d_rm_exp9_36 : decode method_4_code 36 = .ok (.iconst 2, 1) := by decide +kernel
theorem d_rm_exp9_37 : decode method_4_code 37 = .ok (.if_icmp .ne 13, 3) := by decide +kernel
theorem d_rm_exp9_50 : decode method_4_code 50 = .ok (.iload_n 0, 1) := by decide +kernel
theorem d_rm_exp9_51 : decode method_4_code 51 = .ok (.iconst 3, 1) := by decide +kernel
theorem d_rm_exp9_52 : decode method_4_code 52 = .ok (.if_icmp .ne 29, 3) := by decide +kernel
theorem d_rm_exp9_81 : decode method_4_code 81 = .ok (.iload_n 0, 1) := by decide +kernel
theorem d_rm_exp9_82 : decode method_4_code 82 = .ok (.iconst 4, 1) := by decide +kernel
theorem d_rm_exp9_83 : decode method_4_code 83 = .ok (.if_icmp .ne 19, 3) := by decide +kernel
theorem d_rm_exp9_102 : decode method_4_code 102 = .ok (.iload_n 0, 1) := by decide +kernel
theorem d_rm_exp9_103 : decode method_4_code 103 = .ok (.iconst 5, 1) := by decide +kernel
theorem d_rm_exp9_104 : decode method_4_code 104 = .ok (.if_icmp .ne 14, 3) := by decide +kernel
theorem d_rm_exp9_118 : decode method_4_code 118 = .ok (.iload_n 0, 1) := by decide +kernel
theorem d_rm_exp9_119 : decode method_4_code 119 = .ok (.bipush 6, 2) := by decide +kernel
theorem d_rm_exp9_121 : decode method_4_code 121 = .ok (.if_icmp .ne 13, 3) := by decide +kernel
theorem d_rm_exp9_134 : decode method_4_code 134 = .ok (.iload_n 0, 1) := by decide +kernel
theorem d_rm_exp9_135 : decode method_4_code 135 = .ok (.bipush 7, 2) := by decide +kernel
theorem d_rm_exp9_137 : decode method_4_code 137 = .ok (.if_icmp .ne 13, 3) := by decide +kernel
theorem d_rm_exp9_150 : decode method_4_code 150 = .ok (.iload_n 0, 1) := by decide +kernel
theorem d_rm_exp9_151 : decode method_4_code 151 = .ok (.bipush 8, 2) := by decide +kernel
theorem d_rm_exp9_153 : decode method_4_code 153 = .ok (.if_icmp .ne 19, 3) := by decide +kernel
theorem d_rm_exp9_172 : decode method_4_code 172 = .ok (.iload_n 0, 1) := by decide +kernel
theorem d_rm_exp9_173 : decode method_4_code 173 = .ok (.bipush 9, 2) := by decide +kernel
theorem d_rm_exp9_175 : decode method_4_code 175 = .ok (.if_icmp .ne 18, 3) := by decide +kernel
theorem d_rm_exp9_178 : decode method_4_code 178 = .ok (.iload_n 1, 1) := by decide +kernel
theorem d_rm_exp9_179 : decode method_4_code 179 = .ok (.ifCond .eq 8, 3) := by decide +kernel
theorem d_rm_exp9_182 : decode method_4_code 182 = .ok (.iload_n 1, 1) := by decide +kernel
theorem d_rm_exp9_183 : decode method_4_code 183 = .ok (.iconst 1, 1) := by decide +kernel
theorem d_rm_exp9_184 : decode method_4_code 184 = .ok (.if_icmp .ne 7, 3) := by decide +kernel
theorem d_rm_exp9_187 : decode method_4_code 187 = .ok (.iconst 1, 1) := by decide +kernel
theorem d_rm_exp9_188 : decode method_4_code 188 = .ok (.goto 4, 3) := by decide +kernel
theorem d_rm_exp9_191 : decode method_4_code 191 = .ok (.iconst 0, 1) := by decide +kernel
theorem d_rm_exp9_192 : decode method_4_code 192 = .ok (.ireturn, 1) := by decide +kernel
def Q_rm_exp9 (Z : State) (n1 : Int32) (h0 : Heap) (n0 : Nat) (v : Option Value) (h : Heap) (L : List Loc) : Prop := v = some (.int (own_takes n1 (0 : Int32) (1 : Int32))) ∧ Fr n0 L ∧ h = h0
theorem ef_rm_exp9 (m : MethodId) (n1 : Int32) : entryFrame m #[(.int (9 : Int32)), (.int n1)] 2 = mkF m 0 #[.val (.int (9 : Int32)), .val (.int n1)] [] := by first | (simp [entryFrame, mkF, argsToLocals, Value.category]; done) | rfl
set_option maxRecDepth 65536 in
set_option maxHeartbeats 40000000 in
theorem rm_exp9 (l : Launch) (Z : State) (a0 : Array Value) (hw : ∀ d ∈ tables_1, d.before a0 Z = true) (ws : List Jvm.Cond) (n1 : Int32) (h0 : Heap) (n0 : Nat) (O0 : Old Z n0 h0) :
    MetFree l (⟨"com/example/admit1/admit1/server/CommandTakesPinLaw", "expected", "(II)Z"⟩ : MethodName) (head1 (Jvm.Cond.code (⟨"com/example/admit1/admit1/server/CommandTakesPinLaw", "expected", "(II)Z"⟩ : MethodName) method_4_code 2 (some .boolean) :: ws) ({ frames := 0, cells := 0, slots := 0, locals := 0 } : Room)) (fun a U => a = #[(.int (9 : Int32)), (.int n1)] ∧ Z.Warmed39 U.vm ∧ U.heap = h0) (fun _ _ _ _ _ => True) (fun _ U o U' => ∃ v L, o = .returned v ∧ Q_rm_exp9 Z n1 h0 n0 v U'.heap L ∧ FrameEnd U o U' L ({ frames := 0, cells := 0, slots := 0, locals := 0 } : Room).cells ({ frames := 0, cells := 0, slots := 0, locals := 0 } : Room).slots) := by
  refine MetFree.of_bodySF (plainFor_of_name own_pn_com_example_admit1_admit1_server_CommandTakesPinLaw) hisR ?_
  intro p e s m args below meth c s₁ Bd hml0 hP hK
  obtain ⟨rfl, hZ, hh⟩ := hP
  have hx := Bd.exec
  have hby := Bd.bytes
  have hml : c.maxLocals = 2 := hml0
  have hown : s.vm.findClass "com/example/admit1/admit1/server/CommandTakesPinLaw" = some m.cls := findClass_of_methodNamed Bd.named
  have hnm := (name_of_methodNamed Bd.named Bd.method).1
  have X0 : Stand p l e ({ frames := 0, cells := 0, slots := 0, locals := 0 } : Room) s m #[(.int (9 : Int32)), (.int n1)] below meth c s₁ [] 0 0 := Stand.of_body Bd
  have e0 : s₁.heap = h0 := by rw [← hh, Bd.state]; rfl
  have N0 := Fr.nil n0
  have Z0 : n0 ≤ h0.size := by rw [← O0.1]; exact O0.2.1
  show own_Go p e below (s₁.setTop (entryFrame m #[(.int (9 : Int32)), (.int n1)] 2)) (fun t o => ∃ v L, o = .returned v ∧ Q_rm_exp9 Z n1 h0 n0 v t.heap L ∧ FrameEnd s o t L ({ frames := 0, cells := 0, slots := 0, locals := 0 } : Room).cells ({ frames := 0, cells := 0, slots := 0, locals := 0 } : Room).slots)
  rw [ef_rm_exp9 m n1]
  refine own_by (fun _ k => XS.iloadN X0.here hx rfl (hb hby d_rm_exp9_0) rfl k) ?_
  show own_Go p e below (s₁.setTop (mkF m 1 #[.val (.int (9 : Int32)), .val (.int n1)] [(.int (9 : Int32))])) _
  refine own_by (fun _ k => XS.ifYes X0.here hx rfl (pc0 := 1) (pc' := 19) rfl (hb hby d_rm_exp9_1) rfl ((if0 _ _).trans (feq (by decide : ¬ ((9 : Int32) = (0 : Int32)))).2) (by decide) (by decide) k) ?_
  show own_Go p e below (s₁.setTop (mkF m 19 #[.val (.int (9 : Int32)), .val (.int n1)] [])) _
  refine own_by (fun _ k => XS.iloadN X0.here hx rfl (hb hby d_rm_exp9_19) rfl k) ?_
  show own_Go p e below (s₁.setTop (mkF m 20 #[.val (.int (9 : Int32)), .val (.int n1)] [(.int (9 : Int32))])) _
  refine own_by (fun _ k => XS.iconst X0.here hx rfl (hb hby d_rm_exp9_20) k) ?_
  show own_Go p e below (s₁.setTop (mkF m 21 #[.val (.int (9 : Int32)), .val (.int n1)] [(.int (1 : Int32)), (.int (9 : Int32))])) _
  refine own_by (fun _ k => XS.icmpYes X0.here hx rfl (pc0 := 21) (pc' := 35) rfl (hb hby d_rm_exp9_21) rfl (feq (by decide : ¬ ((9 : Int32) = (1 : Int32)))).2 (by decide) (by decide) k) ?_
  show own_Go p e below (s₁.setTop (mkF m 35 #[.val (.int (9 : Int32)), .val (.int n1)] [])) _
  refine own_by (fun _ k => XS.iloadN X0.here hx rfl (hb hby d_rm_exp9_35) rfl k) ?_
  show own_Go p e below (s₁.setTop (mkF m 36 #[.val (.int (9 : Int32)), .val (.int n1)] [(.int (9 : Int32))])) _
  refine own_by (fun _ k => XS.iconst X0.here hx rfl (hb hby d_rm_exp9_36) k) ?_
  show own_Go p e below (s₁.setTop (mkF m 37 #[.val (.int (9 : Int32)), .val (.int n1)] [(.int (2 : Int32)), (.int (9 : Int32))])) _
  refine own_by (fun _ k => XS.icmpYes X0.here hx rfl (pc0 := 37) (pc' := 50) rfl (hb hby d_rm_exp9_37) rfl (feq (by decide : ¬ ((9 : Int32) = (2 : Int32)))).2 (by decide) (by decide) k) ?_
  show own_Go p e below (s₁.setTop (mkF m 50 #[.val (.int (9 : Int32)), .val (.int n1)] [])) _
  refine own_by (fun _ k => XS.iloadN X0.here hx rfl (hb hby d_rm_exp9_50) rfl k) ?_
  show own_Go p e below (s₁.setTop (mkF m 51 #[.val (.int (9 : Int32)), .val (.int n1)] [(.int (9 : Int32))])) _
  refine own_by (fun _ k => XS.iconst X0.here hx rfl (hb hby d_rm_exp9_51) k) ?_
  show own_Go p e below (s₁.setTop (mkF m 52 #[.val (.int (9 : Int32)), .val (.int n1)] [(.int (3 : Int32)), (.int (9 : Int32))])) _
  refine own_by (fun _ k => XS.icmpYes X0.here hx rfl (pc0 := 52) (pc' := 81) rfl (hb hby d_rm_exp9_52) rfl (feq (by decide : ¬ ((9 : Int32) = (3 : Int32)))).2 (by decide) (by decide) k) ?_
  show own_Go p e below (s₁.setTop (mkF m 81 #[.val (.int (9 : Int32)), .val (.int n1)] [])) _
  refine own_by (fun _ k => XS.iloadN X0.here hx rfl (hb hby d_rm_exp9_81) rfl k) ?_
  show own_Go p e below (s₁.setTop (mkF m 82 #[.val (.int (9 : Int32)), .val (.int n1)] [(.int (9 : Int32))])) _
  refine own_by (fun _ k => XS.iconst X0.here hx rfl (hb hby d_rm_exp9_82) k) ?_
  show own_Go p e below (s₁.setTop (mkF m 83 #[.val (.int (9 : Int32)), .val (.int n1)] [(.int (4 : Int32)), (.int (9 : Int32))])) _
  refine own_by (fun _ k => XS.icmpYes X0.here hx rfl (pc0 := 83) (pc' := 102) rfl (hb hby d_rm_exp9_83) rfl (feq (by decide : ¬ ((9 : Int32) = (4 : Int32)))).2 (by decide) (by decide) k) ?_
  show own_Go p e below (s₁.setTop (mkF m 102 #[.val (.int (9 : Int32)), .val (.int n1)] [])) _
  refine own_by (fun _ k => XS.iloadN X0.here hx rfl (hb hby d_rm_exp9_102) rfl k) ?_
  show own_Go p e below (s₁.setTop (mkF m 103 #[.val (.int (9 : Int32)), .val (.int n1)] [(.int (9 : Int32))])) _
  refine own_by (fun _ k => XS.iconst X0.here hx rfl (hb hby d_rm_exp9_103) k) ?_
  show own_Go p e below (s₁.setTop (mkF m 104 #[.val (.int (9 : Int32)), .val (.int n1)] [(.int (5 : Int32)), (.int (9 : Int32))])) _
  refine own_by (fun _ k => XS.icmpYes X0.here hx rfl (pc0 := 104) (pc' := 118) rfl (hb hby d_rm_exp9_104) rfl (feq (by decide : ¬ ((9 : Int32) = (5 : Int32)))).2 (by decide) (by decide) k) ?_
  show own_Go p e below (s₁.setTop (mkF m 118 #[.val (.int (9 : Int32)), .val (.int n1)] [])) _
  refine own_by (fun _ k => XS.iloadN X0.here hx rfl (hb hby d_rm_exp9_118) rfl k) ?_
  show own_Go p e below (s₁.setTop (mkF m 119 #[.val (.int (9 : Int32)), .val (.int n1)] [(.int (9 : Int32))])) _
  refine own_by (fun _ k => XS.bipush X0.here hx rfl (hb hby d_rm_exp9_119) k) ?_
  show own_Go p e below (s₁.setTop (mkF m 121 #[.val (.int (9 : Int32)), .val (.int n1)] [(.int (6 : Int32)), (.int (9 : Int32))])) _
  refine own_by (fun _ k => XS.icmpYes X0.here hx rfl (pc0 := 121) (pc' := 134) rfl (hb hby d_rm_exp9_121) rfl (feq (by decide : ¬ ((9 : Int32) = (6 : Int32)))).2 (by decide) (by decide) k) ?_
  show own_Go p e below (s₁.setTop (mkF m 134 #[.val (.int (9 : Int32)), .val (.int n1)] [])) _
  refine own_by (fun _ k => XS.iloadN X0.here hx rfl (hb hby d_rm_exp9_134) rfl k) ?_
  show own_Go p e below (s₁.setTop (mkF m 135 #[.val (.int (9 : Int32)), .val (.int n1)] [(.int (9 : Int32))])) _
  refine own_by (fun _ k => XS.bipush X0.here hx rfl (hb hby d_rm_exp9_135) k) ?_
  show own_Go p e below (s₁.setTop (mkF m 137 #[.val (.int (9 : Int32)), .val (.int n1)] [(.int (7 : Int32)), (.int (9 : Int32))])) _
  refine own_by (fun _ k => XS.icmpYes X0.here hx rfl (pc0 := 137) (pc' := 150) rfl (hb hby d_rm_exp9_137) rfl (feq (by decide : ¬ ((9 : Int32) = (7 : Int32)))).2 (by decide) (by decide) k) ?_
  show own_Go p e below (s₁.setTop (mkF m 150 #[.val (.int (9 : Int32)), .val (.int n1)] [])) _
  refine own_by (fun _ k => XS.iloadN X0.here hx rfl (hb hby d_rm_exp9_150) rfl k) ?_
  show own_Go p e below (s₁.setTop (mkF m 151 #[.val (.int (9 : Int32)), .val (.int n1)] [(.int (9 : Int32))])) _
  refine own_by (fun _ k => XS.bipush X0.here hx rfl (hb hby d_rm_exp9_151) k) ?_
  show own_Go p e below (s₁.setTop (mkF m 153 #[.val (.int (9 : Int32)), .val (.int n1)] [(.int (8 : Int32)), (.int (9 : Int32))])) _
  refine own_by (fun _ k => XS.icmpYes X0.here hx rfl (pc0 := 153) (pc' := 172) rfl (hb hby d_rm_exp9_153) rfl (feq (by decide : ¬ ((9 : Int32) = (8 : Int32)))).2 (by decide) (by decide) k) ?_
  show own_Go p e below (s₁.setTop (mkF m 172 #[.val (.int (9 : Int32)), .val (.int n1)] [])) _
  refine own_by (fun _ k => XS.iloadN X0.here hx rfl (hb hby d_rm_exp9_172) rfl k) ?_
  show own_Go p e below (s₁.setTop (mkF m 173 #[.val (.int (9 : Int32)), .val (.int n1)] [(.int (9 : Int32))])) _
  refine own_by (fun _ k => XS.bipush X0.here hx rfl (hb hby d_rm_exp9_173) k) ?_
  show own_Go p e below (s₁.setTop (mkF m 175 #[.val (.int (9 : Int32)), .val (.int n1)] [(.int (9 : Int32)), (.int (9 : Int32))])) _
  refine own_by (fun _ k => XS.icmpNo X0.here hx rfl (hb hby d_rm_exp9_175) rfl (teq (by decide : (9 : Int32) = (9 : Int32))).2 k) ?_
  show own_Go p e below (s₁.setTop (mkF m 178 #[.val (.int (9 : Int32)), .val (.int n1)] [])) _
  refine own_by (fun _ k => XS.iloadN X0.here hx rfl (hb hby d_rm_exp9_178) rfl k) ?_
  show own_Go p e below (s₁.setTop (mkF m 179 #[.val (.int (9 : Int32)), .val (.int n1)] [(.int n1)])) _
  by_cases c1 : n1 = (0 : Int32)
  · skip
    refine own_by (fun _ k => XS.ifYes X0.here hx rfl (pc0 := 179) (pc' := 187) rfl (hb hby d_rm_exp9_179) rfl ((if0 _ _).trans (teq c1).1) (by decide) (by decide) k) ?_
    show own_Go p e below (s₁.setTop (mkF m 187 #[.val (.int (9 : Int32)), .val (.int n1)] [])) _
    refine own_by (fun _ k => XS.iconst X0.here hx rfl (hb hby d_rm_exp9_187) k) ?_
    show own_Go p e below (s₁.setTop (mkF m 188 #[.val (.int (9 : Int32)), .val (.int n1)] [(.int (1 : Int32))])) _
    refine own_by (fun _ k => XS.goto X0.here hx rfl (pc0 := 188) (pc' := 192) rfl (hb hby d_rm_exp9_188) (by decide) (by decide) k) ?_
    show own_Go p e below (s₁.setTop (mkF m 192 #[.val (.int (9 : Int32)), .val (.int n1)] [(.int (1 : Int32))])) _
    obtain ⟨fs, hr, hrun, hended, hW, hsame⟩ := X0.leave (v := some (.int (1 : Int32))) (fun h => by rw [Bd.returns] at h; cases h)
    refine ⟨_, _, retN X0 hx (t := .boolean) Bd.returns (by simp) (hb hby d_rm_exp9_192) hr, hrun, hended, _, _, rfl, ?_, ⟨_, rfl⟩, hW, hsame.mono (by decide) (by decide)⟩
    show Q_rm_exp9 Z n1 h0 n0 _ s₁.heap _
    rw [e0]
    exact ⟨(by first | (congr 2; unfold own_takes; split <;> (try split) <;> simp_all [Int32.lt_iff_toInt_lt, ← Int32.toInt_inj] <;> omega)), N0, rfl⟩
  · skip
    refine own_by (fun _ k => XS.ifNo X0.here hx rfl (hb hby d_rm_exp9_179) rfl ((if0 _ _).trans (feq c1).1) k) ?_
    show own_Go p e below (s₁.setTop (mkF m 182 #[.val (.int (9 : Int32)), .val (.int n1)] [])) _
    refine own_by (fun _ k => XS.iloadN X0.here hx rfl (hb hby d_rm_exp9_182) rfl k) ?_
    show own_Go p e below (s₁.setTop (mkF m 183 #[.val (.int (9 : Int32)), .val (.int n1)] [(.int n1)])) _
    refine own_by (fun _ k => XS.iconst X0.here hx rfl (hb hby d_rm_exp9_183) k) ?_
    show own_Go p e below (s₁.setTop (mkF m 184 #[.val (.int (9 : Int32)), .val (.int n1)] [(.int (1 : Int32)), (.int n1)])) _
    by_cases c2 : n1 = (1 : Int32)
    · skip
      refine own_by (fun _ k => XS.icmpNo X0.here hx rfl (hb hby d_rm_exp9_184) rfl (teq c2).2 k) ?_
      show own_Go p e below (s₁.setTop (mkF m 187 #[.val (.int (9 : Int32)), .val (.int n1)] [])) _
      refine own_by (fun _ k => XS.iconst X0.here hx rfl (hb hby d_rm_exp9_187) k) ?_
      show own_Go p e below (s₁.setTop (mkF m 188 #[.val (.int (9 : Int32)), .val (.int n1)] [(.int (1 : Int32))])) _
      refine own_by (fun _ k => XS.goto X0.here hx rfl (pc0 := 188) (pc' := 192) rfl (hb hby d_rm_exp9_188) (by decide) (by decide) k) ?_
      show own_Go p e below (s₁.setTop (mkF m 192 #[.val (.int (9 : Int32)), .val (.int n1)] [(.int (1 : Int32))])) _
      obtain ⟨fs, hr, hrun, hended, hW, hsame⟩ := X0.leave (v := some (.int (1 : Int32))) (fun h => by rw [Bd.returns] at h; cases h)
      refine ⟨_, _, retN X0 hx (t := .boolean) Bd.returns (by simp) (hb hby d_rm_exp9_192) hr, hrun, hended, _, _, rfl, ?_, ⟨_, rfl⟩, hW, hsame.mono (by decide) (by decide)⟩
      show Q_rm_exp9 Z n1 h0 n0 _ s₁.heap _
      rw [e0]
      exact ⟨(by first | (congr 2; unfold own_takes; split <;> (try split) <;> simp_all [Int32.lt_iff_toInt_lt, ← Int32.toInt_inj] <;> omega)), N0, rfl⟩
    · skip
      refine own_by (fun _ k => XS.icmpYes X0.here hx rfl (pc0 := 184) (pc' := 191) rfl (hb hby d_rm_exp9_184) rfl (feq c2).2 (by decide) (by decide) k) ?_
      show own_Go p e below (s₁.setTop (mkF m 191 #[.val (.int (9 : Int32)), .val (.int n1)] [])) _
      refine own_by (fun _ k => XS.iconst X0.here hx rfl (hb hby d_rm_exp9_191) k) ?_
      show own_Go p e below (s₁.setTop (mkF m 192 #[.val (.int (9 : Int32)), .val (.int n1)] [(.int (0 : Int32))])) _
      obtain ⟨fs, hr, hrun, hended, hW, hsame⟩ := X0.leave (v := some (.int (0 : Int32))) (fun h => by rw [Bd.returns] at h; cases h)
      refine ⟨_, _, retN X0 hx (t := .boolean) Bd.returns (by simp) (hb hby d_rm_exp9_192) hr, hrun, hended, _, _, rfl, ?_, ⟨_, rfl⟩, hW, hsame.mono (by decide) (by decide)⟩
      show Q_rm_exp9 Z n1 h0 n0 _ s₁.heap _
      rw [e0]
      exact ⟨(by first | (congr 2; unfold own_takes; split <;> (try split) <;> simp_all [Int32.lt_iff_toInt_lt, ← Int32.toInt_inj] <;> omega)), N0, rfl⟩
theorem d_rm_pick10_0 : decode method_3_code 0 = .ok (.iload_n 0, 1) := by decide +kernel
theorem d_rm_pick10_1 : decode method_3_code 1 = .ok (.ifCond .ne 7, 3) := by decide +kernel
theorem d_rm_pick10_8 : decode method_3_code 8 = .ok (.iload_n 0, 1) := by decide +kernel
theorem d_rm_pick10_9 : decode method_3_code 9 = .ok (.iconst 1, 1) := by decide +kernel
theorem d_rm_pick10_10 : decode method_3_code 10 = .ok (.if_icmp .ne 7, 3) := by decide +kernel
theorem d_rm_pick10_17 : decode method_3_code 17 = .ok (.iload_n 0, 1) := by decide +kernel
theorem d_rm_pick10_18 : decode method_3_code 18 = .ok (.iconst 2, 1) := by decide +kernel
theorem d_rm_pick10_19 : decode method_3_code 19 = .ok (.if_icmp .ne 7, 3) := by decide +kernel
theorem d_rm_pick10_26 : decode method_3_code 26 = .ok (.iload_n 0, 1) := by decide +kernel
theorem d_rm_pick10_27 : decode method_3_code 27 = .ok (.iconst 3, 1) := by decide +kernel
theorem d_rm_pick10_28 : decode method_3_code 28 = .ok (.if_icmp .ne 7, 3) := by decide +kernel
theorem d_rm_pick10_35 : decode method_3_code 35 = .ok (.iload_n 0, 1) := by decide +kernel
theorem d_rm_pick10_36 : decode method_3_code 36 = .ok (.iconst 4, 1) := by decide +kernel
theorem d_rm_pick10_37 : decode method_3_code 37 = .ok (.if_icmp .ne 7, 3) := by decide +kernel
theorem d_rm_pick10_44 : decode method_3_code 44 = .ok (.iload_n 0, 1) := by decide +kernel
theorem d_rm_pick10_45 : decode method_3_code 45 = .ok (.iconst 5, 1) := by decide +kernel
theorem d_rm_pick10_46 : decode method_3_code 46 = .ok (.if_icmp .ne 7, 3) := by decide +kernel
theorem d_rm_pick10_53 : decode method_3_code 53 = .ok (.iload_n 0, 1) := by decide +kernel
theorem d_rm_pick10_54 : decode method_3_code 54 = .ok (.bipush 6, 2) := by decide +kernel
theorem d_rm_pick10_56 : decode method_3_code 56 = .ok (.if_icmp .ne 7, 3) := by decide +kernel
theorem d_rm_pick10_63 : decode method_3_code 63 = .ok (.iload_n 0, 1) := by decide +kernel
theorem d_rm_pick10_64 : decode method_3_code 64 = .ok (.bipush 7, 2) := by decide +kernel
theorem d_rm_pick10_66 : decode method_3_code 66 = .ok (.if_icmp .ne 7, 3) := by decide +kernel
theorem d_rm_pick10_73 : decode method_3_code 73 = .ok (.iload_n 0, 1) := by decide +kernel
theorem d_rm_pick10_74 : decode method_3_code 74 = .ok (.bipush 8, 2) := by decide +kernel
theorem d_rm_pick10_76 : decode method_3_code 76 = .ok (.if_icmp .ne 7, 3) := by decide +kernel
theorem d_rm_pick10_83 : decode method_3_code 83 = .ok (.iload_n 0, 1) := by decide +kernel
theorem d_rm_pick10_84 : decode method_3_code 84 = .ok (.bipush 9, 2) := by decide +kernel
theorem d_rm_pick10_86 : decode method_3_code 86 = .ok (.if_icmp .ne 7, 3) := by decide +kernel
theorem d_rm_pick10_93 : decode method_3_code 93 = .ok (.getstatic 55, 3) := by decide +kernel
theorem d_rm_pick10_96 : decode method_3_code 96 = .ok (.areturn, 1) := by decide +kernel
def Q_rm_pick10 (Z : State) (a_LOCKS : Addr) (h0 : Heap) (n0 : Nat) (v : Option Value) (h : Heap) (L : List Loc) : Prop := v = some (.ref a_LOCKS) ∧ Fr n0 L ∧ h = h0
theorem ef_rm_pick10 (m : MethodId) (a_LOCKS : Addr) : entryFrame m #[(.int (10 : Int32))] 1 = mkF m 0 #[.val (.int (10 : Int32))] [] := by first | (simp [entryFrame, mkF, argsToLocals, Value.category]; done) | rfl
set_option maxRecDepth 65536 in
set_option maxHeartbeats 40000000 in
theorem rm_pick10 (l : Launch) (Z : State) (a0 : Array Value) (hw : ∀ d ∈ tables_1, d.before a0 Z = true) (ws : List Jvm.Cond) (a_LOCKS : Addr) (h0 : Heap) (n0 : Nat) (O0 : Old Z n0 h0) (S_LOCKS : Sta Z Z.heap "com/example/admit1/admit1/server/Command" "LOCKS" "Lcom/example/admit1/admit1/server/Command;" (.ref a_LOCKS)) :
    MetFree l (⟨"com/example/admit1/admit1/server/CommandTakesPinLaw", "pick", "(I)Lcom/example/admit1/admit1/server/Command;"⟩ : MethodName) (head1 (Jvm.Cond.code (⟨"com/example/admit1/admit1/server/CommandTakesPinLaw", "pick", "(I)Lcom/example/admit1/admit1/server/Command;"⟩ : MethodName) method_3_code 1 (some (.object "com/example/admit1/admit1/server/Command")) :: ws) ({ frames := 0, cells := 0, slots := 0, locals := 0 } : Room)) (fun a U => a = #[(.int (10 : Int32))] ∧ Z.Warmed39 U.vm ∧ U.heap = h0) (fun _ _ _ _ _ => True) (fun _ U o U' => ∃ v L, o = .returned v ∧ Q_rm_pick10 Z a_LOCKS h0 n0 v U'.heap L ∧ FrameEnd U o U' L ({ frames := 0, cells := 0, slots := 0, locals := 0 } : Room).cells ({ frames := 0, cells := 0, slots := 0, locals := 0 } : Room).slots) := by
  refine MetFree.of_bodySF (plainFor_of_name own_pn_com_example_admit1_admit1_server_CommandTakesPinLaw) hisR ?_
  intro p e s m args below meth c s₁ Bd hml0 hP hK
  obtain ⟨rfl, hZ, hh⟩ := hP
  have hx := Bd.exec
  have hby := Bd.bytes
  have hml : c.maxLocals = 1 := hml0
  have hown : s.vm.findClass "com/example/admit1/admit1/server/CommandTakesPinLaw" = some m.cls := findClass_of_methodNamed Bd.named
  have hnm := (name_of_methodNamed Bd.named Bd.method).1
  have X0 : Stand p l e ({ frames := 0, cells := 0, slots := 0, locals := 0 } : Room) s m #[(.int (10 : Int32))] below meth c s₁ [] 0 0 := Stand.of_body Bd
  have e0 : s₁.heap = h0 := by rw [← hh, Bd.state]; rfl
  have N0 := Fr.nil n0
  have Z0 : n0 ≤ h0.size := by rw [← O0.1]; exact O0.2.1
  show own_Go p e below (s₁.setTop (entryFrame m #[(.int (10 : Int32))] 1)) (fun t o => ∃ v L, o = .returned v ∧ Q_rm_pick10 Z a_LOCKS h0 n0 v t.heap L ∧ FrameEnd s o t L ({ frames := 0, cells := 0, slots := 0, locals := 0 } : Room).cells ({ frames := 0, cells := 0, slots := 0, locals := 0 } : Room).slots)
  rw [ef_rm_pick10 m a_LOCKS]
  refine own_by (fun _ k => XS.iloadN X0.here hx rfl (hb hby d_rm_pick10_0) rfl k) ?_
  show own_Go p e below (s₁.setTop (mkF m 1 #[.val (.int (10 : Int32))] [(.int (10 : Int32))])) _
  refine own_by (fun _ k => XS.ifYes X0.here hx rfl (pc0 := 1) (pc' := 8) rfl (hb hby d_rm_pick10_1) rfl ((if0 _ _).trans (feq (by decide : ¬ ((10 : Int32) = (0 : Int32)))).2) (by decide) (by decide) k) ?_
  show own_Go p e below (s₁.setTop (mkF m 8 #[.val (.int (10 : Int32))] [])) _
  refine own_by (fun _ k => XS.iloadN X0.here hx rfl (hb hby d_rm_pick10_8) rfl k) ?_
  show own_Go p e below (s₁.setTop (mkF m 9 #[.val (.int (10 : Int32))] [(.int (10 : Int32))])) _
  refine own_by (fun _ k => XS.iconst X0.here hx rfl (hb hby d_rm_pick10_9) k) ?_
  show own_Go p e below (s₁.setTop (mkF m 10 #[.val (.int (10 : Int32))] [(.int (1 : Int32)), (.int (10 : Int32))])) _
  refine own_by (fun _ k => XS.icmpYes X0.here hx rfl (pc0 := 10) (pc' := 17) rfl (hb hby d_rm_pick10_10) rfl (feq (by decide : ¬ ((10 : Int32) = (1 : Int32)))).2 (by decide) (by decide) k) ?_
  show own_Go p e below (s₁.setTop (mkF m 17 #[.val (.int (10 : Int32))] [])) _
  refine own_by (fun _ k => XS.iloadN X0.here hx rfl (hb hby d_rm_pick10_17) rfl k) ?_
  show own_Go p e below (s₁.setTop (mkF m 18 #[.val (.int (10 : Int32))] [(.int (10 : Int32))])) _
  refine own_by (fun _ k => XS.iconst X0.here hx rfl (hb hby d_rm_pick10_18) k) ?_
  show own_Go p e below (s₁.setTop (mkF m 19 #[.val (.int (10 : Int32))] [(.int (2 : Int32)), (.int (10 : Int32))])) _
  refine own_by (fun _ k => XS.icmpYes X0.here hx rfl (pc0 := 19) (pc' := 26) rfl (hb hby d_rm_pick10_19) rfl (feq (by decide : ¬ ((10 : Int32) = (2 : Int32)))).2 (by decide) (by decide) k) ?_
  show own_Go p e below (s₁.setTop (mkF m 26 #[.val (.int (10 : Int32))] [])) _
  refine own_by (fun _ k => XS.iloadN X0.here hx rfl (hb hby d_rm_pick10_26) rfl k) ?_
  show own_Go p e below (s₁.setTop (mkF m 27 #[.val (.int (10 : Int32))] [(.int (10 : Int32))])) _
  refine own_by (fun _ k => XS.iconst X0.here hx rfl (hb hby d_rm_pick10_27) k) ?_
  show own_Go p e below (s₁.setTop (mkF m 28 #[.val (.int (10 : Int32))] [(.int (3 : Int32)), (.int (10 : Int32))])) _
  refine own_by (fun _ k => XS.icmpYes X0.here hx rfl (pc0 := 28) (pc' := 35) rfl (hb hby d_rm_pick10_28) rfl (feq (by decide : ¬ ((10 : Int32) = (3 : Int32)))).2 (by decide) (by decide) k) ?_
  show own_Go p e below (s₁.setTop (mkF m 35 #[.val (.int (10 : Int32))] [])) _
  refine own_by (fun _ k => XS.iloadN X0.here hx rfl (hb hby d_rm_pick10_35) rfl k) ?_
  show own_Go p e below (s₁.setTop (mkF m 36 #[.val (.int (10 : Int32))] [(.int (10 : Int32))])) _
  refine own_by (fun _ k => XS.iconst X0.here hx rfl (hb hby d_rm_pick10_36) k) ?_
  show own_Go p e below (s₁.setTop (mkF m 37 #[.val (.int (10 : Int32))] [(.int (4 : Int32)), (.int (10 : Int32))])) _
  refine own_by (fun _ k => XS.icmpYes X0.here hx rfl (pc0 := 37) (pc' := 44) rfl (hb hby d_rm_pick10_37) rfl (feq (by decide : ¬ ((10 : Int32) = (4 : Int32)))).2 (by decide) (by decide) k) ?_
  show own_Go p e below (s₁.setTop (mkF m 44 #[.val (.int (10 : Int32))] [])) _
  refine own_by (fun _ k => XS.iloadN X0.here hx rfl (hb hby d_rm_pick10_44) rfl k) ?_
  show own_Go p e below (s₁.setTop (mkF m 45 #[.val (.int (10 : Int32))] [(.int (10 : Int32))])) _
  refine own_by (fun _ k => XS.iconst X0.here hx rfl (hb hby d_rm_pick10_45) k) ?_
  show own_Go p e below (s₁.setTop (mkF m 46 #[.val (.int (10 : Int32))] [(.int (5 : Int32)), (.int (10 : Int32))])) _
  refine own_by (fun _ k => XS.icmpYes X0.here hx rfl (pc0 := 46) (pc' := 53) rfl (hb hby d_rm_pick10_46) rfl (feq (by decide : ¬ ((10 : Int32) = (5 : Int32)))).2 (by decide) (by decide) k) ?_
  show own_Go p e below (s₁.setTop (mkF m 53 #[.val (.int (10 : Int32))] [])) _
  refine own_by (fun _ k => XS.iloadN X0.here hx rfl (hb hby d_rm_pick10_53) rfl k) ?_
  show own_Go p e below (s₁.setTop (mkF m 54 #[.val (.int (10 : Int32))] [(.int (10 : Int32))])) _
  refine own_by (fun _ k => XS.bipush X0.here hx rfl (hb hby d_rm_pick10_54) k) ?_
  show own_Go p e below (s₁.setTop (mkF m 56 #[.val (.int (10 : Int32))] [(.int (6 : Int32)), (.int (10 : Int32))])) _
  refine own_by (fun _ k => XS.icmpYes X0.here hx rfl (pc0 := 56) (pc' := 63) rfl (hb hby d_rm_pick10_56) rfl (feq (by decide : ¬ ((10 : Int32) = (6 : Int32)))).2 (by decide) (by decide) k) ?_
  show own_Go p e below (s₁.setTop (mkF m 63 #[.val (.int (10 : Int32))] [])) _
  refine own_by (fun _ k => XS.iloadN X0.here hx rfl (hb hby d_rm_pick10_63) rfl k) ?_
  show own_Go p e below (s₁.setTop (mkF m 64 #[.val (.int (10 : Int32))] [(.int (10 : Int32))])) _
  refine own_by (fun _ k => XS.bipush X0.here hx rfl (hb hby d_rm_pick10_64) k) ?_
  show own_Go p e below (s₁.setTop (mkF m 66 #[.val (.int (10 : Int32))] [(.int (7 : Int32)), (.int (10 : Int32))])) _
  refine own_by (fun _ k => XS.icmpYes X0.here hx rfl (pc0 := 66) (pc' := 73) rfl (hb hby d_rm_pick10_66) rfl (feq (by decide : ¬ ((10 : Int32) = (7 : Int32)))).2 (by decide) (by decide) k) ?_
  show own_Go p e below (s₁.setTop (mkF m 73 #[.val (.int (10 : Int32))] [])) _
  refine own_by (fun _ k => XS.iloadN X0.here hx rfl (hb hby d_rm_pick10_73) rfl k) ?_
  show own_Go p e below (s₁.setTop (mkF m 74 #[.val (.int (10 : Int32))] [(.int (10 : Int32))])) _
  refine own_by (fun _ k => XS.bipush X0.here hx rfl (hb hby d_rm_pick10_74) k) ?_
  show own_Go p e below (s₁.setTop (mkF m 76 #[.val (.int (10 : Int32))] [(.int (8 : Int32)), (.int (10 : Int32))])) _
  refine own_by (fun _ k => XS.icmpYes X0.here hx rfl (pc0 := 76) (pc' := 83) rfl (hb hby d_rm_pick10_76) rfl (feq (by decide : ¬ ((10 : Int32) = (8 : Int32)))).2 (by decide) (by decide) k) ?_
  show own_Go p e below (s₁.setTop (mkF m 83 #[.val (.int (10 : Int32))] [])) _
  refine own_by (fun _ k => XS.iloadN X0.here hx rfl (hb hby d_rm_pick10_83) rfl k) ?_
  show own_Go p e below (s₁.setTop (mkF m 84 #[.val (.int (10 : Int32))] [(.int (10 : Int32))])) _
  refine own_by (fun _ k => XS.bipush X0.here hx rfl (hb hby d_rm_pick10_84) k) ?_
  show own_Go p e below (s₁.setTop (mkF m 86 #[.val (.int (10 : Int32))] [(.int (9 : Int32)), (.int (10 : Int32))])) _
  refine own_by (fun _ k => XS.icmpYes X0.here hx rfl (pc0 := 86) (pc' := 93) rfl (hb hby d_rm_pick10_86) rfl (feq (by decide : ¬ ((10 : Int32) = (9 : Int32)))).2 (by decide) (by decide) k) ?_
  show own_Go p e below (s₁.setTop (mkF m 93 #[.val (.int (10 : Int32))] [])) _
  obtain ⟨T1, X1, e1, st1⟩ := getS2 X0 hx hZ hown (host := "") (Or.inl (hw _ (List.mem_of_getElem? (i := 34) rfl))) Via.refl e0 (S_LOCKS.ext O0.2) (g := (mkF m 93 #[.val (.int (10 : Int32))] [])) rfl (hb hby d_rm_pick10_93)
  refine own_by st1 ?_
  show own_Go p e below (T1.setTop (mkF m 96 #[.val (.int (10 : Int32))] [(.ref a_LOCKS)])) _
  obtain ⟨fs, hr, hrun, hended, hW, hsame⟩ := X1.leave (v := some (.ref a_LOCKS)) (fun h => by rw [Bd.returns] at h; cases h)
  refine ⟨_, _, retOut X1 hx Bd.returns (own_narrow_ref (by decide) rfl) (Or.inr (Or.inr (Or.inr (Or.inr ⟨rfl, by decide, rfl⟩)))) (hb hby d_rm_pick10_96) hr, hrun, hended, _, _, rfl, ?_, ⟨_, rfl⟩, hW, hsame.mono (by decide) (by decide)⟩
  show Q_rm_pick10 Z a_LOCKS h0 n0 _ T1.heap _
  rw [e1]
  exact ⟨rfl, N0, rfl⟩
theorem d_rm_exp10_0 : decode method_4_code 0 = .ok (.iload_n 0, 1) := by decide +kernel
theorem d_rm_exp10_1 : decode method_4_code 1 = .ok (.ifCond .ne 18, 3) := by decide +kernel
theorem d_rm_exp10_19 : decode method_4_code 19 = .ok (.iload_n 0, 1) := by decide +kernel
theorem d_rm_exp10_20 : decode method_4_code 20 = .ok (.iconst 1, 1) := by decide +kernel
theorem d_rm_exp10_21 : decode method_4_code 21 = .ok (.if_icmp .ne 14, 3) := by decide +kernel
theorem d_rm_exp10_35 : decode method_4_code 35 = .ok (.iload_n 0, 1) := by decide +kernel
theorem d_rm_exp10_36 : decode method_4_code 36 = .ok (.iconst 2, 1) := by decide +kernel
theorem d_rm_exp10_37 : decode method_4_code 37 = .ok (.if_icmp .ne 13, 3) := by decide +kernel
theorem d_rm_exp10_50 : decode method_4_code 50 = .ok (.iload_n 0, 1) := by decide +kernel
theorem d_rm_exp10_51 : decode method_4_code 51 = .ok (.iconst 3, 1) := by decide +kernel
theorem d_rm_exp10_52 : decode method_4_code 52 = .ok (.if_icmp .ne 29, 3) := by decide +kernel
theorem d_rm_exp10_81 : decode method_4_code 81 = .ok (.iload_n 0, 1) := by decide +kernel
theorem d_rm_exp10_82 : decode method_4_code 82 = .ok (.iconst 4, 1) := by decide +kernel
theorem d_rm_exp10_83 : decode method_4_code 83 = .ok (.if_icmp .ne 19, 3) := by decide +kernel
theorem d_rm_exp10_102 : decode method_4_code 102 = .ok (.iload_n 0, 1) := by decide +kernel
theorem d_rm_exp10_103 : decode method_4_code 103 = .ok (.iconst 5, 1) := by decide +kernel
theorem d_rm_exp10_104 : decode method_4_code 104 = .ok (.if_icmp .ne 14, 3) := by decide +kernel
theorem d_rm_exp10_118 : decode method_4_code 118 = .ok (.iload_n 0, 1) := by decide +kernel
theorem d_rm_exp10_119 : decode method_4_code 119 = .ok (.bipush 6, 2) := by decide +kernel
theorem d_rm_exp10_121 : decode method_4_code 121 = .ok (.if_icmp .ne 13, 3) := by decide +kernel
theorem d_rm_exp10_134 : decode method_4_code 134 = .ok (.iload_n 0, 1) := by decide +kernel
theorem d_rm_exp10_135 : decode method_4_code 135 = .ok (.bipush 7, 2) := by decide +kernel
theorem d_rm_exp10_137 : decode method_4_code 137 = .ok (.if_icmp .ne 13, 3) := by decide +kernel
theorem d_rm_exp10_150 : decode method_4_code 150 = .ok (.iload_n 0, 1) := by decide +kernel
theorem d_rm_exp10_151 : decode method_4_code 151 = .ok (.bipush 8, 2) := by decide +kernel
theorem d_rm_exp10_153 : decode method_4_code 153 = .ok (.if_icmp .ne 19, 3) := by decide +kernel
theorem d_rm_exp10_172 : decode method_4_code 172 = .ok (.iload_n 0, 1) := by decide +kernel
theorem d_rm_exp10_173 : decode method_4_code 173 = .ok (.bipush 9, 2) := by decide +kernel
theorem d_rm_exp10_175 : decode method_4_code 175 = .ok (.if_icmp .ne 18, 3) := by decide +kernel
theorem d_rm_exp10_193 : decode method_4_code 193 = .ok (.iload_n 1, 1) := by decide +kernel
theorem d_rm_exp10_194 : decode method_4_code 194 = .ok (.ifCond .eq 8, 3) := by decide +kernel
theorem d_rm_exp10_197 : decode method_4_code 197 = .ok (.iload_n 1, 1) := by decide +kernel
theorem d_rm_exp10_198 : decode method_4_code 198 = .ok (.iconst 1, 1) := by decide +kernel
theorem d_rm_exp10_199 : decode method_4_code 199 = .ok (.if_icmp .ne 7, 3) := by decide +kernel
theorem d_rm_exp10_202 : decode method_4_code 202 = .ok (.iconst 1, 1) := by decide +kernel
theorem d_rm_exp10_203 : decode method_4_code 203 = .ok (.goto 4, 3) := by decide +kernel
theorem d_rm_exp10_206 : decode method_4_code 206 = .ok (.iconst 0, 1) := by decide +kernel
theorem d_rm_exp10_207 : decode method_4_code 207 = .ok (.ireturn, 1) := by decide +kernel
def Q_rm_exp10 (Z : State) (n1 : Int32) (h0 : Heap) (n0 : Nat) (v : Option Value) (h : Heap) (L : List Loc) : Prop := v = some (.int (own_takes n1 (0 : Int32) (1 : Int32))) ∧ Fr n0 L ∧ h = h0
theorem ef_rm_exp10 (m : MethodId) (n1 : Int32) : entryFrame m #[(.int (10 : Int32)), (.int n1)] 2 = mkF m 0 #[.val (.int (10 : Int32)), .val (.int n1)] [] := by first | (simp [entryFrame, mkF, argsToLocals, Value.category]; done) | rfl
set_option maxRecDepth 65536 in
set_option maxHeartbeats 40000000 in
theorem rm_exp10 (l : Launch) (Z : State) (a0 : Array Value) (hw : ∀ d ∈ tables_1, d.before a0 Z = true) (ws : List Jvm.Cond) (n1 : Int32) (h0 : Heap) (n0 : Nat) (O0 : Old Z n0 h0) :
    MetFree l (⟨"com/example/admit1/admit1/server/CommandTakesPinLaw", "expected", "(II)Z"⟩ : MethodName) (head1 (Jvm.Cond.code (⟨"com/example/admit1/admit1/server/CommandTakesPinLaw", "expected", "(II)Z"⟩ : MethodName) method_4_code 2 (some .boolean) :: ws) ({ frames := 0, cells := 0, slots := 0, locals := 0 } : Room)) (fun a U => a = #[(.int (10 : Int32)), (.int n1)] ∧ Z.Warmed39 U.vm ∧ U.heap = h0) (fun _ _ _ _ _ => True) (fun _ U o U' => ∃ v L, o = .returned v ∧ Q_rm_exp10 Z n1 h0 n0 v U'.heap L ∧ FrameEnd U o U' L ({ frames := 0, cells := 0, slots := 0, locals := 0 } : Room).cells ({ frames := 0, cells := 0, slots := 0, locals := 0 } : Room).slots) := by
  refine MetFree.of_bodySF (plainFor_of_name own_pn_com_example_admit1_admit1_server_CommandTakesPinLaw) hisR ?_
  intro p e s m args below meth c s₁ Bd hml0 hP hK
  obtain ⟨rfl, hZ, hh⟩ := hP
  have hx := Bd.exec
  have hby := Bd.bytes
  have hml : c.maxLocals = 2 := hml0
  have hown : s.vm.findClass "com/example/admit1/admit1/server/CommandTakesPinLaw" = some m.cls := findClass_of_methodNamed Bd.named
  have hnm := (name_of_methodNamed Bd.named Bd.method).1
  have X0 : Stand p l e ({ frames := 0, cells := 0, slots := 0, locals := 0 } : Room) s m #[(.int (10 : Int32)), (.int n1)] below meth c s₁ [] 0 0 := Stand.of_body Bd
  have e0 : s₁.heap = h0 := by rw [← hh, Bd.state]; rfl
  have N0 := Fr.nil n0
  have Z0 : n0 ≤ h0.size := by rw [← O0.1]; exact O0.2.1
  show own_Go p e below (s₁.setTop (entryFrame m #[(.int (10 : Int32)), (.int n1)] 2)) (fun t o => ∃ v L, o = .returned v ∧ Q_rm_exp10 Z n1 h0 n0 v t.heap L ∧ FrameEnd s o t L ({ frames := 0, cells := 0, slots := 0, locals := 0 } : Room).cells ({ frames := 0, cells := 0, slots := 0, locals := 0 } : Room).slots)
  rw [ef_rm_exp10 m n1]
  refine own_by (fun _ k => XS.iloadN X0.here hx rfl (hb hby d_rm_exp10_0) rfl k) ?_
  show own_Go p e below (s₁.setTop (mkF m 1 #[.val (.int (10 : Int32)), .val (.int n1)] [(.int (10 : Int32))])) _
  refine own_by (fun _ k => XS.ifYes X0.here hx rfl (pc0 := 1) (pc' := 19) rfl (hb hby d_rm_exp10_1) rfl ((if0 _ _).trans (feq (by decide : ¬ ((10 : Int32) = (0 : Int32)))).2) (by decide) (by decide) k) ?_
  show own_Go p e below (s₁.setTop (mkF m 19 #[.val (.int (10 : Int32)), .val (.int n1)] [])) _
  refine own_by (fun _ k => XS.iloadN X0.here hx rfl (hb hby d_rm_exp10_19) rfl k) ?_
  show own_Go p e below (s₁.setTop (mkF m 20 #[.val (.int (10 : Int32)), .val (.int n1)] [(.int (10 : Int32))])) _
  refine own_by (fun _ k => XS.iconst X0.here hx rfl (hb hby d_rm_exp10_20) k) ?_
  show own_Go p e below (s₁.setTop (mkF m 21 #[.val (.int (10 : Int32)), .val (.int n1)] [(.int (1 : Int32)), (.int (10 : Int32))])) _
  refine own_by (fun _ k => XS.icmpYes X0.here hx rfl (pc0 := 21) (pc' := 35) rfl (hb hby d_rm_exp10_21) rfl (feq (by decide : ¬ ((10 : Int32) = (1 : Int32)))).2 (by decide) (by decide) k) ?_
  show own_Go p e below (s₁.setTop (mkF m 35 #[.val (.int (10 : Int32)), .val (.int n1)] [])) _
  refine own_by (fun _ k => XS.iloadN X0.here hx rfl (hb hby d_rm_exp10_35) rfl k) ?_
  show own_Go p e below (s₁.setTop (mkF m 36 #[.val (.int (10 : Int32)), .val (.int n1)] [(.int (10 : Int32))])) _
  refine own_by (fun _ k => XS.iconst X0.here hx rfl (hb hby d_rm_exp10_36) k) ?_
  show own_Go p e below (s₁.setTop (mkF m 37 #[.val (.int (10 : Int32)), .val (.int n1)] [(.int (2 : Int32)), (.int (10 : Int32))])) _
  refine own_by (fun _ k => XS.icmpYes X0.here hx rfl (pc0 := 37) (pc' := 50) rfl (hb hby d_rm_exp10_37) rfl (feq (by decide : ¬ ((10 : Int32) = (2 : Int32)))).2 (by decide) (by decide) k) ?_
  show own_Go p e below (s₁.setTop (mkF m 50 #[.val (.int (10 : Int32)), .val (.int n1)] [])) _
  refine own_by (fun _ k => XS.iloadN X0.here hx rfl (hb hby d_rm_exp10_50) rfl k) ?_
  show own_Go p e below (s₁.setTop (mkF m 51 #[.val (.int (10 : Int32)), .val (.int n1)] [(.int (10 : Int32))])) _
  refine own_by (fun _ k => XS.iconst X0.here hx rfl (hb hby d_rm_exp10_51) k) ?_
  show own_Go p e below (s₁.setTop (mkF m 52 #[.val (.int (10 : Int32)), .val (.int n1)] [(.int (3 : Int32)), (.int (10 : Int32))])) _
  refine own_by (fun _ k => XS.icmpYes X0.here hx rfl (pc0 := 52) (pc' := 81) rfl (hb hby d_rm_exp10_52) rfl (feq (by decide : ¬ ((10 : Int32) = (3 : Int32)))).2 (by decide) (by decide) k) ?_
  show own_Go p e below (s₁.setTop (mkF m 81 #[.val (.int (10 : Int32)), .val (.int n1)] [])) _
  refine own_by (fun _ k => XS.iloadN X0.here hx rfl (hb hby d_rm_exp10_81) rfl k) ?_
  show own_Go p e below (s₁.setTop (mkF m 82 #[.val (.int (10 : Int32)), .val (.int n1)] [(.int (10 : Int32))])) _
  refine own_by (fun _ k => XS.iconst X0.here hx rfl (hb hby d_rm_exp10_82) k) ?_
  show own_Go p e below (s₁.setTop (mkF m 83 #[.val (.int (10 : Int32)), .val (.int n1)] [(.int (4 : Int32)), (.int (10 : Int32))])) _
  refine own_by (fun _ k => XS.icmpYes X0.here hx rfl (pc0 := 83) (pc' := 102) rfl (hb hby d_rm_exp10_83) rfl (feq (by decide : ¬ ((10 : Int32) = (4 : Int32)))).2 (by decide) (by decide) k) ?_
  show own_Go p e below (s₁.setTop (mkF m 102 #[.val (.int (10 : Int32)), .val (.int n1)] [])) _
  refine own_by (fun _ k => XS.iloadN X0.here hx rfl (hb hby d_rm_exp10_102) rfl k) ?_
  show own_Go p e below (s₁.setTop (mkF m 103 #[.val (.int (10 : Int32)), .val (.int n1)] [(.int (10 : Int32))])) _
  refine own_by (fun _ k => XS.iconst X0.here hx rfl (hb hby d_rm_exp10_103) k) ?_
  show own_Go p e below (s₁.setTop (mkF m 104 #[.val (.int (10 : Int32)), .val (.int n1)] [(.int (5 : Int32)), (.int (10 : Int32))])) _
  refine own_by (fun _ k => XS.icmpYes X0.here hx rfl (pc0 := 104) (pc' := 118) rfl (hb hby d_rm_exp10_104) rfl (feq (by decide : ¬ ((10 : Int32) = (5 : Int32)))).2 (by decide) (by decide) k) ?_
  show own_Go p e below (s₁.setTop (mkF m 118 #[.val (.int (10 : Int32)), .val (.int n1)] [])) _
  refine own_by (fun _ k => XS.iloadN X0.here hx rfl (hb hby d_rm_exp10_118) rfl k) ?_
  show own_Go p e below (s₁.setTop (mkF m 119 #[.val (.int (10 : Int32)), .val (.int n1)] [(.int (10 : Int32))])) _
  refine own_by (fun _ k => XS.bipush X0.here hx rfl (hb hby d_rm_exp10_119) k) ?_
  show own_Go p e below (s₁.setTop (mkF m 121 #[.val (.int (10 : Int32)), .val (.int n1)] [(.int (6 : Int32)), (.int (10 : Int32))])) _
  refine own_by (fun _ k => XS.icmpYes X0.here hx rfl (pc0 := 121) (pc' := 134) rfl (hb hby d_rm_exp10_121) rfl (feq (by decide : ¬ ((10 : Int32) = (6 : Int32)))).2 (by decide) (by decide) k) ?_
  show own_Go p e below (s₁.setTop (mkF m 134 #[.val (.int (10 : Int32)), .val (.int n1)] [])) _
  refine own_by (fun _ k => XS.iloadN X0.here hx rfl (hb hby d_rm_exp10_134) rfl k) ?_
  show own_Go p e below (s₁.setTop (mkF m 135 #[.val (.int (10 : Int32)), .val (.int n1)] [(.int (10 : Int32))])) _
  refine own_by (fun _ k => XS.bipush X0.here hx rfl (hb hby d_rm_exp10_135) k) ?_
  show own_Go p e below (s₁.setTop (mkF m 137 #[.val (.int (10 : Int32)), .val (.int n1)] [(.int (7 : Int32)), (.int (10 : Int32))])) _
  refine own_by (fun _ k => XS.icmpYes X0.here hx rfl (pc0 := 137) (pc' := 150) rfl (hb hby d_rm_exp10_137) rfl (feq (by decide : ¬ ((10 : Int32) = (7 : Int32)))).2 (by decide) (by decide) k) ?_
  show own_Go p e below (s₁.setTop (mkF m 150 #[.val (.int (10 : Int32)), .val (.int n1)] [])) _
  refine own_by (fun _ k => XS.iloadN X0.here hx rfl (hb hby d_rm_exp10_150) rfl k) ?_
  show own_Go p e below (s₁.setTop (mkF m 151 #[.val (.int (10 : Int32)), .val (.int n1)] [(.int (10 : Int32))])) _
  refine own_by (fun _ k => XS.bipush X0.here hx rfl (hb hby d_rm_exp10_151) k) ?_
  show own_Go p e below (s₁.setTop (mkF m 153 #[.val (.int (10 : Int32)), .val (.int n1)] [(.int (8 : Int32)), (.int (10 : Int32))])) _
  refine own_by (fun _ k => XS.icmpYes X0.here hx rfl (pc0 := 153) (pc' := 172) rfl (hb hby d_rm_exp10_153) rfl (feq (by decide : ¬ ((10 : Int32) = (8 : Int32)))).2 (by decide) (by decide) k) ?_
  show own_Go p e below (s₁.setTop (mkF m 172 #[.val (.int (10 : Int32)), .val (.int n1)] [])) _
  refine own_by (fun _ k => XS.iloadN X0.here hx rfl (hb hby d_rm_exp10_172) rfl k) ?_
  show own_Go p e below (s₁.setTop (mkF m 173 #[.val (.int (10 : Int32)), .val (.int n1)] [(.int (10 : Int32))])) _
  refine own_by (fun _ k => XS.bipush X0.here hx rfl (hb hby d_rm_exp10_173) k) ?_
  show own_Go p e below (s₁.setTop (mkF m 175 #[.val (.int (10 : Int32)), .val (.int n1)] [(.int (9 : Int32)), (.int (10 : Int32))])) _
  refine own_by (fun _ k => XS.icmpYes X0.here hx rfl (pc0 := 175) (pc' := 193) rfl (hb hby d_rm_exp10_175) rfl (feq (by decide : ¬ ((10 : Int32) = (9 : Int32)))).2 (by decide) (by decide) k) ?_
  show own_Go p e below (s₁.setTop (mkF m 193 #[.val (.int (10 : Int32)), .val (.int n1)] [])) _
  refine own_by (fun _ k => XS.iloadN X0.here hx rfl (hb hby d_rm_exp10_193) rfl k) ?_
  show own_Go p e below (s₁.setTop (mkF m 194 #[.val (.int (10 : Int32)), .val (.int n1)] [(.int n1)])) _
  by_cases c1 : n1 = (0 : Int32)
  · skip
    refine own_by (fun _ k => XS.ifYes X0.here hx rfl (pc0 := 194) (pc' := 202) rfl (hb hby d_rm_exp10_194) rfl ((if0 _ _).trans (teq c1).1) (by decide) (by decide) k) ?_
    show own_Go p e below (s₁.setTop (mkF m 202 #[.val (.int (10 : Int32)), .val (.int n1)] [])) _
    refine own_by (fun _ k => XS.iconst X0.here hx rfl (hb hby d_rm_exp10_202) k) ?_
    show own_Go p e below (s₁.setTop (mkF m 203 #[.val (.int (10 : Int32)), .val (.int n1)] [(.int (1 : Int32))])) _
    refine own_by (fun _ k => XS.goto X0.here hx rfl (pc0 := 203) (pc' := 207) rfl (hb hby d_rm_exp10_203) (by decide) (by decide) k) ?_
    show own_Go p e below (s₁.setTop (mkF m 207 #[.val (.int (10 : Int32)), .val (.int n1)] [(.int (1 : Int32))])) _
    obtain ⟨fs, hr, hrun, hended, hW, hsame⟩ := X0.leave (v := some (.int (1 : Int32))) (fun h => by rw [Bd.returns] at h; cases h)
    refine ⟨_, _, retN X0 hx (t := .boolean) Bd.returns (by simp) (hb hby d_rm_exp10_207) hr, hrun, hended, _, _, rfl, ?_, ⟨_, rfl⟩, hW, hsame.mono (by decide) (by decide)⟩
    show Q_rm_exp10 Z n1 h0 n0 _ s₁.heap _
    rw [e0]
    exact ⟨(by first | (congr 2; unfold own_takes; split <;> (try split) <;> simp_all [Int32.lt_iff_toInt_lt, ← Int32.toInt_inj] <;> omega)), N0, rfl⟩
  · skip
    refine own_by (fun _ k => XS.ifNo X0.here hx rfl (hb hby d_rm_exp10_194) rfl ((if0 _ _).trans (feq c1).1) k) ?_
    show own_Go p e below (s₁.setTop (mkF m 197 #[.val (.int (10 : Int32)), .val (.int n1)] [])) _
    refine own_by (fun _ k => XS.iloadN X0.here hx rfl (hb hby d_rm_exp10_197) rfl k) ?_
    show own_Go p e below (s₁.setTop (mkF m 198 #[.val (.int (10 : Int32)), .val (.int n1)] [(.int n1)])) _
    refine own_by (fun _ k => XS.iconst X0.here hx rfl (hb hby d_rm_exp10_198) k) ?_
    show own_Go p e below (s₁.setTop (mkF m 199 #[.val (.int (10 : Int32)), .val (.int n1)] [(.int (1 : Int32)), (.int n1)])) _
    by_cases c2 : n1 = (1 : Int32)
    · skip
      refine own_by (fun _ k => XS.icmpNo X0.here hx rfl (hb hby d_rm_exp10_199) rfl (teq c2).2 k) ?_
      show own_Go p e below (s₁.setTop (mkF m 202 #[.val (.int (10 : Int32)), .val (.int n1)] [])) _
      refine own_by (fun _ k => XS.iconst X0.here hx rfl (hb hby d_rm_exp10_202) k) ?_
      show own_Go p e below (s₁.setTop (mkF m 203 #[.val (.int (10 : Int32)), .val (.int n1)] [(.int (1 : Int32))])) _
      refine own_by (fun _ k => XS.goto X0.here hx rfl (pc0 := 203) (pc' := 207) rfl (hb hby d_rm_exp10_203) (by decide) (by decide) k) ?_
      show own_Go p e below (s₁.setTop (mkF m 207 #[.val (.int (10 : Int32)), .val (.int n1)] [(.int (1 : Int32))])) _
      obtain ⟨fs, hr, hrun, hended, hW, hsame⟩ := X0.leave (v := some (.int (1 : Int32))) (fun h => by rw [Bd.returns] at h; cases h)
      refine ⟨_, _, retN X0 hx (t := .boolean) Bd.returns (by simp) (hb hby d_rm_exp10_207) hr, hrun, hended, _, _, rfl, ?_, ⟨_, rfl⟩, hW, hsame.mono (by decide) (by decide)⟩
      show Q_rm_exp10 Z n1 h0 n0 _ s₁.heap _
      rw [e0]
      exact ⟨(by first | (congr 2; unfold own_takes; split <;> (try split) <;> simp_all [Int32.lt_iff_toInt_lt, ← Int32.toInt_inj] <;> omega)), N0, rfl⟩
    · skip
      refine own_by (fun _ k => XS.icmpYes X0.here hx rfl (pc0 := 199) (pc' := 206) rfl (hb hby d_rm_exp10_199) rfl (feq c2).2 (by decide) (by decide) k) ?_
      show own_Go p e below (s₁.setTop (mkF m 206 #[.val (.int (10 : Int32)), .val (.int n1)] [])) _
      refine own_by (fun _ k => XS.iconst X0.here hx rfl (hb hby d_rm_exp10_206) k) ?_
      show own_Go p e below (s₁.setTop (mkF m 207 #[.val (.int (10 : Int32)), .val (.int n1)] [(.int (0 : Int32))])) _
      obtain ⟨fs, hr, hrun, hended, hW, hsame⟩ := X0.leave (v := some (.int (0 : Int32))) (fun h => by rw [Bd.returns] at h; cases h)
      refine ⟨_, _, retN X0 hx (t := .boolean) Bd.returns (by simp) (hb hby d_rm_exp10_207) hr, hrun, hended, _, _, rfl, ?_, ⟨_, rfl⟩, hW, hsame.mono (by decide) (by decide)⟩
      show Q_rm_exp10 Z n1 h0 n0 _ s₁.heap _
      rw [e0]
      exact ⟨(by first | (congr 2; unfold own_takes; split <;> (try split) <;> simp_all [Int32.lt_iff_toInt_lt, ← Int32.toInt_inj] <;> omega)), N0, rfl⟩
def Q_rm_law (Z : State) (k1 : Int32) (n1 : Int32) (a_PING : Addr) (a_ECHO : Addr) (a_QUIT : Addr) (a_REQUEST : Addr) (a_CONVERT : Addr) (a_RELEASE : Addr) (a_COMMIT : Addr) (a_ROLLBACK : Addr) (a_ALLOCATE : Addr) (a_ALLOCATED : Addr) (a_LOCKS : Addr) (h0 : Heap) (n0 : Nat) (v : Option Value) (h : Heap) (L : List Loc) : Prop := v = some (.int (1 : Int32)) ∧ Fr n0 L ∧ h = h0
theorem ef_rm_law (m : MethodId) (k1 : Int32) (n1 : Int32) (a_PING : Addr) (a_ECHO : Addr) (a_QUIT : Addr) (a_REQUEST : Addr) (a_CONVERT : Addr) (a_RELEASE : Addr) (a_COMMIT : Addr) (a_ROLLBACK : Addr) (a_ALLOCATE : Addr) (a_ALLOCATED : Addr) (a_LOCKS : Addr) : entryFrame m #[(.int k1), (.int n1)] maxLocals = mkF m 0 #[.val (.int k1), .val (.int n1), .unset, .unset] [] := by first | (simp [entryFrame, mkF, argsToLocals, Value.category, maxLocals]; done) | rfl
set_option maxRecDepth 65536 in
set_option maxHeartbeats 40000000 in
theorem rm_law (l : Launch) (Z : State) (a0 : Array Value) (hw : ∀ d ∈ tables_1, d.before a0 Z = true) (ws : List Jvm.Cond) (k1 : Int32) (n1 : Int32) (a_PING : Addr) (a_ECHO : Addr) (a_QUIT : Addr) (a_REQUEST : Addr) (a_CONVERT : Addr) (a_RELEASE : Addr) (a_COMMIT : Addr) (a_ROLLBACK : Addr) (a_ALLOCATE : Addr) (a_ALLOCATED : Addr) (a_LOCKS : Addr) (h0 : Heap) (n0 : Nat) (O0 : Old Z n0 h0) (S_PING : Sta Z Z.heap "com/example/admit1/admit1/server/Command" "PING" "Lcom/example/admit1/admit1/server/Command;" (.ref a_PING)) (S_ECHO : Sta Z Z.heap "com/example/admit1/admit1/server/Command" "ECHO" "Lcom/example/admit1/admit1/server/Command;" (.ref a_ECHO)) (S_QUIT : Sta Z Z.heap "com/example/admit1/admit1/server/Command" "QUIT" "Lcom/example/admit1/admit1/server/Command;" (.ref a_QUIT)) (S_REQUEST : Sta Z Z.heap "com/example/admit1/admit1/server/Command" "REQUEST" "Lcom/example/admit1/admit1/server/Command;" (.ref a_REQUEST)) (S_CONVERT : Sta Z Z.heap "com/example/admit1/admit1/server/Command" "CONVERT" "Lcom/example/admit1/admit1/server/Command;" (.ref a_CONVERT)) (S_RELEASE : Sta Z Z.heap "com/example/admit1/admit1/server/Command" "RELEASE" "Lcom/example/admit1/admit1/server/Command;" (.ref a_RELEASE)) (S_COMMIT : Sta Z Z.heap "com/example/admit1/admit1/server/Command" "COMMIT" "Lcom/example/admit1/admit1/server/Command;" (.ref a_COMMIT)) (S_ROLLBACK : Sta Z Z.heap "com/example/admit1/admit1/server/Command" "ROLLBACK" "Lcom/example/admit1/admit1/server/Command;" (.ref a_ROLLBACK)) (S_ALLOCATE : Sta Z Z.heap "com/example/admit1/admit1/server/Command" "ALLOCATE" "Lcom/example/admit1/admit1/server/Command;" (.ref a_ALLOCATE)) (S_ALLOCATED : Sta Z Z.heap "com/example/admit1/admit1/server/Command" "ALLOCATED" "Lcom/example/admit1/admit1/server/Command;" (.ref a_ALLOCATED)) (S_LOCKS : Sta Z Z.heap "com/example/admit1/admit1/server/Command" "LOCKS" "Lcom/example/admit1/admit1/server/Command;" (.ref a_LOCKS)) (E_PING : Exa Z Z.heap a_PING "com/example/admit1/admit1/server/Command") (E_ECHO : Exa Z Z.heap a_ECHO "com/example/admit1/admit1/server/Command") (E_QUIT : Exa Z Z.heap a_QUIT "com/example/admit1/admit1/server/Command") (E_REQUEST : Exa Z Z.heap a_REQUEST "com/example/admit1/admit1/server/Command") (E_CONVERT : Exa Z Z.heap a_CONVERT "com/example/admit1/admit1/server/Command") (E_RELEASE : Exa Z Z.heap a_RELEASE "com/example/admit1/admit1/server/Command") (E_COMMIT : Exa Z Z.heap a_COMMIT "com/example/admit1/admit1/server/Command") (E_ROLLBACK : Exa Z Z.heap a_ROLLBACK "com/example/admit1/admit1/server/Command") (E_ALLOCATE : Exa Z Z.heap a_ALLOCATE "com/example/admit1/admit1/server/Command") (E_ALLOCATED : Exa Z Z.heap a_ALLOCATED "com/example/admit1/admit1/server/Command") (E_LOCKS : Exa Z Z.heap a_LOCKS "com/example/admit1/admit1/server/Command") (F1_PING : Fld Z Z.heap a_PING "com/example/admit1/admit1/server/Command" "minArgs" "I" (.int (0 : Int32))) (F1_ECHO : Fld Z Z.heap a_ECHO "com/example/admit1/admit1/server/Command" "minArgs" "I" (.int (1 : Int32))) (F1_QUIT : Fld Z Z.heap a_QUIT "com/example/admit1/admit1/server/Command" "minArgs" "I" (.int (0 : Int32))) (F1_REQUEST : Fld Z Z.heap a_REQUEST "com/example/admit1/admit1/server/Command" "minArgs" "I" (.int (1 : Int32))) (F1_CONVERT : Fld Z Z.heap a_CONVERT "com/example/admit1/admit1/server/Command" "minArgs" "I" (.int (2 : Int32))) (F1_RELEASE : Fld Z Z.heap a_RELEASE "com/example/admit1/admit1/server/Command" "minArgs" "I" (.int (1 : Int32))) (F1_COMMIT : Fld Z Z.heap a_COMMIT "com/example/admit1/admit1/server/Command" "minArgs" "I" (.int (0 : Int32))) (F1_ROLLBACK : Fld Z Z.heap a_ROLLBACK "com/example/admit1/admit1/server/Command" "minArgs" "I" (.int (0 : Int32))) (F1_ALLOCATE : Fld Z Z.heap a_ALLOCATE "com/example/admit1/admit1/server/Command" "minArgs" "I" (.int (1 : Int32))) (F1_ALLOCATED : Fld Z Z.heap a_ALLOCATED "com/example/admit1/admit1/server/Command" "minArgs" "I" (.int (0 : Int32))) (F1_LOCKS : Fld Z Z.heap a_LOCKS "com/example/admit1/admit1/server/Command" "minArgs" "I" (.int (0 : Int32))) (F2_PING : Fld Z Z.heap a_PING "com/example/admit1/admit1/server/Command" "maxArgs" "I" (.int (1 : Int32))) (F2_ECHO : Fld Z Z.heap a_ECHO "com/example/admit1/admit1/server/Command" "maxArgs" "I" (.int (1 : Int32))) (F2_QUIT : Fld Z Z.heap a_QUIT "com/example/admit1/admit1/server/Command" "maxArgs" "I" (.int (0 : Int32))) (F2_REQUEST : Fld Z Z.heap a_REQUEST "com/example/admit1/admit1/server/Command" "maxArgs" "I" (.int (4 : Int32))) (F2_CONVERT : Fld Z Z.heap a_CONVERT "com/example/admit1/admit1/server/Command" "maxArgs" "I" (.int (3 : Int32))) (F2_RELEASE : Fld Z Z.heap a_RELEASE "com/example/admit1/admit1/server/Command" "maxArgs" "I" (.int (1 : Int32))) (F2_COMMIT : Fld Z Z.heap a_COMMIT "com/example/admit1/admit1/server/Command" "maxArgs" "I" (.int (0 : Int32))) (F2_ROLLBACK : Fld Z Z.heap a_ROLLBACK "com/example/admit1/admit1/server/Command" "maxArgs" "I" (.int (0 : Int32))) (F2_ALLOCATE : Fld Z Z.heap a_ALLOCATE "com/example/admit1/admit1/server/Command" "maxArgs" "I" (.int (2 : Int32))) (F2_ALLOCATED : Fld Z Z.heap a_ALLOCATED "com/example/admit1/admit1/server/Command" "maxArgs" "I" (.int (1 : Int32))) (F2_LOCKS : Fld Z Z.heap a_LOCKS "com/example/admit1/admit1/server/Command" "maxArgs" "I" (.int (1 : Int32))) :
    MetFree l x (head1 (Jvm.Cond.code x code maxLocals ret :: ws) room_1) (fun a U => a = #[(.int k1), (.int n1)] ∧ Z.Warmed39 U.vm ∧ U.heap = h0) (fun _ _ _ _ _ => True) (fun _ U o U' => ∃ v L, o = .returned v ∧ Q_rm_law Z k1 n1 a_PING a_ECHO a_QUIT a_REQUEST a_CONVERT a_RELEASE a_COMMIT a_ROLLBACK a_ALLOCATE a_ALLOCATED a_LOCKS h0 n0 v U'.heap L ∧ FrameEnd U o U' L room_1.cells room_1.slots) := by
  refine MetFree.of_bodySF (plainFor_of_name own_pn_com_example_admit1_admit1_server_CommandTakesPinLaw) hisR ?_
  intro p e s m args below meth c s₁ Bd hml0 hP hK
  obtain ⟨rfl, hZ, hh⟩ := hP
  have hx := Bd.exec
  have hby := Bd.bytes
  have hml : c.maxLocals = 4 := hml0
  have hown : s.vm.findClass "com/example/admit1/admit1/server/CommandTakesPinLaw" = some m.cls := findClass_of_methodNamed Bd.named
  have hnm := (name_of_methodNamed Bd.named Bd.method).1
  have X0 : Stand p l e room_1 s m #[(.int k1), (.int n1)] below meth c s₁ [] 0 0 := Stand.of_body Bd
  have e0 : s₁.heap = h0 := by rw [← hh, Bd.state]; rfl
  have N0 := Fr.nil n0
  have Z0 : n0 ≤ h0.size := by rw [← O0.1]; exact O0.2.1
  show own_Go p e below (s₁.setTop (entryFrame m #[(.int k1), (.int n1)] maxLocals)) (fun t o => ∃ v L, o = .returned v ∧ Q_rm_law Z k1 n1 a_PING a_ECHO a_QUIT a_REQUEST a_CONVERT a_RELEASE a_COMMIT a_ROLLBACK a_ALLOCATE a_ALLOCATED a_LOCKS h0 n0 v t.heap L ∧ FrameEnd s o t L room_1.cells room_1.slots)
  rw [ef_rm_law m k1 n1 a_PING a_ECHO a_QUIT a_REQUEST a_CONVERT a_RELEASE a_COMMIT a_ROLLBACK a_ALLOCATE a_ALLOCATED a_LOCKS]
  refine own_by (fun _ k => XS.iloadN X0.here hx rfl (hb hby at_0) rfl k) ?_
  show own_Go p e below (s₁.setTop (mkF m 1 #[.val (.int k1), .val (.int n1), .unset, .unset] [(.int k1)])) _
  refine own_by (X0.ldcInt hx hown (mvT hZ (hw _ (List.mem_of_getElem? (i := 0) rfl))) (g := (mkF m 1 #[.val (.int k1), .val (.int n1), .unset, .unset] [(.int k1)])) rfl (hb hby at_1)) ?_
  show own_Go p e below (s₁.setTop (mkF m 3 #[.val (.int k1), .val (.int n1), .unset, .unset] [(.int (2147483647 : Int32)), (.int k1)])) _
  refine own_by (fun _ k => XS.iand X0.here hx rfl (hb hby at_3) rfl k) ?_
  show own_Go p e below (s₁.setTop (mkF m 4 #[.val (.int k1), .val (.int n1), .unset, .unset] [(.int (k1 &&& (2147483647 : Int32)))])) _
  refine own_by (fun _ k => XS.bipush X0.here hx rfl (hb hby at_4) k) ?_
  show own_Go p e below (s₁.setTop (mkF m 6 #[.val (.int k1), .val (.int n1), .unset, .unset] [(.int (11 : Int32)), (.int (k1 &&& (2147483647 : Int32)))])) _
  refine own_by (fun _ k => iremM (g := (mkF m 6 #[.val (.int k1), .val (.int n1), .unset, .unset] [(.int (11 : Int32)), (.int (k1 &&& (2147483647 : Int32)))])) X0 hx rfl (hb hby at_6) rfl (by decide : ¬ ((11 : Int32) = (0 : Int32))) k) ?_
  show own_Go p e below (s₁.setTop (mkF m 7 #[.val (.int k1), .val (.int n1), .unset, .unset] [(.int ((k1 &&& (2147483647 : Int32)) % (11 : Int32)))])) _
  refine own_by (fun _ k => XS.istoreN X0.here hx rfl (hb hby at_7) rfl (l' := #[.val (.int k1), .val (.int n1), .val (.int ((k1 &&& (2147483647 : Int32)) % (11 : Int32))), .unset]) rfl k) ?_
  show own_Go p e below (s₁.setTop (mkF m 8 #[.val (.int k1), .val (.int n1), .val (.int ((k1 &&& (2147483647 : Int32)) % (11 : Int32))), .unset] [])) _
  obtain ⟨i, hi⟩ : ∃ z, z = ((k1 &&& (2147483647 : Int32)) % (11 : Int32)) := ⟨_, rfl⟩
  rw [← hi]
  rcases own_eleven hi with rfl | rfl | rfl | rfl | rfl | rfl | rfl | rfl | rfl | rfl | rfl
  · show own_Go p e below (s₁.setTop (mkF m 8 #[.val (.int k1), .val (.int n1), .val (.int (0 : Int32)), .unset] [])) _
    refine own_by (fun _ k => XS.iloadN X0.here hx rfl (hb hby at_8) rfl k) ?_
    show own_Go p e below (s₁.setTop (mkF m 9 #[.val (.int k1), .val (.int n1), .val (.int (0 : Int32)), .unset] [(.int (0 : Int32))])) _
    obtain ⟨_, _, ⟨T1, L1, k1, n1⟩, -, X1, ⟨Lc1, hQ1, l1, y1, z1⟩, st1⟩ := Jvm.LawKit.callS X0 hx (y := (⟨"com/example/admit1/admit1/server/CommandTakesPinLaw", "pick", "(I)Lcom/example/admit1/admit1/server/Command;"⟩ : MethodName)) hown (mvT hZ (hw _ (List.mem_of_getElem? (i := 1) rfl))) (mvT hZ (hw _ (List.mem_of_getElem? (i := 2) rfl))) (mvT hZ (hw _ (List.mem_of_getElem? (i := 3) rfl))) (mvT hZ (hw _ (List.mem_of_getElem? (i := 4) rfl))) (by decide) (backOf (W := 0) (rm_pick0 l Z a0 hw [] a_PING h0 n0 O0 S_PING) hZ (hw _ (List.mem_of_getElem? (i := 4) rfl)) (hw _ (List.mem_of_getElem? (i := 3) rfl)) (by decide) (by decide)) (g := (mkF m 9 #[.val (.int k1), .val (.int n1), .val (.int (0 : Int32)), .unset] [(.int (0 : Int32))])) rfl (by rw [hml]; rfl) (argsL := [(.int (0 : Int32))]) (rest := []) (lenOf own_pd__28I_29Lcom_2fexample_2fadmit1_2fadmit1_2fserver_2fCommand_3b rfl) rfl (by show 2 * 0 + _ ≤ _; exact Nat.le_of_eq rfl) (hb hby at_9) (fun _ _ => ⟨rfl, e0, (by decide : 0 + 0 ≤ _), (by decide : 0 + 0 ≤ _)⟩)
    dsimp only [Pt.U, Pt.locs, Pt.cells, Pt.slots] at X1 l1 y1 z1 st1 hQ1
    subst l1 y1 z1
    obtain ⟨rfl, M1, K1⟩ := hQ1
    have N1 := Fr.app N0 M1
    refine own_by st1 ?_
    show own_Go p e below (T1.setTop (mkF m 12 #[.val (.int k1), .val (.int n1), .val (.int (0 : Int32)), .unset] [(.ref a_PING)])) _
    refine own_by (fun _ k => XS.astoreN X1.here hx rfl (hb hby at_12) rfl rfl (l' := #[.val (.int k1), .val (.int n1), .val (.int (0 : Int32)), .val (.ref a_PING)]) rfl k) ?_
    show own_Go p e below (T1.setTop (mkF m 13 #[.val (.int k1), .val (.int n1), .val (.int (0 : Int32)), .val (.ref a_PING)] [])) _
    refine own_by (fun _ k => XS.aloadN X1.here hx rfl (hb hby at_13) rfl rfl k) ?_
    show own_Go p e below (T1.setTop (mkF m 14 #[.val (.int k1), .val (.int n1), .val (.int (0 : Int32)), .val (.ref a_PING)] [(.ref a_PING)])) _
    refine own_by (fun _ k => XS.iloadN X1.here hx rfl (hb hby at_14) rfl k) ?_
    show own_Go p e below (T1.setTop (mkF m 15 #[.val (.int k1), .val (.int n1), .val (.int (0 : Int32)), .val (.ref a_PING)] [(.int n1), (.ref a_PING)])) _
    have f2 : Fld Z h0 a_PING "com/example/admit1/admit1/server/Command" "minArgs" "I" (.int (0 : Int32)) := F1_PING.ext O0.2
    have f3 : Fld Z h0 a_PING "com/example/admit1/admit1/server/Command" "maxArgs" "I" (.int (1 : Int32)) := F2_PING.ext O0.2
    have f5 : Exa Z h0 a_PING "com/example/admit1/admit1/server/Command" := E_PING.ext O0.2
    obtain ⟨cq4, kq4, q4a, q4b, q4c⟩ := isOf hZ K1 f5
    obtain ⟨_, _, ⟨T4, L4, k4, n4⟩, -, X4, ⟨Lc4, hQ4, l4, y4, z4⟩, st4⟩ := X1.virtualBack hx (y := (⟨"com/example/admit1/admit1/server/Command", "takes", "(I)Z"⟩ : MethodName)) (z := (⟨"com/example/admit1/admit1/server/Command", "takes", "(I)Z"⟩ : MethodName)) hown (mvT hZ (hw _ (List.mem_of_getElem? (i := 8) rfl))) (mvT hZ (hw _ (List.mem_of_getElem? (i := 9) rfl))) (notFace_of_selects (args := #[]) (mvT hZ (hw _ (List.mem_of_getElem? (i := 11) rfl)))) (mvT hZ (hw _ (List.mem_of_getElem? (i := 11) rfl))) (mvT hZ (hw _ (List.mem_of_getElem? (i := 10) rfl))) (by decide) (backOf (W := 0) (rm_takes l Z a0 hw [] a_PING n1 (0 : Int32) (1 : Int32) h0 n0 O0 f2 f3) hZ (hw _ (List.mem_of_getElem? (i := 12) rfl)) (hw _ (List.mem_of_getElem? (i := 6) rfl)) (by decide) (by decide)) q4a q4c (g := (mkF m 15 #[.val (.int k1), .val (.int n1), .val (.int (0 : Int32)), .val (.ref a_PING)] [(.int n1), (.ref a_PING)])) rfl (by rw [hml]; rfl) (Steps.refl _) (argsL := [(.int n1)]) (rest := []) (lenOf own_pd__28I_29Z rfl) rfl (by show 2 * 0 + _ ≤ _; exact Nat.le_of_eq rfl) (hb hby at_15) (fun _ _ => ⟨rfl, K1, (by decide : 0 + 0 ≤ _), (by decide : 0 + 0 ≤ _)⟩)
    dsimp only [Pt.U, Pt.locs, Pt.cells, Pt.slots] at X4 l4 y4 z4 st4 hQ4
    subst l4 y4 z4
    obtain ⟨rfl, M4, K4⟩ := hQ4
    have N4 := Fr.app N1 M4
    refine own_by (fun _ k => st4.trans k) ?_
    show own_Go p e below (T4.setTop (mkF m 18 #[.val (.int k1), .val (.int n1), .val (.int (0 : Int32)), .val (.ref a_PING)] [(.int (own_takes n1 (0 : Int32) (1 : Int32)))])) _
    refine own_by (fun _ k => XS.iloadN X4.here hx rfl (hb hby at_18) rfl k) ?_
    show own_Go p e below (T4.setTop (mkF m 19 #[.val (.int k1), .val (.int n1), .val (.int (0 : Int32)), .val (.ref a_PING)] [(.int (0 : Int32)), (.int (own_takes n1 (0 : Int32) (1 : Int32)))])) _
    refine own_by (fun _ k => XS.iloadN X4.here hx rfl (hb hby at_19) rfl k) ?_
    show own_Go p e below (T4.setTop (mkF m 20 #[.val (.int k1), .val (.int n1), .val (.int (0 : Int32)), .val (.ref a_PING)] [(.int n1), (.int (0 : Int32)), (.int (own_takes n1 (0 : Int32) (1 : Int32)))])) _
    obtain ⟨_, _, ⟨T6, L6, k6, n6⟩, -, X6, ⟨Lc6, hQ6, l6, y6, z6⟩, st6⟩ := Jvm.LawKit.callS X4 hx (y := (⟨"com/example/admit1/admit1/server/CommandTakesPinLaw", "expected", "(II)Z"⟩ : MethodName)) hown (mvT hZ (hw _ (List.mem_of_getElem? (i := 17) rfl))) (mvT hZ (hw _ (List.mem_of_getElem? (i := 18) rfl))) (mvT hZ (hw _ (List.mem_of_getElem? (i := 3) rfl))) (mvT hZ (hw _ (List.mem_of_getElem? (i := 19) rfl))) (by decide) (backOf (W := 1) (rm_exp0 l Z a0 hw [] n1 h0 n0 O0) hZ (hw _ (List.mem_of_getElem? (i := 19) rfl)) (hw _ (List.mem_of_getElem? (i := 3) rfl)) (by decide) (by decide)) (g := (mkF m 20 #[.val (.int k1), .val (.int n1), .val (.int (0 : Int32)), .val (.ref a_PING)] [(.int n1), (.int (0 : Int32)), (.int (own_takes n1 (0 : Int32) (1 : Int32)))])) rfl (by rw [hml]; rfl) (argsL := [(.int (0 : Int32)), (.int n1)]) (rest := [(.int (own_takes n1 (0 : Int32) (1 : Int32)))]) (lenOf own_pd__28II_29Z rfl) rfl (by show 2 * 0 + _ ≤ _; exact Nat.le_of_eq rfl) (hb hby at_20) (fun _ _ => ⟨rfl, K4, (by decide : 0 + 0 ≤ _), (by decide : 0 + 0 ≤ _)⟩)
    dsimp only [Pt.U, Pt.locs, Pt.cells, Pt.slots] at X6 l6 y6 z6 st6 hQ6
    subst l6 y6 z6
    obtain ⟨rfl, M6, K6⟩ := hQ6
    have N6 := Fr.app N4 M6
    refine own_by st6 ?_
    show own_Go p e below (T6.setTop (mkF m 23 #[.val (.int k1), .val (.int n1), .val (.int (0 : Int32)), .val (.ref a_PING)] [(.int (own_takes n1 (0 : Int32) (1 : Int32))), (.int (own_takes n1 (0 : Int32) (1 : Int32)))])) _
    refine own_by (fun _ k => XS.icmpNo X6.here hx rfl (hb hby at_23) rfl (teq (rfl : (own_takes n1 (0 : Int32) (1 : Int32)) = (own_takes n1 (0 : Int32) (1 : Int32)))).2 k) ?_
    show own_Go p e below (T6.setTop (mkF m 26 #[.val (.int k1), .val (.int n1), .val (.int (0 : Int32)), .val (.ref a_PING)] [])) _
    refine own_by (fun _ k => XS.iconst X6.here hx rfl (hb hby at_26) k) ?_
    show own_Go p e below (T6.setTop (mkF m 27 #[.val (.int k1), .val (.int n1), .val (.int (0 : Int32)), .val (.ref a_PING)] [(.int (1 : Int32))])) _
    refine own_by (fun _ k => XS.goto X6.here hx rfl (pc0 := 27) (pc' := 31) rfl (hb hby at_27) (by decide) (by decide) k) ?_
    show own_Go p e below (T6.setTop (mkF m 31 #[.val (.int k1), .val (.int n1), .val (.int (0 : Int32)), .val (.ref a_PING)] [(.int (1 : Int32))])) _
    obtain ⟨fs, hr, hrun, hended, hW, hsame⟩ := X6.leave (v := some (.int (1 : Int32))) (fun h => by rw [Bd.returns] at h; cases h)
    refine ⟨_, _, retN X6 hx (t := .boolean) Bd.returns (by simp) (hb hby at_31) hr, hrun, hended, _, _, rfl, ?_, ⟨_, rfl⟩, hW, hsame.mono (by decide) (by decide)⟩
    show Q_rm_law Z k1 n1 a_PING a_ECHO a_QUIT a_REQUEST a_CONVERT a_RELEASE a_COMMIT a_ROLLBACK a_ALLOCATE a_ALLOCATED a_LOCKS h0 n0 _ T6.heap _
    rw [K6]
    exact ⟨rfl, N6, rfl⟩
  · show own_Go p e below (s₁.setTop (mkF m 8 #[.val (.int k1), .val (.int n1), .val (.int (1 : Int32)), .unset] [])) _
    refine own_by (fun _ k => XS.iloadN X0.here hx rfl (hb hby at_8) rfl k) ?_
    show own_Go p e below (s₁.setTop (mkF m 9 #[.val (.int k1), .val (.int n1), .val (.int (1 : Int32)), .unset] [(.int (1 : Int32))])) _
    obtain ⟨_, _, ⟨T7, L7, k7, n7⟩, -, X7, ⟨Lc7, hQ7, l7, y7, z7⟩, st7⟩ := Jvm.LawKit.callS X0 hx (y := (⟨"com/example/admit1/admit1/server/CommandTakesPinLaw", "pick", "(I)Lcom/example/admit1/admit1/server/Command;"⟩ : MethodName)) hown (mvT hZ (hw _ (List.mem_of_getElem? (i := 1) rfl))) (mvT hZ (hw _ (List.mem_of_getElem? (i := 2) rfl))) (mvT hZ (hw _ (List.mem_of_getElem? (i := 3) rfl))) (mvT hZ (hw _ (List.mem_of_getElem? (i := 4) rfl))) (by decide) (backOf (W := 0) (rm_pick1 l Z a0 hw [] a_ECHO h0 n0 O0 S_ECHO) hZ (hw _ (List.mem_of_getElem? (i := 4) rfl)) (hw _ (List.mem_of_getElem? (i := 3) rfl)) (by decide) (by decide)) (g := (mkF m 9 #[.val (.int k1), .val (.int n1), .val (.int (1 : Int32)), .unset] [(.int (1 : Int32))])) rfl (by rw [hml]; rfl) (argsL := [(.int (1 : Int32))]) (rest := []) (lenOf own_pd__28I_29Lcom_2fexample_2fadmit1_2fadmit1_2fserver_2fCommand_3b rfl) rfl (by show 2 * 0 + _ ≤ _; exact Nat.le_of_eq rfl) (hb hby at_9) (fun _ _ => ⟨rfl, e0, (by decide : 0 + 0 ≤ _), (by decide : 0 + 0 ≤ _)⟩)
    dsimp only [Pt.U, Pt.locs, Pt.cells, Pt.slots] at X7 l7 y7 z7 st7 hQ7
    subst l7 y7 z7
    obtain ⟨rfl, M7, K7⟩ := hQ7
    have N7 := Fr.app N0 M7
    refine own_by st7 ?_
    show own_Go p e below (T7.setTop (mkF m 12 #[.val (.int k1), .val (.int n1), .val (.int (1 : Int32)), .unset] [(.ref a_ECHO)])) _
    refine own_by (fun _ k => XS.astoreN X7.here hx rfl (hb hby at_12) rfl rfl (l' := #[.val (.int k1), .val (.int n1), .val (.int (1 : Int32)), .val (.ref a_ECHO)]) rfl k) ?_
    show own_Go p e below (T7.setTop (mkF m 13 #[.val (.int k1), .val (.int n1), .val (.int (1 : Int32)), .val (.ref a_ECHO)] [])) _
    refine own_by (fun _ k => XS.aloadN X7.here hx rfl (hb hby at_13) rfl rfl k) ?_
    show own_Go p e below (T7.setTop (mkF m 14 #[.val (.int k1), .val (.int n1), .val (.int (1 : Int32)), .val (.ref a_ECHO)] [(.ref a_ECHO)])) _
    refine own_by (fun _ k => XS.iloadN X7.here hx rfl (hb hby at_14) rfl k) ?_
    show own_Go p e below (T7.setTop (mkF m 15 #[.val (.int k1), .val (.int n1), .val (.int (1 : Int32)), .val (.ref a_ECHO)] [(.int n1), (.ref a_ECHO)])) _
    have f8 : Fld Z h0 a_ECHO "com/example/admit1/admit1/server/Command" "minArgs" "I" (.int (1 : Int32)) := F1_ECHO.ext O0.2
    have f9 : Fld Z h0 a_ECHO "com/example/admit1/admit1/server/Command" "maxArgs" "I" (.int (1 : Int32)) := F2_ECHO.ext O0.2
    have f11 : Exa Z h0 a_ECHO "com/example/admit1/admit1/server/Command" := E_ECHO.ext O0.2
    obtain ⟨cq10, kq10, q10a, q10b, q10c⟩ := isOf hZ K7 f11
    obtain ⟨_, _, ⟨T10, L10, k10, n10⟩, -, X10, ⟨Lc10, hQ10, l10, y10, z10⟩, st10⟩ := X7.virtualBack hx (y := (⟨"com/example/admit1/admit1/server/Command", "takes", "(I)Z"⟩ : MethodName)) (z := (⟨"com/example/admit1/admit1/server/Command", "takes", "(I)Z"⟩ : MethodName)) hown (mvT hZ (hw _ (List.mem_of_getElem? (i := 8) rfl))) (mvT hZ (hw _ (List.mem_of_getElem? (i := 9) rfl))) (notFace_of_selects (args := #[]) (mvT hZ (hw _ (List.mem_of_getElem? (i := 11) rfl)))) (mvT hZ (hw _ (List.mem_of_getElem? (i := 11) rfl))) (mvT hZ (hw _ (List.mem_of_getElem? (i := 10) rfl))) (by decide) (backOf (W := 0) (rm_takes l Z a0 hw [] a_ECHO n1 (1 : Int32) (1 : Int32) h0 n0 O0 f8 f9) hZ (hw _ (List.mem_of_getElem? (i := 12) rfl)) (hw _ (List.mem_of_getElem? (i := 6) rfl)) (by decide) (by decide)) q10a q10c (g := (mkF m 15 #[.val (.int k1), .val (.int n1), .val (.int (1 : Int32)), .val (.ref a_ECHO)] [(.int n1), (.ref a_ECHO)])) rfl (by rw [hml]; rfl) (Steps.refl _) (argsL := [(.int n1)]) (rest := []) (lenOf own_pd__28I_29Z rfl) rfl (by show 2 * 0 + _ ≤ _; exact Nat.le_of_eq rfl) (hb hby at_15) (fun _ _ => ⟨rfl, K7, (by decide : 0 + 0 ≤ _), (by decide : 0 + 0 ≤ _)⟩)
    dsimp only [Pt.U, Pt.locs, Pt.cells, Pt.slots] at X10 l10 y10 z10 st10 hQ10
    subst l10 y10 z10
    obtain ⟨rfl, M10, K10⟩ := hQ10
    have N10 := Fr.app N7 M10
    refine own_by (fun _ k => st10.trans k) ?_
    show own_Go p e below (T10.setTop (mkF m 18 #[.val (.int k1), .val (.int n1), .val (.int (1 : Int32)), .val (.ref a_ECHO)] [(.int (own_takes n1 (1 : Int32) (1 : Int32)))])) _
    refine own_by (fun _ k => XS.iloadN X10.here hx rfl (hb hby at_18) rfl k) ?_
    show own_Go p e below (T10.setTop (mkF m 19 #[.val (.int k1), .val (.int n1), .val (.int (1 : Int32)), .val (.ref a_ECHO)] [(.int (1 : Int32)), (.int (own_takes n1 (1 : Int32) (1 : Int32)))])) _
    refine own_by (fun _ k => XS.iloadN X10.here hx rfl (hb hby at_19) rfl k) ?_
    show own_Go p e below (T10.setTop (mkF m 20 #[.val (.int k1), .val (.int n1), .val (.int (1 : Int32)), .val (.ref a_ECHO)] [(.int n1), (.int (1 : Int32)), (.int (own_takes n1 (1 : Int32) (1 : Int32)))])) _
    obtain ⟨_, _, ⟨T12, L12, k12, n12⟩, -, X12, ⟨Lc12, hQ12, l12, y12, z12⟩, st12⟩ := Jvm.LawKit.callS X10 hx (y := (⟨"com/example/admit1/admit1/server/CommandTakesPinLaw", "expected", "(II)Z"⟩ : MethodName)) hown (mvT hZ (hw _ (List.mem_of_getElem? (i := 17) rfl))) (mvT hZ (hw _ (List.mem_of_getElem? (i := 18) rfl))) (mvT hZ (hw _ (List.mem_of_getElem? (i := 3) rfl))) (mvT hZ (hw _ (List.mem_of_getElem? (i := 19) rfl))) (by decide) (backOf (W := 1) (rm_exp1 l Z a0 hw [] n1 h0 n0 O0) hZ (hw _ (List.mem_of_getElem? (i := 19) rfl)) (hw _ (List.mem_of_getElem? (i := 3) rfl)) (by decide) (by decide)) (g := (mkF m 20 #[.val (.int k1), .val (.int n1), .val (.int (1 : Int32)), .val (.ref a_ECHO)] [(.int n1), (.int (1 : Int32)), (.int (own_takes n1 (1 : Int32) (1 : Int32)))])) rfl (by rw [hml]; rfl) (argsL := [(.int (1 : Int32)), (.int n1)]) (rest := [(.int (own_takes n1 (1 : Int32) (1 : Int32)))]) (lenOf own_pd__28II_29Z rfl) rfl (by show 2 * 0 + _ ≤ _; exact Nat.le_of_eq rfl) (hb hby at_20) (fun _ _ => ⟨rfl, K10, (by decide : 0 + 0 ≤ _), (by decide : 0 + 0 ≤ _)⟩)
    dsimp only [Pt.U, Pt.locs, Pt.cells, Pt.slots] at X12 l12 y12 z12 st12 hQ12
    subst l12 y12 z12
    obtain ⟨rfl, M12, K12⟩ := hQ12
    have N12 := Fr.app N10 M12
    refine own_by st12 ?_
    show own_Go p e below (T12.setTop (mkF m 23 #[.val (.int k1), .val (.int n1), .val (.int (1 : Int32)), .val (.ref a_ECHO)] [(.int (own_takes n1 (1 : Int32) (1 : Int32))), (.int (own_takes n1 (1 : Int32) (1 : Int32)))])) _
    refine own_by (fun _ k => XS.icmpNo X12.here hx rfl (hb hby at_23) rfl (teq (rfl : (own_takes n1 (1 : Int32) (1 : Int32)) = (own_takes n1 (1 : Int32) (1 : Int32)))).2 k) ?_
    show own_Go p e below (T12.setTop (mkF m 26 #[.val (.int k1), .val (.int n1), .val (.int (1 : Int32)), .val (.ref a_ECHO)] [])) _
    refine own_by (fun _ k => XS.iconst X12.here hx rfl (hb hby at_26) k) ?_
    show own_Go p e below (T12.setTop (mkF m 27 #[.val (.int k1), .val (.int n1), .val (.int (1 : Int32)), .val (.ref a_ECHO)] [(.int (1 : Int32))])) _
    refine own_by (fun _ k => XS.goto X12.here hx rfl (pc0 := 27) (pc' := 31) rfl (hb hby at_27) (by decide) (by decide) k) ?_
    show own_Go p e below (T12.setTop (mkF m 31 #[.val (.int k1), .val (.int n1), .val (.int (1 : Int32)), .val (.ref a_ECHO)] [(.int (1 : Int32))])) _
    obtain ⟨fs, hr, hrun, hended, hW, hsame⟩ := X12.leave (v := some (.int (1 : Int32))) (fun h => by rw [Bd.returns] at h; cases h)
    refine ⟨_, _, retN X12 hx (t := .boolean) Bd.returns (by simp) (hb hby at_31) hr, hrun, hended, _, _, rfl, ?_, ⟨_, rfl⟩, hW, hsame.mono (by decide) (by decide)⟩
    show Q_rm_law Z k1 n1 a_PING a_ECHO a_QUIT a_REQUEST a_CONVERT a_RELEASE a_COMMIT a_ROLLBACK a_ALLOCATE a_ALLOCATED a_LOCKS h0 n0 _ T12.heap _
    rw [K12]
    exact ⟨rfl, N12, rfl⟩
  · show own_Go p e below (s₁.setTop (mkF m 8 #[.val (.int k1), .val (.int n1), .val (.int (2 : Int32)), .unset] [])) _
    refine own_by (fun _ k => XS.iloadN X0.here hx rfl (hb hby at_8) rfl k) ?_
    show own_Go p e below (s₁.setTop (mkF m 9 #[.val (.int k1), .val (.int n1), .val (.int (2 : Int32)), .unset] [(.int (2 : Int32))])) _
    obtain ⟨_, _, ⟨T13, L13, k13, n13⟩, -, X13, ⟨Lc13, hQ13, l13, y13, z13⟩, st13⟩ := Jvm.LawKit.callS X0 hx (y := (⟨"com/example/admit1/admit1/server/CommandTakesPinLaw", "pick", "(I)Lcom/example/admit1/admit1/server/Command;"⟩ : MethodName)) hown (mvT hZ (hw _ (List.mem_of_getElem? (i := 1) rfl))) (mvT hZ (hw _ (List.mem_of_getElem? (i := 2) rfl))) (mvT hZ (hw _ (List.mem_of_getElem? (i := 3) rfl))) (mvT hZ (hw _ (List.mem_of_getElem? (i := 4) rfl))) (by decide) (backOf (W := 0) (rm_pick2 l Z a0 hw [] a_QUIT h0 n0 O0 S_QUIT) hZ (hw _ (List.mem_of_getElem? (i := 4) rfl)) (hw _ (List.mem_of_getElem? (i := 3) rfl)) (by decide) (by decide)) (g := (mkF m 9 #[.val (.int k1), .val (.int n1), .val (.int (2 : Int32)), .unset] [(.int (2 : Int32))])) rfl (by rw [hml]; rfl) (argsL := [(.int (2 : Int32))]) (rest := []) (lenOf own_pd__28I_29Lcom_2fexample_2fadmit1_2fadmit1_2fserver_2fCommand_3b rfl) rfl (by show 2 * 0 + _ ≤ _; exact Nat.le_of_eq rfl) (hb hby at_9) (fun _ _ => ⟨rfl, e0, (by decide : 0 + 0 ≤ _), (by decide : 0 + 0 ≤ _)⟩)
    dsimp only [Pt.U, Pt.locs, Pt.cells, Pt.slots] at X13 l13 y13 z13 st13 hQ13
    subst l13 y13 z13
    obtain ⟨rfl, M13, K13⟩ := hQ13
    have N13 := Fr.app N0 M13
    refine own_by st13 ?_
    show own_Go p e below (T13.setTop (mkF m 12 #[.val (.int k1), .val (.int n1), .val (.int (2 : Int32)), .unset] [(.ref a_QUIT)])) _
    refine own_by (fun _ k => XS.astoreN X13.here hx rfl (hb hby at_12) rfl rfl (l' := #[.val (.int k1), .val (.int n1), .val (.int (2 : Int32)), .val (.ref a_QUIT)]) rfl k) ?_
    show own_Go p e below (T13.setTop (mkF m 13 #[.val (.int k1), .val (.int n1), .val (.int (2 : Int32)), .val (.ref a_QUIT)] [])) _
    refine own_by (fun _ k => XS.aloadN X13.here hx rfl (hb hby at_13) rfl rfl k) ?_
    show own_Go p e below (T13.setTop (mkF m 14 #[.val (.int k1), .val (.int n1), .val (.int (2 : Int32)), .val (.ref a_QUIT)] [(.ref a_QUIT)])) _
    refine own_by (fun _ k => XS.iloadN X13.here hx rfl (hb hby at_14) rfl k) ?_
    show own_Go p e below (T13.setTop (mkF m 15 #[.val (.int k1), .val (.int n1), .val (.int (2 : Int32)), .val (.ref a_QUIT)] [(.int n1), (.ref a_QUIT)])) _
    have f14 : Fld Z h0 a_QUIT "com/example/admit1/admit1/server/Command" "minArgs" "I" (.int (0 : Int32)) := F1_QUIT.ext O0.2
    have f15 : Fld Z h0 a_QUIT "com/example/admit1/admit1/server/Command" "maxArgs" "I" (.int (0 : Int32)) := F2_QUIT.ext O0.2
    have f17 : Exa Z h0 a_QUIT "com/example/admit1/admit1/server/Command" := E_QUIT.ext O0.2
    obtain ⟨cq16, kq16, q16a, q16b, q16c⟩ := isOf hZ K13 f17
    obtain ⟨_, _, ⟨T16, L16, k16, n16⟩, -, X16, ⟨Lc16, hQ16, l16, y16, z16⟩, st16⟩ := X13.virtualBack hx (y := (⟨"com/example/admit1/admit1/server/Command", "takes", "(I)Z"⟩ : MethodName)) (z := (⟨"com/example/admit1/admit1/server/Command", "takes", "(I)Z"⟩ : MethodName)) hown (mvT hZ (hw _ (List.mem_of_getElem? (i := 8) rfl))) (mvT hZ (hw _ (List.mem_of_getElem? (i := 9) rfl))) (notFace_of_selects (args := #[]) (mvT hZ (hw _ (List.mem_of_getElem? (i := 11) rfl)))) (mvT hZ (hw _ (List.mem_of_getElem? (i := 11) rfl))) (mvT hZ (hw _ (List.mem_of_getElem? (i := 10) rfl))) (by decide) (backOf (W := 0) (rm_takes l Z a0 hw [] a_QUIT n1 (0 : Int32) (0 : Int32) h0 n0 O0 f14 f15) hZ (hw _ (List.mem_of_getElem? (i := 12) rfl)) (hw _ (List.mem_of_getElem? (i := 6) rfl)) (by decide) (by decide)) q16a q16c (g := (mkF m 15 #[.val (.int k1), .val (.int n1), .val (.int (2 : Int32)), .val (.ref a_QUIT)] [(.int n1), (.ref a_QUIT)])) rfl (by rw [hml]; rfl) (Steps.refl _) (argsL := [(.int n1)]) (rest := []) (lenOf own_pd__28I_29Z rfl) rfl (by show 2 * 0 + _ ≤ _; exact Nat.le_of_eq rfl) (hb hby at_15) (fun _ _ => ⟨rfl, K13, (by decide : 0 + 0 ≤ _), (by decide : 0 + 0 ≤ _)⟩)
    dsimp only [Pt.U, Pt.locs, Pt.cells, Pt.slots] at X16 l16 y16 z16 st16 hQ16
    subst l16 y16 z16
    obtain ⟨rfl, M16, K16⟩ := hQ16
    have N16 := Fr.app N13 M16
    refine own_by (fun _ k => st16.trans k) ?_
    show own_Go p e below (T16.setTop (mkF m 18 #[.val (.int k1), .val (.int n1), .val (.int (2 : Int32)), .val (.ref a_QUIT)] [(.int (own_takes n1 (0 : Int32) (0 : Int32)))])) _
    refine own_by (fun _ k => XS.iloadN X16.here hx rfl (hb hby at_18) rfl k) ?_
    show own_Go p e below (T16.setTop (mkF m 19 #[.val (.int k1), .val (.int n1), .val (.int (2 : Int32)), .val (.ref a_QUIT)] [(.int (2 : Int32)), (.int (own_takes n1 (0 : Int32) (0 : Int32)))])) _
    refine own_by (fun _ k => XS.iloadN X16.here hx rfl (hb hby at_19) rfl k) ?_
    show own_Go p e below (T16.setTop (mkF m 20 #[.val (.int k1), .val (.int n1), .val (.int (2 : Int32)), .val (.ref a_QUIT)] [(.int n1), (.int (2 : Int32)), (.int (own_takes n1 (0 : Int32) (0 : Int32)))])) _
    obtain ⟨_, _, ⟨T18, L18, k18, n18⟩, -, X18, ⟨Lc18, hQ18, l18, y18, z18⟩, st18⟩ := Jvm.LawKit.callS X16 hx (y := (⟨"com/example/admit1/admit1/server/CommandTakesPinLaw", "expected", "(II)Z"⟩ : MethodName)) hown (mvT hZ (hw _ (List.mem_of_getElem? (i := 17) rfl))) (mvT hZ (hw _ (List.mem_of_getElem? (i := 18) rfl))) (mvT hZ (hw _ (List.mem_of_getElem? (i := 3) rfl))) (mvT hZ (hw _ (List.mem_of_getElem? (i := 19) rfl))) (by decide) (backOf (W := 1) (rm_exp2 l Z a0 hw [] n1 h0 n0 O0) hZ (hw _ (List.mem_of_getElem? (i := 19) rfl)) (hw _ (List.mem_of_getElem? (i := 3) rfl)) (by decide) (by decide)) (g := (mkF m 20 #[.val (.int k1), .val (.int n1), .val (.int (2 : Int32)), .val (.ref a_QUIT)] [(.int n1), (.int (2 : Int32)), (.int (own_takes n1 (0 : Int32) (0 : Int32)))])) rfl (by rw [hml]; rfl) (argsL := [(.int (2 : Int32)), (.int n1)]) (rest := [(.int (own_takes n1 (0 : Int32) (0 : Int32)))]) (lenOf own_pd__28II_29Z rfl) rfl (by show 2 * 0 + _ ≤ _; exact Nat.le_of_eq rfl) (hb hby at_20) (fun _ _ => ⟨rfl, K16, (by decide : 0 + 0 ≤ _), (by decide : 0 + 0 ≤ _)⟩)
    dsimp only [Pt.U, Pt.locs, Pt.cells, Pt.slots] at X18 l18 y18 z18 st18 hQ18
    subst l18 y18 z18
    obtain ⟨rfl, M18, K18⟩ := hQ18
    have N18 := Fr.app N16 M18
    refine own_by st18 ?_
    show own_Go p e below (T18.setTop (mkF m 23 #[.val (.int k1), .val (.int n1), .val (.int (2 : Int32)), .val (.ref a_QUIT)] [(.int (own_takes n1 (0 : Int32) (0 : Int32))), (.int (own_takes n1 (0 : Int32) (0 : Int32)))])) _
    refine own_by (fun _ k => XS.icmpNo X18.here hx rfl (hb hby at_23) rfl (teq (rfl : (own_takes n1 (0 : Int32) (0 : Int32)) = (own_takes n1 (0 : Int32) (0 : Int32)))).2 k) ?_
    show own_Go p e below (T18.setTop (mkF m 26 #[.val (.int k1), .val (.int n1), .val (.int (2 : Int32)), .val (.ref a_QUIT)] [])) _
    refine own_by (fun _ k => XS.iconst X18.here hx rfl (hb hby at_26) k) ?_
    show own_Go p e below (T18.setTop (mkF m 27 #[.val (.int k1), .val (.int n1), .val (.int (2 : Int32)), .val (.ref a_QUIT)] [(.int (1 : Int32))])) _
    refine own_by (fun _ k => XS.goto X18.here hx rfl (pc0 := 27) (pc' := 31) rfl (hb hby at_27) (by decide) (by decide) k) ?_
    show own_Go p e below (T18.setTop (mkF m 31 #[.val (.int k1), .val (.int n1), .val (.int (2 : Int32)), .val (.ref a_QUIT)] [(.int (1 : Int32))])) _
    obtain ⟨fs, hr, hrun, hended, hW, hsame⟩ := X18.leave (v := some (.int (1 : Int32))) (fun h => by rw [Bd.returns] at h; cases h)
    refine ⟨_, _, retN X18 hx (t := .boolean) Bd.returns (by simp) (hb hby at_31) hr, hrun, hended, _, _, rfl, ?_, ⟨_, rfl⟩, hW, hsame.mono (by decide) (by decide)⟩
    show Q_rm_law Z k1 n1 a_PING a_ECHO a_QUIT a_REQUEST a_CONVERT a_RELEASE a_COMMIT a_ROLLBACK a_ALLOCATE a_ALLOCATED a_LOCKS h0 n0 _ T18.heap _
    rw [K18]
    exact ⟨rfl, N18, rfl⟩
  · show own_Go p e below (s₁.setTop (mkF m 8 #[.val (.int k1), .val (.int n1), .val (.int (3 : Int32)), .unset] [])) _
    refine own_by (fun _ k => XS.iloadN X0.here hx rfl (hb hby at_8) rfl k) ?_
    show own_Go p e below (s₁.setTop (mkF m 9 #[.val (.int k1), .val (.int n1), .val (.int (3 : Int32)), .unset] [(.int (3 : Int32))])) _
    obtain ⟨_, _, ⟨T19, L19, k19, n19⟩, -, X19, ⟨Lc19, hQ19, l19, y19, z19⟩, st19⟩ := Jvm.LawKit.callS X0 hx (y := (⟨"com/example/admit1/admit1/server/CommandTakesPinLaw", "pick", "(I)Lcom/example/admit1/admit1/server/Command;"⟩ : MethodName)) hown (mvT hZ (hw _ (List.mem_of_getElem? (i := 1) rfl))) (mvT hZ (hw _ (List.mem_of_getElem? (i := 2) rfl))) (mvT hZ (hw _ (List.mem_of_getElem? (i := 3) rfl))) (mvT hZ (hw _ (List.mem_of_getElem? (i := 4) rfl))) (by decide) (backOf (W := 0) (rm_pick3 l Z a0 hw [] a_REQUEST h0 n0 O0 S_REQUEST) hZ (hw _ (List.mem_of_getElem? (i := 4) rfl)) (hw _ (List.mem_of_getElem? (i := 3) rfl)) (by decide) (by decide)) (g := (mkF m 9 #[.val (.int k1), .val (.int n1), .val (.int (3 : Int32)), .unset] [(.int (3 : Int32))])) rfl (by rw [hml]; rfl) (argsL := [(.int (3 : Int32))]) (rest := []) (lenOf own_pd__28I_29Lcom_2fexample_2fadmit1_2fadmit1_2fserver_2fCommand_3b rfl) rfl (by show 2 * 0 + _ ≤ _; exact Nat.le_of_eq rfl) (hb hby at_9) (fun _ _ => ⟨rfl, e0, (by decide : 0 + 0 ≤ _), (by decide : 0 + 0 ≤ _)⟩)
    dsimp only [Pt.U, Pt.locs, Pt.cells, Pt.slots] at X19 l19 y19 z19 st19 hQ19
    subst l19 y19 z19
    obtain ⟨rfl, M19, K19⟩ := hQ19
    have N19 := Fr.app N0 M19
    refine own_by st19 ?_
    show own_Go p e below (T19.setTop (mkF m 12 #[.val (.int k1), .val (.int n1), .val (.int (3 : Int32)), .unset] [(.ref a_REQUEST)])) _
    refine own_by (fun _ k => XS.astoreN X19.here hx rfl (hb hby at_12) rfl rfl (l' := #[.val (.int k1), .val (.int n1), .val (.int (3 : Int32)), .val (.ref a_REQUEST)]) rfl k) ?_
    show own_Go p e below (T19.setTop (mkF m 13 #[.val (.int k1), .val (.int n1), .val (.int (3 : Int32)), .val (.ref a_REQUEST)] [])) _
    refine own_by (fun _ k => XS.aloadN X19.here hx rfl (hb hby at_13) rfl rfl k) ?_
    show own_Go p e below (T19.setTop (mkF m 14 #[.val (.int k1), .val (.int n1), .val (.int (3 : Int32)), .val (.ref a_REQUEST)] [(.ref a_REQUEST)])) _
    refine own_by (fun _ k => XS.iloadN X19.here hx rfl (hb hby at_14) rfl k) ?_
    show own_Go p e below (T19.setTop (mkF m 15 #[.val (.int k1), .val (.int n1), .val (.int (3 : Int32)), .val (.ref a_REQUEST)] [(.int n1), (.ref a_REQUEST)])) _
    have f20 : Fld Z h0 a_REQUEST "com/example/admit1/admit1/server/Command" "minArgs" "I" (.int (1 : Int32)) := F1_REQUEST.ext O0.2
    have f21 : Fld Z h0 a_REQUEST "com/example/admit1/admit1/server/Command" "maxArgs" "I" (.int (4 : Int32)) := F2_REQUEST.ext O0.2
    have f23 : Exa Z h0 a_REQUEST "com/example/admit1/admit1/server/Command" := E_REQUEST.ext O0.2
    obtain ⟨cq22, kq22, q22a, q22b, q22c⟩ := isOf hZ K19 f23
    obtain ⟨_, _, ⟨T22, L22, k22, n22⟩, -, X22, ⟨Lc22, hQ22, l22, y22, z22⟩, st22⟩ := X19.virtualBack hx (y := (⟨"com/example/admit1/admit1/server/Command", "takes", "(I)Z"⟩ : MethodName)) (z := (⟨"com/example/admit1/admit1/server/Command", "takes", "(I)Z"⟩ : MethodName)) hown (mvT hZ (hw _ (List.mem_of_getElem? (i := 8) rfl))) (mvT hZ (hw _ (List.mem_of_getElem? (i := 9) rfl))) (notFace_of_selects (args := #[]) (mvT hZ (hw _ (List.mem_of_getElem? (i := 11) rfl)))) (mvT hZ (hw _ (List.mem_of_getElem? (i := 11) rfl))) (mvT hZ (hw _ (List.mem_of_getElem? (i := 10) rfl))) (by decide) (backOf (W := 0) (rm_takes l Z a0 hw [] a_REQUEST n1 (1 : Int32) (4 : Int32) h0 n0 O0 f20 f21) hZ (hw _ (List.mem_of_getElem? (i := 12) rfl)) (hw _ (List.mem_of_getElem? (i := 6) rfl)) (by decide) (by decide)) q22a q22c (g := (mkF m 15 #[.val (.int k1), .val (.int n1), .val (.int (3 : Int32)), .val (.ref a_REQUEST)] [(.int n1), (.ref a_REQUEST)])) rfl (by rw [hml]; rfl) (Steps.refl _) (argsL := [(.int n1)]) (rest := []) (lenOf own_pd__28I_29Z rfl) rfl (by show 2 * 0 + _ ≤ _; exact Nat.le_of_eq rfl) (hb hby at_15) (fun _ _ => ⟨rfl, K19, (by decide : 0 + 0 ≤ _), (by decide : 0 + 0 ≤ _)⟩)
    dsimp only [Pt.U, Pt.locs, Pt.cells, Pt.slots] at X22 l22 y22 z22 st22 hQ22
    subst l22 y22 z22
    obtain ⟨rfl, M22, K22⟩ := hQ22
    have N22 := Fr.app N19 M22
    refine own_by (fun _ k => st22.trans k) ?_
    show own_Go p e below (T22.setTop (mkF m 18 #[.val (.int k1), .val (.int n1), .val (.int (3 : Int32)), .val (.ref a_REQUEST)] [(.int (own_takes n1 (1 : Int32) (4 : Int32)))])) _
    refine own_by (fun _ k => XS.iloadN X22.here hx rfl (hb hby at_18) rfl k) ?_
    show own_Go p e below (T22.setTop (mkF m 19 #[.val (.int k1), .val (.int n1), .val (.int (3 : Int32)), .val (.ref a_REQUEST)] [(.int (3 : Int32)), (.int (own_takes n1 (1 : Int32) (4 : Int32)))])) _
    refine own_by (fun _ k => XS.iloadN X22.here hx rfl (hb hby at_19) rfl k) ?_
    show own_Go p e below (T22.setTop (mkF m 20 #[.val (.int k1), .val (.int n1), .val (.int (3 : Int32)), .val (.ref a_REQUEST)] [(.int n1), (.int (3 : Int32)), (.int (own_takes n1 (1 : Int32) (4 : Int32)))])) _
    obtain ⟨_, _, ⟨T24, L24, k24, n24⟩, -, X24, ⟨Lc24, hQ24, l24, y24, z24⟩, st24⟩ := Jvm.LawKit.callS X22 hx (y := (⟨"com/example/admit1/admit1/server/CommandTakesPinLaw", "expected", "(II)Z"⟩ : MethodName)) hown (mvT hZ (hw _ (List.mem_of_getElem? (i := 17) rfl))) (mvT hZ (hw _ (List.mem_of_getElem? (i := 18) rfl))) (mvT hZ (hw _ (List.mem_of_getElem? (i := 3) rfl))) (mvT hZ (hw _ (List.mem_of_getElem? (i := 19) rfl))) (by decide) (backOf (W := 1) (rm_exp3 l Z a0 hw [] n1 h0 n0 O0) hZ (hw _ (List.mem_of_getElem? (i := 19) rfl)) (hw _ (List.mem_of_getElem? (i := 3) rfl)) (by decide) (by decide)) (g := (mkF m 20 #[.val (.int k1), .val (.int n1), .val (.int (3 : Int32)), .val (.ref a_REQUEST)] [(.int n1), (.int (3 : Int32)), (.int (own_takes n1 (1 : Int32) (4 : Int32)))])) rfl (by rw [hml]; rfl) (argsL := [(.int (3 : Int32)), (.int n1)]) (rest := [(.int (own_takes n1 (1 : Int32) (4 : Int32)))]) (lenOf own_pd__28II_29Z rfl) rfl (by show 2 * 0 + _ ≤ _; exact Nat.le_of_eq rfl) (hb hby at_20) (fun _ _ => ⟨rfl, K22, (by decide : 0 + 0 ≤ _), (by decide : 0 + 0 ≤ _)⟩)
    dsimp only [Pt.U, Pt.locs, Pt.cells, Pt.slots] at X24 l24 y24 z24 st24 hQ24
    subst l24 y24 z24
    obtain ⟨rfl, M24, K24⟩ := hQ24
    have N24 := Fr.app N22 M24
    refine own_by st24 ?_
    show own_Go p e below (T24.setTop (mkF m 23 #[.val (.int k1), .val (.int n1), .val (.int (3 : Int32)), .val (.ref a_REQUEST)] [(.int (own_takes n1 (1 : Int32) (4 : Int32))), (.int (own_takes n1 (1 : Int32) (4 : Int32)))])) _
    refine own_by (fun _ k => XS.icmpNo X24.here hx rfl (hb hby at_23) rfl (teq (rfl : (own_takes n1 (1 : Int32) (4 : Int32)) = (own_takes n1 (1 : Int32) (4 : Int32)))).2 k) ?_
    show own_Go p e below (T24.setTop (mkF m 26 #[.val (.int k1), .val (.int n1), .val (.int (3 : Int32)), .val (.ref a_REQUEST)] [])) _
    refine own_by (fun _ k => XS.iconst X24.here hx rfl (hb hby at_26) k) ?_
    show own_Go p e below (T24.setTop (mkF m 27 #[.val (.int k1), .val (.int n1), .val (.int (3 : Int32)), .val (.ref a_REQUEST)] [(.int (1 : Int32))])) _
    refine own_by (fun _ k => XS.goto X24.here hx rfl (pc0 := 27) (pc' := 31) rfl (hb hby at_27) (by decide) (by decide) k) ?_
    show own_Go p e below (T24.setTop (mkF m 31 #[.val (.int k1), .val (.int n1), .val (.int (3 : Int32)), .val (.ref a_REQUEST)] [(.int (1 : Int32))])) _
    obtain ⟨fs, hr, hrun, hended, hW, hsame⟩ := X24.leave (v := some (.int (1 : Int32))) (fun h => by rw [Bd.returns] at h; cases h)
    refine ⟨_, _, retN X24 hx (t := .boolean) Bd.returns (by simp) (hb hby at_31) hr, hrun, hended, _, _, rfl, ?_, ⟨_, rfl⟩, hW, hsame.mono (by decide) (by decide)⟩
    show Q_rm_law Z k1 n1 a_PING a_ECHO a_QUIT a_REQUEST a_CONVERT a_RELEASE a_COMMIT a_ROLLBACK a_ALLOCATE a_ALLOCATED a_LOCKS h0 n0 _ T24.heap _
    rw [K24]
    exact ⟨rfl, N24, rfl⟩
  · show own_Go p e below (s₁.setTop (mkF m 8 #[.val (.int k1), .val (.int n1), .val (.int (4 : Int32)), .unset] [])) _
    refine own_by (fun _ k => XS.iloadN X0.here hx rfl (hb hby at_8) rfl k) ?_
    show own_Go p e below (s₁.setTop (mkF m 9 #[.val (.int k1), .val (.int n1), .val (.int (4 : Int32)), .unset] [(.int (4 : Int32))])) _
    obtain ⟨_, _, ⟨T25, L25, k25, n25⟩, -, X25, ⟨Lc25, hQ25, l25, y25, z25⟩, st25⟩ := Jvm.LawKit.callS X0 hx (y := (⟨"com/example/admit1/admit1/server/CommandTakesPinLaw", "pick", "(I)Lcom/example/admit1/admit1/server/Command;"⟩ : MethodName)) hown (mvT hZ (hw _ (List.mem_of_getElem? (i := 1) rfl))) (mvT hZ (hw _ (List.mem_of_getElem? (i := 2) rfl))) (mvT hZ (hw _ (List.mem_of_getElem? (i := 3) rfl))) (mvT hZ (hw _ (List.mem_of_getElem? (i := 4) rfl))) (by decide) (backOf (W := 0) (rm_pick4 l Z a0 hw [] a_CONVERT h0 n0 O0 S_CONVERT) hZ (hw _ (List.mem_of_getElem? (i := 4) rfl)) (hw _ (List.mem_of_getElem? (i := 3) rfl)) (by decide) (by decide)) (g := (mkF m 9 #[.val (.int k1), .val (.int n1), .val (.int (4 : Int32)), .unset] [(.int (4 : Int32))])) rfl (by rw [hml]; rfl) (argsL := [(.int (4 : Int32))]) (rest := []) (lenOf own_pd__28I_29Lcom_2fexample_2fadmit1_2fadmit1_2fserver_2fCommand_3b rfl) rfl (by show 2 * 0 + _ ≤ _; exact Nat.le_of_eq rfl) (hb hby at_9) (fun _ _ => ⟨rfl, e0, (by decide : 0 + 0 ≤ _), (by decide : 0 + 0 ≤ _)⟩)
    dsimp only [Pt.U, Pt.locs, Pt.cells, Pt.slots] at X25 l25 y25 z25 st25 hQ25
    subst l25 y25 z25
    obtain ⟨rfl, M25, K25⟩ := hQ25
    have N25 := Fr.app N0 M25
    refine own_by st25 ?_
    show own_Go p e below (T25.setTop (mkF m 12 #[.val (.int k1), .val (.int n1), .val (.int (4 : Int32)), .unset] [(.ref a_CONVERT)])) _
    refine own_by (fun _ k => XS.astoreN X25.here hx rfl (hb hby at_12) rfl rfl (l' := #[.val (.int k1), .val (.int n1), .val (.int (4 : Int32)), .val (.ref a_CONVERT)]) rfl k) ?_
    show own_Go p e below (T25.setTop (mkF m 13 #[.val (.int k1), .val (.int n1), .val (.int (4 : Int32)), .val (.ref a_CONVERT)] [])) _
    refine own_by (fun _ k => XS.aloadN X25.here hx rfl (hb hby at_13) rfl rfl k) ?_
    show own_Go p e below (T25.setTop (mkF m 14 #[.val (.int k1), .val (.int n1), .val (.int (4 : Int32)), .val (.ref a_CONVERT)] [(.ref a_CONVERT)])) _
    refine own_by (fun _ k => XS.iloadN X25.here hx rfl (hb hby at_14) rfl k) ?_
    show own_Go p e below (T25.setTop (mkF m 15 #[.val (.int k1), .val (.int n1), .val (.int (4 : Int32)), .val (.ref a_CONVERT)] [(.int n1), (.ref a_CONVERT)])) _
    have f26 : Fld Z h0 a_CONVERT "com/example/admit1/admit1/server/Command" "minArgs" "I" (.int (2 : Int32)) := F1_CONVERT.ext O0.2
    have f27 : Fld Z h0 a_CONVERT "com/example/admit1/admit1/server/Command" "maxArgs" "I" (.int (3 : Int32)) := F2_CONVERT.ext O0.2
    have f29 : Exa Z h0 a_CONVERT "com/example/admit1/admit1/server/Command" := E_CONVERT.ext O0.2
    obtain ⟨cq28, kq28, q28a, q28b, q28c⟩ := isOf hZ K25 f29
    obtain ⟨_, _, ⟨T28, L28, k28, n28⟩, -, X28, ⟨Lc28, hQ28, l28, y28, z28⟩, st28⟩ := X25.virtualBack hx (y := (⟨"com/example/admit1/admit1/server/Command", "takes", "(I)Z"⟩ : MethodName)) (z := (⟨"com/example/admit1/admit1/server/Command", "takes", "(I)Z"⟩ : MethodName)) hown (mvT hZ (hw _ (List.mem_of_getElem? (i := 8) rfl))) (mvT hZ (hw _ (List.mem_of_getElem? (i := 9) rfl))) (notFace_of_selects (args := #[]) (mvT hZ (hw _ (List.mem_of_getElem? (i := 11) rfl)))) (mvT hZ (hw _ (List.mem_of_getElem? (i := 11) rfl))) (mvT hZ (hw _ (List.mem_of_getElem? (i := 10) rfl))) (by decide) (backOf (W := 0) (rm_takes l Z a0 hw [] a_CONVERT n1 (2 : Int32) (3 : Int32) h0 n0 O0 f26 f27) hZ (hw _ (List.mem_of_getElem? (i := 12) rfl)) (hw _ (List.mem_of_getElem? (i := 6) rfl)) (by decide) (by decide)) q28a q28c (g := (mkF m 15 #[.val (.int k1), .val (.int n1), .val (.int (4 : Int32)), .val (.ref a_CONVERT)] [(.int n1), (.ref a_CONVERT)])) rfl (by rw [hml]; rfl) (Steps.refl _) (argsL := [(.int n1)]) (rest := []) (lenOf own_pd__28I_29Z rfl) rfl (by show 2 * 0 + _ ≤ _; exact Nat.le_of_eq rfl) (hb hby at_15) (fun _ _ => ⟨rfl, K25, (by decide : 0 + 0 ≤ _), (by decide : 0 + 0 ≤ _)⟩)
    dsimp only [Pt.U, Pt.locs, Pt.cells, Pt.slots] at X28 l28 y28 z28 st28 hQ28
    subst l28 y28 z28
    obtain ⟨rfl, M28, K28⟩ := hQ28
    have N28 := Fr.app N25 M28
    refine own_by (fun _ k => st28.trans k) ?_
    show own_Go p e below (T28.setTop (mkF m 18 #[.val (.int k1), .val (.int n1), .val (.int (4 : Int32)), .val (.ref a_CONVERT)] [(.int (own_takes n1 (2 : Int32) (3 : Int32)))])) _
    refine own_by (fun _ k => XS.iloadN X28.here hx rfl (hb hby at_18) rfl k) ?_
    show own_Go p e below (T28.setTop (mkF m 19 #[.val (.int k1), .val (.int n1), .val (.int (4 : Int32)), .val (.ref a_CONVERT)] [(.int (4 : Int32)), (.int (own_takes n1 (2 : Int32) (3 : Int32)))])) _
    refine own_by (fun _ k => XS.iloadN X28.here hx rfl (hb hby at_19) rfl k) ?_
    show own_Go p e below (T28.setTop (mkF m 20 #[.val (.int k1), .val (.int n1), .val (.int (4 : Int32)), .val (.ref a_CONVERT)] [(.int n1), (.int (4 : Int32)), (.int (own_takes n1 (2 : Int32) (3 : Int32)))])) _
    obtain ⟨_, _, ⟨T30, L30, k30, n30⟩, -, X30, ⟨Lc30, hQ30, l30, y30, z30⟩, st30⟩ := Jvm.LawKit.callS X28 hx (y := (⟨"com/example/admit1/admit1/server/CommandTakesPinLaw", "expected", "(II)Z"⟩ : MethodName)) hown (mvT hZ (hw _ (List.mem_of_getElem? (i := 17) rfl))) (mvT hZ (hw _ (List.mem_of_getElem? (i := 18) rfl))) (mvT hZ (hw _ (List.mem_of_getElem? (i := 3) rfl))) (mvT hZ (hw _ (List.mem_of_getElem? (i := 19) rfl))) (by decide) (backOf (W := 1) (rm_exp4 l Z a0 hw [] n1 h0 n0 O0) hZ (hw _ (List.mem_of_getElem? (i := 19) rfl)) (hw _ (List.mem_of_getElem? (i := 3) rfl)) (by decide) (by decide)) (g := (mkF m 20 #[.val (.int k1), .val (.int n1), .val (.int (4 : Int32)), .val (.ref a_CONVERT)] [(.int n1), (.int (4 : Int32)), (.int (own_takes n1 (2 : Int32) (3 : Int32)))])) rfl (by rw [hml]; rfl) (argsL := [(.int (4 : Int32)), (.int n1)]) (rest := [(.int (own_takes n1 (2 : Int32) (3 : Int32)))]) (lenOf own_pd__28II_29Z rfl) rfl (by show 2 * 0 + _ ≤ _; exact Nat.le_of_eq rfl) (hb hby at_20) (fun _ _ => ⟨rfl, K28, (by decide : 0 + 0 ≤ _), (by decide : 0 + 0 ≤ _)⟩)
    dsimp only [Pt.U, Pt.locs, Pt.cells, Pt.slots] at X30 l30 y30 z30 st30 hQ30
    subst l30 y30 z30
    obtain ⟨rfl, M30, K30⟩ := hQ30
    have N30 := Fr.app N28 M30
    refine own_by st30 ?_
    show own_Go p e below (T30.setTop (mkF m 23 #[.val (.int k1), .val (.int n1), .val (.int (4 : Int32)), .val (.ref a_CONVERT)] [(.int (own_takes n1 (2 : Int32) (3 : Int32))), (.int (own_takes n1 (2 : Int32) (3 : Int32)))])) _
    refine own_by (fun _ k => XS.icmpNo X30.here hx rfl (hb hby at_23) rfl (teq (rfl : (own_takes n1 (2 : Int32) (3 : Int32)) = (own_takes n1 (2 : Int32) (3 : Int32)))).2 k) ?_
    show own_Go p e below (T30.setTop (mkF m 26 #[.val (.int k1), .val (.int n1), .val (.int (4 : Int32)), .val (.ref a_CONVERT)] [])) _
    refine own_by (fun _ k => XS.iconst X30.here hx rfl (hb hby at_26) k) ?_
    show own_Go p e below (T30.setTop (mkF m 27 #[.val (.int k1), .val (.int n1), .val (.int (4 : Int32)), .val (.ref a_CONVERT)] [(.int (1 : Int32))])) _
    refine own_by (fun _ k => XS.goto X30.here hx rfl (pc0 := 27) (pc' := 31) rfl (hb hby at_27) (by decide) (by decide) k) ?_
    show own_Go p e below (T30.setTop (mkF m 31 #[.val (.int k1), .val (.int n1), .val (.int (4 : Int32)), .val (.ref a_CONVERT)] [(.int (1 : Int32))])) _
    obtain ⟨fs, hr, hrun, hended, hW, hsame⟩ := X30.leave (v := some (.int (1 : Int32))) (fun h => by rw [Bd.returns] at h; cases h)
    refine ⟨_, _, retN X30 hx (t := .boolean) Bd.returns (by simp) (hb hby at_31) hr, hrun, hended, _, _, rfl, ?_, ⟨_, rfl⟩, hW, hsame.mono (by decide) (by decide)⟩
    show Q_rm_law Z k1 n1 a_PING a_ECHO a_QUIT a_REQUEST a_CONVERT a_RELEASE a_COMMIT a_ROLLBACK a_ALLOCATE a_ALLOCATED a_LOCKS h0 n0 _ T30.heap _
    rw [K30]
    exact ⟨rfl, N30, rfl⟩
  · show own_Go p e below (s₁.setTop (mkF m 8 #[.val (.int k1), .val (.int n1), .val (.int (5 : Int32)), .unset] [])) _
    refine own_by (fun _ k => XS.iloadN X0.here hx rfl (hb hby at_8) rfl k) ?_
    show own_Go p e below (s₁.setTop (mkF m 9 #[.val (.int k1), .val (.int n1), .val (.int (5 : Int32)), .unset] [(.int (5 : Int32))])) _
    obtain ⟨_, _, ⟨T31, L31, k31, n31⟩, -, X31, ⟨Lc31, hQ31, l31, y31, z31⟩, st31⟩ := Jvm.LawKit.callS X0 hx (y := (⟨"com/example/admit1/admit1/server/CommandTakesPinLaw", "pick", "(I)Lcom/example/admit1/admit1/server/Command;"⟩ : MethodName)) hown (mvT hZ (hw _ (List.mem_of_getElem? (i := 1) rfl))) (mvT hZ (hw _ (List.mem_of_getElem? (i := 2) rfl))) (mvT hZ (hw _ (List.mem_of_getElem? (i := 3) rfl))) (mvT hZ (hw _ (List.mem_of_getElem? (i := 4) rfl))) (by decide) (backOf (W := 0) (rm_pick5 l Z a0 hw [] a_RELEASE h0 n0 O0 S_RELEASE) hZ (hw _ (List.mem_of_getElem? (i := 4) rfl)) (hw _ (List.mem_of_getElem? (i := 3) rfl)) (by decide) (by decide)) (g := (mkF m 9 #[.val (.int k1), .val (.int n1), .val (.int (5 : Int32)), .unset] [(.int (5 : Int32))])) rfl (by rw [hml]; rfl) (argsL := [(.int (5 : Int32))]) (rest := []) (lenOf own_pd__28I_29Lcom_2fexample_2fadmit1_2fadmit1_2fserver_2fCommand_3b rfl) rfl (by show 2 * 0 + _ ≤ _; exact Nat.le_of_eq rfl) (hb hby at_9) (fun _ _ => ⟨rfl, e0, (by decide : 0 + 0 ≤ _), (by decide : 0 + 0 ≤ _)⟩)
    dsimp only [Pt.U, Pt.locs, Pt.cells, Pt.slots] at X31 l31 y31 z31 st31 hQ31
    subst l31 y31 z31
    obtain ⟨rfl, M31, K31⟩ := hQ31
    have N31 := Fr.app N0 M31
    refine own_by st31 ?_
    show own_Go p e below (T31.setTop (mkF m 12 #[.val (.int k1), .val (.int n1), .val (.int (5 : Int32)), .unset] [(.ref a_RELEASE)])) _
    refine own_by (fun _ k => XS.astoreN X31.here hx rfl (hb hby at_12) rfl rfl (l' := #[.val (.int k1), .val (.int n1), .val (.int (5 : Int32)), .val (.ref a_RELEASE)]) rfl k) ?_
    show own_Go p e below (T31.setTop (mkF m 13 #[.val (.int k1), .val (.int n1), .val (.int (5 : Int32)), .val (.ref a_RELEASE)] [])) _
    refine own_by (fun _ k => XS.aloadN X31.here hx rfl (hb hby at_13) rfl rfl k) ?_
    show own_Go p e below (T31.setTop (mkF m 14 #[.val (.int k1), .val (.int n1), .val (.int (5 : Int32)), .val (.ref a_RELEASE)] [(.ref a_RELEASE)])) _
    refine own_by (fun _ k => XS.iloadN X31.here hx rfl (hb hby at_14) rfl k) ?_
    show own_Go p e below (T31.setTop (mkF m 15 #[.val (.int k1), .val (.int n1), .val (.int (5 : Int32)), .val (.ref a_RELEASE)] [(.int n1), (.ref a_RELEASE)])) _
    have f32 : Fld Z h0 a_RELEASE "com/example/admit1/admit1/server/Command" "minArgs" "I" (.int (1 : Int32)) := F1_RELEASE.ext O0.2
    have f33 : Fld Z h0 a_RELEASE "com/example/admit1/admit1/server/Command" "maxArgs" "I" (.int (1 : Int32)) := F2_RELEASE.ext O0.2
    have f35 : Exa Z h0 a_RELEASE "com/example/admit1/admit1/server/Command" := E_RELEASE.ext O0.2
    obtain ⟨cq34, kq34, q34a, q34b, q34c⟩ := isOf hZ K31 f35
    obtain ⟨_, _, ⟨T34, L34, k34, n34⟩, -, X34, ⟨Lc34, hQ34, l34, y34, z34⟩, st34⟩ := X31.virtualBack hx (y := (⟨"com/example/admit1/admit1/server/Command", "takes", "(I)Z"⟩ : MethodName)) (z := (⟨"com/example/admit1/admit1/server/Command", "takes", "(I)Z"⟩ : MethodName)) hown (mvT hZ (hw _ (List.mem_of_getElem? (i := 8) rfl))) (mvT hZ (hw _ (List.mem_of_getElem? (i := 9) rfl))) (notFace_of_selects (args := #[]) (mvT hZ (hw _ (List.mem_of_getElem? (i := 11) rfl)))) (mvT hZ (hw _ (List.mem_of_getElem? (i := 11) rfl))) (mvT hZ (hw _ (List.mem_of_getElem? (i := 10) rfl))) (by decide) (backOf (W := 0) (rm_takes l Z a0 hw [] a_RELEASE n1 (1 : Int32) (1 : Int32) h0 n0 O0 f32 f33) hZ (hw _ (List.mem_of_getElem? (i := 12) rfl)) (hw _ (List.mem_of_getElem? (i := 6) rfl)) (by decide) (by decide)) q34a q34c (g := (mkF m 15 #[.val (.int k1), .val (.int n1), .val (.int (5 : Int32)), .val (.ref a_RELEASE)] [(.int n1), (.ref a_RELEASE)])) rfl (by rw [hml]; rfl) (Steps.refl _) (argsL := [(.int n1)]) (rest := []) (lenOf own_pd__28I_29Z rfl) rfl (by show 2 * 0 + _ ≤ _; exact Nat.le_of_eq rfl) (hb hby at_15) (fun _ _ => ⟨rfl, K31, (by decide : 0 + 0 ≤ _), (by decide : 0 + 0 ≤ _)⟩)
    dsimp only [Pt.U, Pt.locs, Pt.cells, Pt.slots] at X34 l34 y34 z34 st34 hQ34
    subst l34 y34 z34
    obtain ⟨rfl, M34, K34⟩ := hQ34
    have N34 := Fr.app N31 M34
    refine own_by (fun _ k => st34.trans k) ?_
    show own_Go p e below (T34.setTop (mkF m 18 #[.val (.int k1), .val (.int n1), .val (.int (5 : Int32)), .val (.ref a_RELEASE)] [(.int (own_takes n1 (1 : Int32) (1 : Int32)))])) _
    refine own_by (fun _ k => XS.iloadN X34.here hx rfl (hb hby at_18) rfl k) ?_
    show own_Go p e below (T34.setTop (mkF m 19 #[.val (.int k1), .val (.int n1), .val (.int (5 : Int32)), .val (.ref a_RELEASE)] [(.int (5 : Int32)), (.int (own_takes n1 (1 : Int32) (1 : Int32)))])) _
    refine own_by (fun _ k => XS.iloadN X34.here hx rfl (hb hby at_19) rfl k) ?_
    show own_Go p e below (T34.setTop (mkF m 20 #[.val (.int k1), .val (.int n1), .val (.int (5 : Int32)), .val (.ref a_RELEASE)] [(.int n1), (.int (5 : Int32)), (.int (own_takes n1 (1 : Int32) (1 : Int32)))])) _
    obtain ⟨_, _, ⟨T36, L36, k36, n36⟩, -, X36, ⟨Lc36, hQ36, l36, y36, z36⟩, st36⟩ := Jvm.LawKit.callS X34 hx (y := (⟨"com/example/admit1/admit1/server/CommandTakesPinLaw", "expected", "(II)Z"⟩ : MethodName)) hown (mvT hZ (hw _ (List.mem_of_getElem? (i := 17) rfl))) (mvT hZ (hw _ (List.mem_of_getElem? (i := 18) rfl))) (mvT hZ (hw _ (List.mem_of_getElem? (i := 3) rfl))) (mvT hZ (hw _ (List.mem_of_getElem? (i := 19) rfl))) (by decide) (backOf (W := 1) (rm_exp5 l Z a0 hw [] n1 h0 n0 O0) hZ (hw _ (List.mem_of_getElem? (i := 19) rfl)) (hw _ (List.mem_of_getElem? (i := 3) rfl)) (by decide) (by decide)) (g := (mkF m 20 #[.val (.int k1), .val (.int n1), .val (.int (5 : Int32)), .val (.ref a_RELEASE)] [(.int n1), (.int (5 : Int32)), (.int (own_takes n1 (1 : Int32) (1 : Int32)))])) rfl (by rw [hml]; rfl) (argsL := [(.int (5 : Int32)), (.int n1)]) (rest := [(.int (own_takes n1 (1 : Int32) (1 : Int32)))]) (lenOf own_pd__28II_29Z rfl) rfl (by show 2 * 0 + _ ≤ _; exact Nat.le_of_eq rfl) (hb hby at_20) (fun _ _ => ⟨rfl, K34, (by decide : 0 + 0 ≤ _), (by decide : 0 + 0 ≤ _)⟩)
    dsimp only [Pt.U, Pt.locs, Pt.cells, Pt.slots] at X36 l36 y36 z36 st36 hQ36
    subst l36 y36 z36
    obtain ⟨rfl, M36, K36⟩ := hQ36
    have N36 := Fr.app N34 M36
    refine own_by st36 ?_
    show own_Go p e below (T36.setTop (mkF m 23 #[.val (.int k1), .val (.int n1), .val (.int (5 : Int32)), .val (.ref a_RELEASE)] [(.int (own_takes n1 (1 : Int32) (1 : Int32))), (.int (own_takes n1 (1 : Int32) (1 : Int32)))])) _
    refine own_by (fun _ k => XS.icmpNo X36.here hx rfl (hb hby at_23) rfl (teq (rfl : (own_takes n1 (1 : Int32) (1 : Int32)) = (own_takes n1 (1 : Int32) (1 : Int32)))).2 k) ?_
    show own_Go p e below (T36.setTop (mkF m 26 #[.val (.int k1), .val (.int n1), .val (.int (5 : Int32)), .val (.ref a_RELEASE)] [])) _
    refine own_by (fun _ k => XS.iconst X36.here hx rfl (hb hby at_26) k) ?_
    show own_Go p e below (T36.setTop (mkF m 27 #[.val (.int k1), .val (.int n1), .val (.int (5 : Int32)), .val (.ref a_RELEASE)] [(.int (1 : Int32))])) _
    refine own_by (fun _ k => XS.goto X36.here hx rfl (pc0 := 27) (pc' := 31) rfl (hb hby at_27) (by decide) (by decide) k) ?_
    show own_Go p e below (T36.setTop (mkF m 31 #[.val (.int k1), .val (.int n1), .val (.int (5 : Int32)), .val (.ref a_RELEASE)] [(.int (1 : Int32))])) _
    obtain ⟨fs, hr, hrun, hended, hW, hsame⟩ := X36.leave (v := some (.int (1 : Int32))) (fun h => by rw [Bd.returns] at h; cases h)
    refine ⟨_, _, retN X36 hx (t := .boolean) Bd.returns (by simp) (hb hby at_31) hr, hrun, hended, _, _, rfl, ?_, ⟨_, rfl⟩, hW, hsame.mono (by decide) (by decide)⟩
    show Q_rm_law Z k1 n1 a_PING a_ECHO a_QUIT a_REQUEST a_CONVERT a_RELEASE a_COMMIT a_ROLLBACK a_ALLOCATE a_ALLOCATED a_LOCKS h0 n0 _ T36.heap _
    rw [K36]
    exact ⟨rfl, N36, rfl⟩
  · show own_Go p e below (s₁.setTop (mkF m 8 #[.val (.int k1), .val (.int n1), .val (.int (6 : Int32)), .unset] [])) _
    refine own_by (fun _ k => XS.iloadN X0.here hx rfl (hb hby at_8) rfl k) ?_
    show own_Go p e below (s₁.setTop (mkF m 9 #[.val (.int k1), .val (.int n1), .val (.int (6 : Int32)), .unset] [(.int (6 : Int32))])) _
    obtain ⟨_, _, ⟨T37, L37, k37, n37⟩, -, X37, ⟨Lc37, hQ37, l37, y37, z37⟩, st37⟩ := Jvm.LawKit.callS X0 hx (y := (⟨"com/example/admit1/admit1/server/CommandTakesPinLaw", "pick", "(I)Lcom/example/admit1/admit1/server/Command;"⟩ : MethodName)) hown (mvT hZ (hw _ (List.mem_of_getElem? (i := 1) rfl))) (mvT hZ (hw _ (List.mem_of_getElem? (i := 2) rfl))) (mvT hZ (hw _ (List.mem_of_getElem? (i := 3) rfl))) (mvT hZ (hw _ (List.mem_of_getElem? (i := 4) rfl))) (by decide) (backOf (W := 0) (rm_pick6 l Z a0 hw [] a_COMMIT h0 n0 O0 S_COMMIT) hZ (hw _ (List.mem_of_getElem? (i := 4) rfl)) (hw _ (List.mem_of_getElem? (i := 3) rfl)) (by decide) (by decide)) (g := (mkF m 9 #[.val (.int k1), .val (.int n1), .val (.int (6 : Int32)), .unset] [(.int (6 : Int32))])) rfl (by rw [hml]; rfl) (argsL := [(.int (6 : Int32))]) (rest := []) (lenOf own_pd__28I_29Lcom_2fexample_2fadmit1_2fadmit1_2fserver_2fCommand_3b rfl) rfl (by show 2 * 0 + _ ≤ _; exact Nat.le_of_eq rfl) (hb hby at_9) (fun _ _ => ⟨rfl, e0, (by decide : 0 + 0 ≤ _), (by decide : 0 + 0 ≤ _)⟩)
    dsimp only [Pt.U, Pt.locs, Pt.cells, Pt.slots] at X37 l37 y37 z37 st37 hQ37
    subst l37 y37 z37
    obtain ⟨rfl, M37, K37⟩ := hQ37
    have N37 := Fr.app N0 M37
    refine own_by st37 ?_
    show own_Go p e below (T37.setTop (mkF m 12 #[.val (.int k1), .val (.int n1), .val (.int (6 : Int32)), .unset] [(.ref a_COMMIT)])) _
    refine own_by (fun _ k => XS.astoreN X37.here hx rfl (hb hby at_12) rfl rfl (l' := #[.val (.int k1), .val (.int n1), .val (.int (6 : Int32)), .val (.ref a_COMMIT)]) rfl k) ?_
    show own_Go p e below (T37.setTop (mkF m 13 #[.val (.int k1), .val (.int n1), .val (.int (6 : Int32)), .val (.ref a_COMMIT)] [])) _
    refine own_by (fun _ k => XS.aloadN X37.here hx rfl (hb hby at_13) rfl rfl k) ?_
    show own_Go p e below (T37.setTop (mkF m 14 #[.val (.int k1), .val (.int n1), .val (.int (6 : Int32)), .val (.ref a_COMMIT)] [(.ref a_COMMIT)])) _
    refine own_by (fun _ k => XS.iloadN X37.here hx rfl (hb hby at_14) rfl k) ?_
    show own_Go p e below (T37.setTop (mkF m 15 #[.val (.int k1), .val (.int n1), .val (.int (6 : Int32)), .val (.ref a_COMMIT)] [(.int n1), (.ref a_COMMIT)])) _
    have f38 : Fld Z h0 a_COMMIT "com/example/admit1/admit1/server/Command" "minArgs" "I" (.int (0 : Int32)) := F1_COMMIT.ext O0.2
    have f39 : Fld Z h0 a_COMMIT "com/example/admit1/admit1/server/Command" "maxArgs" "I" (.int (0 : Int32)) := F2_COMMIT.ext O0.2
    have f41 : Exa Z h0 a_COMMIT "com/example/admit1/admit1/server/Command" := E_COMMIT.ext O0.2
    obtain ⟨cq40, kq40, q40a, q40b, q40c⟩ := isOf hZ K37 f41
    obtain ⟨_, _, ⟨T40, L40, k40, n40⟩, -, X40, ⟨Lc40, hQ40, l40, y40, z40⟩, st40⟩ := X37.virtualBack hx (y := (⟨"com/example/admit1/admit1/server/Command", "takes", "(I)Z"⟩ : MethodName)) (z := (⟨"com/example/admit1/admit1/server/Command", "takes", "(I)Z"⟩ : MethodName)) hown (mvT hZ (hw _ (List.mem_of_getElem? (i := 8) rfl))) (mvT hZ (hw _ (List.mem_of_getElem? (i := 9) rfl))) (notFace_of_selects (args := #[]) (mvT hZ (hw _ (List.mem_of_getElem? (i := 11) rfl)))) (mvT hZ (hw _ (List.mem_of_getElem? (i := 11) rfl))) (mvT hZ (hw _ (List.mem_of_getElem? (i := 10) rfl))) (by decide) (backOf (W := 0) (rm_takes l Z a0 hw [] a_COMMIT n1 (0 : Int32) (0 : Int32) h0 n0 O0 f38 f39) hZ (hw _ (List.mem_of_getElem? (i := 12) rfl)) (hw _ (List.mem_of_getElem? (i := 6) rfl)) (by decide) (by decide)) q40a q40c (g := (mkF m 15 #[.val (.int k1), .val (.int n1), .val (.int (6 : Int32)), .val (.ref a_COMMIT)] [(.int n1), (.ref a_COMMIT)])) rfl (by rw [hml]; rfl) (Steps.refl _) (argsL := [(.int n1)]) (rest := []) (lenOf own_pd__28I_29Z rfl) rfl (by show 2 * 0 + _ ≤ _; exact Nat.le_of_eq rfl) (hb hby at_15) (fun _ _ => ⟨rfl, K37, (by decide : 0 + 0 ≤ _), (by decide : 0 + 0 ≤ _)⟩)
    dsimp only [Pt.U, Pt.locs, Pt.cells, Pt.slots] at X40 l40 y40 z40 st40 hQ40
    subst l40 y40 z40
    obtain ⟨rfl, M40, K40⟩ := hQ40
    have N40 := Fr.app N37 M40
    refine own_by (fun _ k => st40.trans k) ?_
    show own_Go p e below (T40.setTop (mkF m 18 #[.val (.int k1), .val (.int n1), .val (.int (6 : Int32)), .val (.ref a_COMMIT)] [(.int (own_takes n1 (0 : Int32) (0 : Int32)))])) _
    refine own_by (fun _ k => XS.iloadN X40.here hx rfl (hb hby at_18) rfl k) ?_
    show own_Go p e below (T40.setTop (mkF m 19 #[.val (.int k1), .val (.int n1), .val (.int (6 : Int32)), .val (.ref a_COMMIT)] [(.int (6 : Int32)), (.int (own_takes n1 (0 : Int32) (0 : Int32)))])) _
    refine own_by (fun _ k => XS.iloadN X40.here hx rfl (hb hby at_19) rfl k) ?_
    show own_Go p e below (T40.setTop (mkF m 20 #[.val (.int k1), .val (.int n1), .val (.int (6 : Int32)), .val (.ref a_COMMIT)] [(.int n1), (.int (6 : Int32)), (.int (own_takes n1 (0 : Int32) (0 : Int32)))])) _
    obtain ⟨_, _, ⟨T42, L42, k42, n42⟩, -, X42, ⟨Lc42, hQ42, l42, y42, z42⟩, st42⟩ := Jvm.LawKit.callS X40 hx (y := (⟨"com/example/admit1/admit1/server/CommandTakesPinLaw", "expected", "(II)Z"⟩ : MethodName)) hown (mvT hZ (hw _ (List.mem_of_getElem? (i := 17) rfl))) (mvT hZ (hw _ (List.mem_of_getElem? (i := 18) rfl))) (mvT hZ (hw _ (List.mem_of_getElem? (i := 3) rfl))) (mvT hZ (hw _ (List.mem_of_getElem? (i := 19) rfl))) (by decide) (backOf (W := 1) (rm_exp6 l Z a0 hw [] n1 h0 n0 O0) hZ (hw _ (List.mem_of_getElem? (i := 19) rfl)) (hw _ (List.mem_of_getElem? (i := 3) rfl)) (by decide) (by decide)) (g := (mkF m 20 #[.val (.int k1), .val (.int n1), .val (.int (6 : Int32)), .val (.ref a_COMMIT)] [(.int n1), (.int (6 : Int32)), (.int (own_takes n1 (0 : Int32) (0 : Int32)))])) rfl (by rw [hml]; rfl) (argsL := [(.int (6 : Int32)), (.int n1)]) (rest := [(.int (own_takes n1 (0 : Int32) (0 : Int32)))]) (lenOf own_pd__28II_29Z rfl) rfl (by show 2 * 0 + _ ≤ _; exact Nat.le_of_eq rfl) (hb hby at_20) (fun _ _ => ⟨rfl, K40, (by decide : 0 + 0 ≤ _), (by decide : 0 + 0 ≤ _)⟩)
    dsimp only [Pt.U, Pt.locs, Pt.cells, Pt.slots] at X42 l42 y42 z42 st42 hQ42
    subst l42 y42 z42
    obtain ⟨rfl, M42, K42⟩ := hQ42
    have N42 := Fr.app N40 M42
    refine own_by st42 ?_
    show own_Go p e below (T42.setTop (mkF m 23 #[.val (.int k1), .val (.int n1), .val (.int (6 : Int32)), .val (.ref a_COMMIT)] [(.int (own_takes n1 (0 : Int32) (0 : Int32))), (.int (own_takes n1 (0 : Int32) (0 : Int32)))])) _
    refine own_by (fun _ k => XS.icmpNo X42.here hx rfl (hb hby at_23) rfl (teq (rfl : (own_takes n1 (0 : Int32) (0 : Int32)) = (own_takes n1 (0 : Int32) (0 : Int32)))).2 k) ?_
    show own_Go p e below (T42.setTop (mkF m 26 #[.val (.int k1), .val (.int n1), .val (.int (6 : Int32)), .val (.ref a_COMMIT)] [])) _
    refine own_by (fun _ k => XS.iconst X42.here hx rfl (hb hby at_26) k) ?_
    show own_Go p e below (T42.setTop (mkF m 27 #[.val (.int k1), .val (.int n1), .val (.int (6 : Int32)), .val (.ref a_COMMIT)] [(.int (1 : Int32))])) _
    refine own_by (fun _ k => XS.goto X42.here hx rfl (pc0 := 27) (pc' := 31) rfl (hb hby at_27) (by decide) (by decide) k) ?_
    show own_Go p e below (T42.setTop (mkF m 31 #[.val (.int k1), .val (.int n1), .val (.int (6 : Int32)), .val (.ref a_COMMIT)] [(.int (1 : Int32))])) _
    obtain ⟨fs, hr, hrun, hended, hW, hsame⟩ := X42.leave (v := some (.int (1 : Int32))) (fun h => by rw [Bd.returns] at h; cases h)
    refine ⟨_, _, retN X42 hx (t := .boolean) Bd.returns (by simp) (hb hby at_31) hr, hrun, hended, _, _, rfl, ?_, ⟨_, rfl⟩, hW, hsame.mono (by decide) (by decide)⟩
    show Q_rm_law Z k1 n1 a_PING a_ECHO a_QUIT a_REQUEST a_CONVERT a_RELEASE a_COMMIT a_ROLLBACK a_ALLOCATE a_ALLOCATED a_LOCKS h0 n0 _ T42.heap _
    rw [K42]
    exact ⟨rfl, N42, rfl⟩
  · show own_Go p e below (s₁.setTop (mkF m 8 #[.val (.int k1), .val (.int n1), .val (.int (7 : Int32)), .unset] [])) _
    refine own_by (fun _ k => XS.iloadN X0.here hx rfl (hb hby at_8) rfl k) ?_
    show own_Go p e below (s₁.setTop (mkF m 9 #[.val (.int k1), .val (.int n1), .val (.int (7 : Int32)), .unset] [(.int (7 : Int32))])) _
    obtain ⟨_, _, ⟨T43, L43, k43, n43⟩, -, X43, ⟨Lc43, hQ43, l43, y43, z43⟩, st43⟩ := Jvm.LawKit.callS X0 hx (y := (⟨"com/example/admit1/admit1/server/CommandTakesPinLaw", "pick", "(I)Lcom/example/admit1/admit1/server/Command;"⟩ : MethodName)) hown (mvT hZ (hw _ (List.mem_of_getElem? (i := 1) rfl))) (mvT hZ (hw _ (List.mem_of_getElem? (i := 2) rfl))) (mvT hZ (hw _ (List.mem_of_getElem? (i := 3) rfl))) (mvT hZ (hw _ (List.mem_of_getElem? (i := 4) rfl))) (by decide) (backOf (W := 0) (rm_pick7 l Z a0 hw [] a_ROLLBACK h0 n0 O0 S_ROLLBACK) hZ (hw _ (List.mem_of_getElem? (i := 4) rfl)) (hw _ (List.mem_of_getElem? (i := 3) rfl)) (by decide) (by decide)) (g := (mkF m 9 #[.val (.int k1), .val (.int n1), .val (.int (7 : Int32)), .unset] [(.int (7 : Int32))])) rfl (by rw [hml]; rfl) (argsL := [(.int (7 : Int32))]) (rest := []) (lenOf own_pd__28I_29Lcom_2fexample_2fadmit1_2fadmit1_2fserver_2fCommand_3b rfl) rfl (by show 2 * 0 + _ ≤ _; exact Nat.le_of_eq rfl) (hb hby at_9) (fun _ _ => ⟨rfl, e0, (by decide : 0 + 0 ≤ _), (by decide : 0 + 0 ≤ _)⟩)
    dsimp only [Pt.U, Pt.locs, Pt.cells, Pt.slots] at X43 l43 y43 z43 st43 hQ43
    subst l43 y43 z43
    obtain ⟨rfl, M43, K43⟩ := hQ43
    have N43 := Fr.app N0 M43
    refine own_by st43 ?_
    show own_Go p e below (T43.setTop (mkF m 12 #[.val (.int k1), .val (.int n1), .val (.int (7 : Int32)), .unset] [(.ref a_ROLLBACK)])) _
    refine own_by (fun _ k => XS.astoreN X43.here hx rfl (hb hby at_12) rfl rfl (l' := #[.val (.int k1), .val (.int n1), .val (.int (7 : Int32)), .val (.ref a_ROLLBACK)]) rfl k) ?_
    show own_Go p e below (T43.setTop (mkF m 13 #[.val (.int k1), .val (.int n1), .val (.int (7 : Int32)), .val (.ref a_ROLLBACK)] [])) _
    refine own_by (fun _ k => XS.aloadN X43.here hx rfl (hb hby at_13) rfl rfl k) ?_
    show own_Go p e below (T43.setTop (mkF m 14 #[.val (.int k1), .val (.int n1), .val (.int (7 : Int32)), .val (.ref a_ROLLBACK)] [(.ref a_ROLLBACK)])) _
    refine own_by (fun _ k => XS.iloadN X43.here hx rfl (hb hby at_14) rfl k) ?_
    show own_Go p e below (T43.setTop (mkF m 15 #[.val (.int k1), .val (.int n1), .val (.int (7 : Int32)), .val (.ref a_ROLLBACK)] [(.int n1), (.ref a_ROLLBACK)])) _
    have f44 : Fld Z h0 a_ROLLBACK "com/example/admit1/admit1/server/Command" "minArgs" "I" (.int (0 : Int32)) := F1_ROLLBACK.ext O0.2
    have f45 : Fld Z h0 a_ROLLBACK "com/example/admit1/admit1/server/Command" "maxArgs" "I" (.int (0 : Int32)) := F2_ROLLBACK.ext O0.2
    have f47 : Exa Z h0 a_ROLLBACK "com/example/admit1/admit1/server/Command" := E_ROLLBACK.ext O0.2
    obtain ⟨cq46, kq46, q46a, q46b, q46c⟩ := isOf hZ K43 f47
    obtain ⟨_, _, ⟨T46, L46, k46, n46⟩, -, X46, ⟨Lc46, hQ46, l46, y46, z46⟩, st46⟩ := X43.virtualBack hx (y := (⟨"com/example/admit1/admit1/server/Command", "takes", "(I)Z"⟩ : MethodName)) (z := (⟨"com/example/admit1/admit1/server/Command", "takes", "(I)Z"⟩ : MethodName)) hown (mvT hZ (hw _ (List.mem_of_getElem? (i := 8) rfl))) (mvT hZ (hw _ (List.mem_of_getElem? (i := 9) rfl))) (notFace_of_selects (args := #[]) (mvT hZ (hw _ (List.mem_of_getElem? (i := 11) rfl)))) (mvT hZ (hw _ (List.mem_of_getElem? (i := 11) rfl))) (mvT hZ (hw _ (List.mem_of_getElem? (i := 10) rfl))) (by decide) (backOf (W := 0) (rm_takes l Z a0 hw [] a_ROLLBACK n1 (0 : Int32) (0 : Int32) h0 n0 O0 f44 f45) hZ (hw _ (List.mem_of_getElem? (i := 12) rfl)) (hw _ (List.mem_of_getElem? (i := 6) rfl)) (by decide) (by decide)) q46a q46c (g := (mkF m 15 #[.val (.int k1), .val (.int n1), .val (.int (7 : Int32)), .val (.ref a_ROLLBACK)] [(.int n1), (.ref a_ROLLBACK)])) rfl (by rw [hml]; rfl) (Steps.refl _) (argsL := [(.int n1)]) (rest := []) (lenOf own_pd__28I_29Z rfl) rfl (by show 2 * 0 + _ ≤ _; exact Nat.le_of_eq rfl) (hb hby at_15) (fun _ _ => ⟨rfl, K43, (by decide : 0 + 0 ≤ _), (by decide : 0 + 0 ≤ _)⟩)
    dsimp only [Pt.U, Pt.locs, Pt.cells, Pt.slots] at X46 l46 y46 z46 st46 hQ46
    subst l46 y46 z46
    obtain ⟨rfl, M46, K46⟩ := hQ46
    have N46 := Fr.app N43 M46
    refine own_by (fun _ k => st46.trans k) ?_
    show own_Go p e below (T46.setTop (mkF m 18 #[.val (.int k1), .val (.int n1), .val (.int (7 : Int32)), .val (.ref a_ROLLBACK)] [(.int (own_takes n1 (0 : Int32) (0 : Int32)))])) _
    refine own_by (fun _ k => XS.iloadN X46.here hx rfl (hb hby at_18) rfl k) ?_
    show own_Go p e below (T46.setTop (mkF m 19 #[.val (.int k1), .val (.int n1), .val (.int (7 : Int32)), .val (.ref a_ROLLBACK)] [(.int (7 : Int32)), (.int (own_takes n1 (0 : Int32) (0 : Int32)))])) _
    refine own_by (fun _ k => XS.iloadN X46.here hx rfl (hb hby at_19) rfl k) ?_
    show own_Go p e below (T46.setTop (mkF m 20 #[.val (.int k1), .val (.int n1), .val (.int (7 : Int32)), .val (.ref a_ROLLBACK)] [(.int n1), (.int (7 : Int32)), (.int (own_takes n1 (0 : Int32) (0 : Int32)))])) _
    obtain ⟨_, _, ⟨T48, L48, k48, n48⟩, -, X48, ⟨Lc48, hQ48, l48, y48, z48⟩, st48⟩ := Jvm.LawKit.callS X46 hx (y := (⟨"com/example/admit1/admit1/server/CommandTakesPinLaw", "expected", "(II)Z"⟩ : MethodName)) hown (mvT hZ (hw _ (List.mem_of_getElem? (i := 17) rfl))) (mvT hZ (hw _ (List.mem_of_getElem? (i := 18) rfl))) (mvT hZ (hw _ (List.mem_of_getElem? (i := 3) rfl))) (mvT hZ (hw _ (List.mem_of_getElem? (i := 19) rfl))) (by decide) (backOf (W := 1) (rm_exp7 l Z a0 hw [] n1 h0 n0 O0) hZ (hw _ (List.mem_of_getElem? (i := 19) rfl)) (hw _ (List.mem_of_getElem? (i := 3) rfl)) (by decide) (by decide)) (g := (mkF m 20 #[.val (.int k1), .val (.int n1), .val (.int (7 : Int32)), .val (.ref a_ROLLBACK)] [(.int n1), (.int (7 : Int32)), (.int (own_takes n1 (0 : Int32) (0 : Int32)))])) rfl (by rw [hml]; rfl) (argsL := [(.int (7 : Int32)), (.int n1)]) (rest := [(.int (own_takes n1 (0 : Int32) (0 : Int32)))]) (lenOf own_pd__28II_29Z rfl) rfl (by show 2 * 0 + _ ≤ _; exact Nat.le_of_eq rfl) (hb hby at_20) (fun _ _ => ⟨rfl, K46, (by decide : 0 + 0 ≤ _), (by decide : 0 + 0 ≤ _)⟩)
    dsimp only [Pt.U, Pt.locs, Pt.cells, Pt.slots] at X48 l48 y48 z48 st48 hQ48
    subst l48 y48 z48
    obtain ⟨rfl, M48, K48⟩ := hQ48
    have N48 := Fr.app N46 M48
    refine own_by st48 ?_
    show own_Go p e below (T48.setTop (mkF m 23 #[.val (.int k1), .val (.int n1), .val (.int (7 : Int32)), .val (.ref a_ROLLBACK)] [(.int (own_takes n1 (0 : Int32) (0 : Int32))), (.int (own_takes n1 (0 : Int32) (0 : Int32)))])) _
    refine own_by (fun _ k => XS.icmpNo X48.here hx rfl (hb hby at_23) rfl (teq (rfl : (own_takes n1 (0 : Int32) (0 : Int32)) = (own_takes n1 (0 : Int32) (0 : Int32)))).2 k) ?_
    show own_Go p e below (T48.setTop (mkF m 26 #[.val (.int k1), .val (.int n1), .val (.int (7 : Int32)), .val (.ref a_ROLLBACK)] [])) _
    refine own_by (fun _ k => XS.iconst X48.here hx rfl (hb hby at_26) k) ?_
    show own_Go p e below (T48.setTop (mkF m 27 #[.val (.int k1), .val (.int n1), .val (.int (7 : Int32)), .val (.ref a_ROLLBACK)] [(.int (1 : Int32))])) _
    refine own_by (fun _ k => XS.goto X48.here hx rfl (pc0 := 27) (pc' := 31) rfl (hb hby at_27) (by decide) (by decide) k) ?_
    show own_Go p e below (T48.setTop (mkF m 31 #[.val (.int k1), .val (.int n1), .val (.int (7 : Int32)), .val (.ref a_ROLLBACK)] [(.int (1 : Int32))])) _
    obtain ⟨fs, hr, hrun, hended, hW, hsame⟩ := X48.leave (v := some (.int (1 : Int32))) (fun h => by rw [Bd.returns] at h; cases h)
    refine ⟨_, _, retN X48 hx (t := .boolean) Bd.returns (by simp) (hb hby at_31) hr, hrun, hended, _, _, rfl, ?_, ⟨_, rfl⟩, hW, hsame.mono (by decide) (by decide)⟩
    show Q_rm_law Z k1 n1 a_PING a_ECHO a_QUIT a_REQUEST a_CONVERT a_RELEASE a_COMMIT a_ROLLBACK a_ALLOCATE a_ALLOCATED a_LOCKS h0 n0 _ T48.heap _
    rw [K48]
    exact ⟨rfl, N48, rfl⟩
  · show own_Go p e below (s₁.setTop (mkF m 8 #[.val (.int k1), .val (.int n1), .val (.int (8 : Int32)), .unset] [])) _
    refine own_by (fun _ k => XS.iloadN X0.here hx rfl (hb hby at_8) rfl k) ?_
    show own_Go p e below (s₁.setTop (mkF m 9 #[.val (.int k1), .val (.int n1), .val (.int (8 : Int32)), .unset] [(.int (8 : Int32))])) _
    obtain ⟨_, _, ⟨T49, L49, k49, n49⟩, -, X49, ⟨Lc49, hQ49, l49, y49, z49⟩, st49⟩ := Jvm.LawKit.callS X0 hx (y := (⟨"com/example/admit1/admit1/server/CommandTakesPinLaw", "pick", "(I)Lcom/example/admit1/admit1/server/Command;"⟩ : MethodName)) hown (mvT hZ (hw _ (List.mem_of_getElem? (i := 1) rfl))) (mvT hZ (hw _ (List.mem_of_getElem? (i := 2) rfl))) (mvT hZ (hw _ (List.mem_of_getElem? (i := 3) rfl))) (mvT hZ (hw _ (List.mem_of_getElem? (i := 4) rfl))) (by decide) (backOf (W := 0) (rm_pick8 l Z a0 hw [] a_ALLOCATE h0 n0 O0 S_ALLOCATE) hZ (hw _ (List.mem_of_getElem? (i := 4) rfl)) (hw _ (List.mem_of_getElem? (i := 3) rfl)) (by decide) (by decide)) (g := (mkF m 9 #[.val (.int k1), .val (.int n1), .val (.int (8 : Int32)), .unset] [(.int (8 : Int32))])) rfl (by rw [hml]; rfl) (argsL := [(.int (8 : Int32))]) (rest := []) (lenOf own_pd__28I_29Lcom_2fexample_2fadmit1_2fadmit1_2fserver_2fCommand_3b rfl) rfl (by show 2 * 0 + _ ≤ _; exact Nat.le_of_eq rfl) (hb hby at_9) (fun _ _ => ⟨rfl, e0, (by decide : 0 + 0 ≤ _), (by decide : 0 + 0 ≤ _)⟩)
    dsimp only [Pt.U, Pt.locs, Pt.cells, Pt.slots] at X49 l49 y49 z49 st49 hQ49
    subst l49 y49 z49
    obtain ⟨rfl, M49, K49⟩ := hQ49
    have N49 := Fr.app N0 M49
    refine own_by st49 ?_
    show own_Go p e below (T49.setTop (mkF m 12 #[.val (.int k1), .val (.int n1), .val (.int (8 : Int32)), .unset] [(.ref a_ALLOCATE)])) _
    refine own_by (fun _ k => XS.astoreN X49.here hx rfl (hb hby at_12) rfl rfl (l' := #[.val (.int k1), .val (.int n1), .val (.int (8 : Int32)), .val (.ref a_ALLOCATE)]) rfl k) ?_
    show own_Go p e below (T49.setTop (mkF m 13 #[.val (.int k1), .val (.int n1), .val (.int (8 : Int32)), .val (.ref a_ALLOCATE)] [])) _
    refine own_by (fun _ k => XS.aloadN X49.here hx rfl (hb hby at_13) rfl rfl k) ?_
    show own_Go p e below (T49.setTop (mkF m 14 #[.val (.int k1), .val (.int n1), .val (.int (8 : Int32)), .val (.ref a_ALLOCATE)] [(.ref a_ALLOCATE)])) _
    refine own_by (fun _ k => XS.iloadN X49.here hx rfl (hb hby at_14) rfl k) ?_
    show own_Go p e below (T49.setTop (mkF m 15 #[.val (.int k1), .val (.int n1), .val (.int (8 : Int32)), .val (.ref a_ALLOCATE)] [(.int n1), (.ref a_ALLOCATE)])) _
    have f50 : Fld Z h0 a_ALLOCATE "com/example/admit1/admit1/server/Command" "minArgs" "I" (.int (1 : Int32)) := F1_ALLOCATE.ext O0.2
    have f51 : Fld Z h0 a_ALLOCATE "com/example/admit1/admit1/server/Command" "maxArgs" "I" (.int (2 : Int32)) := F2_ALLOCATE.ext O0.2
    have f53 : Exa Z h0 a_ALLOCATE "com/example/admit1/admit1/server/Command" := E_ALLOCATE.ext O0.2
    obtain ⟨cq52, kq52, q52a, q52b, q52c⟩ := isOf hZ K49 f53
    obtain ⟨_, _, ⟨T52, L52, k52, n52⟩, -, X52, ⟨Lc52, hQ52, l52, y52, z52⟩, st52⟩ := X49.virtualBack hx (y := (⟨"com/example/admit1/admit1/server/Command", "takes", "(I)Z"⟩ : MethodName)) (z := (⟨"com/example/admit1/admit1/server/Command", "takes", "(I)Z"⟩ : MethodName)) hown (mvT hZ (hw _ (List.mem_of_getElem? (i := 8) rfl))) (mvT hZ (hw _ (List.mem_of_getElem? (i := 9) rfl))) (notFace_of_selects (args := #[]) (mvT hZ (hw _ (List.mem_of_getElem? (i := 11) rfl)))) (mvT hZ (hw _ (List.mem_of_getElem? (i := 11) rfl))) (mvT hZ (hw _ (List.mem_of_getElem? (i := 10) rfl))) (by decide) (backOf (W := 0) (rm_takes l Z a0 hw [] a_ALLOCATE n1 (1 : Int32) (2 : Int32) h0 n0 O0 f50 f51) hZ (hw _ (List.mem_of_getElem? (i := 12) rfl)) (hw _ (List.mem_of_getElem? (i := 6) rfl)) (by decide) (by decide)) q52a q52c (g := (mkF m 15 #[.val (.int k1), .val (.int n1), .val (.int (8 : Int32)), .val (.ref a_ALLOCATE)] [(.int n1), (.ref a_ALLOCATE)])) rfl (by rw [hml]; rfl) (Steps.refl _) (argsL := [(.int n1)]) (rest := []) (lenOf own_pd__28I_29Z rfl) rfl (by show 2 * 0 + _ ≤ _; exact Nat.le_of_eq rfl) (hb hby at_15) (fun _ _ => ⟨rfl, K49, (by decide : 0 + 0 ≤ _), (by decide : 0 + 0 ≤ _)⟩)
    dsimp only [Pt.U, Pt.locs, Pt.cells, Pt.slots] at X52 l52 y52 z52 st52 hQ52
    subst l52 y52 z52
    obtain ⟨rfl, M52, K52⟩ := hQ52
    have N52 := Fr.app N49 M52
    refine own_by (fun _ k => st52.trans k) ?_
    show own_Go p e below (T52.setTop (mkF m 18 #[.val (.int k1), .val (.int n1), .val (.int (8 : Int32)), .val (.ref a_ALLOCATE)] [(.int (own_takes n1 (1 : Int32) (2 : Int32)))])) _
    refine own_by (fun _ k => XS.iloadN X52.here hx rfl (hb hby at_18) rfl k) ?_
    show own_Go p e below (T52.setTop (mkF m 19 #[.val (.int k1), .val (.int n1), .val (.int (8 : Int32)), .val (.ref a_ALLOCATE)] [(.int (8 : Int32)), (.int (own_takes n1 (1 : Int32) (2 : Int32)))])) _
    refine own_by (fun _ k => XS.iloadN X52.here hx rfl (hb hby at_19) rfl k) ?_
    show own_Go p e below (T52.setTop (mkF m 20 #[.val (.int k1), .val (.int n1), .val (.int (8 : Int32)), .val (.ref a_ALLOCATE)] [(.int n1), (.int (8 : Int32)), (.int (own_takes n1 (1 : Int32) (2 : Int32)))])) _
    obtain ⟨_, _, ⟨T54, L54, k54, n54⟩, -, X54, ⟨Lc54, hQ54, l54, y54, z54⟩, st54⟩ := Jvm.LawKit.callS X52 hx (y := (⟨"com/example/admit1/admit1/server/CommandTakesPinLaw", "expected", "(II)Z"⟩ : MethodName)) hown (mvT hZ (hw _ (List.mem_of_getElem? (i := 17) rfl))) (mvT hZ (hw _ (List.mem_of_getElem? (i := 18) rfl))) (mvT hZ (hw _ (List.mem_of_getElem? (i := 3) rfl))) (mvT hZ (hw _ (List.mem_of_getElem? (i := 19) rfl))) (by decide) (backOf (W := 1) (rm_exp8 l Z a0 hw [] n1 h0 n0 O0) hZ (hw _ (List.mem_of_getElem? (i := 19) rfl)) (hw _ (List.mem_of_getElem? (i := 3) rfl)) (by decide) (by decide)) (g := (mkF m 20 #[.val (.int k1), .val (.int n1), .val (.int (8 : Int32)), .val (.ref a_ALLOCATE)] [(.int n1), (.int (8 : Int32)), (.int (own_takes n1 (1 : Int32) (2 : Int32)))])) rfl (by rw [hml]; rfl) (argsL := [(.int (8 : Int32)), (.int n1)]) (rest := [(.int (own_takes n1 (1 : Int32) (2 : Int32)))]) (lenOf own_pd__28II_29Z rfl) rfl (by show 2 * 0 + _ ≤ _; exact Nat.le_of_eq rfl) (hb hby at_20) (fun _ _ => ⟨rfl, K52, (by decide : 0 + 0 ≤ _), (by decide : 0 + 0 ≤ _)⟩)
    dsimp only [Pt.U, Pt.locs, Pt.cells, Pt.slots] at X54 l54 y54 z54 st54 hQ54
    subst l54 y54 z54
    obtain ⟨rfl, M54, K54⟩ := hQ54
    have N54 := Fr.app N52 M54
    refine own_by st54 ?_
    show own_Go p e below (T54.setTop (mkF m 23 #[.val (.int k1), .val (.int n1), .val (.int (8 : Int32)), .val (.ref a_ALLOCATE)] [(.int (own_takes n1 (1 : Int32) (2 : Int32))), (.int (own_takes n1 (1 : Int32) (2 : Int32)))])) _
    refine own_by (fun _ k => XS.icmpNo X54.here hx rfl (hb hby at_23) rfl (teq (rfl : (own_takes n1 (1 : Int32) (2 : Int32)) = (own_takes n1 (1 : Int32) (2 : Int32)))).2 k) ?_
    show own_Go p e below (T54.setTop (mkF m 26 #[.val (.int k1), .val (.int n1), .val (.int (8 : Int32)), .val (.ref a_ALLOCATE)] [])) _
    refine own_by (fun _ k => XS.iconst X54.here hx rfl (hb hby at_26) k) ?_
    show own_Go p e below (T54.setTop (mkF m 27 #[.val (.int k1), .val (.int n1), .val (.int (8 : Int32)), .val (.ref a_ALLOCATE)] [(.int (1 : Int32))])) _
    refine own_by (fun _ k => XS.goto X54.here hx rfl (pc0 := 27) (pc' := 31) rfl (hb hby at_27) (by decide) (by decide) k) ?_
    show own_Go p e below (T54.setTop (mkF m 31 #[.val (.int k1), .val (.int n1), .val (.int (8 : Int32)), .val (.ref a_ALLOCATE)] [(.int (1 : Int32))])) _
    obtain ⟨fs, hr, hrun, hended, hW, hsame⟩ := X54.leave (v := some (.int (1 : Int32))) (fun h => by rw [Bd.returns] at h; cases h)
    refine ⟨_, _, retN X54 hx (t := .boolean) Bd.returns (by simp) (hb hby at_31) hr, hrun, hended, _, _, rfl, ?_, ⟨_, rfl⟩, hW, hsame.mono (by decide) (by decide)⟩
    show Q_rm_law Z k1 n1 a_PING a_ECHO a_QUIT a_REQUEST a_CONVERT a_RELEASE a_COMMIT a_ROLLBACK a_ALLOCATE a_ALLOCATED a_LOCKS h0 n0 _ T54.heap _
    rw [K54]
    exact ⟨rfl, N54, rfl⟩
  · show own_Go p e below (s₁.setTop (mkF m 8 #[.val (.int k1), .val (.int n1), .val (.int (9 : Int32)), .unset] [])) _
    refine own_by (fun _ k => XS.iloadN X0.here hx rfl (hb hby at_8) rfl k) ?_
    show own_Go p e below (s₁.setTop (mkF m 9 #[.val (.int k1), .val (.int n1), .val (.int (9 : Int32)), .unset] [(.int (9 : Int32))])) _
    obtain ⟨_, _, ⟨T55, L55, k55, n55⟩, -, X55, ⟨Lc55, hQ55, l55, y55, z55⟩, st55⟩ := Jvm.LawKit.callS X0 hx (y := (⟨"com/example/admit1/admit1/server/CommandTakesPinLaw", "pick", "(I)Lcom/example/admit1/admit1/server/Command;"⟩ : MethodName)) hown (mvT hZ (hw _ (List.mem_of_getElem? (i := 1) rfl))) (mvT hZ (hw _ (List.mem_of_getElem? (i := 2) rfl))) (mvT hZ (hw _ (List.mem_of_getElem? (i := 3) rfl))) (mvT hZ (hw _ (List.mem_of_getElem? (i := 4) rfl))) (by decide) (backOf (W := 0) (rm_pick9 l Z a0 hw [] a_ALLOCATED h0 n0 O0 S_ALLOCATED) hZ (hw _ (List.mem_of_getElem? (i := 4) rfl)) (hw _ (List.mem_of_getElem? (i := 3) rfl)) (by decide) (by decide)) (g := (mkF m 9 #[.val (.int k1), .val (.int n1), .val (.int (9 : Int32)), .unset] [(.int (9 : Int32))])) rfl (by rw [hml]; rfl) (argsL := [(.int (9 : Int32))]) (rest := []) (lenOf own_pd__28I_29Lcom_2fexample_2fadmit1_2fadmit1_2fserver_2fCommand_3b rfl) rfl (by show 2 * 0 + _ ≤ _; exact Nat.le_of_eq rfl) (hb hby at_9) (fun _ _ => ⟨rfl, e0, (by decide : 0 + 0 ≤ _), (by decide : 0 + 0 ≤ _)⟩)
    dsimp only [Pt.U, Pt.locs, Pt.cells, Pt.slots] at X55 l55 y55 z55 st55 hQ55
    subst l55 y55 z55
    obtain ⟨rfl, M55, K55⟩ := hQ55
    have N55 := Fr.app N0 M55
    refine own_by st55 ?_
    show own_Go p e below (T55.setTop (mkF m 12 #[.val (.int k1), .val (.int n1), .val (.int (9 : Int32)), .unset] [(.ref a_ALLOCATED)])) _
    refine own_by (fun _ k => XS.astoreN X55.here hx rfl (hb hby at_12) rfl rfl (l' := #[.val (.int k1), .val (.int n1), .val (.int (9 : Int32)), .val (.ref a_ALLOCATED)]) rfl k) ?_
    show own_Go p e below (T55.setTop (mkF m 13 #[.val (.int k1), .val (.int n1), .val (.int (9 : Int32)), .val (.ref a_ALLOCATED)] [])) _
    refine own_by (fun _ k => XS.aloadN X55.here hx rfl (hb hby at_13) rfl rfl k) ?_
    show own_Go p e below (T55.setTop (mkF m 14 #[.val (.int k1), .val (.int n1), .val (.int (9 : Int32)), .val (.ref a_ALLOCATED)] [(.ref a_ALLOCATED)])) _
    refine own_by (fun _ k => XS.iloadN X55.here hx rfl (hb hby at_14) rfl k) ?_
    show own_Go p e below (T55.setTop (mkF m 15 #[.val (.int k1), .val (.int n1), .val (.int (9 : Int32)), .val (.ref a_ALLOCATED)] [(.int n1), (.ref a_ALLOCATED)])) _
    have f56 : Fld Z h0 a_ALLOCATED "com/example/admit1/admit1/server/Command" "minArgs" "I" (.int (0 : Int32)) := F1_ALLOCATED.ext O0.2
    have f57 : Fld Z h0 a_ALLOCATED "com/example/admit1/admit1/server/Command" "maxArgs" "I" (.int (1 : Int32)) := F2_ALLOCATED.ext O0.2
    have f59 : Exa Z h0 a_ALLOCATED "com/example/admit1/admit1/server/Command" := E_ALLOCATED.ext O0.2
    obtain ⟨cq58, kq58, q58a, q58b, q58c⟩ := isOf hZ K55 f59
    obtain ⟨_, _, ⟨T58, L58, k58, n58⟩, -, X58, ⟨Lc58, hQ58, l58, y58, z58⟩, st58⟩ := X55.virtualBack hx (y := (⟨"com/example/admit1/admit1/server/Command", "takes", "(I)Z"⟩ : MethodName)) (z := (⟨"com/example/admit1/admit1/server/Command", "takes", "(I)Z"⟩ : MethodName)) hown (mvT hZ (hw _ (List.mem_of_getElem? (i := 8) rfl))) (mvT hZ (hw _ (List.mem_of_getElem? (i := 9) rfl))) (notFace_of_selects (args := #[]) (mvT hZ (hw _ (List.mem_of_getElem? (i := 11) rfl)))) (mvT hZ (hw _ (List.mem_of_getElem? (i := 11) rfl))) (mvT hZ (hw _ (List.mem_of_getElem? (i := 10) rfl))) (by decide) (backOf (W := 0) (rm_takes l Z a0 hw [] a_ALLOCATED n1 (0 : Int32) (1 : Int32) h0 n0 O0 f56 f57) hZ (hw _ (List.mem_of_getElem? (i := 12) rfl)) (hw _ (List.mem_of_getElem? (i := 6) rfl)) (by decide) (by decide)) q58a q58c (g := (mkF m 15 #[.val (.int k1), .val (.int n1), .val (.int (9 : Int32)), .val (.ref a_ALLOCATED)] [(.int n1), (.ref a_ALLOCATED)])) rfl (by rw [hml]; rfl) (Steps.refl _) (argsL := [(.int n1)]) (rest := []) (lenOf own_pd__28I_29Z rfl) rfl (by show 2 * 0 + _ ≤ _; exact Nat.le_of_eq rfl) (hb hby at_15) (fun _ _ => ⟨rfl, K55, (by decide : 0 + 0 ≤ _), (by decide : 0 + 0 ≤ _)⟩)
    dsimp only [Pt.U, Pt.locs, Pt.cells, Pt.slots] at X58 l58 y58 z58 st58 hQ58
    subst l58 y58 z58
    obtain ⟨rfl, M58, K58⟩ := hQ58
    have N58 := Fr.app N55 M58
    refine own_by (fun _ k => st58.trans k) ?_
    show own_Go p e below (T58.setTop (mkF m 18 #[.val (.int k1), .val (.int n1), .val (.int (9 : Int32)), .val (.ref a_ALLOCATED)] [(.int (own_takes n1 (0 : Int32) (1 : Int32)))])) _
    refine own_by (fun _ k => XS.iloadN X58.here hx rfl (hb hby at_18) rfl k) ?_
    show own_Go p e below (T58.setTop (mkF m 19 #[.val (.int k1), .val (.int n1), .val (.int (9 : Int32)), .val (.ref a_ALLOCATED)] [(.int (9 : Int32)), (.int (own_takes n1 (0 : Int32) (1 : Int32)))])) _
    refine own_by (fun _ k => XS.iloadN X58.here hx rfl (hb hby at_19) rfl k) ?_
    show own_Go p e below (T58.setTop (mkF m 20 #[.val (.int k1), .val (.int n1), .val (.int (9 : Int32)), .val (.ref a_ALLOCATED)] [(.int n1), (.int (9 : Int32)), (.int (own_takes n1 (0 : Int32) (1 : Int32)))])) _
    obtain ⟨_, _, ⟨T60, L60, k60, n60⟩, -, X60, ⟨Lc60, hQ60, l60, y60, z60⟩, st60⟩ := Jvm.LawKit.callS X58 hx (y := (⟨"com/example/admit1/admit1/server/CommandTakesPinLaw", "expected", "(II)Z"⟩ : MethodName)) hown (mvT hZ (hw _ (List.mem_of_getElem? (i := 17) rfl))) (mvT hZ (hw _ (List.mem_of_getElem? (i := 18) rfl))) (mvT hZ (hw _ (List.mem_of_getElem? (i := 3) rfl))) (mvT hZ (hw _ (List.mem_of_getElem? (i := 19) rfl))) (by decide) (backOf (W := 1) (rm_exp9 l Z a0 hw [] n1 h0 n0 O0) hZ (hw _ (List.mem_of_getElem? (i := 19) rfl)) (hw _ (List.mem_of_getElem? (i := 3) rfl)) (by decide) (by decide)) (g := (mkF m 20 #[.val (.int k1), .val (.int n1), .val (.int (9 : Int32)), .val (.ref a_ALLOCATED)] [(.int n1), (.int (9 : Int32)), (.int (own_takes n1 (0 : Int32) (1 : Int32)))])) rfl (by rw [hml]; rfl) (argsL := [(.int (9 : Int32)), (.int n1)]) (rest := [(.int (own_takes n1 (0 : Int32) (1 : Int32)))]) (lenOf own_pd__28II_29Z rfl) rfl (by show 2 * 0 + _ ≤ _; exact Nat.le_of_eq rfl) (hb hby at_20) (fun _ _ => ⟨rfl, K58, (by decide : 0 + 0 ≤ _), (by decide : 0 + 0 ≤ _)⟩)
    dsimp only [Pt.U, Pt.locs, Pt.cells, Pt.slots] at X60 l60 y60 z60 st60 hQ60
    subst l60 y60 z60
    obtain ⟨rfl, M60, K60⟩ := hQ60
    have N60 := Fr.app N58 M60
    refine own_by st60 ?_
    show own_Go p e below (T60.setTop (mkF m 23 #[.val (.int k1), .val (.int n1), .val (.int (9 : Int32)), .val (.ref a_ALLOCATED)] [(.int (own_takes n1 (0 : Int32) (1 : Int32))), (.int (own_takes n1 (0 : Int32) (1 : Int32)))])) _
    refine own_by (fun _ k => XS.icmpNo X60.here hx rfl (hb hby at_23) rfl (teq (rfl : (own_takes n1 (0 : Int32) (1 : Int32)) = (own_takes n1 (0 : Int32) (1 : Int32)))).2 k) ?_
    show own_Go p e below (T60.setTop (mkF m 26 #[.val (.int k1), .val (.int n1), .val (.int (9 : Int32)), .val (.ref a_ALLOCATED)] [])) _
    refine own_by (fun _ k => XS.iconst X60.here hx rfl (hb hby at_26) k) ?_
    show own_Go p e below (T60.setTop (mkF m 27 #[.val (.int k1), .val (.int n1), .val (.int (9 : Int32)), .val (.ref a_ALLOCATED)] [(.int (1 : Int32))])) _
    refine own_by (fun _ k => XS.goto X60.here hx rfl (pc0 := 27) (pc' := 31) rfl (hb hby at_27) (by decide) (by decide) k) ?_
    show own_Go p e below (T60.setTop (mkF m 31 #[.val (.int k1), .val (.int n1), .val (.int (9 : Int32)), .val (.ref a_ALLOCATED)] [(.int (1 : Int32))])) _
    obtain ⟨fs, hr, hrun, hended, hW, hsame⟩ := X60.leave (v := some (.int (1 : Int32))) (fun h => by rw [Bd.returns] at h; cases h)
    refine ⟨_, _, retN X60 hx (t := .boolean) Bd.returns (by simp) (hb hby at_31) hr, hrun, hended, _, _, rfl, ?_, ⟨_, rfl⟩, hW, hsame.mono (by decide) (by decide)⟩
    show Q_rm_law Z k1 n1 a_PING a_ECHO a_QUIT a_REQUEST a_CONVERT a_RELEASE a_COMMIT a_ROLLBACK a_ALLOCATE a_ALLOCATED a_LOCKS h0 n0 _ T60.heap _
    rw [K60]
    exact ⟨rfl, N60, rfl⟩
  · show own_Go p e below (s₁.setTop (mkF m 8 #[.val (.int k1), .val (.int n1), .val (.int (10 : Int32)), .unset] [])) _
    refine own_by (fun _ k => XS.iloadN X0.here hx rfl (hb hby at_8) rfl k) ?_
    show own_Go p e below (s₁.setTop (mkF m 9 #[.val (.int k1), .val (.int n1), .val (.int (10 : Int32)), .unset] [(.int (10 : Int32))])) _
    obtain ⟨_, _, ⟨T61, L61, k61, n61⟩, -, X61, ⟨Lc61, hQ61, l61, y61, z61⟩, st61⟩ := Jvm.LawKit.callS X0 hx (y := (⟨"com/example/admit1/admit1/server/CommandTakesPinLaw", "pick", "(I)Lcom/example/admit1/admit1/server/Command;"⟩ : MethodName)) hown (mvT hZ (hw _ (List.mem_of_getElem? (i := 1) rfl))) (mvT hZ (hw _ (List.mem_of_getElem? (i := 2) rfl))) (mvT hZ (hw _ (List.mem_of_getElem? (i := 3) rfl))) (mvT hZ (hw _ (List.mem_of_getElem? (i := 4) rfl))) (by decide) (backOf (W := 0) (rm_pick10 l Z a0 hw [] a_LOCKS h0 n0 O0 S_LOCKS) hZ (hw _ (List.mem_of_getElem? (i := 4) rfl)) (hw _ (List.mem_of_getElem? (i := 3) rfl)) (by decide) (by decide)) (g := (mkF m 9 #[.val (.int k1), .val (.int n1), .val (.int (10 : Int32)), .unset] [(.int (10 : Int32))])) rfl (by rw [hml]; rfl) (argsL := [(.int (10 : Int32))]) (rest := []) (lenOf own_pd__28I_29Lcom_2fexample_2fadmit1_2fadmit1_2fserver_2fCommand_3b rfl) rfl (by show 2 * 0 + _ ≤ _; exact Nat.le_of_eq rfl) (hb hby at_9) (fun _ _ => ⟨rfl, e0, (by decide : 0 + 0 ≤ _), (by decide : 0 + 0 ≤ _)⟩)
    dsimp only [Pt.U, Pt.locs, Pt.cells, Pt.slots] at X61 l61 y61 z61 st61 hQ61
    subst l61 y61 z61
    obtain ⟨rfl, M61, K61⟩ := hQ61
    have N61 := Fr.app N0 M61
    refine own_by st61 ?_
    show own_Go p e below (T61.setTop (mkF m 12 #[.val (.int k1), .val (.int n1), .val (.int (10 : Int32)), .unset] [(.ref a_LOCKS)])) _
    refine own_by (fun _ k => XS.astoreN X61.here hx rfl (hb hby at_12) rfl rfl (l' := #[.val (.int k1), .val (.int n1), .val (.int (10 : Int32)), .val (.ref a_LOCKS)]) rfl k) ?_
    show own_Go p e below (T61.setTop (mkF m 13 #[.val (.int k1), .val (.int n1), .val (.int (10 : Int32)), .val (.ref a_LOCKS)] [])) _
    refine own_by (fun _ k => XS.aloadN X61.here hx rfl (hb hby at_13) rfl rfl k) ?_
    show own_Go p e below (T61.setTop (mkF m 14 #[.val (.int k1), .val (.int n1), .val (.int (10 : Int32)), .val (.ref a_LOCKS)] [(.ref a_LOCKS)])) _
    refine own_by (fun _ k => XS.iloadN X61.here hx rfl (hb hby at_14) rfl k) ?_
    show own_Go p e below (T61.setTop (mkF m 15 #[.val (.int k1), .val (.int n1), .val (.int (10 : Int32)), .val (.ref a_LOCKS)] [(.int n1), (.ref a_LOCKS)])) _
    have f62 : Fld Z h0 a_LOCKS "com/example/admit1/admit1/server/Command" "minArgs" "I" (.int (0 : Int32)) := F1_LOCKS.ext O0.2
    have f63 : Fld Z h0 a_LOCKS "com/example/admit1/admit1/server/Command" "maxArgs" "I" (.int (1 : Int32)) := F2_LOCKS.ext O0.2
    have f65 : Exa Z h0 a_LOCKS "com/example/admit1/admit1/server/Command" := E_LOCKS.ext O0.2
    obtain ⟨cq64, kq64, q64a, q64b, q64c⟩ := isOf hZ K61 f65
    obtain ⟨_, _, ⟨T64, L64, k64, n64⟩, -, X64, ⟨Lc64, hQ64, l64, y64, z64⟩, st64⟩ := X61.virtualBack hx (y := (⟨"com/example/admit1/admit1/server/Command", "takes", "(I)Z"⟩ : MethodName)) (z := (⟨"com/example/admit1/admit1/server/Command", "takes", "(I)Z"⟩ : MethodName)) hown (mvT hZ (hw _ (List.mem_of_getElem? (i := 8) rfl))) (mvT hZ (hw _ (List.mem_of_getElem? (i := 9) rfl))) (notFace_of_selects (args := #[]) (mvT hZ (hw _ (List.mem_of_getElem? (i := 11) rfl)))) (mvT hZ (hw _ (List.mem_of_getElem? (i := 11) rfl))) (mvT hZ (hw _ (List.mem_of_getElem? (i := 10) rfl))) (by decide) (backOf (W := 0) (rm_takes l Z a0 hw [] a_LOCKS n1 (0 : Int32) (1 : Int32) h0 n0 O0 f62 f63) hZ (hw _ (List.mem_of_getElem? (i := 12) rfl)) (hw _ (List.mem_of_getElem? (i := 6) rfl)) (by decide) (by decide)) q64a q64c (g := (mkF m 15 #[.val (.int k1), .val (.int n1), .val (.int (10 : Int32)), .val (.ref a_LOCKS)] [(.int n1), (.ref a_LOCKS)])) rfl (by rw [hml]; rfl) (Steps.refl _) (argsL := [(.int n1)]) (rest := []) (lenOf own_pd__28I_29Z rfl) rfl (by show 2 * 0 + _ ≤ _; exact Nat.le_of_eq rfl) (hb hby at_15) (fun _ _ => ⟨rfl, K61, (by decide : 0 + 0 ≤ _), (by decide : 0 + 0 ≤ _)⟩)
    dsimp only [Pt.U, Pt.locs, Pt.cells, Pt.slots] at X64 l64 y64 z64 st64 hQ64
    subst l64 y64 z64
    obtain ⟨rfl, M64, K64⟩ := hQ64
    have N64 := Fr.app N61 M64
    refine own_by (fun _ k => st64.trans k) ?_
    show own_Go p e below (T64.setTop (mkF m 18 #[.val (.int k1), .val (.int n1), .val (.int (10 : Int32)), .val (.ref a_LOCKS)] [(.int (own_takes n1 (0 : Int32) (1 : Int32)))])) _
    refine own_by (fun _ k => XS.iloadN X64.here hx rfl (hb hby at_18) rfl k) ?_
    show own_Go p e below (T64.setTop (mkF m 19 #[.val (.int k1), .val (.int n1), .val (.int (10 : Int32)), .val (.ref a_LOCKS)] [(.int (10 : Int32)), (.int (own_takes n1 (0 : Int32) (1 : Int32)))])) _
    refine own_by (fun _ k => XS.iloadN X64.here hx rfl (hb hby at_19) rfl k) ?_
    show own_Go p e below (T64.setTop (mkF m 20 #[.val (.int k1), .val (.int n1), .val (.int (10 : Int32)), .val (.ref a_LOCKS)] [(.int n1), (.int (10 : Int32)), (.int (own_takes n1 (0 : Int32) (1 : Int32)))])) _
    obtain ⟨_, _, ⟨T66, L66, k66, n66⟩, -, X66, ⟨Lc66, hQ66, l66, y66, z66⟩, st66⟩ := Jvm.LawKit.callS X64 hx (y := (⟨"com/example/admit1/admit1/server/CommandTakesPinLaw", "expected", "(II)Z"⟩ : MethodName)) hown (mvT hZ (hw _ (List.mem_of_getElem? (i := 17) rfl))) (mvT hZ (hw _ (List.mem_of_getElem? (i := 18) rfl))) (mvT hZ (hw _ (List.mem_of_getElem? (i := 3) rfl))) (mvT hZ (hw _ (List.mem_of_getElem? (i := 19) rfl))) (by decide) (backOf (W := 1) (rm_exp10 l Z a0 hw [] n1 h0 n0 O0) hZ (hw _ (List.mem_of_getElem? (i := 19) rfl)) (hw _ (List.mem_of_getElem? (i := 3) rfl)) (by decide) (by decide)) (g := (mkF m 20 #[.val (.int k1), .val (.int n1), .val (.int (10 : Int32)), .val (.ref a_LOCKS)] [(.int n1), (.int (10 : Int32)), (.int (own_takes n1 (0 : Int32) (1 : Int32)))])) rfl (by rw [hml]; rfl) (argsL := [(.int (10 : Int32)), (.int n1)]) (rest := [(.int (own_takes n1 (0 : Int32) (1 : Int32)))]) (lenOf own_pd__28II_29Z rfl) rfl (by show 2 * 0 + _ ≤ _; exact Nat.le_of_eq rfl) (hb hby at_20) (fun _ _ => ⟨rfl, K64, (by decide : 0 + 0 ≤ _), (by decide : 0 + 0 ≤ _)⟩)
    dsimp only [Pt.U, Pt.locs, Pt.cells, Pt.slots] at X66 l66 y66 z66 st66 hQ66
    subst l66 y66 z66
    obtain ⟨rfl, M66, K66⟩ := hQ66
    have N66 := Fr.app N64 M66
    refine own_by st66 ?_
    show own_Go p e below (T66.setTop (mkF m 23 #[.val (.int k1), .val (.int n1), .val (.int (10 : Int32)), .val (.ref a_LOCKS)] [(.int (own_takes n1 (0 : Int32) (1 : Int32))), (.int (own_takes n1 (0 : Int32) (1 : Int32)))])) _
    refine own_by (fun _ k => XS.icmpNo X66.here hx rfl (hb hby at_23) rfl (teq (rfl : (own_takes n1 (0 : Int32) (1 : Int32)) = (own_takes n1 (0 : Int32) (1 : Int32)))).2 k) ?_
    show own_Go p e below (T66.setTop (mkF m 26 #[.val (.int k1), .val (.int n1), .val (.int (10 : Int32)), .val (.ref a_LOCKS)] [])) _
    refine own_by (fun _ k => XS.iconst X66.here hx rfl (hb hby at_26) k) ?_
    show own_Go p e below (T66.setTop (mkF m 27 #[.val (.int k1), .val (.int n1), .val (.int (10 : Int32)), .val (.ref a_LOCKS)] [(.int (1 : Int32))])) _
    refine own_by (fun _ k => XS.goto X66.here hx rfl (pc0 := 27) (pc' := 31) rfl (hb hby at_27) (by decide) (by decide) k) ?_
    show own_Go p e below (T66.setTop (mkF m 31 #[.val (.int k1), .val (.int n1), .val (.int (10 : Int32)), .val (.ref a_LOCKS)] [(.int (1 : Int32))])) _
    obtain ⟨fs, hr, hrun, hended, hW, hsame⟩ := X66.leave (v := some (.int (1 : Int32))) (fun h => by rw [Bd.returns] at h; cases h)
    refine ⟨_, _, retN X66 hx (t := .boolean) Bd.returns (by simp) (hb hby at_31) hr, hrun, hended, _, _, rfl, ?_, ⟨_, rfl⟩, hW, hsame.mono (by decide) (by decide)⟩
    show Q_rm_law Z k1 n1 a_PING a_ECHO a_QUIT a_REQUEST a_CONVERT a_RELEASE a_COMMIT a_ROLLBACK a_ALLOCATE a_ALLOCATED a_LOCKS h0 n0 _ T66.heap _
    rw [K66]
    exact ⟨rfl, N66, rfl⟩
set_option maxRecDepth 65536 in
set_option maxHeartbeats 40000000 in
theorem comes_1 {Post : Tables → Env → Array Value → State → Outcome → State → Prop} (hpost : ∀ tb e args s v u, (limb_1_1.after args s (.returned v) u = true ∧ limb_1_2.after args s (.returned v) u = true ∧ True) → FrameEnd s (.returned v) u (Jvm.fieldLocs frame_1_writes args s ++ Jvm.arrayLocs frame_1_arrays args s ++ Jvm.staticLocs frame_1_statics s) 0 0 → Post tb e args s (.returned v) u) :
    ArmFor flags0 classFile x code maxLocals ret World_1 tables_1 room_1 Calls_1 rest_1 Pre_1 Post := by
  intro l hfl _ _ p e ha hc hk s m args below hf hA hF happ hP
  obtain ⟨hcalls, hrest, hpre⟩ := hP
  obtain ⟨-, -, -, hnamed, -, -, -, hat⟩ := (Spec.applies_iff hf).mp happ
  obtain ⟨hg, hn⟩ := and_e (Cond.before_iff.mp (show (Jvm.Cond.and given_1 narrow_1).before args s = true from hpre))
  obtain ⟨hh0, hg0⟩ := and_e hg
  obtain ⟨hh1, hg1⟩ := and_e hg0
  obtain ⟨w0, w1, rfl⟩ : ∃ w0 w1 : Value, args = #[w0, w1] := by
    have hs : args.size = 2 := by simpa [Cond.value, given_1] using hh0
    obtain ⟨L⟩ := args
    match L, hs with
    | [w0, w1], _ => exact ⟨w0, w1, rfl⟩
  have hw := fun d (hd : d ∈ tables_1) => atoms_spec (ws := Jvm.Cond.code x code maxLocals ret :: tables_1) hat d (List.mem_cons_of_mem _ hd)
  have hfit : Fit s := fun {y c} hc i hi => by
    obtain ⟨ha, rfl⟩ := Array.getElem?_eq_some_iff.mp hc
    have q := List.all_eq_true.mp ((Array.all_eq_true_iff_forall_mem.mp hF) _ (Array.getElem_mem ha)) i (List.mem_range.mpr hi)
    simpa [Array.getElem?_eq_getElem hi] using q
  obtain ⟨i0, ea0⟩ := is_v hh1
  obtain rfl : w0 = (.int i0) := Option.some.inj ea0
  obtain ⟨i1, ea1⟩ := is_v hg1
  obtain rfl : w1 = (.int i1) := Option.some.inj ea1
  obtain ⟨m0, r0⟩ := and_e hn
  obtain ⟨m1, r1⟩ := and_e r0
  obtain ⟨m2, r2⟩ := and_e r1
  obtain ⟨m3, r3⟩ := and_e r2
  obtain ⟨m4, r4⟩ := and_e r3
  obtain ⟨m5, r5⟩ := and_e r4
  obtain ⟨m6, r6⟩ := and_e r5
  obtain ⟨m7, r7⟩ := and_e r6
  obtain ⟨m8, r8⟩ := and_e r7
  obtain ⟨m9, r9⟩ := and_e r8
  obtain ⟨m10, r10⟩ := and_e r9
  obtain ⟨m11, r11⟩ := and_e r10
  obtain ⟨m12, r12⟩ := and_e r11
  obtain ⟨m13, r13⟩ := and_e r12
  obtain ⟨m14, r14⟩ := and_e r13
  obtain ⟨m15, r15⟩ := and_e r14
  obtain ⟨m16, r16⟩ := and_e r15
  obtain ⟨m17, r17⟩ := and_e r16
  obtain ⟨m18, r18⟩ := and_e r17
  obtain ⟨m19, r19⟩ := and_e r18
  obtain ⟨m20, r20⟩ := and_e r19
  obtain ⟨m21, r21⟩ := and_e r20
  obtain ⟨m22, r22⟩ := and_e r21
  obtain ⟨m23, r23⟩ := and_e r22
  obtain ⟨m24, r24⟩ := and_e r23
  obtain ⟨m25, r25⟩ := and_e r24
  obtain ⟨m26, r26⟩ := and_e r25
  obtain ⟨m27, r27⟩ := and_e r26
  obtain ⟨m28, r28⟩ := and_e r27
  obtain ⟨m29, r29⟩ := and_e r28
  obtain ⟨m30, r30⟩ := and_e r29
  obtain ⟨m31, r31⟩ := and_e r30
  have m32 := r31
  obtain ⟨a_PING, v_PING⟩ := exa_v m0
  have E_PING := Exa.start v_PING m0
  have S_PING := Sta.start v_PING (Or.inr ⟨hw _ (List.mem_of_getElem? (i := 6) rfl), hw _ (List.mem_of_getElem? (i := 7) rfl)⟩)
  obtain ⟨a_REQUEST, v_REQUEST⟩ := exa_v m3
  have E_REQUEST := Exa.start v_REQUEST m3
  have S_REQUEST := Sta.start v_REQUEST (Or.inr ⟨hw _ (List.mem_of_getElem? (i := 6) rfl), hw _ (List.mem_of_getElem? (i := 21) rfl)⟩)
  obtain ⟨a_ALLOCATED, v_ALLOCATED⟩ := exa_v m6
  have E_ALLOCATED := Exa.start v_ALLOCATED m6
  have S_ALLOCATED := Sta.start v_ALLOCATED (Or.inr ⟨hw _ (List.mem_of_getElem? (i := 6) rfl), hw _ (List.mem_of_getElem? (i := 23) rfl)⟩)
  obtain ⟨a_RELEASE, v_RELEASE⟩ := exa_v m9
  have E_RELEASE := Exa.start v_RELEASE m9
  have S_RELEASE := Sta.start v_RELEASE (Or.inr ⟨hw _ (List.mem_of_getElem? (i := 6) rfl), hw _ (List.mem_of_getElem? (i := 25) rfl)⟩)
  obtain ⟨a_COMMIT, v_COMMIT⟩ := exa_v m12
  have E_COMMIT := Exa.start v_COMMIT m12
  have S_COMMIT := Sta.start v_COMMIT (Or.inr ⟨hw _ (List.mem_of_getElem? (i := 6) rfl), hw _ (List.mem_of_getElem? (i := 27) rfl)⟩)
  obtain ⟨a_ALLOCATE, v_ALLOCATE⟩ := exa_v m14
  have E_ALLOCATE := Exa.start v_ALLOCATE m14
  have S_ALLOCATE := Sta.start v_ALLOCATE (Or.inr ⟨hw _ (List.mem_of_getElem? (i := 6) rfl), hw _ (List.mem_of_getElem? (i := 29) rfl)⟩)
  obtain ⟨a_ECHO, v_ECHO⟩ := exa_v m17
  have E_ECHO := Exa.start v_ECHO m17
  have S_ECHO := Sta.start v_ECHO (Or.inr ⟨hw _ (List.mem_of_getElem? (i := 6) rfl), hw _ (List.mem_of_getElem? (i := 31) rfl)⟩)
  obtain ⟨a_QUIT, v_QUIT⟩ := exa_v m20
  have E_QUIT := Exa.start v_QUIT m20
  have S_QUIT := Sta.start v_QUIT (Or.inr ⟨hw _ (List.mem_of_getElem? (i := 6) rfl), hw _ (List.mem_of_getElem? (i := 33) rfl)⟩)
  obtain ⟨a_LOCKS, v_LOCKS⟩ := exa_v m24
  have E_LOCKS := Exa.start v_LOCKS m24
  have S_LOCKS := Sta.start v_LOCKS (Or.inr ⟨hw _ (List.mem_of_getElem? (i := 6) rfl), hw _ (List.mem_of_getElem? (i := 35) rfl)⟩)
  obtain ⟨a_ROLLBACK, v_ROLLBACK⟩ := exa_v m27
  have E_ROLLBACK := Exa.start v_ROLLBACK m27
  have S_ROLLBACK := Sta.start v_ROLLBACK (Or.inr ⟨hw _ (List.mem_of_getElem? (i := 6) rfl), hw _ (List.mem_of_getElem? (i := 37) rfl)⟩)
  obtain ⟨a_CONVERT, v_CONVERT⟩ := exa_v m30
  have E_CONVERT := Exa.start v_CONVERT m30
  have S_CONVERT := Sta.start v_CONVERT (Or.inr ⟨hw _ (List.mem_of_getElem? (i := 6) rfl), hw _ (List.mem_of_getElem? (i := 39) rfl)⟩)
  have F_PING_minArgs := Fld.start ((fld_at v_PING).symm.trans (own_eq_int m1))
  have F_PING_maxArgs := Fld.start ((fld_at v_PING).symm.trans (own_eq_int m2))
  have F_REQUEST_minArgs := Fld.start ((fld_at v_REQUEST).symm.trans (own_eq_int m4))
  have F_REQUEST_maxArgs := Fld.start ((fld_at v_REQUEST).symm.trans (own_eq_int m5))
  have F_ALLOCATED_minArgs := Fld.start ((fld_at v_ALLOCATED).symm.trans (own_eq_int m7))
  have F_ALLOCATED_maxArgs := Fld.start ((fld_at v_ALLOCATED).symm.trans (own_eq_int m8))
  have F_RELEASE_minArgs := Fld.start ((fld_at v_RELEASE).symm.trans (own_eq_int m10))
  have F_RELEASE_maxArgs := Fld.start ((fld_at v_RELEASE).symm.trans (own_eq_int m11))
  have F_COMMIT_minArgs := Fld.start ((fld_at v_COMMIT).symm.trans (own_eq_int m13))
  have F_ALLOCATE_minArgs := Fld.start ((fld_at v_ALLOCATE).symm.trans (own_eq_int m15))
  have F_ALLOCATE_maxArgs := Fld.start ((fld_at v_ALLOCATE).symm.trans (own_eq_int m16))
  have F_ECHO_minArgs := Fld.start ((fld_at v_ECHO).symm.trans (own_eq_int m18))
  have F_ECHO_maxArgs := Fld.start ((fld_at v_ECHO).symm.trans (own_eq_int m19))
  have F_QUIT_minArgs := Fld.start ((fld_at v_QUIT).symm.trans (own_eq_int m21))
  have F_QUIT_maxArgs := Fld.start ((fld_at v_QUIT).symm.trans (own_eq_int m22))
  have F_COMMIT_maxArgs := Fld.start ((fld_at v_COMMIT).symm.trans (own_eq_int m23))
  have F_LOCKS_minArgs := Fld.start ((fld_at v_LOCKS).symm.trans (own_eq_int m25))
  have F_LOCKS_maxArgs := Fld.start ((fld_at v_LOCKS).symm.trans (own_eq_int m26))
  have F_ROLLBACK_minArgs := Fld.start ((fld_at v_ROLLBACK).symm.trans (own_eq_int m28))
  have F_ROLLBACK_maxArgs := Fld.start ((fld_at v_ROLLBACK).symm.trans (own_eq_int m29))
  have F_CONVERT_minArgs := Fld.start ((fld_at v_CONVERT).symm.trans (own_eq_int m31))
  have F_CONVERT_maxArgs := Fld.start ((fld_at v_CONVERT).symm.trans (own_eq_int m32))
  obtain ⟨n, o, h1, h2, h3, _, L, rfl, ⟨rfl, N, -⟩, hq⟩ := rm_law l s _ hw tables_1 i0 i1 a_PING a_ECHO a_QUIT a_REQUEST a_CONVERT a_RELEASE a_COMMIT a_ROLLBACK a_ALLOCATE a_ALLOCATED a_LOCKS s.heap s.heap.size (Old.start s) S_PING S_ECHO S_QUIT S_REQUEST S_CONVERT S_RELEASE S_COMMIT S_ROLLBACK S_ALLOCATE S_ALLOCATED S_LOCKS E_PING E_ECHO E_QUIT E_REQUEST E_CONVERT E_RELEASE E_COMMIT E_ROLLBACK E_ALLOCATE E_ALLOCATED E_LOCKS F_PING_minArgs F_ECHO_minArgs F_QUIT_minArgs F_REQUEST_minArgs F_CONVERT_minArgs F_RELEASE_minArgs F_COMMIT_minArgs F_ROLLBACK_minArgs F_ALLOCATE_minArgs F_ALLOCATED_minArgs F_LOCKS_minArgs F_PING_maxArgs F_ECHO_maxArgs F_QUIT_maxArgs F_REQUEST_maxArgs F_CONVERT_maxArgs F_RELEASE_maxArgs F_COMMIT_maxArgs F_ROLLBACK_maxArgs F_ALLOCATE_maxArgs F_ALLOCATED_maxArgs F_LOCKS_maxArgs p e ha hc hk s m _ below hf ((Spec.applies_iff_loose hf).mp happ).1 ⟨rfl, State.Warmed39.refl s, rfl⟩ trivial
  refine ⟨n, _, h1, h2, h3, hpost _ _ _ _ _ _ ⟨Cond.after_iff.mpr rfl, Cond.after_iff.mpr (eq_i res_at (Term.int_eval (1)) rfl), trivial⟩ ⟨hq.1, hq.2.1, (hq.2.2.sift fun y hy => Or.inr (N y hy)).mono (by decide) (by decide)⟩⟩
theorem main_1_1 : Claimed_1_1 := comes_1 fun _ _ _ _ _ _ h hF => ⟨h.1, hF⟩
theorem main_1_2 : Claimed_1_2 := comes_1 fun _ _ _ _ _ _ h hF => ⟨h.2.1, hF⟩
end Jvm.Pilot.@@N@@
namespace Jvm.Pilot.@@N@@
open Jvm Jvm.ClassFile Sem Op Lib Jvm.Free Jvm.Stand Jvm.Pilot.@@N@@.Jvm.D
/-! MADE BY PROGRAM (witnessworld.py) out of the Statement's table words and the real class files: 12 classes; the members and pool entries that the words name. The judged class is class 1, her method 1. -/
namespace start1
open Jvm.ClassFile
def u (s : String) : CpInfo := .utf8 (stringToUtf16 s)
/-- a pool by its gaps: so many unusable entries, then the entry; so many at the end -/
def gap : Nat → List CpInfo → List CpInfo
  | 0, r => r
  | n + 1, r => .unusable :: gap n r
def poolList (es : List (Nat × CpInfo)) (last : Nat) : List CpInfo := es.foldr (fun e r => gap e.1 (e.2 :: r)) (gap last [])
def pool (es : List (Nat × CpInfo)) (last : Nat) : Array CpInfo := ⟨poolList es last⟩
def fileOf (pool : Array CpInfo) (this : Nat) (attrs : Array Attribute := #[]) (ms : Array MethodInfo := #[]) (fl : Nat := 33) (sup : Nat := 0) (ifs : Array Nat := #[]) (fds : Array FieldInfo := #[]) : ClassFile where
  minorVersion := 0
  majorVersion := 65
  constantPool := pool
  accessFlags := fl
  thisClass := this
  superClass := sup
  interfaces := ifs
  fields := fds
  methods := ms
  attributes := attrs
def plain (name : String) (sup : Option ClassId) : Class where
  name := name
  kind := .ordinary
  loader := none
  accessFlags := 33
  super := sup
  interfaces := #[]
  cf := none
  fields := #[]
  methods := #[]
  instanceTypes := #[]
  staticTypes := #[]
  resolved := #[]
  callSites := []
  init := .initialized
  statics := none
  mirror := none

def pool0 : Array CpInfo := pool [(5, u "<init>"), (0, u "()V"), (1, .class_ 10), (1, u "java/lang/Object")] 113

def k0m0 : Method := { name := "<init>", desc := "()V", sig := { parameters := [], returnType := none }, accessFlags := 1, code := none }
/-- java/lang/Object -/
def k0 : Class := { plain "java/lang/Object" none with
  accessFlags := 33
  interfaces := #[]
  cf := some (fileOf pool0 8 #[] #[{ accessFlags := 1, nameIndex := 5, descriptorIndex := 6, attributes := #[] }] 33 0 #[] #[])
  fields := #[]
  methods := #[k0m0]
  instanceTypes := #[]
  staticTypes := #[]
  resolved := Array.replicate 124 none
  statics := none }

def pool1 : Array CpInfo := pool [(2, .class_ 4), (1, u "java/lang/Object"), (0, u "<init>"), (0, u "()V"), (0, .integer 2147483647), (0, .methodref 9 10), (0, .class_ 11), (0, .nameAndType 12 13), (0, u "com/example/admit1/admit1/server/CommandTakesPinLaw"), (0, u "pick"), (0, u "(I)Lcom/example/admit1/admit1/server/Command;"), (0, .methodref 15 16), (0, .class_ 17), (0, .nameAndType 18 19), (0, u "com/example/admit1/admit1/server/Command"), (0, u "takes"), (0, u "(I)Z"), (0, .methodref 9 21), (0, .nameAndType 22 23), (0, u "expected"), (0, u "(II)Z"), (0, .fieldref 15 25), (0, .nameAndType 26 27), (0, u "PING"), (0, u "Lcom/example/admit1/admit1/server/Command;"), (0, .fieldref 15 29), (0, .nameAndType 30 27), (0, u "ECHO"), (0, .fieldref 15 32), (0, .nameAndType 33 27), (0, u "QUIT"), (0, .fieldref 15 35), (0, .nameAndType 36 27), (0, u "REQUEST"), (0, .fieldref 15 38), (0, .nameAndType 39 27), (0, u "CONVERT"), (0, .fieldref 15 41), (0, .nameAndType 42 27), (0, u "RELEASE"), (0, .fieldref 15 44), (0, .nameAndType 45 27), (0, u "COMMIT"), (0, .fieldref 15 47), (0, .nameAndType 48 27), (0, u "ROLLBACK"), (0, .fieldref 15 50), (0, .nameAndType 51 27), (0, u "ALLOCATE"), (0, .fieldref 15 53), (0, .nameAndType 54 27), (0, u "ALLOCATED"), (0, .fieldref 15 56), (0, .nameAndType 57 27), (0, u "LOCKS"), (2, u "law")] 3

def k1m0 : Method := { name := "<init>", desc := "()V", sig := { parameters := [], returnType := none }, accessFlags := 1, code := none }
def k1c1 : Code := { maxStack := 3, maxLocals := 4, code := code, exceptionTable := #[], attributes := #[] }
def k1m1 : Method := { name := "law", desc := "(II)Z", sig := { parameters := [.int, .int], returnType := some .boolean }, accessFlags := 9, code := some k1c1 }
def k1c2 : Code := { maxStack := 2, maxLocals := 1, code := method_3_code, exceptionTable := #[], attributes := #[] }
def k1m2 : Method := { name := "pick", desc := "(I)Lcom/example/admit1/admit1/server/Command;", sig := { parameters := [.int], returnType := some (.object "com/example/admit1/admit1/server/Command") }, accessFlags := 10, code := some k1c2 }
def k1c3 : Code := { maxStack := 2, maxLocals := 2, code := method_4_code, exceptionTable := #[], attributes := #[] }
def k1m3 : Method := { name := "expected", desc := "(II)Z", sig := { parameters := [.int, .int], returnType := some .boolean }, accessFlags := 10, code := some k1c3 }
/-- com/example/admit1/admit1/server/CommandTakesPinLaw -/
def k1 : Class := { plain "com/example/admit1/admit1/server/CommandTakesPinLaw" (some 0) with
  accessFlags := 49
  interfaces := #[]
  cf := some (fileOf pool1 9 #[] #[{ accessFlags := 1, nameIndex := 5, descriptorIndex := 6, attributes := #[] }, { accessFlags := 9, nameIndex := 60, descriptorIndex := 23, attributes := #[] }, { accessFlags := 10, nameIndex := 12, descriptorIndex := 13, attributes := #[] }, { accessFlags := 10, nameIndex := 22, descriptorIndex := 23, attributes := #[] }] 49 2 #[] #[])
  fields := #[]
  methods := #[k1m0, k1m1, k1m2, k1m3]
  instanceTypes := #[]
  staticTypes := #[]
  resolved := Array.replicate 64 none
  statics := none }

def pool2 : Array CpInfo := pool [(1, .class_ 2), (0, u "java/lang/constant/Constable"), (0, .class_ 4), (0, u "java/lang/Object")] 6

/-- java/lang/constant/Constable -/
def k2 : Class := { plain "java/lang/constant/Constable" (some 0) with
  accessFlags := 1537
  interfaces := #[]
  cf := some (fileOf pool2 1 #[] #[] 1537 3 #[] #[])
  fields := #[]
  methods := #[]
  instanceTypes := #[]
  staticTypes := #[]
  resolved := Array.replicate 11 none
  statics := none }

def pool3 : Array CpInfo := pool [(1, .class_ 2), (0, u "java/lang/Comparable"), (0, .class_ 4), (0, u "java/lang/Object")] 7

/-- java/lang/Comparable -/
def k3 : Class := { plain "java/lang/Comparable" (some 0) with
  accessFlags := 1537
  interfaces := #[]
  cf := some (fileOf pool3 1 #[] #[] 1537 3 #[] #[])
  fields := #[]
  methods := #[]
  instanceTypes := #[]
  staticTypes := #[]
  resolved := Array.replicate 12 none
  statics := none }

def pool4 : Array CpInfo := pool [(1, .class_ 2), (0, u "java/io/Serializable"), (0, .class_ 4), (0, u "java/lang/Object")] 2

/-- java/io/Serializable -/
def k4 : Class := { plain "java/io/Serializable" (some 0) with
  accessFlags := 1537
  interfaces := #[]
  cf := some (fileOf pool4 1 #[] #[] 1537 3 #[] #[])
  fields := #[]
  methods := #[]
  instanceTypes := #[]
  staticTypes := #[]
  resolved := Array.replicate 7 none
  statics := none }

def pool5 : Array CpInfo := pool [(2, .class_ 4), (1, u "java/lang/Enum"), (0, u "name"), (0, u "Ljava/lang/String;"), (2, u "ordinal"), (0, u "I"), (1, .class_ 14), (1, u "java/lang/Object"), (4, u "hash"), (86, .class_ 108), (1, u "java/lang/Enum$EnumDesc"), (2, .class_ 112), (0, u "java/lang/constant/Constable"), (0, .class_ 114), (0, u "java/lang/Comparable"), (0, .class_ 116), (0, u "java/io/Serializable")] 87

/-- java/lang/Enum -/
def k5 : Class := { plain "java/lang/Enum" (some 0) with
  accessFlags := 1057
  interfaces := #[2, 3, 4]
  cf := some (fileOf pool5 2 #[.nestMembers #[106]] #[] 1057 12 #[111, 113, 115] #[{ accessFlags := 18, nameIndex := 5, descriptorIndex := 6, attributes := #[] }, { accessFlags := 18, nameIndex := 9, descriptorIndex := 10, attributes := #[] }, { accessFlags := 2, nameIndex := 19, descriptorIndex := 10, attributes := #[] }])
  fields := #[{ name := "name", type := (.object "java/lang/String"), accessFlags := 18, slot := 0, constantValue := 0 }, { name := "ordinal", type := .int, accessFlags := 18, slot := 1, constantValue := 0 }, { name := "hash", type := .int, accessFlags := 2, slot := 2, constantValue := 0 }]
  methods := #[]
  instanceTypes := #[(.object "java/lang/String"), .int, .int]
  staticTypes := #[]
  resolved := Array.replicate 204 none
  statics := none }

def pool6 : Array CpInfo := pool [(1, .class_ 2), (0, u "com/example/admit1/admit1/server/Command"), (2, u "PING"), (0, u "Lcom/example/admit1/admit1/server/Command;"), (2, u "ECHO"), (2, u "QUIT"), (2, u "REQUEST"), (2, u "CONVERT"), (2, u "RELEASE"), (2, u "COMMIT"), (2, u "ROLLBACK"), (2, u "ALLOCATE"), (2, u "ALLOCATED"), (2, u "LOCKS"), (2, u "$VALUES"), (0, u "[Lcom/example/admit1/admit1/server/Command;"), (6, .class_ 49), (1, u "java/lang/Enum"), (6, .fieldref 1 57), (0, .nameAndType 58 59), (0, u "minArgs"), (0, u "I"), (0, .fieldref 1 61), (0, .nameAndType 62 59), (0, u "maxArgs"), (2, u "usage"), (0, u "Ljava/lang/String;"), (2, u "ALL"), (74, u "takes"), (0, u "(I)Z")] 4

def k6c0 : Code := { maxStack := 2, maxLocals := 2, code := prog_32_method_6_code, exceptionTable := #[], attributes := #[] }
def k6m0 : Method := { name := "takes", desc := "(I)Z", sig := { parameters := [.int], returnType := some .boolean }, accessFlags := 0, code := some k6c0 }
/-- com/example/admit1/admit1/server/Command -/
def k6 : Class := { plain "com/example/admit1/admit1/server/Command" (some 5) with
  accessFlags := 16432
  interfaces := #[]
  cf := some (fileOf pool6 1 #[] #[{ accessFlags := 0, nameIndex := 144, descriptorIndex := 145, attributes := #[] }] 16432 47 #[] #[{ accessFlags := 16409, nameIndex := 5, descriptorIndex := 6, attributes := #[] }, { accessFlags := 16409, nameIndex := 9, descriptorIndex := 6, attributes := #[] }, { accessFlags := 16409, nameIndex := 12, descriptorIndex := 6, attributes := #[] }, { accessFlags := 16409, nameIndex := 15, descriptorIndex := 6, attributes := #[] }, { accessFlags := 16409, nameIndex := 18, descriptorIndex := 6, attributes := #[] }, { accessFlags := 16409, nameIndex := 21, descriptorIndex := 6, attributes := #[] }, { accessFlags := 16409, nameIndex := 24, descriptorIndex := 6, attributes := #[] }, { accessFlags := 16409, nameIndex := 27, descriptorIndex := 6, attributes := #[] }, { accessFlags := 16409, nameIndex := 30, descriptorIndex := 6, attributes := #[] }, { accessFlags := 16409, nameIndex := 33, descriptorIndex := 6, attributes := #[] }, { accessFlags := 16409, nameIndex := 36, descriptorIndex := 6, attributes := #[] }, { accessFlags := 26, nameIndex := 69, descriptorIndex := 40, attributes := #[] }, { accessFlags := 18, nameIndex := 58, descriptorIndex := 59, attributes := #[] }, { accessFlags := 18, nameIndex := 62, descriptorIndex := 59, attributes := #[] }, { accessFlags := 18, nameIndex := 65, descriptorIndex := 66, attributes := #[] }, { accessFlags := 4122, nameIndex := 39, descriptorIndex := 40, attributes := #[] }])
  fields := #[{ name := "PING", type := (.object "com/example/admit1/admit1/server/Command"), accessFlags := 16409, slot := 0, constantValue := 0 }, { name := "ECHO", type := (.object "com/example/admit1/admit1/server/Command"), accessFlags := 16409, slot := 1, constantValue := 0 }, { name := "QUIT", type := (.object "com/example/admit1/admit1/server/Command"), accessFlags := 16409, slot := 2, constantValue := 0 }, { name := "REQUEST", type := (.object "com/example/admit1/admit1/server/Command"), accessFlags := 16409, slot := 3, constantValue := 0 }, { name := "CONVERT", type := (.object "com/example/admit1/admit1/server/Command"), accessFlags := 16409, slot := 4, constantValue := 0 }, { name := "RELEASE", type := (.object "com/example/admit1/admit1/server/Command"), accessFlags := 16409, slot := 5, constantValue := 0 }, { name := "COMMIT", type := (.object "com/example/admit1/admit1/server/Command"), accessFlags := 16409, slot := 6, constantValue := 0 }, { name := "ROLLBACK", type := (.object "com/example/admit1/admit1/server/Command"), accessFlags := 16409, slot := 7, constantValue := 0 }, { name := "ALLOCATE", type := (.object "com/example/admit1/admit1/server/Command"), accessFlags := 16409, slot := 8, constantValue := 0 }, { name := "ALLOCATED", type := (.object "com/example/admit1/admit1/server/Command"), accessFlags := 16409, slot := 9, constantValue := 0 }, { name := "LOCKS", type := (.object "com/example/admit1/admit1/server/Command"), accessFlags := 16409, slot := 10, constantValue := 0 }, { name := "ALL", type := (.array (.object "com/example/admit1/admit1/server/Command")), accessFlags := 26, slot := 11, constantValue := 0 }, { name := "minArgs", type := .int, accessFlags := 18, slot := 3, constantValue := 0 }, { name := "maxArgs", type := .int, accessFlags := 18, slot := 4, constantValue := 0 }, { name := "usage", type := (.object "java/lang/String"), accessFlags := 18, slot := 5, constantValue := 0 }, { name := "$VALUES", type := (.array (.object "com/example/admit1/admit1/server/Command")), accessFlags := 4122, slot := 12, constantValue := 0 }]
  methods := #[k6m0]
  instanceTypes := #[(.object "java/lang/String"), .int, .int, .int, .int, (.object "java/lang/String")]
  staticTypes := #[(.object "com/example/admit1/admit1/server/Command"), (.object "com/example/admit1/admit1/server/Command"), (.object "com/example/admit1/admit1/server/Command"), (.object "com/example/admit1/admit1/server/Command"), (.object "com/example/admit1/admit1/server/Command"), (.object "com/example/admit1/admit1/server/Command"), (.object "com/example/admit1/admit1/server/Command"), (.object "com/example/admit1/admit1/server/Command"), (.object "com/example/admit1/admit1/server/Command"), (.object "com/example/admit1/admit1/server/Command"), (.object "com/example/admit1/admit1/server/Command"), (.array (.object "com/example/admit1/admit1/server/Command")), (.array (.object "com/example/admit1/admit1/server/Command"))]
  resolved := Array.replicate 150 none
  statics := some 0 }

def pool7 : Array CpInfo := pool [(1, u "java/lang/Cloneable"), (0, .class_ 1), (0, u "java/lang/Object"), (0, .class_ 3)] 3

/-- java/lang/Cloneable -/
def k7 : Class := { plain "java/lang/Cloneable" (some 0) with
  accessFlags := 1537
  interfaces := #[]
  cf := some (fileOf pool7 2 #[] #[] 1537 4 #[] #[])
  fields := #[]
  methods := #[]
  instanceTypes := #[]
  staticTypes := #[]
  resolved := Array.replicate 8 none
  statics := none }

/-- the primitive byte -/
def k8 : Class := { plain "byte" none with kind := .primitive 'B', accessFlags := 0x411 }
/-- [B -/
def k9 : Class := { plain "[B" (some 0) with kind := .array 8 .byte, interfaces := #[7, 4], accessFlags := 1041 }

/-- the primitive int -/
def k10 : Class := { plain "int" none with kind := .primitive 'I', accessFlags := 0x411 }
/-- [I -/
def k11 : Class := { plain "[I" (some 0) with kind := .array 10 .int, interfaces := #[7, 4], accessFlags := 1041 }

def heap : Heap := #[{ cls := 6, slots := #[.ref 1, .ref 2, .ref 3, .ref 4, .ref 5, .ref 6, .ref 7, .ref 8, .ref 9, .ref 10, .ref 11, .null, .null], vm := .statics 6 },
  { cls := 6, slots := #[.null, .int 0, .int 0, .int 0, .int 1, .null], vm := .none },
  { cls := 6, slots := #[.null, .int 1, .int 0, .int 1, .int 1, .null], vm := .none },
  { cls := 6, slots := #[.null, .int 2, .int 0, .int 0, .int 0, .null], vm := .none },
  { cls := 6, slots := #[.null, .int 3, .int 0, .int 1, .int 4, .null], vm := .none },
  { cls := 6, slots := #[.null, .int 4, .int 0, .int 2, .int 3, .null], vm := .none },
  { cls := 6, slots := #[.null, .int 5, .int 0, .int 1, .int 1, .null], vm := .none },
  { cls := 6, slots := #[.null, .int 6, .int 0, .int 0, .int 0, .null], vm := .none },
  { cls := 6, slots := #[.null, .int 7, .int 0, .int 0, .int 0, .null], vm := .none },
  { cls := 6, slots := #[.null, .int 8, .int 0, .int 1, .int 2, .null], vm := .none },
  { cls := 6, slots := #[.null, .int 9, .int 0, .int 0, .int 1, .null], vm := .none },
  { cls := 6, slots := #[.null, .int 10, .int 0, .int 0, .int 1, .null], vm := .none }]
def classes : Array Class := #[k0, k1, k2, k3, k4, k5, k6, k7, k8, k9, k10, k11]
def interned : List (Array UInt16 × Addr) := []
def slotsUsed : Nat := 79
def theMethod : MethodId := ⟨1, 1⟩
def args0 : Array Value := #[.int 5, .int 1]
def aboutOver (below : List Frame) : State where
  vm := { classes := classes, interned := interned.toArray }
  heap := heap
  slotsUsed := slotsUsed
  threads := #[{ frames := .invoking theMethod args0 :: below }]
def below0 : List Frame := [.native { method := ⟨0, 0⟩, args := #[] }]
def about1 : State := aboutOver below0
def p0 : Program := .bare "" "" ""
def e0 : Env := launch0.env 0 0 0
theorem w_frames : about1.frames = Frame.invoking theMethod args0 :: below0 := rfl
set_option maxRecDepth 65536 in
theorem w_args : argsFit about1.vm theMethod args0 = true := by decide +kernel
set_option maxRecDepth 65536 in
theorem w_heap : heapFits about1 = true := by decide +kernel
set_option maxRecDepth 65536 in
theorem w_runnable : about1.curStatus? = some .runnable := by decide +kernel
set_option maxRecDepth 65536 in
theorem w_alone : about1.alone = true := by decide +kernel
set_option maxRecDepth 65536 in
theorem w_named : about1.methodNamed? x = some theMethod := by decide +kernel
set_option maxRecDepth 65536 in
theorem w_hears : about1.hears theMethod below0 = true := by decide +kernel
set_option maxRecDepth 65536 in
theorem w_ripe : about1.ripe theMethod args0 below0 = true := by decide +kernel
theorem w_running : about1.status = .running := rfl
set_option maxRecDepth 65536 in
theorem w_room : about1.hasRoom e0.platform room_1 = true :=
  launch0.hasRoom_least _ room_1 (by decide +kernel) (by decide +kernel) (by decide +kernel) (by decide +kernel) (by decide +kernel) (by decide +kernel)
theorem allAtoms_all (ts : List Jvm.Cond) (a : Array Jvm.Value) (st : Jvm.State) : (allAtoms ts).before a st = ts.all (fun c => c.before a st) := by
  induction ts with
  | nil => rfl
  | cons c t ih =>
    show (Jvm.Cond.and c (allAtoms t)).before a st = _
    rw [Jvm.Cond.before_and, ih, List.all_cons]
def words1 : List Jvm.Cond := Jvm.Cond.code x code maxLocals ret :: tables_1
/-- a 'code' word, met by the world's own term for the bytes: nothing is compared byte by byte -/
theorem code_word {y : MethodName} {bytes : ByteArray} {mx : Nat} {rt : Option FieldType} {a : Array Value} {s : State} {m : MethodId} {meth : Method} {c : Code} (h1 : s.methodNamed? y = some m) (h2 : s.vm.method? m = some meth) (h3 : meth.code = some c) (h4 : c.code = bytes)
    (h5 : (c.maxLocals == mx && c.exceptionTable.isEmpty && decide (c.maxStack ≤ mostOperands) && decide (meth.sig.returnType = rt) && !meth.locks && decide (parseMethodDescriptor y.desc = some meth.sig)) = true) : (Jvm.Cond.code y bytes mx rt).before a s = true := by
  simp only [Bool.and_eq_true, beq_iff_eq, Bool.not_eq_true', decide_eq_true_eq] at h5
  obtain ⟨⟨⟨⟨⟨g1, g2⟩, g3⟩, g4⟩, g5⟩, g6⟩ := h5
  simp [Cond.before, Cond.holds, Cond.value, h1, h2, h3, h4, g1, g2, g3, g4, g5, g6]
def isCode : Jvm.Cond → Bool
  | .code _ _ _ _ => true
  | _ => false
theorem all_split {L : List Jvm.Cond} {P : Jvm.Cond → Bool} (h1 : L.all (fun c => isCode c || P c) = true) (h2 : ∀ c ∈ L.filter isCode, P c = true) : L.all P = true := by
  refine List.all_eq_true.mpr fun c hc => ?_
  have h := List.all_eq_true.mp h1 c hc
  rcases Bool.eq_false_or_eq_true (isCode c) with hi | hi
  · exact h2 c (List.mem_filter.mpr ⟨hc, hi⟩)
  · simpa [hi] using h
set_option maxRecDepth 65536 in
theorem w_c0 : (Jvm.Cond.code x code maxLocals ret).before args0 about1 = true := code_word (m := ⟨1, 1⟩) (meth := k1m1) (c := k1c1) (by decide +kernel) rfl rfl rfl (by decide +kernel)
set_option maxRecDepth 65536 in
theorem w_c1 : (Jvm.Cond.code ({ cls := "com/example/admit1/admit1/server/CommandTakesPinLaw", name := "pick", desc := "(I)Lcom/example/admit1/admit1/server/Command;" } : Jvm.MethodName) method_3_code (1 : Nat) (Option.some (Jvm.ClassFile.FieldType.object "com/example/admit1/admit1/server/Command"))).before args0 about1 = true := code_word (m := ⟨1, 2⟩) (meth := k1m2) (c := k1c2) (by decide +kernel) rfl rfl rfl (by decide +kernel)
set_option maxRecDepth 65536 in
theorem w_c2 : (Jvm.Cond.code ({ cls := "com/example/admit1/admit1/server/Command", name := "takes", desc := "(I)Z" } : Jvm.MethodName) prog_32_method_6_code (2 : Nat) (Option.some Jvm.ClassFile.FieldType.boolean)).before args0 about1 = true := code_word (m := ⟨6, 0⟩) (meth := k6m0) (c := k6c0) (by decide +kernel) rfl rfl rfl (by decide +kernel)
set_option maxRecDepth 65536 in
theorem w_c3 : (Jvm.Cond.code ({ cls := "com/example/admit1/admit1/server/CommandTakesPinLaw", name := "expected", desc := "(II)Z" } : Jvm.MethodName) method_4_code (2 : Nat) (Option.some Jvm.ClassFile.FieldType.boolean)).before args0 about1 = true := code_word (m := ⟨1, 3⟩) (meth := k1m3) (c := k1c3) (by decide +kernel) rfl rfl rfl (by decide +kernel)
def codes1 : List Jvm.Cond := [Jvm.Cond.code x code maxLocals ret, Jvm.Cond.code ({ cls := "com/example/admit1/admit1/server/CommandTakesPinLaw", name := "pick", desc := "(I)Lcom/example/admit1/admit1/server/Command;" } : Jvm.MethodName) method_3_code (1 : Nat) (Option.some (Jvm.ClassFile.FieldType.object "com/example/admit1/admit1/server/Command")), Jvm.Cond.code ({ cls := "com/example/admit1/admit1/server/Command", name := "takes", desc := "(I)Z" } : Jvm.MethodName) prog_32_method_6_code (2 : Nat) (Option.some Jvm.ClassFile.FieldType.boolean), Jvm.Cond.code ({ cls := "com/example/admit1/admit1/server/CommandTakesPinLaw", name := "expected", desc := "(II)Z" } : Jvm.MethodName) method_4_code (2 : Nat) (Option.some Jvm.ClassFile.FieldType.boolean)]
set_option maxRecDepth 65536 in
theorem codes_eq : words1.filter isCode = codes1 := rfl
theorem w_codes : ∀ c ∈ words1.filter isCode, c.before args0 about1 = true := by
  rw [codes_eq]
  intro c hc
  simp only [codes1, List.mem_cons, List.not_mem_nil, or_false] at hc
  rcases hc with rfl | rfl | rfl | rfl
  · exact w_c0
  · exact w_c1
  · exact w_c2
  · exact w_c3
set_option maxRecDepth 65536 in
theorem w_t1 : (words1.take 24).all (fun c => isCode c || c.before args0 about1) = true := by decide +kernel
set_option maxRecDepth 65536 in
theorem w_t2 : (words1.drop 24).all (fun c => isCode c || c.before args0 about1) = true := by decide +kernel
theorem w_tables : (allAtoms (Jvm.Cond.code x code maxLocals ret :: tables_1)).before args0 about1 = true := by
  rw [allAtoms_all]
  show words1.all (fun c => c.before args0 about1) = true
  refine all_split ?_ w_codes
  rw [← List.take_append_drop 24 words1, List.all_append, w_t1, w_t2]
  rfl
set_option maxRecDepth 65536 in
theorem w_case : (Jvm.Cond.and given_1 narrow_1).before args0 about1 = true := by decide +kernel
theorem w_applies : (headSpec (Jvm.Cond.code x code maxLocals ret :: tables_1) room_1).applies x e0.platform about1 = true :=
  (Spec.applies_iff w_frames).mpr ⟨w_running, w_runnable, w_alone, w_named, w_hears, w_ripe, w_room, w_tables⟩
theorem atStart : AtStart classFile x code maxLocals ret World_1 tables_1 room_1 Calls_1 rest_1 Pre_1 launch0 p0 e0 about1 theMethod args0 below0 :=
  ⟨lists_1, trivial, launch0.admits_env _ _ _, launch0.least_env, fairChoices_fair.cas, fairChoices_fair.clock, w_frames, w_args, w_heap, w_applies, trivial, trivial, w_case⟩
end start1
theorem witness_1 : WitnessClaimed_1 := ⟨start1.p0, start1.e0, start1.about1, start1.theMethod, start1.args0, start1.below0, start1.atStart⟩
end Jvm.Pilot.@@N@@
