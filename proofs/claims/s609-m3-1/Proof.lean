import JvmDerived
import JvmDerived.Pilot.@@N@@Statement
import JvmDerived.Pilot.@@N@@Code
set_option linter.unusedVariables false
set_option linter.unusedSimpArgs false
namespace Jvm.RoadKit
open Sem ClassFile Op Lib Jvm.Stand Jvm.Free Jvm.LawKit
section New
variable {p : Program} {l : Launch} {e : Env} {R : Room} {s : State} {m : MethodId} {args : Array Value} {below : List Frame} {meth : Method} {c : Code} {T : State} {locs : List Loc} {cells slots : Nat}
theorem retI (X : Stand p l e R s m args below meth c T locs cells slots) (hx : p.tables.exec = Jvm.exec) {pc : Nat} {Ls : Array Slot} {z : Int32} {rest : List Value} (hret : meth.sig.returnType = some .int) (hd : decode c.code pc = .ok (.ireturn, 1)) {fs : List Frame}
    (hl : ∀ (f : JFrame) (acts : List Action), f.method = m → f.locked = none → f.entered = [] → (doReturn e (T.setTop f) acts (some (.int z))).1 = T.setFrames fs) : Steps p.tables e below (T.setTop (mkF m pc Ls (.int z :: rest))) (T.setFrames fs) :=
  retOut X hx hret rfl (Or.inl ⟨rfl, Or.inl rfl, _, rfl⟩) hd hl
end New
end Jvm.RoadKit
namespace Jvm.Pilot.@@N@@
open Jvm Jvm.ClassFile Sem Op Lib Jvm.Free Jvm.Stand Jvm.LawKit Jvm.RoadKit Bundle Jvm.Pilot.@@N@@.Jvm.D
/-- the run goes on from A and comes to an end of which R holds -/
def own_Go (p : Program) (e : Env) (below : List Frame) (A : State) (R : State → Outcome → Prop) : Prop := ∃ s₂ o, Steps p.tables e below A s₂ ∧ s₂.status = .running ∧ Ended s₂ below o ∧ R s₂ o
theorem own_by {p : Program} {e : Env} {below : List Frame} {A B : State} {R : State → Outcome → Prop} (k : ∀ t, Steps p.tables e below B t → Steps p.tables e below A t) (h : own_Go p e below B R) : own_Go p e below A R := by
  obtain ⟨s₂, o, h1, h2⟩ := h
  exact ⟨s₂, o, k _ h1, h2⟩
theorem own_ne {x y : Nat} (h : x ≠ y) : x ≠ y := h
theorem own_cat {v : Value} (h : v.isRef = true) : v.category = 1 := by rcases ref_cases h with rfl | ⟨_, rfl⟩ <;> rfl
theorem own_w {Z : State} {a0 : Array Value} (hw : ∀ d ∈ tables_1, d.before a0 Z = true) {d : Jvm.Cond} (i : Nat) (h : tables_1[i]? = some d) : d.before a0 Z = true := hw _ (List.mem_of_getElem? h)
theorem own_Ins_keep {Z : State} {h h' : Heap} {a : Addr} {C : String} {bo : Bool} {ws : List Addr} (F : Ins Z h a C bo) (K : Keep h h' ws) : Ins Z h' a C bo := by
  obtain ⟨cell, cT, h1, h2, h3⟩ := F
  obtain ⟨c', q, r1, r2, -⟩ := K.2.2 a cell h1
  exact ⟨c', cT, q, h2, by rw [r1, r2]; exact h3⟩
theorem own_narrow_ref {t : FieldType} {v : Value} (ht : t.isReference = true) (hv : v.isRef = true) : narrow t v = v := by
  cases t <;> first | (cases ht; done) | (cases v <;> first | rfl | (cases hv; done))
theorem own_fits_ref {t : FieldType} {v : Value} (hv : v.isRef = true) (ht : t.isReference = true := by rfl) : fits t v = true := by
  cases t <;> first | (cases ht; done) | (cases v <;> first | rfl | (cases hv; done))
abbrev s1_ : String := "com/example/admit1/admit1/lock/LockEntryHasWaitingPinLaw"
abbrev s2_ : String := "com/example/admit1/admit1/lock/LockEntry"
abbrev s3_ : String := "java/lang/Object"
abbrev s4_ : String := "[Lcom/example/admit1/admit1/lock/LockMode;"
abbrev s5_ : String := "com/example/admit1/admit1/lock/Wait"
abbrev s6_ : String := "(Lcom/example/admit1/admit1/lock/LockSession;Lcom/example/admit1/admit1/lock/LockEntry;Lcom/example/admit1/admit1/lock/LockMode;ZZJJJ)V"
abbrev s7_ : String := "Lcom/example/admit1/admit1/lock/LockSession;"
abbrev s8_ : String := "Lcom/example/admit1/admit1/lock/LockEntry;"
abbrev s9_ : String := "Lcom/example/admit1/admit1/lock/LockMode;"
abbrev s10_ : String := "releaseOnCommit"
abbrev s11_ : String := "Lcom/example/admit1/admit1/lock/LockEntry$Queues;"
abbrev s12_ : String := "(Lcom/example/admit1/admit1/lock/Wait;)V"
abbrev s13_ : String := "com/example/admit1/admit1/lock/LockEntry$Queues"
abbrev s14_ : String := "java/util/ArrayDeque"
abbrev s15_ : String := "java/util/AbstractCollection"
abbrev s16_ : String := "[Ljava/lang/Object;"
abbrev s17_ : String := "Ljava/util/ArrayDeque;"
abbrev s18_ : String := "(Lcom/example/admit1/admit1/lock/Wait;)Ljava/util/ArrayDeque;"
abbrev s19_ : String := "(Ljava/lang/Object;)V"
abbrev s20_ : String := "(Ljava/lang/Object;)Z"
abbrev s21_ : String := "removeFirstOccurrence"
abbrev s22_ : String := "java/lang/System"
abbrev s23_ : String := "(Ljava/lang/Object;ILjava/lang/Object;II)V"
theorem own_eq_int {args : Array Value} {first s : State} {o : Option Outcome} {idx : List Nat} {t : Term} {n : Int32} (h : (Cond.eq t (.int n)).value args first o s idx = some true) : t.eval args first o idx s = some (.int n) := by
  simp only [Cond.value, Term.eval] at h
  cases ht : t.eval args first o idx s with
  | none => simp [ht] at h
  | some x => cases x <;> simp [ht] at h ⊢; exact h
theorem own_sta_via {s : State} {args : Array Value} {C n d n' d' : String} {v : Value} (wl : (Cond.laysStatic C n' d').before args s = true) (wi : (Cond.initializedFor C n' d').before args s = true) (w : (Cond.laysStatic C n d).before args s = true) (ev : (Term.static C n d).eval args s none [] s = some v) : Sta s s.heap C n d v := by
  have ini : (Cond.initialized C).before args s = true := by
    obtain ⟨c, k, i, f, a, cell, h1, h2, -⟩ := Cond.laysStatic_spec wl
    have q := Cond.initializedFor_spec h2 wi
    have hk := State.fieldFound?_class h2
    simp [Cond.before, Cond.holds, Cond.value, h1, hk, q]
  exact Sta.start ev (Or.inr ⟨ini, w⟩)
theorem own_static_idx {s : State} {args : Array Value} {C n d : String} {v : Value} {idx : List Nat} (h : (Term.static C n d).eval args s none [] s = some v) : (Term.static C n d).eval args s none idx s = some v := h
theorem own_len {s : State} {args : Array Value} {t : Term} {a : Addr} {c : Cell} {ty : FieldType} {n : Int32} (ht : t.eval args s none [] s = some (.ref a)) (A : Arr s s.heap a c ty) (h : (Cond.eq (.length t) (.int n)).value args s none s [] = some true) : c.slots.size < 2 ^ 31 ∧ c.slots.size.toInt32 = n := by
  have e := own_eq_int h
  have ha := A.fin (U := s) (Vm.Alike.refl _)
  by_cases q : c.slots.size < 2 ^ 31
  · rw [len_f ht ha q] at e
    exact ⟨q, by simpa using e⟩
  · simp [Term.eval, ht, ha, q] at e
theorem own_idx {s : State} {args : Array Value} {j : Int32} (nj : ¬ j < 0) : (Term.sub (.index 0) (.int 128)).eval args s none [j.toNatClampNeg] s = some (.int (j - 128)) := by
  have := idx_at (args := args) (s := s) (first := s) (o := none) nj
  simp [Term.eval] at this ⊢
  simp [this]
theorem own_box_i {s : State} {args : Array Value} {X : Term} {j : Int32} (nj : ¬ j < 0) (h : (Cond.eq X (.sub (.index 0) (.int 128))).value args s none s [j.toNatClampNeg] = some true) : X.eval args s none [j.toNatClampNeg] s = some (.int (j - 128)) := eqv_i (own_idx nj) h
theorem own_box_l {s : State} {args : Array Value} {X : Term} {j : Int32} (nj : ¬ j < 0) (h : (Cond.eq X (.op1 .i2l (.sub (.index 0) (.int 128)))).value args s none s [j.toNatClampNeg] = some true) : X.eval args s none [j.toNatClampNeg] s = some (.long (j - 128).toInt64) := eqv_l (i2l_at (own_idx nj)) h
theorem own_mvR {Z s : State} {a0 args : Array Value} {own : String} {i : Nat} {y : MethodName} (hZ : Z.Warmed39 s.vm) (wi : (Cond.instanceMethod y).before a0 Z = true) (hy : y.cls ≠ "java/lang/invoke/MethodHandle" ∧ y.cls ≠ "java/lang/invoke/VarHandle") (w : (Cond.methodRef own i y).before a0 Z = true) : (Cond.methodRef own i y).before args s = true := by
  obtain ⟨obj, methO, hnO, -⟩ := Cond.instanceMethod_spec wi
  have h1 := Cond.methodRef_warmed39 (args := a0) hZ hnO hy w
  exact h1
section Ref
variable {p : Program} {l : Launch} {e : Env} {R : Room} {s : State} {m : MethodId} {args : Array Value} {below : List Frame} {meth : Method} {c : Code} {T : State} {locs : List Loc} {cells slots : Nat}
theorem own_specialRef (X : Stand p l e R s m args below meth c T locs cells slots) (hexec : p.tables.exec = Jvm.exec) {own : String} {index : Nat} {y : MethodName} (hy1 : y.name = "<init>")
    (hown : s.vm.findClass own = some m.cls) (href : (Cond.methodRef own index y).before args s = true) (hinst : (Cond.instanceMethod y).before args s = true)
    {bytes : ByteArray} {maxL : Nat} (hcode : (Cond.code y bytes maxL none).before args s = true)
    (hy : y.cls ≠ "java/lang/invoke/MethodHandle" ∧ y.cls ≠ "java/lang/invoke/VarHandle")
    {W : Nat} {Pre : Pt → Array Value → Prop} {Post : Pt → Array Value → Option Value → Pt → Prop} (hK : Back l R p e below s args y 3 W Pre Post)
    {g : JFrame} (hg : g.method = m) (hsize : g.locals.size = c.maxLocals) {s₀ : State} (hcome : Steps p.tables e below s₀ (T.setTop g)) {a : Addr} {argsL rest : List Value}
    (hlen : ∀ sig, parseMethodDescriptor y.desc = some sig → argsL.length = sig.parameters.length) (hstack : g.stack = argsL.reverse ++ .ref a :: rest) (hW : 2 * g.monitorRoom + (rest.map fun v => v.category).sum ≤ W)
    (hdg : decode c.code g.pc = .ok (.invokespecial index, 3)) (hpre : ∀ vm₁, s.WarmedH vm₁ → Pre ⟨T.setVm vm₁, locs, cells, slots⟩ (.ref a :: argsL).toArray) :
    ∃ (v : Option Value) (vm₁ : Vm) (B : Pt), s.WarmedH vm₁ ∧ Stand p l e R s m args below meth c B.U B.locs B.cells B.slots ∧ Post ⟨T.setVm vm₁, locs, cells, slots⟩ (.ref a :: argsL).toArray v B ∧
      Steps p.tables e below s₀ (B.U.setTop { g with pc := g.pc + 3, stack := v.toList ++ rest }) := by
  obtain ⟨obj, methO, hnO, hmO, hstO, habO⟩ := Cond.instanceMethod_spec hinst
  obtain ⟨methO', cO, hmO', hcO, hbO, hlO, -, hlockO, -, hsigO⟩ := Cond.code_spec hnO hcode
  cases hmO.symm.trans hmO'
  obtain ⟨kO, hkO, hnameO⟩ := className_of_methodNamed hnO
  obtain ⟨hnameMO, hdescO⟩ := name_of_methodNamed hnO hmO
  have hWm : s.WarmedH T.vm := X.warmed
  have hr := Cond.methodRef_warmed hWm hnO hy href
  have hcur : (s.setVm T.vm).vm.findClass own = some m.cls := by
    show T.vm.findClass own = _
    rw [hWm.alike.findClass]; exact hown
  obtain ⟨m', c', f1, f2, f3, f4⟩ := Cond.methodRef_named e hcur hr
  have hnT : (s.setVm T.vm).methodNamed? y = some obj := by rw [State.methodNamed?_setVm hWm.alike]; exact hnO
  cases (State.methodFound?_of_named hnT hy).symm.trans f1
  cases (findClass_of_methodNamed hnT).symm.trans f3
  obtain ⟨kO₂, hkO₂, heO₂⟩ := hWm.alike.2.2 _ _ hkO
  have hmO₂ : T.vm.method? obj = some methO := by rw [hWm.alike.method?]; exact hmO
  have hfound : lookupSpecial T.vm obj.cls "<init>" methO.desc = .method obj := by
    rw [hWm.alike.lookupSpecial, hdescO, ← hy1]; exact lookupSpecial_of_named hnO hmO hstO
  obtain ⟨v, B, X', hpost, hsteps⟩ := hK m meth c ⟨T, locs, cells, slots⟩ { g with stack := rest } (.invokespecial index) obj (.ref a :: argsL).toArray X hg hsize hdg hW (X.named hnO) (by have q := hpre T.vm hWm; rw [State.setVm_self] at q; exact q)
  refine ⟨v, T.vm, B, hWm, X', by rw [State.setVm_self]; exact hpost, (hcome.trans ?_).trans hsteps⟩
  subst hg
  jvm_step X.here [hexec, hdg, invokespecial.wp_init (e := e) (s := T) (k := kO₂) (meth := methO) (m := obj) (a := a) (args := argsL) (rest := rest) (f := g) X.here.top f4 f2 hkO₂ hmO₂ (by rw [hnameMO]; exact hy1) hstO habO hfound (hlen _ hsigO) hstack]
  first | (intro acts; rw [doInvoke_state]; exact Steps.refl _) | (rw [doInvoke_state]; exact Steps.refl _)
end Ref
theorem own_oq0 : decode object_method_4_code 0 = .ok (.aload_n 0, 1) := by decide +kernel
theorem own_oq1 : decode object_method_4_code 1 = .ok (.aload_n 1, 1) := by decide +kernel
theorem own_oq2 : decode object_method_4_code 2 = .ok (.if_acmp .ne 7, 3) := by decide +kernel
theorem own_oq5 : decode object_method_4_code 5 = .ok (.iconst 1, 1) := by decide +kernel
theorem own_oq6 : decode object_method_4_code 6 = .ok (.goto 4, 3) := by decide +kernel
theorem own_oq9 : decode object_method_4_code 9 = .ok (.iconst 0, 1) := by decide +kernel
theorem own_oq10 : decode object_method_4_code 10 = .ok (.ireturn, 1) := by decide +kernel
def own_oeqV (x y : Addr) : Int32 := if x = y then 1 else 0
def own_oeqQ (x y : Addr) (h0 : Heap) (n0 : Nat) (v : Option Value) (h : Heap) (L : List Loc) : Prop := v = some (.int (own_oeqV x y)) ∧ Fr n0 L ∧ h = h0
set_option maxHeartbeats 400000 in
theorem own_oeq {p : Program} {l : Launch} {e : Env} {R : Room} {s : State} {sargs : Array Value} {below : List Frame} {Z : State} {a0 : Array Value} {h0 : Heap} {n0 : Nat} {len W : Nat} (hx : p.tables.exec = Jvm.exec) (x y : Addr) (hZ : Z.Warmed39 s.vm)
    (wc : (Cond.code (⟨"java/lang/Object", "equals", "(Ljava/lang/Object;)Z"⟩ : MethodName) object_method_4_code 2 (some .boolean)).before a0 Z = true) (hf : 1 ≤ R.frames) (hl : W + 13 ≤ R.locals) :
    Back l R p e below s sargs (⟨"java/lang/Object", "equals", "(Ljava/lang/Object;)Z"⟩ : MethodName) len W (fun A a => a = #[.ref x, .ref y] ∧ A.U.heap = h0 ∧ A.cells + 0 ≤ R.cells ∧ A.slots + 0 ≤ R.slots)
      (fun A _ v B => ∃ L, own_oeqQ x y h0 n0 v B.U.heap L ∧ B.locs = A.locs ++ L ∧ B.cells = A.cells + 0 ∧ B.slots = A.slots + 0) := by
  intro m meth c A g ig mk a X hg hsize hdg hW hn hp
  obtain ⟨U, Ls, c0, s0⟩ := A
  obtain ⟨rfl, hh, -, -⟩ := hp
  dsimp only [Pt.U, Pt.locs, Pt.cells, Pt.slots] at X hn hh ⊢
  obtain ⟨methY, cY, hmY, hcY, hbY, hlY, hrY, hkY, -, -⟩ := Cond.code_spec (args := #[]) (first := U) (o := none) (idx := []) hn (mv (s := U) (args := #[]) (wtrans hZ X.warmed) wc)
  refine ⟨some (.int (own_oeqV x y)), ⟨U, Ls, c0, s0⟩, X, ⟨[], ⟨rfl, Fr.nil _, hh⟩, by simp, rfl, rfl⟩, ?_⟩
  subst hg
  have hroom := X.notFull (g := g) (vars := cY.maxLocals) hsize hf (by rw [hlY]; omega)
  rw [doInvoke_enter X.here.top [] hmY hcY hkY hroom]
  have hpl : U.plainMethod mk := State.plainMethod.of_named (by decide +kernel) hn hmY
  have hA := At.enter (g := g) X.here #[.ref x, .ref y] hmY hcY hpl
  have hfr := frames_entered (g := g) X.here.top (.java (entryFrame mk #[.ref x, .ref y] cY.maxLocals))
  rw [hlY] at hA hfr ⊢
  generalize hU' : (U.setTop g).pushFrame (.java (entryFrame mk #[.ref x, .ref y] 2)) = U' at hA hfr ⊢
  have hmU : U'.vm.method? mk = some methY := by rw [← hU']; simpa [State.pushFrame, State.setFrames] using hmY
  have hcU : U'.code? g.method = some c := by
    rw [← hU']
    have := X.here.code; rw [State.code?_eq] at this ⊢; simpa [State.pushFrame, State.setFrames] using this
  have hback : U'.setFrames (.java g :: U.frames.tail) = U.setTop g := by rw [← hU']; exact setFrames_entered X.here.top _
  show Steps p.tables e below (U'.setTop (mkF mk 0 #[.val (.ref x), .val (.ref y)] [])) _
  refine XS.aloadN hA hx rfl (hb hbY own_oq0) rfl rfl ?_
  refine XS.aloadN hA hx rfl (hb hbY own_oq1) rfl rfl ?_
  show Steps p.tables e below (U'.setTop (mkF mk 2 #[.val (.ref x), .val (.ref y)] [.ref y, .ref x])) _
  have fin : ∀ z : Int32, nar .boolean z = z → z = own_oeqV x y → Steps p.tables e below (U'.setTop (mkF mk 10 #[.val (.ref x), .val (.ref y)] [.int z])) (U.setTop { g with pc := g.pc + len, stack := (some (Value.int (own_oeqV x y))).toList ++ g.stack }) := fun z hnz hz => by
    have hnn : narrow .boolean (.int z) = .int z := by show Value.int (nar .boolean z) = _; rw [hnz]
    show Steps p.tables e below (U'.setTop { method := mk, pc := 10, locals := #[.val (.ref x), .val (.ref y)], stack := [.int z], locked := none }) _
    have hl : ∀ (f : JFrame) (acts : List Action), f.method = mk → f.locked = none → f.entered = [] → (doReturn e (U'.setTop f) acts (some (.int z))).1 = U.setTop { g with pc := g.pc + len, stack := (some (Value.int (own_oeqV x y))).toList ++ g.stack } := fun f acts e1 e2 e3 => by
      rw [doReturn_leave (e := e) (f := f) (g := g) (meth := methY) (cg := c) (ig := ig) (len := len) (v := some (.int z)) acts hfr (by rw [e1]; exact hmU) hkY e2 e3 hcU hdg, hback, State.setTop_setTop, hz]
    have hd10 : decode cY.code 10 = .ok (.ireturn, 1) := hb hbY own_oq10
    jvm_step hA [hA.top, hx, hd10, hmU, hrY, hnn]
    first | (intro acts; rw [hl _ acts rfl rfl rfl]) | rw [hl _ _ rfl rfl rfl]
    exact Steps.refl _
  by_cases q : x = y
  · refine Jvm.Free.XT.acmpNo (x := .ref x) (y := .ref y) hA hx rfl (hb hbY own_oq2) rfl rfl rfl (Jvm.Free.XT.aa_ne_f (congrArg Value.ref q)) ?_
    refine XS.iconst hA hx rfl (hb hbY own_oq5) ?_
    refine XS.goto hA hx rfl (pc0 := 6) (pc' := 10) rfl (hb hbY own_oq6) (by decide) (by decide) ?_
    exact fin 1 rfl (by simp [own_oeqV, q])
  · refine Jvm.Free.XT.acmpYes (x := .ref x) (y := .ref y) hA hx rfl (pc0 := 2) (pc' := 9) rfl (hb hbY own_oq2) rfl rfl rfl (Jvm.Free.XT.aa_ne_t (fun z => q (Value.ref.inj z))) (by decide) (by decide) ?_
    refine XS.iconst hA hx rfl (hb hbY own_oq9) ?_
    exact fin 0 rfl (by simp [own_oeqV, q])
theorem own_oeq_same (x : Addr) : ¬ (own_oeqV x x = (0 : Int32)) := by simp [own_oeqV]
theorem own_pn_com_example_admit1_admit1_lock_LockEntry : plainName "com/example/admit1/admit1/lock/LockEntry" = true := by first | (simp [plainName, overriddenIn]; done) | decide +kernel
theorem own_pn_java_util_AbstractCollection : plainName "java/util/AbstractCollection" = true := by first | (simp [plainName, overriddenIn]; done) | decide +kernel
theorem own_pn_java_util_ArrayDeque : plainName "java/util/ArrayDeque" = true := by first | (simp [plainName, overriddenIn]; done) | decide +kernel
theorem own_pn_com_example_admit1_admit1_lock_LockEntry_Queues : plainName "com/example/admit1/admit1/lock/LockEntry$Queues" = true := by first | (simp [plainName, overriddenIn]; done) | decide +kernel
theorem own_pn_com_example_admit1_admit1_lock_Wait : plainName "com/example/admit1/admit1/lock/Wait" = true := by first | (simp [plainName, overriddenIn]; done) | decide +kernel
theorem own_pn_com_example_admit1_admit1_lock_LockEntryHasWaitingPinLaw : plainName "com/example/admit1/admit1/lock/LockEntryHasWaitingPinLaw" = true := by first | (simp [plainName, overriddenIn]; done) | decide +kernel
theorem own_pd__28_29V : parseMethodDescriptor "()V" = some ⟨[], none⟩ := by decide +kernel
theorem own_pd__28II_29I : parseMethodDescriptor "(II)I" = some ⟨[.int, .int], some .int⟩ := by decide +kernel
theorem own_pd__28Lcom_2fexample_2fadmit1_2fadmit1_2flock_2fWait_3b_29Ljava_2futil_2fArrayDeque_3b : parseMethodDescriptor "(Lcom/example/admit1/admit1/lock/Wait;)Ljava/util/ArrayDeque;" = some ⟨[(.object s5_)], some (.object s14_)⟩ := by decide +kernel
theorem own_pd__28Ljava_2flang_2fObject_3b_29V : parseMethodDescriptor "(Ljava/lang/Object;)V" = some ⟨[(.object s3_)], none⟩ := by decide +kernel
theorem own_pd__28III_29I : parseMethodDescriptor "(III)I" = some ⟨[.int, .int, .int], some .int⟩ := by decide +kernel
theorem own_pd__28Ljava_2flang_2fObject_3b_29Z : parseMethodDescriptor "(Ljava/lang/Object;)Z" = some ⟨[(.object s3_)], some .boolean⟩ := by decide +kernel
theorem own_pd__28I_29Z : parseMethodDescriptor "(I)Z" = some ⟨[.int], some .boolean⟩ := by decide +kernel
theorem own_pd__28_29Z : parseMethodDescriptor "()Z" = some ⟨[], some .boolean⟩ := by decide +kernel
theorem own_pd__28J_29V : parseMethodDescriptor "(J)V" = some ⟨[.long], none⟩ := by decide +kernel
theorem own_pd__28Lcom_2fexample_2fadmit1_2fadmit1_2flock_2fLockSession_3bLcom_2fexample_2fadmit1_2fadmit1_2flock_2fLockEntry_3bLcom_2fexample_2fadmit1_2fadmit1_2flock_2fLockMode_3bZZJJJ_29V : parseMethodDescriptor "(Lcom/example/admit1/admit1/lock/LockSession;Lcom/example/admit1/admit1/lock/LockEntry;Lcom/example/admit1/admit1/lock/LockMode;ZZJJJ)V" = some ⟨[(.object "com/example/admit1/admit1/lock/LockSession"), (.object s2_), (.object "com/example/admit1/admit1/lock/LockMode"), .boolean, .boolean, .long, .long, .long], none⟩ := by decide +kernel
theorem own_pd__28Lcom_2fexample_2fadmit1_2fadmit1_2flock_2fWait_3b_29V : parseMethodDescriptor "(Lcom/example/admit1/admit1/lock/Wait;)V" = some ⟨[(.object s5_)], none⟩ := by decide +kernel
theorem D1_0 : decode prog_11_method_1_code 0 = .ok (.aload_n 0, 1) := by decide +kernel
theorem D1_1 : decode prog_11_method_1_code 1 = .ok (.invokespecial 1, 3) := by decide +kernel
theorem D1_4 : decode prog_11_method_1_code 4 = .ok (.aload_n 0, 1) := by decide +kernel
theorem D1_5 : decode prog_11_method_1_code 5 = .ok (.getstatic 7, 3) := by decide +kernel
theorem D1_8 : decode prog_11_method_1_code 8 = .ok (.arraylength, 1) := by decide +kernel
theorem D1_9 : decode prog_11_method_1_code 9 = .ok (.newarray .int, 2) := by decide +kernel
theorem D1_11 : decode prog_11_method_1_code 11 = .ok (.putfield 13, 3) := by decide +kernel
theorem D1_14 : decode prog_11_method_1_code 14 = .ok (.aload_n 0, 1) := by decide +kernel
theorem D1_15 : decode prog_11_method_1_code 15 = .ok (.lload_n 1, 1) := by decide +kernel
theorem D1_16 : decode prog_11_method_1_code 16 = .ok (.putfield 17, 3) := by decide +kernel
theorem D1_19 : decode prog_11_method_1_code 19 = .ok (.return_, 1) := by decide +kernel
def Q_rm_leinit (Z : State) (t1 : Addr) (q1 : Int64) (mo : Addr) (cm : Cell) (h0 : Heap) (n0 : Nat) (v : Option Value) (h : Heap) (L : List Loc) : Prop := v = none ∧ Fr n0 L ∧ Keep h0 h [t1] ∧ Exa Z h t1 s2_ ∧ Fld Z h t1 s2_ "queues" s11_ .null
theorem ef_rm_leinit (m : MethodId) (t1 : Addr) (q1 : Int64) (mo : Addr) (cm : Cell) : entryFrame m #[(.ref t1), (.long q1)] 3 = mkF m 0 #[.val (.ref t1), .val (.long q1), .second] [] := by first | (simp [entryFrame, mkF, argsToLocals, Value.category]; done) | rfl
set_option maxRecDepth 65536 in
set_option maxHeartbeats 40000000 in
theorem rm_leinit (l : Launch) (Z : State) (a0 : Array Value) (hw : ∀ d ∈ tables_1, d.before a0 Z = true) (ws : List Jvm.Cond) (t1 : Addr) (q1 : Int64) (mo : Addr) (cm : Cell) (h0 : Heap) (n0 : Nat) (O0 : Old Z n0 h0) (S_MODES : Sta Z Z.heap s2_ "MODES" s4_ (.ref mo)) (A_mo : Arr Z Z.heap mo cm (.object "com/example/admit1/admit1/lock/LockMode")) (L_mo : cm.slots.size = (6 : Int32).toNatClampNeg) (Et : Exa Z h0 t1 s2_) (Fq : Fld Z h0 t1 s2_ "queues" s11_ .null) (Fh : Fld Z h0 t1 s2_ "holdersByMode" "[I" .null) (Fi : Fld Z h0 t1 s2_ "id" "J" (.long (0 : Int64))) (gt : n0 ≤ t1) :
    MetFree l (⟨s2_, "<init>", "(J)V"⟩ : MethodName) (head1 (Jvm.Cond.code (⟨s2_, "<init>", "(J)V"⟩ : MethodName) prog_11_method_1_code 3 none :: ws) ({ frames := 1, cells := 1, slots := 6, locals := 12 } : Room)) (fun a U => a = #[(.ref t1), (.long q1)] ∧ Z.Warmed39 U.vm ∧ U.heap = h0) (fun _ _ _ _ _ => True) (fun _ U o U' => ∃ v L, o = .returned v ∧ Q_rm_leinit Z t1 q1 mo cm h0 n0 v U'.heap L ∧ FrameEnd U o U' L ({ frames := 1, cells := 1, slots := 6, locals := 12 } : Room).cells ({ frames := 1, cells := 1, slots := 6, locals := 12 } : Room).slots) := by
  refine MetFree.of_bodySF (plainFor_of_name own_pn_com_example_admit1_admit1_lock_LockEntry) hisR ?_
  intro p e s m args below meth c s₁ Bd hml0 hP hK
  obtain ⟨rfl, hZ, hh⟩ := hP
  have hx := Bd.exec
  have hby := Bd.bytes
  have hml : c.maxLocals = 3 := hml0
  have hown : s.vm.findClass s2_ = some m.cls := findClass_of_methodNamed Bd.named
  have hnm := (name_of_methodNamed Bd.named Bd.method).1
  have X0 : Stand p l e ({ frames := 1, cells := 1, slots := 6, locals := 12 } : Room) s m #[(.ref t1), (.long q1)] below meth c s₁ [] 0 0 := Stand.of_body Bd
  have e0 : s₁.heap = h0 := by rw [← hh, Bd.state]; rfl
  have N0 := Fr.nil n0
  have Z0 : n0 ≤ h0.size := by rw [← O0.1]; exact O0.2.1
  show own_Go p e below (s₁.setTop (entryFrame m #[(.ref t1), (.long q1)] 3)) (fun t o => ∃ v L, o = .returned v ∧ Q_rm_leinit Z t1 q1 mo cm h0 n0 v t.heap L ∧ FrameEnd s o t L ({ frames := 1, cells := 1, slots := 6, locals := 12 } : Room).cells ({ frames := 1, cells := 1, slots := 6, locals := 12 } : Room).slots)
  rw [ef_rm_leinit m t1 q1 mo cm]
  have lt_Et : h0.size > t1 := Et.lt
  have lt_Fq : h0.size > t1 := Fq.lt
  have lt_Fh : h0.size > t1 := Fh.lt
  have lt_Fi : h0.size > t1 := Fi.lt
  refine own_by (fun _ k => XS.aloadN X0.here hx rfl (hb hby D1_0) rfl rfl k) ?_
  obtain ⟨T1, X1, e1, st1⟩ := initO X0 hx hZ hown (own_w hw 6 rfl) (own_w hw 7 rfl) (own_w hw 8 rfl) e0 (g := (mkF m 1 #[.val (.ref t1), .val (.long q1), .second] [(.ref t1)])) rfl (by rw [hml]; rfl) rfl (hb hby D1_1) (by decide) (W := 0) (by show 2 * 0 + _ ≤ _; exact Nat.le_of_eq rfl) (by decide)
  refine own_by st1 ?_
  refine own_by (fun _ k => XS.aloadN X1.here hx rfl (hb hby D1_4) rfl rfl k) ?_
  obtain ⟨T2, X2, e2, st2⟩ := getS2 X1 hx hZ hown (host := "") (Or.inl (own_w hw 9 rfl)) Via.refl e1 (S_MODES.ext O0.2) (g := (mkF m 5 #[.val (.ref t1), .val (.long q1), .second] [(.ref t1)])) rfl (hb hby D1_5)
  refine own_by st2 ?_
  show own_Go p e below (T2.setTop (mkF m 8 #[.val (.ref t1), .val (.long q1), .second] [(.ref mo), (.ref t1)])) _
  refine own_by (X2.arraylength hx (by rw [e2]; exact (A_mo.ext O0.2).1) (State.isArrayOf_alike hZ.alike A_mo.2.1) (g := (mkF m 8 #[.val (.ref t1), .val (.long q1), .second] [(.ref mo), (.ref t1)])) rfl rfl (hb hby D1_8)) ?_
  rw [len_of L_mo (by decide)]
  show own_Go p e below (T2.setTop (mkF m 9 #[.val (.ref t1), .val (.long q1), .second] [(.int (6 : Int32)), (.ref t1)])) _
  obtain ⟨T3, h3, k3, X3, e3, E3, A3, st3⟩ := newP X2 hx hZ (own_w hw 11 rfl) e2 (g := (mkF m 9 #[.val (.ref t1), .val (.long q1), .second] [(.int (6 : Int32)), (.ref t1)])) rfl (hb hby D1_9) rfl (by decide) (cap := 6) (by decide) (by decide) (by decide) (by decide)
  obtain ⟨ob3, g3⟩ : ∃ z, z = h0.size := ⟨_, rfl⟩
  rw [← g3] at A3 st3
  refine own_by st3 ?_
  have z3 := E3.1
  have Vw3 : Arv Z h3 ob3 k3 .int (6 : Int32) [] (.int (0 : Int32)) := Arv.new A3 (by decide)
  have lt3 : h3.size > ob3 := Vw3.lt
  have fc4 : Fld Z h3 t1 s2_ "holdersByMode" "[I" .null := (Fh.ext E3)
  have fc5 : Exa Z h3 t1 s2_ := (Et.ext E3)
  obtain ⟨T6, h6, X6, e6, W6, st6⟩ := putF X3 hx hZ hown (host := "") (Or.inl (own_w hw 12 rfl)) Via.refl e3 fc4 fc5 (Or.inr ⟨(own_w hw 13 rfl), rfl, hnm⟩) (own_w hw 1 rfl) (ty := (.array .int)) (by decide) rfl rfl (g := (mkF m 11 #[.val (.ref t1), .val (.long q1), .second] [(.ref ob3), (.ref t1)])) rfl rfl (hb hby D1_11)
  refine own_by st6 ?_
  have z6 := W6.size
  have N6 := Fr.snoc X6 N0 (by omega)
  have Fw6 : Fld Z h6 t1 s2_ "holdersByMode" "[I" (.ref ob3) := fc4.same W6
  refine own_by (fun _ k => XS.aloadN X6.here hx rfl (hb hby D1_14) rfl rfl k) ?_
  refine own_by (fun _ k => XS.lloadN X6.here hx rfl (hb hby D1_15) rfl k) ?_
  have fc7 : Fld Z h6 t1 s2_ "id" "J" (.long (0 : Int64)) := ((Fi.ext E3).other W6 (Or.inr (slot_ne (a0 := a0) (Or.inr (own_w hw 15 rfl)) (Or.inr (own_w hw 13 rfl)) (by decide) (t := .long) (by decide) (t' := (.array .int)) (by decide))))
  have fc8 : Exa Z h6 t1 s2_ := (fc5.wr W6)
  obtain ⟨T9, h9, X9, e9, W9, st9⟩ := putF X6 hx hZ hown (host := "") (Or.inl (own_w hw 14 rfl)) Via.refl e6 fc7 fc8 (Or.inr ⟨(own_w hw 15 rfl), rfl, hnm⟩) (own_w hw 1 rfl) (ty := .long) (by decide) rfl rfl (g := (mkF m 16 #[.val (.ref t1), .val (.long q1), .second] [(.long q1), (.ref t1)])) rfl rfl (hb hby D1_16)
  refine own_by st9 ?_
  have z9 := W9.size
  have N9 := Fr.snoc X9 N6 (by omega)
  have Fw9 : Fld Z h9 t1 s2_ "id" "J" (.long q1) := fc7.same W9
  have fc10 : Exa Z h9 t1 s2_ := (fc8.wr W9)
  have fc11 : Fld Z h9 t1 s2_ "queues" s11_ .null := (((Fq.ext E3).other W6 (Or.inr (slot_ne (a0 := a0) (Or.inl (own_w hw 45 rfl)) (Or.inr (own_w hw 13 rfl)) (by decide) (t := (.object s13_)) (by decide) (t' := (.array .int)) (by decide)))).other W9 (Or.inr (slot_ne (a0 := a0) (Or.inl (own_w hw 45 rfl)) (Or.inr (own_w hw 15 rfl)) (by decide) (t := (.object s13_)) (by decide) (t' := .long) (by decide))))
  have K12 : Keep h0 h9 [t1] := ((((Keep.refl h0 [t1]).ext E3).wr W6 (Or.inl (List.mem_of_getElem? (i := 0) rfl))).wr W9 (Or.inl (List.mem_of_getElem? (i := 0) rfl)))
  obtain ⟨fs, hr, hrun, hended, hW, hsame⟩ := X9.leave (v := none) (fun h => rfl)
  refine ⟨_, _, X9.returnOut hx Bd.returns (hb hby D1_19) hr, hrun, hended, _, _, rfl, ?_, ⟨_, rfl⟩, hW, hsame.mono (by decide) (by decide)⟩
  show Q_rm_leinit Z t1 q1 mo cm h0 n0 _ T9.heap _
  rw [e9]
  exact ⟨rfl, N9, K12, fc10, fc11⟩
theorem D4_0 : decode prog_11_method_12_code 0 = .ok (.aload_n 0, 1) := by decide +kernel
theorem D4_1 : decode prog_11_method_12_code 1 = .ok (.getfield 113, 3) := by decide +kernel
theorem D4_4 : decode prog_11_method_12_code 4 = .ok (.ifnull 7, 3) := by decide +kernel
theorem D4_7 : decode prog_11_method_12_code 7 = .ok (.iconst 1, 1) := by decide +kernel
theorem D4_8 : decode prog_11_method_12_code 8 = .ok (.goto 4, 3) := by decide +kernel
theorem D4_12 : decode prog_11_method_12_code 12 = .ok (.ireturn, 1) := by decide +kernel
def Q_rm_hw1 (Z : State) (en : Addr) (q : Addr) (h0 : Heap) (n0 : Nat) (v : Option Value) (h : Heap) (L : List Loc) : Prop := v = some (.int (1 : Int32)) ∧ Fr n0 L ∧ h = h0
theorem ef_rm_hw1 (m : MethodId) (en : Addr) (q : Addr) : entryFrame m #[(.ref en)] 1 = mkF m 0 #[.val (.ref en)] [] := by first | (simp [entryFrame, mkF, argsToLocals, Value.category]; done) | rfl
set_option maxRecDepth 65536 in
set_option maxHeartbeats 40000000 in
theorem rm_hw1 (l : Launch) (Z : State) (a0 : Array Value) (hw : ∀ d ∈ tables_1, d.before a0 Z = true) (ws : List Jvm.Cond) (en : Addr) (q : Addr) (h0 : Heap) (n0 : Nat) (O0 : Old Z n0 h0) (Fq : Fld Z h0 en s2_ "queues" s11_ (.ref q)) :
    MetFree l (⟨s2_, "hasWaiting", "()Z"⟩ : MethodName) (head1 (Jvm.Cond.code (⟨s2_, "hasWaiting", "()Z"⟩ : MethodName) prog_11_method_12_code 1 (some .boolean) :: ws) ({ frames := 0, cells := 0, slots := 0, locals := 0 } : Room)) (fun a U => a = #[(.ref en)] ∧ Z.Warmed39 U.vm ∧ U.heap = h0) (fun _ _ _ _ _ => True) (fun _ U o U' => ∃ v L, o = .returned v ∧ Q_rm_hw1 Z en q h0 n0 v U'.heap L ∧ FrameEnd U o U' L ({ frames := 0, cells := 0, slots := 0, locals := 0 } : Room).cells ({ frames := 0, cells := 0, slots := 0, locals := 0 } : Room).slots) := by
  refine MetFree.of_bodySF (plainFor_of_name own_pn_com_example_admit1_admit1_lock_LockEntry) hisR ?_
  intro p e s m args below meth c s₁ Bd hml0 hP hK
  obtain ⟨rfl, hZ, hh⟩ := hP
  have hx := Bd.exec
  have hby := Bd.bytes
  have hml : c.maxLocals = 1 := hml0
  have hown : s.vm.findClass s2_ = some m.cls := findClass_of_methodNamed Bd.named
  have hnm := (name_of_methodNamed Bd.named Bd.method).1
  have X0 : Stand p l e ({ frames := 0, cells := 0, slots := 0, locals := 0 } : Room) s m #[(.ref en)] below meth c s₁ [] 0 0 := Stand.of_body Bd
  have e0 : s₁.heap = h0 := by rw [← hh, Bd.state]; rfl
  have N0 := Fr.nil n0
  have Z0 : n0 ≤ h0.size := by rw [← O0.1]; exact O0.2.1
  show own_Go p e below (s₁.setTop (entryFrame m #[(.ref en)] 1)) (fun t o => ∃ v L, o = .returned v ∧ Q_rm_hw1 Z en q h0 n0 v t.heap L ∧ FrameEnd s o t L ({ frames := 0, cells := 0, slots := 0, locals := 0 } : Room).cells ({ frames := 0, cells := 0, slots := 0, locals := 0 } : Room).slots)
  rw [ef_rm_hw1 m en q]
  have lt_Fq : h0.size > en := Fq.lt
  refine own_by (fun _ k => XS.aloadN X0.here hx rfl (hb hby D4_0) rfl rfl k) ?_
  obtain ⟨T1, X1, e1, st1⟩ := getF X0 hx hZ hown (host := "") (Or.inl (own_w hw 44 rfl)) Via.refl e0 Fq (g := (mkF m 1 #[.val (.ref en)] [(.ref en)])) rfl rfl (hb hby D4_1)
  refine own_by st1 ?_
  refine own_by (fun _ k => XS.ifnullNo X1.here hx rfl (hb hby D4_4) rfl k) ?_
  refine own_by (fun _ k => XS.iconst X1.here hx rfl (hb hby D4_7) k) ?_
  refine own_by (fun _ k => XS.goto X1.here hx rfl (pc0 := 8) (pc' := 12) rfl (hb hby D4_8) (by decide) (by decide) k) ?_
  obtain ⟨fs, hr, hrun, hended, hW, hsame⟩ := X1.leave (v := some (.int (1 : Int32))) (fun h => by rw [Bd.returns] at h; cases h)
  refine ⟨_, _, retN X1 hx (t := .boolean) Bd.returns (by simp) (hb hby D4_12) hr, hrun, hended, _, _, rfl, ?_, ⟨_, rfl⟩, hW, hsame.mono (by decide) (by decide)⟩
  show Q_rm_hw1 Z en q h0 n0 _ T1.heap _
  rw [e1]
  exact ⟨rfl, N0, rfl⟩
theorem D4_11 : decode prog_11_method_12_code 11 = .ok (.iconst 0, 1) := by decide +kernel
def Q_rm_hw0 (Z : State) (en : Addr) (h0 : Heap) (n0 : Nat) (v : Option Value) (h : Heap) (L : List Loc) : Prop := v = some (.int (0 : Int32)) ∧ Fr n0 L ∧ h = h0
theorem ef_rm_hw0 (m : MethodId) (en : Addr) : entryFrame m #[(.ref en)] 1 = mkF m 0 #[.val (.ref en)] [] := by first | (simp [entryFrame, mkF, argsToLocals, Value.category]; done) | rfl
set_option maxRecDepth 65536 in
set_option maxHeartbeats 40000000 in
theorem rm_hw0 (l : Launch) (Z : State) (a0 : Array Value) (hw : ∀ d ∈ tables_1, d.before a0 Z = true) (ws : List Jvm.Cond) (en : Addr) (h0 : Heap) (n0 : Nat) (O0 : Old Z n0 h0) (Fq : Fld Z h0 en s2_ "queues" s11_ .null) :
    MetFree l (⟨s2_, "hasWaiting", "()Z"⟩ : MethodName) (head1 (Jvm.Cond.code (⟨s2_, "hasWaiting", "()Z"⟩ : MethodName) prog_11_method_12_code 1 (some .boolean) :: ws) ({ frames := 0, cells := 0, slots := 0, locals := 0 } : Room)) (fun a U => a = #[(.ref en)] ∧ Z.Warmed39 U.vm ∧ U.heap = h0) (fun _ _ _ _ _ => True) (fun _ U o U' => ∃ v L, o = .returned v ∧ Q_rm_hw0 Z en h0 n0 v U'.heap L ∧ FrameEnd U o U' L ({ frames := 0, cells := 0, slots := 0, locals := 0 } : Room).cells ({ frames := 0, cells := 0, slots := 0, locals := 0 } : Room).slots) := by
  refine MetFree.of_bodySF (plainFor_of_name own_pn_com_example_admit1_admit1_lock_LockEntry) hisR ?_
  intro p e s m args below meth c s₁ Bd hml0 hP hK
  obtain ⟨rfl, hZ, hh⟩ := hP
  have hx := Bd.exec
  have hby := Bd.bytes
  have hml : c.maxLocals = 1 := hml0
  have hown : s.vm.findClass s2_ = some m.cls := findClass_of_methodNamed Bd.named
  have hnm := (name_of_methodNamed Bd.named Bd.method).1
  have X0 : Stand p l e ({ frames := 0, cells := 0, slots := 0, locals := 0 } : Room) s m #[(.ref en)] below meth c s₁ [] 0 0 := Stand.of_body Bd
  have e0 : s₁.heap = h0 := by rw [← hh, Bd.state]; rfl
  have N0 := Fr.nil n0
  have Z0 : n0 ≤ h0.size := by rw [← O0.1]; exact O0.2.1
  show own_Go p e below (s₁.setTop (entryFrame m #[(.ref en)] 1)) (fun t o => ∃ v L, o = .returned v ∧ Q_rm_hw0 Z en h0 n0 v t.heap L ∧ FrameEnd s o t L ({ frames := 0, cells := 0, slots := 0, locals := 0 } : Room).cells ({ frames := 0, cells := 0, slots := 0, locals := 0 } : Room).slots)
  rw [ef_rm_hw0 m en]
  have lt_Fq : h0.size > en := Fq.lt
  refine own_by (fun _ k => XS.aloadN X0.here hx rfl (hb hby D4_0) rfl rfl k) ?_
  obtain ⟨T1, X1, e1, st1⟩ := getF X0 hx hZ hown (host := "") (Or.inl (own_w hw 44 rfl)) Via.refl e0 Fq (g := (mkF m 1 #[.val (.ref en)] [(.ref en)])) rfl rfl (hb hby D4_1)
  refine own_by st1 ?_
  refine own_by (fun _ k => XS.ifnullYes X1.here hx rfl (pc0 := 4) (pc' := 11) rfl (hb hby D4_4) rfl (by decide) (by decide) k) ?_
  show own_Go p e below (T1.setTop (mkF m 11 #[.val (.ref en)] [])) _
  refine own_by (fun _ k => XS.iconst X1.here hx rfl (hb hby D4_11) k) ?_
  obtain ⟨fs, hr, hrun, hended, hW, hsame⟩ := X1.leave (v := some (.int (0 : Int32))) (fun h => by rw [Bd.returns] at h; cases h)
  refine ⟨_, _, retN X1 hx (t := .boolean) Bd.returns (by simp) (hb hby D4_12) hr, hrun, hended, _, _, rfl, ?_, ⟨_, rfl⟩, hW, hsame.mono (by decide) (by decide)⟩
  show Q_rm_hw0 Z en h0 n0 _ T1.heap _
  rw [e1]
  exact ⟨rfl, N0, rfl⟩
theorem D8_0 : decode jdk_22_method_1_code 0 = .ok (.aload_n 0, 1) := by decide +kernel
theorem D8_1 : decode jdk_22_method_1_code 1 = .ok (.invokespecial 1, 3) := by decide +kernel
theorem D8_4 : decode jdk_22_method_1_code 4 = .ok (.return_, 1) := by decide +kernel
def Q_rm_ac (Z : State) (t1 : Addr) (h0 : Heap) (n0 : Nat) (v : Option Value) (h : Heap) (L : List Loc) : Prop := v = none ∧ Fr n0 L ∧ h = h0
theorem ef_rm_ac (m : MethodId) (t1 : Addr) : entryFrame m #[(.ref t1)] 1 = mkF m 0 #[.val (.ref t1)] [] := by first | (simp [entryFrame, mkF, argsToLocals, Value.category]; done) | rfl
set_option maxRecDepth 65536 in
set_option maxHeartbeats 40000000 in
theorem rm_ac (l : Launch) (Z : State) (a0 : Array Value) (hw : ∀ d ∈ tables_1, d.before a0 Z = true) (ws : List Jvm.Cond) (t1 : Addr) (h0 : Heap) (n0 : Nat) (O0 : Old Z n0 h0) :
    MetFree l (⟨s15_, "<init>", "()V"⟩ : MethodName) (head1 (Jvm.Cond.code (⟨s15_, "<init>", "()V"⟩ : MethodName) jdk_22_method_1_code 1 none :: ws) ({ frames := 1, cells := 0, slots := 0, locals := 12 } : Room)) (fun a U => a = #[(.ref t1)] ∧ Z.Warmed39 U.vm ∧ U.heap = h0) (fun _ _ _ _ _ => True) (fun _ U o U' => ∃ v L, o = .returned v ∧ Q_rm_ac Z t1 h0 n0 v U'.heap L ∧ FrameEnd U o U' L ({ frames := 1, cells := 0, slots := 0, locals := 12 } : Room).cells ({ frames := 1, cells := 0, slots := 0, locals := 12 } : Room).slots) := by
  refine MetFree.of_bodySF (plainFor_of_name own_pn_java_util_AbstractCollection) hisR ?_
  intro p e s m args below meth c s₁ Bd hml0 hP hK
  obtain ⟨rfl, hZ, hh⟩ := hP
  have hx := Bd.exec
  have hby := Bd.bytes
  have hml : c.maxLocals = 1 := hml0
  have hown : s.vm.findClass s15_ = some m.cls := findClass_of_methodNamed Bd.named
  have hnm := (name_of_methodNamed Bd.named Bd.method).1
  have X0 : Stand p l e ({ frames := 1, cells := 0, slots := 0, locals := 12 } : Room) s m #[(.ref t1)] below meth c s₁ [] 0 0 := Stand.of_body Bd
  have e0 : s₁.heap = h0 := by rw [← hh, Bd.state]; rfl
  have N0 := Fr.nil n0
  have Z0 : n0 ≤ h0.size := by rw [← O0.1]; exact O0.2.1
  show own_Go p e below (s₁.setTop (entryFrame m #[(.ref t1)] 1)) (fun t o => ∃ v L, o = .returned v ∧ Q_rm_ac Z t1 h0 n0 v t.heap L ∧ FrameEnd s o t L ({ frames := 1, cells := 0, slots := 0, locals := 12 } : Room).cells ({ frames := 1, cells := 0, slots := 0, locals := 12 } : Room).slots)
  rw [ef_rm_ac m t1]
  refine own_by (fun _ k => XS.aloadN X0.here hx rfl (hb hby D8_0) rfl rfl k) ?_
  obtain ⟨T1, X1, e1, st1⟩ := initO X0 hx hZ hown (own_w hw 70 rfl) (own_w hw 7 rfl) (own_w hw 8 rfl) e0 (g := (mkF m 1 #[.val (.ref t1)] [(.ref t1)])) rfl (by rw [hml]; rfl) rfl (hb hby D8_1) (by decide) (W := 0) (by show 2 * 0 + _ ≤ _; exact Nat.le_of_eq rfl) (by decide)
  refine own_by st1 ?_
  obtain ⟨fs, hr, hrun, hended, hW, hsame⟩ := X1.leave (v := none) (fun h => rfl)
  refine ⟨_, _, X1.returnOut hx Bd.returns (hb hby D8_4) hr, hrun, hended, _, _, rfl, ?_, ⟨_, rfl⟩, hW, hsame.mono (by decide) (by decide)⟩
  show Q_rm_ac Z t1 h0 n0 _ T1.heap _
  rw [e1]
  exact ⟨rfl, N0, rfl⟩
theorem D7_0 : decode jdk_21_method_3_code 0 = .ok (.aload_n 0, 1) := by decide +kernel
theorem D7_1 : decode jdk_21_method_3_code 1 = .ok (.invokespecial 42, 3) := by decide +kernel
theorem D7_4 : decode jdk_21_method_3_code 4 = .ok (.aload_n 0, 1) := by decide +kernel
theorem D7_5 : decode jdk_21_method_3_code 5 = .ok (.bipush 17, 2) := by decide +kernel
theorem D7_7 : decode jdk_21_method_3_code 7 = .ok (.anewarray 47, 3) := by decide +kernel
theorem D7_10 : decode jdk_21_method_3_code 10 = .ok (.putfield 3, 3) := by decide +kernel
theorem D7_13 : decode jdk_21_method_3_code 13 = .ok (.return_, 1) := by decide +kernel
def Q_rm_adinit (Z : State) (d : Addr) (h0 : Heap) (n0 : Nat) (v : Option Value) (h : Heap) (L : List Loc) : Prop := ∃ (a1 : Addr), ∃ (kk1 : ClassId), v = none ∧ Fr n0 L ∧ Keep h0 h [d] ∧ Exa Z h d s14_ ∧ Fld Z h d s14_ "elements" s16_ (.ref a1) ∧ Fld Z h d s14_ "head" "I" (.int (0 : Int32)) ∧ Fld Z h d s14_ "tail" "I" (.int (0 : Int32)) ∧ Arv Z h a1 kk1 (.object s3_) (17 : Int32) [] .null ∧ Ovr Z kk1 s3_ ∧ h0.size ≤ a1
theorem ef_rm_adinit (m : MethodId) (d : Addr) : entryFrame m #[(.ref d)] 1 = mkF m 0 #[.val (.ref d)] [] := by first | (simp [entryFrame, mkF, argsToLocals, Value.category]; done) | rfl
set_option maxRecDepth 65536 in
set_option maxHeartbeats 40000000 in
theorem rm_adinit (l : Launch) (Z : State) (a0 : Array Value) (hw : ∀ d ∈ tables_1, d.before a0 Z = true) (ws : List Jvm.Cond) (d : Addr) (h0 : Heap) (n0 : Nat) (O0 : Old Z n0 h0) (Ed : Exa Z h0 d s14_) (Fe : Fld Z h0 d s14_ "elements" s16_ .null) (Fh : Fld Z h0 d s14_ "head" "I" (.int (0 : Int32))) (Ft : Fld Z h0 d s14_ "tail" "I" (.int (0 : Int32))) (gd : n0 ≤ d) :
    MetFree l (⟨s14_, "<init>", "()V"⟩ : MethodName) (head1 (Jvm.Cond.code (⟨s14_, "<init>", "()V"⟩ : MethodName) jdk_21_method_3_code 1 none :: ws) ({ frames := 2, cells := 1, slots := 17, locals := 24 } : Room)) (fun a U => a = #[(.ref d)] ∧ Z.Warmed39 U.vm ∧ U.heap = h0) (fun _ _ _ _ _ => True) (fun _ U o U' => ∃ v L, o = .returned v ∧ Q_rm_adinit Z d h0 n0 v U'.heap L ∧ FrameEnd U o U' L ({ frames := 2, cells := 1, slots := 17, locals := 24 } : Room).cells ({ frames := 2, cells := 1, slots := 17, locals := 24 } : Room).slots) := by
  refine MetFree.of_bodySF (plainFor_of_name own_pn_java_util_ArrayDeque) hisR ?_
  intro p e s m args below meth c s₁ Bd hml0 hP hK
  obtain ⟨rfl, hZ, hh⟩ := hP
  have hx := Bd.exec
  have hby := Bd.bytes
  have hml : c.maxLocals = 1 := hml0
  have hown : s.vm.findClass s14_ = some m.cls := findClass_of_methodNamed Bd.named
  have hnm := (name_of_methodNamed Bd.named Bd.method).1
  have X0 : Stand p l e ({ frames := 2, cells := 1, slots := 17, locals := 24 } : Room) s m #[(.ref d)] below meth c s₁ [] 0 0 := Stand.of_body Bd
  have e0 : s₁.heap = h0 := by rw [← hh, Bd.state]; rfl
  have N0 := Fr.nil n0
  have Z0 : n0 ≤ h0.size := by rw [← O0.1]; exact O0.2.1
  show own_Go p e below (s₁.setTop (entryFrame m #[(.ref d)] 1)) (fun t o => ∃ v L, o = .returned v ∧ Q_rm_adinit Z d h0 n0 v t.heap L ∧ FrameEnd s o t L ({ frames := 2, cells := 1, slots := 17, locals := 24 } : Room).cells ({ frames := 2, cells := 1, slots := 17, locals := 24 } : Room).slots)
  rw [ef_rm_adinit m d]
  have lt_Ed : h0.size > d := Ed.lt
  have lt_Fe : h0.size > d := Fe.lt
  have lt_Fh : h0.size > d := Fh.lt
  have lt_Ft : h0.size > d := Ft.lt
  refine own_by (fun _ k => XS.aloadN X0.here hx rfl (hb hby D7_0) rfl rfl k) ?_
  obtain ⟨_, _, ⟨T1, L1, k1, n1⟩, -, X1, ⟨Lc1, hQ1, l1, y1, z1⟩, st1⟩ := X0.specialBack hx (y := (⟨s15_, "<init>", "()V"⟩ : MethodName)) rfl hown (mvT hZ (own_w hw 64 rfl)) (mvT hZ (own_w hw 65 rfl)) (mvT hZ (own_w hw 69 rfl)) (by decide) (backOf (W := 0) (rm_ac l Z a0 hw [] d h0 n0 O0) hZ (own_w hw 69 rfl) (own_w hw 68 rfl) (by decide) (by decide)) (g := (mkF m 1 #[.val (.ref d)] [(.ref d)])) rfl (by rw [hml]; rfl) (Steps.refl _) (a := d) (argsL := []) (rest := []) (lenOf own_pd__28_29V rfl) rfl (by show 2 * 0 + _ ≤ _; exact Nat.le_of_eq rfl) (hb hby D7_1) (fun _ _ => ⟨rfl, e0, (by decide : 0 + 0 ≤ _), (by decide : 0 + 0 ≤ _)⟩)
  dsimp only [Pt.U, Pt.locs, Pt.cells, Pt.slots] at X1 l1 y1 z1 st1 hQ1
  subst l1 y1 z1
  obtain ⟨rfl, M1, K1⟩ := hQ1
  have N1 := Fr.app N0 M1
  refine own_by (fun _ k => st1.trans k) ?_
  refine own_by (fun _ k => XS.aloadN X1.here hx rfl (hb hby D7_4) rfl rfl k) ?_
  refine own_by (fun _ k => XS.bipush X1.here hx rfl (hb hby D7_5) k) ?_
  obtain ⟨T2, h2, k2, X2, e2, E2, A2, Ov2, st2⟩ := newR X1 hx hZ hown (own_w hw 71 rfl) (own_w hw 72 rfl) K1 (g := (mkF m 7 #[.val (.ref d)] [(.int (17 : Int32)), (.ref d)])) rfl (hb hby D7_7) rfl (by decide) (cap := 17) (by decide) (by decide) (by decide) (by decide)
  obtain ⟨ob2, g2⟩ : ∃ z, z = h0.size := ⟨_, rfl⟩
  rw [← g2] at A2 st2
  refine own_by st2 ?_
  have z2 := E2.1
  have Vw2 : Arv Z h2 ob2 k2 (.object s3_) (17 : Int32) [] .null := Arv.new A2 (by decide)
  have lt2 : h2.size > ob2 := Vw2.lt
  have fc3 : Fld Z h2 d s14_ "elements" s16_ .null := (Fe.ext E2)
  have fc4 : Exa Z h2 d s14_ := (Ed.ext E2)
  obtain ⟨T5, h5, X5, e5, W5, st5⟩ := putF X2 hx hZ hown (host := "") (Or.inl (own_w hw 73 rfl)) Via.refl e2 fc3 fc4 (Or.inl (own_w hw 74 rfl)) (own_w hw 59 rfl) (ty := (.array (.object s3_))) (by decide) rfl rfl (g := (mkF m 10 #[.val (.ref d)] [(.ref ob2), (.ref d)])) rfl rfl (hb hby D7_10)
  refine own_by st5 ?_
  have z5 := W5.size
  have N5 := Fr.snoc X5 N1 (by omega)
  have Fw5 : Fld Z h5 d s14_ "elements" s16_ (.ref ob2) := fc3.same W5
  show own_Go p e below (T5.setTop (mkF m 13 #[.val (.ref d)] [])) _
  have fc6 : Exa Z h5 d s14_ := (fc4.wr W5)
  have fc7 : Fld Z h5 d s14_ "head" "I" (.int (0 : Int32)) := ((Fh.ext E2).other W5 (Or.inr (slot_ne (a0 := a0) (Or.inl (own_w hw 94 rfl)) (Or.inl (own_w hw 74 rfl)) (by decide) (t := .int) (by decide) (t' := (.array (.object s3_))) (by decide))))
  have fc8 : Fld Z h5 d s14_ "tail" "I" (.int (0 : Int32)) := ((Ft.ext E2).other W5 (Or.inr (slot_ne (a0 := a0) (Or.inl (own_w hw 91 rfl)) (Or.inl (own_w hw 74 rfl)) (by decide) (t := .int) (by decide) (t' := (.array (.object s3_))) (by decide))))
  have fc9 : Arv Z h5 ob2 k2 (.object s3_) (17 : Int32) [] .null := (Vw2.other W5 (own_ne (by omega)))
  have K10 : Keep h0 h5 [d] := (((Keep.refl h0 [d]).ext E2).wr W5 (Or.inl (List.mem_of_getElem? (i := 0) rfl)))
  obtain ⟨fs, hr, hrun, hended, hW, hsame⟩ := X5.leave (v := none) (fun h => rfl)
  refine ⟨_, _, X5.returnOut hx Bd.returns (hb hby D7_13) hr, hrun, hended, _, _, rfl, ?_, ⟨_, rfl⟩, hW, hsame.mono (by decide) (by decide)⟩
  show Q_rm_adinit Z d h0 n0 _ T5.heap _
  rw [e5]
  exact ⟨ob2, k2, rfl, N5, K10, fc6, Fw5, fc7, fc8, fc9, (by first | assumption | omega), (by first | assumption | omega)⟩
theorem D6_0 : decode prog_12_method_1_code 0 = .ok (.aload_n 0, 1) := by decide +kernel
theorem D6_1 : decode prog_12_method_1_code 1 = .ok (.invokespecial 1, 3) := by decide +kernel
theorem D6_4 : decode prog_12_method_1_code 4 = .ok (.aload_n 0, 1) := by decide +kernel
theorem D6_5 : decode prog_12_method_1_code 5 = .ok (.new 7, 3) := by decide +kernel
theorem D6_8 : decode prog_12_method_1_code 8 = .ok (.dup, 1) := by decide +kernel
theorem D6_9 : decode prog_12_method_1_code 9 = .ok (.invokespecial 9, 3) := by decide +kernel
theorem D6_12 : decode prog_12_method_1_code 12 = .ok (.putfield 10, 3) := by decide +kernel
theorem D6_15 : decode prog_12_method_1_code 15 = .ok (.aload_n 0, 1) := by decide +kernel
theorem D6_16 : decode prog_12_method_1_code 16 = .ok (.new 7, 3) := by decide +kernel
theorem D6_19 : decode prog_12_method_1_code 19 = .ok (.dup, 1) := by decide +kernel
theorem D6_20 : decode prog_12_method_1_code 20 = .ok (.invokespecial 9, 3) := by decide +kernel
theorem D6_23 : decode prog_12_method_1_code 23 = .ok (.putfield 16, 3) := by decide +kernel
theorem D6_26 : decode prog_12_method_1_code 26 = .ok (.return_, 1) := by decide +kernel
def Q_rm_qinit (Z : State) (q : Addr) (h0 : Heap) (n0 : Nat) (v : Option Value) (h : Heap) (L : List Loc) : Prop := ∃ (d1 : Addr), ∃ (a1 : Addr), ∃ (kk1 : ClassId), ∃ (d2 : Addr), ∃ (a2 : Addr), ∃ (kk2 : ClassId), v = none ∧ Fr n0 L ∧ Keep h0 h [q] ∧ Exa Z h q s13_ ∧ Fld Z h q s13_ "conversions" s17_ (.ref d1) ∧ Fld Z h q s13_ "requests" s17_ (.ref d2) ∧ Exa Z h d1 s14_ ∧ Fld Z h d1 s14_ "elements" s16_ (.ref a1) ∧ Fld Z h d1 s14_ "head" "I" (.int (0 : Int32)) ∧ Fld Z h d1 s14_ "tail" "I" (.int (0 : Int32)) ∧ Arv Z h a1 kk1 (.object s3_) (17 : Int32) [] .null ∧ Exa Z h d2 s14_ ∧ Fld Z h d2 s14_ "elements" s16_ (.ref a2) ∧ Fld Z h d2 s14_ "head" "I" (.int (0 : Int32)) ∧ Fld Z h d2 s14_ "tail" "I" (.int (0 : Int32)) ∧ Arv Z h a2 kk2 (.object s3_) (17 : Int32) [] .null ∧ Ovr Z kk1 s3_ ∧ Ovr Z kk2 s3_ ∧ h0.size ≤ d1 ∧ @LT.lt Nat _ d1 a1 ∧ @LT.lt Nat _ a1 d2 ∧ @LT.lt Nat _ d2 a2
theorem ef_rm_qinit (m : MethodId) (q : Addr) : entryFrame m #[(.ref q)] 1 = mkF m 0 #[.val (.ref q)] [] := by first | (simp [entryFrame, mkF, argsToLocals, Value.category]; done) | rfl
set_option maxRecDepth 65536 in
set_option maxHeartbeats 40000000 in
theorem rm_qinit (l : Launch) (Z : State) (a0 : Array Value) (hw : ∀ d ∈ tables_1, d.before a0 Z = true) (ws : List Jvm.Cond) (q : Addr) (h0 : Heap) (n0 : Nat) (O0 : Old Z n0 h0) (Eq : Exa Z h0 q s13_) (F1 : Fld Z h0 q s13_ "conversions" s17_ .null) (F2 : Fld Z h0 q s13_ "requests" s17_ .null) (gq : n0 ≤ q) :
    MetFree l (⟨s13_, "<init>", "()V"⟩ : MethodName) (head1 (Jvm.Cond.code (⟨s13_, "<init>", "()V"⟩ : MethodName) prog_12_method_1_code 1 none :: ws) ({ frames := 3, cells := 4, slots := 40, locals := 38 } : Room)) (fun a U => a = #[(.ref q)] ∧ Z.Warmed39 U.vm ∧ U.heap = h0) (fun _ _ _ _ _ => True) (fun _ U o U' => ∃ v L, o = .returned v ∧ Q_rm_qinit Z q h0 n0 v U'.heap L ∧ FrameEnd U o U' L ({ frames := 3, cells := 4, slots := 40, locals := 38 } : Room).cells ({ frames := 3, cells := 4, slots := 40, locals := 38 } : Room).slots) := by
  refine MetFree.of_bodySF (plainFor_of_name own_pn_com_example_admit1_admit1_lock_LockEntry_Queues) hisR ?_
  intro p e s m args below meth c s₁ Bd hml0 hP hK
  obtain ⟨rfl, hZ, hh⟩ := hP
  have hx := Bd.exec
  have hby := Bd.bytes
  have hml : c.maxLocals = 1 := hml0
  have hown : s.vm.findClass s13_ = some m.cls := findClass_of_methodNamed Bd.named
  have hnm := (name_of_methodNamed Bd.named Bd.method).1
  have X0 : Stand p l e ({ frames := 3, cells := 4, slots := 40, locals := 38 } : Room) s m #[(.ref q)] below meth c s₁ [] 0 0 := Stand.of_body Bd
  have e0 : s₁.heap = h0 := by rw [← hh, Bd.state]; rfl
  have N0 := Fr.nil n0
  have Z0 : n0 ≤ h0.size := by rw [← O0.1]; exact O0.2.1
  show own_Go p e below (s₁.setTop (entryFrame m #[(.ref q)] 1)) (fun t o => ∃ v L, o = .returned v ∧ Q_rm_qinit Z q h0 n0 v t.heap L ∧ FrameEnd s o t L ({ frames := 3, cells := 4, slots := 40, locals := 38 } : Room).cells ({ frames := 3, cells := 4, slots := 40, locals := 38 } : Room).slots)
  rw [ef_rm_qinit m q]
  have lt_Eq : h0.size > q := Eq.lt
  have lt_F1 : h0.size > q := F1.lt
  have lt_F2 : h0.size > q := F2.lt
  refine own_by (fun _ k => XS.aloadN X0.here hx rfl (hb hby D6_0) rfl rfl k) ?_
  obtain ⟨T1, X1, e1, st1⟩ := initO X0 hx hZ hown (own_w hw 57 rfl) (own_w hw 7 rfl) (own_w hw 8 rfl) e0 (g := (mkF m 1 #[.val (.ref q)] [(.ref q)])) rfl (by rw [hml]; rfl) rfl (hb hby D6_1) (by decide) (W := 0) (by show 2 * 0 + _ ≤ _; exact Nat.le_of_eq rfl) (by decide)
  refine own_by st1 ?_
  refine own_by (fun _ k => XS.aloadN X1.here hx rfl (hb hby D6_4) rfl rfl k) ?_
  obtain ⟨T2, h2, X2, e2, E2, A2, D2, U2, st2⟩ := newO X1 hx hZ hown (own_w hw 58 rfl) (own_w hw 59 rfl) (own_w hw 60 rfl) e1 (g := (mkF m 5 #[.val (.ref q)] [(.ref q)])) rfl (hb hby D6_5) (by decide) (by decide)
  obtain ⟨ob2, g2⟩ : ∃ z, z = h0.size := ⟨_, rfl⟩
  rw [← g2] at A2 D2 U2 st2
  refine own_by st2 ?_
  have z2 := E2.1
  have lt2 : h2.size > ob2 := A2.lt
  refine own_by (fun _ k => XS.dup X2.here hx rfl (hb hby D6_8) rfl rfl k) ?_
  have O3 : Old Z n0 h2 := (O0.ext E2)
  obtain ⟨_, _, ⟨T4, L4, k4, n4⟩, -, X4, ⟨Lc4, hQ4, l4, y4, z4⟩, st4⟩ := X2.specialBack hx (y := (⟨s14_, "<init>", "()V"⟩ : MethodName)) rfl hown (mvT hZ (own_w hw 61 rfl)) (mvT hZ (own_w hw 62 rfl)) (mvT hZ (own_w hw 63 rfl)) (by decide) (backOf (W := 2) (rm_adinit l Z a0 hw [] ob2 h2 n0 O3 A2 (show Fld Z h2 ob2 s14_ "elements" s16_ .null from D2 (Or.inl (own_w hw 74 rfl)) (ty := (.array (.object s3_))) (by decide)) (show Fld Z h2 ob2 s14_ "head" "I" (.int (0 : Int32)) from D2 (Or.inl (own_w hw 94 rfl)) (ty := .int) (by decide)) (show Fld Z h2 ob2 s14_ "tail" "I" (.int (0 : Int32)) from D2 (Or.inl (own_w hw 91 rfl)) (ty := .int) (by decide)) (by first | assumption | omega | decide)) hZ (own_w hw 63 rfl) (own_w hw 60 rfl) (by decide) (by decide)) (g := (mkF m 9 #[.val (.ref q)] [(.ref ob2), (.ref ob2), (.ref q)])) rfl (by rw [hml]; rfl) (Steps.refl _) (a := ob2) (argsL := []) (rest := [(.ref ob2), (.ref q)]) (lenOf own_pd__28_29V rfl) rfl (by show 2 * 0 + _ ≤ _; exact Nat.le_of_eq rfl) (hb hby D6_9) (fun _ _ => ⟨rfl, e2, (by decide : 1 + 1 ≤ _), (by decide : 3 + 17 ≤ _)⟩)
  dsimp only [Pt.U, Pt.locs, Pt.cells, Pt.slots] at X4 l4 y4 z4 st4 hQ4
  subst l4 y4 z4
  obtain ⟨a1_4, kk1_4, rfl, M4, K4, g4_0, g4_1, g4_2, g4_3, g4_4, r4_0, r4_1⟩ := hQ4
  have N4 := Fr.app N0 M4
  refine own_by (fun _ k => st4.trans k) ?_
  have z4 := K4.1
  have lt_g4_0 : T4.heap.size > ob2 := g4_0.lt
  have lt_g4_1 : T4.heap.size > ob2 := g4_1.lt
  have lt_g4_2 : T4.heap.size > ob2 := g4_2.lt
  have lt_g4_3 : T4.heap.size > ob2 := g4_3.lt
  have lt_g4_4 : T4.heap.size > a1_4 := g4_4.lt
  show own_Go p e below (T4.setTop (mkF m 12 #[.val (.ref q)] [(.ref ob2), (.ref q)])) _
  have fc5 : Fld Z T4.heap q s13_ "conversions" s17_ .null := ((F1.ext E2).keep K4 (ninS (own_ne (by omega)) nin0))
  have fc6 : Exa Z T4.heap q s13_ := ((Eq.ext E2).keep K4)
  obtain ⟨T7, h7, X7, e7, W7, st7⟩ := putF X4 hx hZ hown (host := "") (Or.inl (own_w hw 75 rfl)) Via.refl rfl fc5 fc6 (Or.inr ⟨(own_w hw 76 rfl), rfl, hnm⟩) (own_w hw 52 rfl) (ty := (.object s14_)) (by decide) rfl rfl (g := (mkF m 12 #[.val (.ref q)] [(.ref ob2), (.ref q)])) rfl rfl (hb hby D6_12)
  refine own_by st7 ?_
  have z7 := W7.size
  have N7 := Fr.snoc X7 N4 (by omega)
  have Fw7 : Fld Z h7 q s13_ "conversions" s17_ (.ref ob2) := fc5.same W7
  refine own_by (fun _ k => XS.aloadN X7.here hx rfl (hb hby D6_15) rfl rfl k) ?_
  obtain ⟨T8, h8, X8, e8, E8, A8, D8, U8, st8⟩ := newO X7 hx hZ hown (own_w hw 58 rfl) (own_w hw 59 rfl) (own_w hw 60 rfl) e7 (g := (mkF m 16 #[.val (.ref q)] [(.ref q)])) rfl (hb hby D6_16) (by decide) (by decide)
  obtain ⟨ob8, g8⟩ : ∃ z, z = h7.size := ⟨_, rfl⟩
  rw [← g8] at A8 D8 U8 st8
  refine own_by st8 ?_
  have z8 := E8.1
  have lt8 : h8.size > ob8 := A8.lt
  refine own_by (fun _ k => XS.dup X8.here hx rfl (hb hby D6_19) rfl rfl k) ?_
  have O9 : Old Z n0 h8 := (((O3.keep K4 (allS (by omega) all0)).wr W7 (by omega)).ext E8)
  obtain ⟨_, _, ⟨T10, L10, k10, n10⟩, -, X10, ⟨Lc10, hQ10, l10, y10, z10⟩, st10⟩ := X8.specialBack hx (y := (⟨s14_, "<init>", "()V"⟩ : MethodName)) rfl hown (mvT hZ (own_w hw 61 rfl)) (mvT hZ (own_w hw 62 rfl)) (mvT hZ (own_w hw 63 rfl)) (by decide) (backOf (W := 2) (rm_adinit l Z a0 hw [] ob8 h8 n0 O9 A8 (show Fld Z h8 ob8 s14_ "elements" s16_ .null from D8 (Or.inl (own_w hw 74 rfl)) (ty := (.array (.object s3_))) (by decide)) (show Fld Z h8 ob8 s14_ "head" "I" (.int (0 : Int32)) from D8 (Or.inl (own_w hw 94 rfl)) (ty := .int) (by decide)) (show Fld Z h8 ob8 s14_ "tail" "I" (.int (0 : Int32)) from D8 (Or.inl (own_w hw 91 rfl)) (ty := .int) (by decide)) (by first | assumption | omega | decide)) hZ (own_w hw 63 rfl) (own_w hw 60 rfl) (by decide) (by decide)) (g := (mkF m 20 #[.val (.ref q)] [(.ref ob8), (.ref ob8), (.ref q)])) rfl (by rw [hml]; rfl) (Steps.refl _) (a := ob8) (argsL := []) (rest := [(.ref ob8), (.ref q)]) (lenOf own_pd__28_29V rfl) rfl (by show 2 * 0 + _ ≤ _; exact Nat.le_of_eq rfl) (hb hby D6_20) (fun _ _ => ⟨rfl, e8, (by decide : 3 + 1 ≤ _), (by decide : 23 + 17 ≤ _)⟩)
  dsimp only [Pt.U, Pt.locs, Pt.cells, Pt.slots] at X10 l10 y10 z10 st10 hQ10
  subst l10 y10 z10
  obtain ⟨a1_10, kk1_10, rfl, M10, K10, g10_0, g10_1, g10_2, g10_3, g10_4, r10_0, r10_1⟩ := hQ10
  have N10 := Fr.app N7 M10
  refine own_by (fun _ k => st10.trans k) ?_
  have z10 := K10.1
  have lt_g10_0 : T10.heap.size > ob8 := g10_0.lt
  have lt_g10_1 : T10.heap.size > ob8 := g10_1.lt
  have lt_g10_2 : T10.heap.size > ob8 := g10_2.lt
  have lt_g10_3 : T10.heap.size > ob8 := g10_3.lt
  have lt_g10_4 : T10.heap.size > a1_10 := g10_4.lt
  have fc11 : Fld Z T10.heap q s13_ "requests" s17_ .null := (((((F2.ext E2).keep K4 (ninS (own_ne (by omega)) nin0)).other W7 (Or.inr (slot_ne (a0 := a0) (Or.inr (own_w hw 78 rfl)) (Or.inr (own_w hw 76 rfl)) (by decide) (t := (.object s14_)) (by decide) (t' := (.object s14_)) (by decide)))).ext E8).keep K10 (ninS (own_ne (by omega)) nin0))
  have fc12 : Exa Z T10.heap q s13_ := (((fc6.wr W7).ext E8).keep K10)
  obtain ⟨T13, h13, X13, e13, W13, st13⟩ := putF X10 hx hZ hown (host := "") (Or.inl (own_w hw 77 rfl)) Via.refl rfl fc11 fc12 (Or.inr ⟨(own_w hw 78 rfl), rfl, hnm⟩) (own_w hw 52 rfl) (ty := (.object s14_)) (by decide) rfl rfl (g := (mkF m 23 #[.val (.ref q)] [(.ref ob8), (.ref q)])) rfl rfl (hb hby D6_23)
  refine own_by st13 ?_
  have z13 := W13.size
  have N13 := Fr.snoc X13 N10 (by omega)
  have Fw13 : Fld Z h13 q s13_ "requests" s17_ (.ref ob8) := fc11.same W13
  show own_Go p e below (T13.setTop (mkF m 26 #[.val (.ref q)] [])) _
  have fc14 : Exa Z h13 q s13_ := (fc12.wr W13)
  have fc15 : Fld Z h13 q s13_ "conversions" s17_ (.ref ob2) := (((Fw7.ext E8).keep K10 (ninS (own_ne (by omega)) nin0)).other W13 (Or.inr (slot_ne (a0 := a0) (Or.inr (own_w hw 76 rfl)) (Or.inr (own_w hw 78 rfl)) (by decide) (t := (.object s14_)) (by decide) (t' := (.object s14_)) (by decide))))
  have fc16 : Exa Z h13 ob2 s14_ := ((((g4_0.wr W7).ext E8).keep K10).wr W13)
  have fc17 : Fld Z h13 ob2 s14_ "elements" s16_ (.ref a1_4) := ((((g4_1.other W7 (Or.inl (own_ne (by omega)))).ext E8).keep K10 (ninS (own_ne (by omega)) nin0)).other W13 (Or.inl (own_ne (by omega))))
  have fc18 : Fld Z h13 ob2 s14_ "head" "I" (.int (0 : Int32)) := ((((g4_2.other W7 (Or.inl (own_ne (by omega)))).ext E8).keep K10 (ninS (own_ne (by omega)) nin0)).other W13 (Or.inl (own_ne (by omega))))
  have fc19 : Fld Z h13 ob2 s14_ "tail" "I" (.int (0 : Int32)) := ((((g4_3.other W7 (Or.inl (own_ne (by omega)))).ext E8).keep K10 (ninS (own_ne (by omega)) nin0)).other W13 (Or.inl (own_ne (by omega))))
  have fc20 : Arv Z h13 a1_4 kk1_4 (.object s3_) (17 : Int32) [] .null := ((((g4_4.other W7 (own_ne (by omega))).ext E8).keep K10 (ninS (own_ne (by omega)) nin0)).other W13 (own_ne (by omega)))
  have fc21 : Exa Z h13 ob8 s14_ := (g10_0.wr W13)
  have fc22 : Fld Z h13 ob8 s14_ "elements" s16_ (.ref a1_10) := (g10_1.other W13 (Or.inl (own_ne (by omega))))
  have fc23 : Fld Z h13 ob8 s14_ "head" "I" (.int (0 : Int32)) := (g10_2.other W13 (Or.inl (own_ne (by omega))))
  have fc24 : Fld Z h13 ob8 s14_ "tail" "I" (.int (0 : Int32)) := (g10_3.other W13 (Or.inl (own_ne (by omega))))
  have fc25 : Arv Z h13 a1_10 kk1_10 (.object s3_) (17 : Int32) [] .null := (g10_4.other W13 (own_ne (by omega)))
  have K26 : Keep h0 h13 [q] := (((((((Keep.refl h0 [q]).ext E2).trans K4 (allS (P := fun x => x ∈ [q] ∨ h0.size ≤ x) (Or.inr (by omega)) all0)).wr W7 (Or.inl (List.mem_of_getElem? (i := 0) rfl))).ext E8).trans K10 (allS (P := fun x => x ∈ [q] ∨ h0.size ≤ x) (Or.inr (by omega)) all0)).wr W13 (Or.inl (List.mem_of_getElem? (i := 0) rfl)))
  obtain ⟨fs, hr, hrun, hended, hW, hsame⟩ := X13.leave (v := none) (fun h => rfl)
  refine ⟨_, _, X13.returnOut hx Bd.returns (hb hby D6_26) hr, hrun, hended, _, _, rfl, ?_, ⟨_, rfl⟩, hW, hsame.mono (by decide) (by decide)⟩
  show Q_rm_qinit Z q h0 n0 _ T13.heap _
  rw [e13]
  exact ⟨ob2, a1_4, kk1_4, ob8, a1_10, kk1_10, rfl, N13, K26, fc14, fc15, Fw13, fc16, fc17, fc18, fc19, fc20, fc21, fc22, fc23, fc24, fc25, (by first | assumption | omega), (by first | assumption | omega), (by first | assumption | omega), (by first | assumption | omega), (by first | assumption | omega), (by first | assumption | omega)⟩
theorem D3_0 : decode prog_21_method_1_code 0 = .ok (.aload_n 0, 1) := by decide +kernel
theorem D3_1 : decode prog_21_method_1_code 1 = .ok (.invokespecial 1, 3) := by decide +kernel
theorem D3_4 : decode prog_21_method_1_code 4 = .ok (.aload_n 0, 1) := by decide +kernel
theorem D3_5 : decode prog_21_method_1_code 5 = .ok (.aload_n 1, 1) := by decide +kernel
theorem D3_6 : decode prog_21_method_1_code 6 = .ok (.putfield 7, 3) := by decide +kernel
theorem D3_9 : decode prog_21_method_1_code 9 = .ok (.aload_n 0, 1) := by decide +kernel
theorem D3_10 : decode prog_21_method_1_code 10 = .ok (.aload_n 2, 1) := by decide +kernel
theorem D3_11 : decode prog_21_method_1_code 11 = .ok (.putfield 13, 3) := by decide +kernel
theorem D3_14 : decode prog_21_method_1_code 14 = .ok (.aload_n 0, 1) := by decide +kernel
theorem D3_15 : decode prog_21_method_1_code 15 = .ok (.aload_n 3, 1) := by decide +kernel
theorem D3_16 : decode prog_21_method_1_code 16 = .ok (.putfield 17, 3) := by decide +kernel
theorem D3_19 : decode prog_21_method_1_code 19 = .ok (.aload_n 0, 1) := by decide +kernel
theorem D3_20 : decode prog_21_method_1_code 20 = .ok (.iload 4, 2) := by decide +kernel
theorem D3_22 : decode prog_21_method_1_code 22 = .ok (.putfield 21, 3) := by decide +kernel
theorem D3_25 : decode prog_21_method_1_code 25 = .ok (.aload_n 0, 1) := by decide +kernel
theorem D3_26 : decode prog_21_method_1_code 26 = .ok (.iload 5, 2) := by decide +kernel
theorem D3_28 : decode prog_21_method_1_code 28 = .ok (.putfield 25, 3) := by decide +kernel
theorem D3_31 : decode prog_21_method_1_code 31 = .ok (.aload_n 0, 1) := by decide +kernel
theorem D3_32 : decode prog_21_method_1_code 32 = .ok (.lload 6, 2) := by decide +kernel
theorem D3_34 : decode prog_21_method_1_code 34 = .ok (.putfield 28, 3) := by decide +kernel
theorem D3_37 : decode prog_21_method_1_code 37 = .ok (.aload_n 0, 1) := by decide +kernel
theorem D3_38 : decode prog_21_method_1_code 38 = .ok (.lload 8, 2) := by decide +kernel
theorem D3_40 : decode prog_21_method_1_code 40 = .ok (.putfield 32, 3) := by decide +kernel
theorem D3_43 : decode prog_21_method_1_code 43 = .ok (.aload_n 0, 1) := by decide +kernel
theorem D3_44 : decode prog_21_method_1_code 44 = .ok (.lload 10, 2) := by decide +kernel
theorem D3_46 : decode prog_21_method_1_code 46 = .ok (.putfield 35, 3) := by decide +kernel
theorem D3_49 : decode prog_21_method_1_code 49 = .ok (.return_, 1) := by decide +kernel
def Q_rm_winit0 (Z : State) (t1 : Addr) (en : Addr) (ar : Int64) (h0 : Heap) (n0 : Nat) (v : Option Value) (h : Heap) (L : List Loc) : Prop := v = none ∧ Fr n0 L ∧ Keep h0 h [t1] ∧ Exa Z h t1 s5_ ∧ Fld Z h t1 s5_ "conversion" "Z" (.int (0 : Int32))
theorem ef_rm_winit0 (m : MethodId) (t1 : Addr) (en : Addr) (ar : Int64) : entryFrame m #[(.ref t1), .null, (.ref en), .null, (.int (0 : Int32)), (.int (0 : Int32)), (.long (0 : Int64)), (.long (0 : Int64)), (.long ar)] 12 = mkF m 0 #[.val (.ref t1), .val .null, .val (.ref en), .val .null, .val (.int (0 : Int32)), .val (.int (0 : Int32)), .val (.long (0 : Int64)), .second, .val (.long (0 : Int64)), .second, .val (.long ar), .second] [] := by first | (simp [entryFrame, mkF, argsToLocals, Value.category]; done) | rfl
set_option maxRecDepth 65536 in
set_option maxHeartbeats 40000000 in
theorem rm_winit0 (l : Launch) (Z : State) (a0 : Array Value) (hw : ∀ d ∈ tables_1, d.before a0 Z = true) (ws : List Jvm.Cond) (t1 : Addr) (en : Addr) (ar : Int64) (h0 : Heap) (n0 : Nat) (O0 : Old Z n0 h0) (Et : Exa Z h0 t1 s5_) (Psession : Fld Z h0 t1 s5_ "session" s7_ .null) (Plock : Fld Z h0 t1 s5_ "lock" s8_ .null) (Pmode : Fld Z h0 t1 s5_ "mode" s9_ .null) (Pconversion : Fld Z h0 t1 s5_ "conversion" "Z" (.int (0 : Int32))) (PreleaseOnCommit : Fld Z h0 t1 s5_ s10_ "Z" (.int (0 : Int32))) (Psince : Fld Z h0 t1 s5_ "since" "J" (.long (0 : Int64))) (Pdeadline : Fld Z h0 t1 s5_ "deadline" "J" (.long (0 : Int64))) (Parrival : Fld Z h0 t1 s5_ "arrival" "J" (.long (0 : Int64))) (gt : n0 ≤ t1) :
    MetFree l (⟨s5_, "<init>", s6_⟩ : MethodName) (head1 (Jvm.Cond.code (⟨s5_, "<init>", s6_⟩ : MethodName) prog_21_method_1_code 12 none :: ws) ({ frames := 1, cells := 0, slots := 0, locals := 12 } : Room)) (fun a U => a = #[(.ref t1), .null, (.ref en), .null, (.int (0 : Int32)), (.int (0 : Int32)), (.long (0 : Int64)), (.long (0 : Int64)), (.long ar)] ∧ Z.Warmed39 U.vm ∧ U.heap = h0) (fun _ _ _ _ _ => True) (fun _ U o U' => ∃ v L, o = .returned v ∧ Q_rm_winit0 Z t1 en ar h0 n0 v U'.heap L ∧ FrameEnd U o U' L ({ frames := 1, cells := 0, slots := 0, locals := 12 } : Room).cells ({ frames := 1, cells := 0, slots := 0, locals := 12 } : Room).slots) := by
  refine MetFree.of_bodySF (plainFor_of_name own_pn_com_example_admit1_admit1_lock_Wait) hisR ?_
  intro p e s m args below meth c s₁ Bd hml0 hP hK
  obtain ⟨rfl, hZ, hh⟩ := hP
  have hx := Bd.exec
  have hby := Bd.bytes
  have hml : c.maxLocals = 12 := hml0
  have hown : s.vm.findClass s5_ = some m.cls := findClass_of_methodNamed Bd.named
  have hnm := (name_of_methodNamed Bd.named Bd.method).1
  have X0 : Stand p l e ({ frames := 1, cells := 0, slots := 0, locals := 12 } : Room) s m #[(.ref t1), .null, (.ref en), .null, (.int (0 : Int32)), (.int (0 : Int32)), (.long (0 : Int64)), (.long (0 : Int64)), (.long ar)] below meth c s₁ [] 0 0 := Stand.of_body Bd
  have e0 : s₁.heap = h0 := by rw [← hh, Bd.state]; rfl
  have N0 := Fr.nil n0
  have Z0 : n0 ≤ h0.size := by rw [← O0.1]; exact O0.2.1
  show own_Go p e below (s₁.setTop (entryFrame m #[(.ref t1), .null, (.ref en), .null, (.int (0 : Int32)), (.int (0 : Int32)), (.long (0 : Int64)), (.long (0 : Int64)), (.long ar)] 12)) (fun t o => ∃ v L, o = .returned v ∧ Q_rm_winit0 Z t1 en ar h0 n0 v t.heap L ∧ FrameEnd s o t L ({ frames := 1, cells := 0, slots := 0, locals := 12 } : Room).cells ({ frames := 1, cells := 0, slots := 0, locals := 12 } : Room).slots)
  rw [ef_rm_winit0 m t1 en ar]
  have lt_Et : h0.size > t1 := Et.lt
  have lt_Psession : h0.size > t1 := Psession.lt
  have lt_Plock : h0.size > t1 := Plock.lt
  have lt_Pmode : h0.size > t1 := Pmode.lt
  have lt_Pconversion : h0.size > t1 := Pconversion.lt
  have lt_PreleaseOnCommit : h0.size > t1 := PreleaseOnCommit.lt
  have lt_Psince : h0.size > t1 := Psince.lt
  have lt_Pdeadline : h0.size > t1 := Pdeadline.lt
  have lt_Parrival : h0.size > t1 := Parrival.lt
  refine own_by (fun _ k => XS.aloadN X0.here hx rfl (hb hby D3_0) rfl rfl k) ?_
  obtain ⟨T1, X1, e1, st1⟩ := initO X0 hx hZ hown (own_w hw 22 rfl) (own_w hw 7 rfl) (own_w hw 8 rfl) e0 (g := (mkF m 1 #[.val (.ref t1), .val .null, .val (.ref en), .val .null, .val (.int (0 : Int32)), .val (.int (0 : Int32)), .val (.long (0 : Int64)), .second, .val (.long (0 : Int64)), .second, .val (.long ar), .second] [(.ref t1)])) rfl (by rw [hml]; rfl) rfl (hb hby D3_1) (by decide) (W := 0) (by show 2 * 0 + _ ≤ _; exact Nat.le_of_eq rfl) (by decide)
  refine own_by st1 ?_
  refine own_by (fun _ k => XS.aloadN X1.here hx rfl (hb hby D3_4) rfl rfl k) ?_
  refine own_by (fun _ k => XS.aloadN X1.here hx rfl (hb hby D3_5) rfl rfl k) ?_
  obtain ⟨T2, h2, X2, e2, W2, st2⟩ := putF X1 hx hZ hown (host := "") (Or.inl (own_w hw 23 rfl)) Via.refl e1 Psession Et (Or.inr ⟨(own_w hw 24 rfl), rfl, hnm⟩) (own_w hw 17 rfl) (ty := (.object "com/example/admit1/admit1/lock/LockSession")) (by decide) rfl rfl (g := (mkF m 6 #[.val (.ref t1), .val .null, .val (.ref en), .val .null, .val (.int (0 : Int32)), .val (.int (0 : Int32)), .val (.long (0 : Int64)), .second, .val (.long (0 : Int64)), .second, .val (.long ar), .second] [.null, (.ref t1)])) rfl rfl (hb hby D3_6)
  refine own_by st2 ?_
  have z2 := W2.size
  have N2 := Fr.snoc X2 N0 (by omega)
  have Fw2 : Fld Z h2 t1 s5_ "session" s7_ .null := Psession.same W2
  refine own_by (fun _ k => XS.aloadN X2.here hx rfl (hb hby D3_9) rfl rfl k) ?_
  show own_Go p e below (T2.setTop (mkF m 10 #[.val (.ref t1), .val .null, .val (.ref en), .val .null, .val (.int (0 : Int32)), .val (.int (0 : Int32)), .val (.long (0 : Int64)), .second, .val (.long (0 : Int64)), .second, .val (.long ar), .second] [(.ref t1)])) _
  refine own_by (fun _ k => XS.aloadN X2.here hx rfl (hb hby D3_10) rfl rfl k) ?_
  have fc3 : Fld Z h2 t1 s5_ "lock" s8_ .null := (Plock.other W2 (Or.inr (slot_ne (a0 := a0) (Or.inr (own_w hw 26 rfl)) (Or.inr (own_w hw 24 rfl)) (by decide) (t := (.object s2_)) (by decide) (t' := (.object "com/example/admit1/admit1/lock/LockSession")) (by decide))))
  have fc4 : Exa Z h2 t1 s5_ := (Et.wr W2)
  obtain ⟨T5, h5, X5, e5, W5, st5⟩ := putF X2 hx hZ hown (host := "") (Or.inl (own_w hw 25 rfl)) Via.refl e2 fc3 fc4 (Or.inr ⟨(own_w hw 26 rfl), rfl, hnm⟩) (own_w hw 17 rfl) (ty := (.object s2_)) (by decide) rfl rfl (g := (mkF m 11 #[.val (.ref t1), .val .null, .val (.ref en), .val .null, .val (.int (0 : Int32)), .val (.int (0 : Int32)), .val (.long (0 : Int64)), .second, .val (.long (0 : Int64)), .second, .val (.long ar), .second] [(.ref en), (.ref t1)])) rfl rfl (hb hby D3_11)
  refine own_by st5 ?_
  have z5 := W5.size
  have N5 := Fr.snoc X5 N2 (by omega)
  have Fw5 : Fld Z h5 t1 s5_ "lock" s8_ (.ref en) := fc3.same W5
  refine own_by (fun _ k => XS.aloadN X5.here hx rfl (hb hby D3_14) rfl rfl k) ?_
  refine own_by (fun _ k => XS.aloadN X5.here hx rfl (hb hby D3_15) rfl rfl k) ?_
  have fc6 : Fld Z h5 t1 s5_ "mode" s9_ .null := ((Pmode.other W2 (Or.inr (slot_ne (a0 := a0) (Or.inr (own_w hw 28 rfl)) (Or.inr (own_w hw 24 rfl)) (by decide) (t := (.object "com/example/admit1/admit1/lock/LockMode")) (by decide) (t' := (.object "com/example/admit1/admit1/lock/LockSession")) (by decide)))).other W5 (Or.inr (slot_ne (a0 := a0) (Or.inr (own_w hw 28 rfl)) (Or.inr (own_w hw 26 rfl)) (by decide) (t := (.object "com/example/admit1/admit1/lock/LockMode")) (by decide) (t' := (.object s2_)) (by decide))))
  have fc7 : Exa Z h5 t1 s5_ := (fc4.wr W5)
  obtain ⟨T8, h8, X8, e8, W8, st8⟩ := putF X5 hx hZ hown (host := "") (Or.inl (own_w hw 27 rfl)) Via.refl e5 fc6 fc7 (Or.inr ⟨(own_w hw 28 rfl), rfl, hnm⟩) (own_w hw 17 rfl) (ty := (.object "com/example/admit1/admit1/lock/LockMode")) (by decide) rfl rfl (g := (mkF m 16 #[.val (.ref t1), .val .null, .val (.ref en), .val .null, .val (.int (0 : Int32)), .val (.int (0 : Int32)), .val (.long (0 : Int64)), .second, .val (.long (0 : Int64)), .second, .val (.long ar), .second] [.null, (.ref t1)])) rfl rfl (hb hby D3_16)
  refine own_by st8 ?_
  have z8 := W8.size
  have N8 := Fr.snoc X8 N5 (by omega)
  have Fw8 : Fld Z h8 t1 s5_ "mode" s9_ .null := fc6.same W8
  refine own_by (fun _ k => XS.aloadN X8.here hx rfl (hb hby D3_19) rfl rfl k) ?_
  show own_Go p e below (T8.setTop (mkF m 20 #[.val (.ref t1), .val .null, .val (.ref en), .val .null, .val (.int (0 : Int32)), .val (.int (0 : Int32)), .val (.long (0 : Int64)), .second, .val (.long (0 : Int64)), .second, .val (.long ar), .second] [(.ref t1)])) _
  refine own_by (fun _ k => XS.iload X8.here hx rfl (hb hby D3_20) rfl k) ?_
  have fc9 : Fld Z h8 t1 s5_ "conversion" "Z" (.int (0 : Int32)) := (((Pconversion.other W2 (Or.inr (slot_ne (a0 := a0) (Or.inr (own_w hw 30 rfl)) (Or.inr (own_w hw 24 rfl)) (by decide) (t := .boolean) (by decide) (t' := (.object "com/example/admit1/admit1/lock/LockSession")) (by decide)))).other W5 (Or.inr (slot_ne (a0 := a0) (Or.inr (own_w hw 30 rfl)) (Or.inr (own_w hw 26 rfl)) (by decide) (t := .boolean) (by decide) (t' := (.object s2_)) (by decide)))).other W8 (Or.inr (slot_ne (a0 := a0) (Or.inr (own_w hw 30 rfl)) (Or.inr (own_w hw 28 rfl)) (by decide) (t := .boolean) (by decide) (t' := (.object "com/example/admit1/admit1/lock/LockMode")) (by decide))))
  have fc10 : Exa Z h8 t1 s5_ := (fc7.wr W8)
  obtain ⟨T11, h11, X11, e11, W11, st11⟩ := putFN X8 hx hZ hown (own_w hw 29 rfl) Via.refl e8 fc9 fc10 (Or.inr ⟨(own_w hw 30 rfl), rfl, hnm⟩) (own_w hw 17 rfl) (ty := .boolean) (v' := (.int (0 : Int32))) (by decide) rfl rfl (g := (mkF m 22 #[.val (.ref t1), .val .null, .val (.ref en), .val .null, .val (.int (0 : Int32)), .val (.int (0 : Int32)), .val (.long (0 : Int64)), .second, .val (.long (0 : Int64)), .second, .val (.long ar), .second] [(.int (0 : Int32)), (.ref t1)])) rfl rfl (hb hby D3_22)
  refine own_by st11 ?_
  have z11 := W11.size
  have N11 := Fr.snoc X11 N8 (by omega)
  have Fw11 : Fld Z h11 t1 s5_ "conversion" "Z" (.int (0 : Int32)) := fc9.same W11
  refine own_by (fun _ k => XS.aloadN X11.here hx rfl (hb hby D3_25) rfl rfl k) ?_
  refine own_by (fun _ k => XS.iload X11.here hx rfl (hb hby D3_26) rfl k) ?_
  have fc12 : Fld Z h11 t1 s5_ s10_ "Z" (.int (0 : Int32)) := ((((PreleaseOnCommit.other W2 (Or.inr (slot_ne (a0 := a0) (Or.inr (own_w hw 32 rfl)) (Or.inr (own_w hw 24 rfl)) (by decide) (t := .boolean) (by decide) (t' := (.object "com/example/admit1/admit1/lock/LockSession")) (by decide)))).other W5 (Or.inr (slot_ne (a0 := a0) (Or.inr (own_w hw 32 rfl)) (Or.inr (own_w hw 26 rfl)) (by decide) (t := .boolean) (by decide) (t' := (.object s2_)) (by decide)))).other W8 (Or.inr (slot_ne (a0 := a0) (Or.inr (own_w hw 32 rfl)) (Or.inr (own_w hw 28 rfl)) (by decide) (t := .boolean) (by decide) (t' := (.object "com/example/admit1/admit1/lock/LockMode")) (by decide)))).other W11 (Or.inr (slot_ne (a0 := a0) (Or.inr (own_w hw 32 rfl)) (Or.inr (own_w hw 30 rfl)) (by decide) (t := .boolean) (by decide) (t' := .boolean) (by decide))))
  have fc13 : Exa Z h11 t1 s5_ := (fc10.wr W11)
  obtain ⟨T14, h14, X14, e14, W14, st14⟩ := putFN X11 hx hZ hown (own_w hw 31 rfl) Via.refl e11 fc12 fc13 (Or.inr ⟨(own_w hw 32 rfl), rfl, hnm⟩) (own_w hw 17 rfl) (ty := .boolean) (v' := (.int (0 : Int32))) (by decide) rfl rfl (g := (mkF m 28 #[.val (.ref t1), .val .null, .val (.ref en), .val .null, .val (.int (0 : Int32)), .val (.int (0 : Int32)), .val (.long (0 : Int64)), .second, .val (.long (0 : Int64)), .second, .val (.long ar), .second] [(.int (0 : Int32)), (.ref t1)])) rfl rfl (hb hby D3_28)
  refine own_by st14 ?_
  have z14 := W14.size
  have N14 := Fr.snoc X14 N11 (by omega)
  have Fw14 : Fld Z h14 t1 s5_ s10_ "Z" (.int (0 : Int32)) := fc12.same W14
  refine own_by (fun _ k => XS.aloadN X14.here hx rfl (hb hby D3_31) rfl rfl k) ?_
  show own_Go p e below (T14.setTop (mkF m 32 #[.val (.ref t1), .val .null, .val (.ref en), .val .null, .val (.int (0 : Int32)), .val (.int (0 : Int32)), .val (.long (0 : Int64)), .second, .val (.long (0 : Int64)), .second, .val (.long ar), .second] [(.ref t1)])) _
  refine own_by (fun _ k => XS.lload X14.here hx rfl (hb hby D3_32) rfl k) ?_
  have fc15 : Fld Z h14 t1 s5_ "since" "J" (.long (0 : Int64)) := (((((Psince.other W2 (Or.inr (slot_ne (a0 := a0) (Or.inr (own_w hw 34 rfl)) (Or.inr (own_w hw 24 rfl)) (by decide) (t := .long) (by decide) (t' := (.object "com/example/admit1/admit1/lock/LockSession")) (by decide)))).other W5 (Or.inr (slot_ne (a0 := a0) (Or.inr (own_w hw 34 rfl)) (Or.inr (own_w hw 26 rfl)) (by decide) (t := .long) (by decide) (t' := (.object s2_)) (by decide)))).other W8 (Or.inr (slot_ne (a0 := a0) (Or.inr (own_w hw 34 rfl)) (Or.inr (own_w hw 28 rfl)) (by decide) (t := .long) (by decide) (t' := (.object "com/example/admit1/admit1/lock/LockMode")) (by decide)))).other W11 (Or.inr (slot_ne (a0 := a0) (Or.inr (own_w hw 34 rfl)) (Or.inr (own_w hw 30 rfl)) (by decide) (t := .long) (by decide) (t' := .boolean) (by decide)))).other W14 (Or.inr (slot_ne (a0 := a0) (Or.inr (own_w hw 34 rfl)) (Or.inr (own_w hw 32 rfl)) (by decide) (t := .long) (by decide) (t' := .boolean) (by decide))))
  have fc16 : Exa Z h14 t1 s5_ := (fc13.wr W14)
  obtain ⟨T17, h17, X17, e17, W17, st17⟩ := putF X14 hx hZ hown (host := "") (Or.inl (own_w hw 33 rfl)) Via.refl e14 fc15 fc16 (Or.inr ⟨(own_w hw 34 rfl), rfl, hnm⟩) (own_w hw 17 rfl) (ty := .long) (by decide) rfl rfl (g := (mkF m 34 #[.val (.ref t1), .val .null, .val (.ref en), .val .null, .val (.int (0 : Int32)), .val (.int (0 : Int32)), .val (.long (0 : Int64)), .second, .val (.long (0 : Int64)), .second, .val (.long ar), .second] [(.long (0 : Int64)), (.ref t1)])) rfl rfl (hb hby D3_34)
  refine own_by st17 ?_
  have z17 := W17.size
  have N17 := Fr.snoc X17 N14 (by omega)
  have Fw17 : Fld Z h17 t1 s5_ "since" "J" (.long (0 : Int64)) := fc15.same W17
  refine own_by (fun _ k => XS.aloadN X17.here hx rfl (hb hby D3_37) rfl rfl k) ?_
  refine own_by (fun _ k => XS.lload X17.here hx rfl (hb hby D3_38) rfl k) ?_
  have fc18 : Fld Z h17 t1 s5_ "deadline" "J" (.long (0 : Int64)) := ((((((Pdeadline.other W2 (Or.inr (slot_ne (a0 := a0) (Or.inr (own_w hw 36 rfl)) (Or.inr (own_w hw 24 rfl)) (by decide) (t := .long) (by decide) (t' := (.object "com/example/admit1/admit1/lock/LockSession")) (by decide)))).other W5 (Or.inr (slot_ne (a0 := a0) (Or.inr (own_w hw 36 rfl)) (Or.inr (own_w hw 26 rfl)) (by decide) (t := .long) (by decide) (t' := (.object s2_)) (by decide)))).other W8 (Or.inr (slot_ne (a0 := a0) (Or.inr (own_w hw 36 rfl)) (Or.inr (own_w hw 28 rfl)) (by decide) (t := .long) (by decide) (t' := (.object "com/example/admit1/admit1/lock/LockMode")) (by decide)))).other W11 (Or.inr (slot_ne (a0 := a0) (Or.inr (own_w hw 36 rfl)) (Or.inr (own_w hw 30 rfl)) (by decide) (t := .long) (by decide) (t' := .boolean) (by decide)))).other W14 (Or.inr (slot_ne (a0 := a0) (Or.inr (own_w hw 36 rfl)) (Or.inr (own_w hw 32 rfl)) (by decide) (t := .long) (by decide) (t' := .boolean) (by decide)))).other W17 (Or.inr (slot_ne (a0 := a0) (Or.inr (own_w hw 36 rfl)) (Or.inr (own_w hw 34 rfl)) (by decide) (t := .long) (by decide) (t' := .long) (by decide))))
  have fc19 : Exa Z h17 t1 s5_ := (fc16.wr W17)
  obtain ⟨T20, h20, X20, e20, W20, st20⟩ := putF X17 hx hZ hown (host := "") (Or.inl (own_w hw 35 rfl)) Via.refl e17 fc18 fc19 (Or.inr ⟨(own_w hw 36 rfl), rfl, hnm⟩) (own_w hw 17 rfl) (ty := .long) (by decide) rfl rfl (g := (mkF m 40 #[.val (.ref t1), .val .null, .val (.ref en), .val .null, .val (.int (0 : Int32)), .val (.int (0 : Int32)), .val (.long (0 : Int64)), .second, .val (.long (0 : Int64)), .second, .val (.long ar), .second] [(.long (0 : Int64)), (.ref t1)])) rfl rfl (hb hby D3_40)
  refine own_by st20 ?_
  have z20 := W20.size
  have N20 := Fr.snoc X20 N17 (by omega)
  have Fw20 : Fld Z h20 t1 s5_ "deadline" "J" (.long (0 : Int64)) := fc18.same W20
  refine own_by (fun _ k => XS.aloadN X20.here hx rfl (hb hby D3_43) rfl rfl k) ?_
  show own_Go p e below (T20.setTop (mkF m 44 #[.val (.ref t1), .val .null, .val (.ref en), .val .null, .val (.int (0 : Int32)), .val (.int (0 : Int32)), .val (.long (0 : Int64)), .second, .val (.long (0 : Int64)), .second, .val (.long ar), .second] [(.ref t1)])) _
  refine own_by (fun _ k => XS.lload X20.here hx rfl (hb hby D3_44) rfl k) ?_
  have fc21 : Fld Z h20 t1 s5_ "arrival" "J" (.long (0 : Int64)) := (((((((Parrival.other W2 (Or.inr (slot_ne (a0 := a0) (Or.inr (own_w hw 38 rfl)) (Or.inr (own_w hw 24 rfl)) (by decide) (t := .long) (by decide) (t' := (.object "com/example/admit1/admit1/lock/LockSession")) (by decide)))).other W5 (Or.inr (slot_ne (a0 := a0) (Or.inr (own_w hw 38 rfl)) (Or.inr (own_w hw 26 rfl)) (by decide) (t := .long) (by decide) (t' := (.object s2_)) (by decide)))).other W8 (Or.inr (slot_ne (a0 := a0) (Or.inr (own_w hw 38 rfl)) (Or.inr (own_w hw 28 rfl)) (by decide) (t := .long) (by decide) (t' := (.object "com/example/admit1/admit1/lock/LockMode")) (by decide)))).other W11 (Or.inr (slot_ne (a0 := a0) (Or.inr (own_w hw 38 rfl)) (Or.inr (own_w hw 30 rfl)) (by decide) (t := .long) (by decide) (t' := .boolean) (by decide)))).other W14 (Or.inr (slot_ne (a0 := a0) (Or.inr (own_w hw 38 rfl)) (Or.inr (own_w hw 32 rfl)) (by decide) (t := .long) (by decide) (t' := .boolean) (by decide)))).other W17 (Or.inr (slot_ne (a0 := a0) (Or.inr (own_w hw 38 rfl)) (Or.inr (own_w hw 34 rfl)) (by decide) (t := .long) (by decide) (t' := .long) (by decide)))).other W20 (Or.inr (slot_ne (a0 := a0) (Or.inr (own_w hw 38 rfl)) (Or.inr (own_w hw 36 rfl)) (by decide) (t := .long) (by decide) (t' := .long) (by decide))))
  have fc22 : Exa Z h20 t1 s5_ := (fc19.wr W20)
  obtain ⟨T23, h23, X23, e23, W23, st23⟩ := putF X20 hx hZ hown (host := "") (Or.inl (own_w hw 37 rfl)) Via.refl e20 fc21 fc22 (Or.inr ⟨(own_w hw 38 rfl), rfl, hnm⟩) (own_w hw 17 rfl) (ty := .long) (by decide) rfl rfl (g := (mkF m 46 #[.val (.ref t1), .val .null, .val (.ref en), .val .null, .val (.int (0 : Int32)), .val (.int (0 : Int32)), .val (.long (0 : Int64)), .second, .val (.long (0 : Int64)), .second, .val (.long ar), .second] [(.long ar), (.ref t1)])) rfl rfl (hb hby D3_46)
  refine own_by st23 ?_
  have z23 := W23.size
  have N23 := Fr.snoc X23 N20 (by omega)
  have Fw23 : Fld Z h23 t1 s5_ "arrival" "J" (.long ar) := fc21.same W23
  have fc24 : Exa Z h23 t1 s5_ := (fc22.wr W23)
  have fc25 : Fld Z h23 t1 s5_ "conversion" "Z" (.int (0 : Int32)) := ((((Fw11.other W14 (Or.inr (slot_ne (a0 := a0) (Or.inr (own_w hw 30 rfl)) (Or.inr (own_w hw 32 rfl)) (by decide) (t := .boolean) (by decide) (t' := .boolean) (by decide)))).other W17 (Or.inr (slot_ne (a0 := a0) (Or.inr (own_w hw 30 rfl)) (Or.inr (own_w hw 34 rfl)) (by decide) (t := .boolean) (by decide) (t' := .long) (by decide)))).other W20 (Or.inr (slot_ne (a0 := a0) (Or.inr (own_w hw 30 rfl)) (Or.inr (own_w hw 36 rfl)) (by decide) (t := .boolean) (by decide) (t' := .long) (by decide)))).other W23 (Or.inr (slot_ne (a0 := a0) (Or.inr (own_w hw 30 rfl)) (Or.inr (own_w hw 38 rfl)) (by decide) (t := .boolean) (by decide) (t' := .long) (by decide))))
  have K26 : Keep h0 h23 [t1] := (((((((((Keep.refl h0 [t1]).wr W2 (Or.inl (List.mem_of_getElem? (i := 0) rfl))).wr W5 (Or.inl (List.mem_of_getElem? (i := 0) rfl))).wr W8 (Or.inl (List.mem_of_getElem? (i := 0) rfl))).wr W11 (Or.inl (List.mem_of_getElem? (i := 0) rfl))).wr W14 (Or.inl (List.mem_of_getElem? (i := 0) rfl))).wr W17 (Or.inl (List.mem_of_getElem? (i := 0) rfl))).wr W20 (Or.inl (List.mem_of_getElem? (i := 0) rfl))).wr W23 (Or.inl (List.mem_of_getElem? (i := 0) rfl)))
  obtain ⟨fs, hr, hrun, hended, hW, hsame⟩ := X23.leave (v := none) (fun h => rfl)
  refine ⟨_, _, X23.returnOut hx Bd.returns (hb hby D3_49) hr, hrun, hended, _, _, rfl, ?_, ⟨_, rfl⟩, hW, hsame.mono (by decide) (by decide)⟩
  show Q_rm_winit0 Z t1 en ar h0 n0 _ T23.heap _
  rw [e23]
  exact ⟨rfl, N23, K26, fc24, fc25⟩
theorem D11_0 : decode jdk_21_method_6_code 0 = .ok (.iinc 0 1, 3) := by decide +kernel
theorem D11_3 : decode jdk_21_method_6_code 3 = .ok (.iload_n 0, 1) := by decide +kernel
theorem D11_4 : decode jdk_21_method_6_code 4 = .ok (.iload_n 1, 1) := by decide +kernel
theorem D11_5 : decode jdk_21_method_6_code 5 = .ok (.if_icmp .lt 5, 3) := by decide +kernel
theorem D11_10 : decode jdk_21_method_6_code 10 = .ok (.iload_n 0, 1) := by decide +kernel
theorem D11_11 : decode jdk_21_method_6_code 11 = .ok (.ireturn, 1) := by decide +kernel
def Q_rm_inc0 (Z : State) (h0 : Heap) (n0 : Nat) (v : Option Value) (h : Heap) (L : List Loc) : Prop := v = some (.int (1 : Int32)) ∧ Fr n0 L ∧ h = h0
theorem ef_rm_inc0 (m : MethodId) : entryFrame m #[(.int (0 : Int32)), (.int (17 : Int32))] 2 = mkF m 0 #[.val (.int (0 : Int32)), .val (.int (17 : Int32))] [] := by first | (simp [entryFrame, mkF, argsToLocals, Value.category]; done) | rfl
set_option maxRecDepth 65536 in
set_option maxHeartbeats 40000000 in
theorem rm_inc0 (l : Launch) (Z : State) (a0 : Array Value) (hw : ∀ d ∈ tables_1, d.before a0 Z = true) (ws : List Jvm.Cond) (h0 : Heap) (n0 : Nat) (O0 : Old Z n0 h0) :
    MetFree l (⟨s14_, "inc", "(II)I"⟩ : MethodName) (head1 (Jvm.Cond.code (⟨s14_, "inc", "(II)I"⟩ : MethodName) jdk_21_method_6_code 2 (some .int) :: ws) ({ frames := 0, cells := 0, slots := 0, locals := 0 } : Room)) (fun a U => a = #[(.int (0 : Int32)), (.int (17 : Int32))] ∧ Z.Warmed39 U.vm ∧ U.heap = h0) (fun _ _ _ _ _ => True) (fun _ U o U' => ∃ v L, o = .returned v ∧ Q_rm_inc0 Z h0 n0 v U'.heap L ∧ FrameEnd U o U' L ({ frames := 0, cells := 0, slots := 0, locals := 0 } : Room).cells ({ frames := 0, cells := 0, slots := 0, locals := 0 } : Room).slots) := by
  refine MetFree.of_bodySF (plainFor_of_name own_pn_java_util_ArrayDeque) hisR ?_
  intro p e s m args below meth c s₁ Bd hml0 hP hK
  obtain ⟨rfl, hZ, hh⟩ := hP
  have hx := Bd.exec
  have hby := Bd.bytes
  have hml : c.maxLocals = 2 := hml0
  have hown : s.vm.findClass s14_ = some m.cls := findClass_of_methodNamed Bd.named
  have hnm := (name_of_methodNamed Bd.named Bd.method).1
  have X0 : Stand p l e ({ frames := 0, cells := 0, slots := 0, locals := 0 } : Room) s m #[(.int (0 : Int32)), (.int (17 : Int32))] below meth c s₁ [] 0 0 := Stand.of_body Bd
  have e0 : s₁.heap = h0 := by rw [← hh, Bd.state]; rfl
  have N0 := Fr.nil n0
  have Z0 : n0 ≤ h0.size := by rw [← O0.1]; exact O0.2.1
  show own_Go p e below (s₁.setTop (entryFrame m #[(.int (0 : Int32)), (.int (17 : Int32))] 2)) (fun t o => ∃ v L, o = .returned v ∧ Q_rm_inc0 Z h0 n0 v t.heap L ∧ FrameEnd s o t L ({ frames := 0, cells := 0, slots := 0, locals := 0 } : Room).cells ({ frames := 0, cells := 0, slots := 0, locals := 0 } : Room).slots)
  rw [ef_rm_inc0 m]
  refine own_by (fun _ k => XS.iinc X0.here hx rfl (hb hby D11_0) rfl (l' := #[.val (.int (1 : Int32)), .val (.int (17 : Int32))]) rfl k) ?_
  refine own_by (fun _ k => XS.iloadN X0.here hx rfl (hb hby D11_3) rfl k) ?_
  refine own_by (fun _ k => XS.iloadN X0.here hx rfl (hb hby D11_4) rfl k) ?_
  refine own_by (fun _ k => XS.icmpYes X0.here hx rfl (pc0 := 5) (pc' := 10) rfl (hb hby D11_5) rfl (tlt (by decide : (1 : Int32) < (17 : Int32))).1 (by decide) (by decide) k) ?_
  show own_Go p e below (s₁.setTop (mkF m 10 #[.val (.int (1 : Int32)), .val (.int (17 : Int32))] [])) _
  refine own_by (fun _ k => XS.iloadN X0.here hx rfl (hb hby D11_10) rfl k) ?_
  obtain ⟨fs, hr, hrun, hended, hW, hsame⟩ := X0.leave (v := some (.int (1 : Int32))) (fun h => by rw [Bd.returns] at h; cases h)
  refine ⟨_, _, retI X0 hx Bd.returns (hb hby D11_11) hr, hrun, hended, _, _, rfl, ?_, ⟨_, rfl⟩, hW, hsame.mono (by decide) (by decide)⟩
  show Q_rm_inc0 Z h0 n0 _ s₁.heap _
  rw [e0]
  exact ⟨rfl, N0, rfl⟩
theorem D10_0 : decode jdk_21_method_13_code 0 = .ok (.aload_n 1, 1) := by decide +kernel
theorem D10_1 : decode jdk_21_method_13_code 1 = .ok (.ifnonnull 11, 3) := by decide +kernel
theorem D10_12 : decode jdk_21_method_13_code 12 = .ok (.aload_n 0, 1) := by decide +kernel
theorem D10_13 : decode jdk_21_method_13_code 13 = .ok (.getfield 3, 3) := by decide +kernel
theorem D10_16 : decode jdk_21_method_13_code 16 = .ok (.astore_n 2, 1) := by decide +kernel
theorem D10_17 : decode jdk_21_method_13_code 17 = .ok (.aload_n 2, 1) := by decide +kernel
theorem D10_18 : decode jdk_21_method_13_code 18 = .ok (.aload_n 0, 1) := by decide +kernel
theorem D10_19 : decode jdk_21_method_13_code 19 = .ok (.getfield 20, 3) := by decide +kernel
theorem D10_22 : decode jdk_21_method_13_code 22 = .ok (.aload_n 1, 1) := by decide +kernel
theorem D10_23 : decode jdk_21_method_13_code 23 = .ok (.aastore, 1) := by decide +kernel
theorem D10_24 : decode jdk_21_method_13_code 24 = .ok (.aload_n 0, 1) := by decide +kernel
theorem D10_25 : decode jdk_21_method_13_code 25 = .ok (.getfield 24, 3) := by decide +kernel
theorem D10_28 : decode jdk_21_method_13_code 28 = .ok (.aload_n 0, 1) := by decide +kernel
theorem D10_29 : decode jdk_21_method_13_code 29 = .ok (.aload_n 0, 1) := by decide +kernel
theorem D10_30 : decode jdk_21_method_13_code 30 = .ok (.getfield 20, 3) := by decide +kernel
theorem D10_33 : decode jdk_21_method_13_code 33 = .ok (.aload_n 2, 1) := by decide +kernel
theorem D10_34 : decode jdk_21_method_13_code 34 = .ok (.arraylength, 1) := by decide +kernel
theorem D10_35 : decode jdk_21_method_13_code 35 = .ok (.invokestatic 74, 3) := by decide +kernel
theorem D10_38 : decode jdk_21_method_13_code 38 = .ok (.dup_x1, 1) := by decide +kernel
theorem D10_39 : decode jdk_21_method_13_code 39 = .ok (.putfield 20, 3) := by decide +kernel
theorem D10_42 : decode jdk_21_method_13_code 42 = .ok (.if_icmp .ne 8, 3) := by decide +kernel
theorem D10_50 : decode jdk_21_method_13_code 50 = .ok (.return_, 1) := by decide +kernel
def Q_rm_add_0_0_w1 (Z : State) (d : Addr) (a1 : Addr) (kk1 : ClassId) (w1 : Addr) (h0 : Heap) (n0 : Nat) (v : Option Value) (h : Heap) (L : List Loc) : Prop := v = none ∧ Fr n0 L ∧ Keep h0 h [d, a1] ∧ Exa Z h d s14_ ∧ Fld Z h d s14_ "elements" s16_ (.ref a1) ∧ Fld Z h d s14_ "head" "I" (.int (0 : Int32)) ∧ Fld Z h d s14_ "tail" "I" (.int (1 : Int32)) ∧ Arv Z h a1 kk1 (.object s3_) (17 : Int32) [(.ref w1)] .null
theorem ef_rm_add_0_0_w1 (m : MethodId) (d : Addr) (a1 : Addr) (kk1 : ClassId) (w1 : Addr) : entryFrame m #[(.ref d), (.ref w1)] 3 = mkF m 0 #[.val (.ref d), .val (.ref w1), .unset] [] := by first | (simp [entryFrame, mkF, argsToLocals, Value.category]; done) | rfl
set_option maxRecDepth 65536 in
set_option maxHeartbeats 40000000 in
theorem rm_add_0_0_w1 (l : Launch) (Z : State) (a0 : Array Value) (hw : ∀ d ∈ tables_1, d.before a0 Z = true) (ws : List Jvm.Cond) (d : Addr) (a1 : Addr) (kk1 : ClassId) (w1 : Addr) (h0 : Heap) (n0 : Nat) (O0 : Old Z n0 h0) (Ed : Exa Z h0 d s14_) (Fe : Fld Z h0 d s14_ "elements" s16_ (.ref a1)) (Fh : Fld Z h0 d s14_ "head" "I" (.int (0 : Int32))) (Ft : Fld Z h0 d s14_ "tail" "I" (.int (0 : Int32))) (Va : Arv Z h0 a1 kk1 (.object s3_) (17 : Int32) [] .null) (Ew : Exa Z h0 w1 s5_) (gd : n0 ≤ d) (ga : n0 ≤ a1) (nda : ¬ (@Eq Nat d a1)) (ov : Ovr Z kk1 s3_) :
    MetFree l (⟨s14_, "addLast", s19_⟩ : MethodName) (head1 (Jvm.Cond.code (⟨s14_, "addLast", s19_⟩ : MethodName) jdk_21_method_13_code 3 none :: ws) ({ frames := 1, cells := 0, slots := 0, locals := 15 } : Room)) (fun a U => a = #[(.ref d), (.ref w1)] ∧ Z.Warmed39 U.vm ∧ U.heap = h0) (fun _ _ _ _ _ => True) (fun _ U o U' => ∃ v L, o = .returned v ∧ Q_rm_add_0_0_w1 Z d a1 kk1 w1 h0 n0 v U'.heap L ∧ FrameEnd U o U' L ({ frames := 1, cells := 0, slots := 0, locals := 15 } : Room).cells ({ frames := 1, cells := 0, slots := 0, locals := 15 } : Room).slots) := by
  refine MetFree.of_bodySF (plainFor_of_name own_pn_java_util_ArrayDeque) hisR ?_
  intro p e s m args below meth c s₁ Bd hml0 hP hK
  obtain ⟨rfl, hZ, hh⟩ := hP
  have hx := Bd.exec
  have hby := Bd.bytes
  have hml : c.maxLocals = 3 := hml0
  have hown : s.vm.findClass s14_ = some m.cls := findClass_of_methodNamed Bd.named
  have hnm := (name_of_methodNamed Bd.named Bd.method).1
  have X0 : Stand p l e ({ frames := 1, cells := 0, slots := 0, locals := 15 } : Room) s m #[(.ref d), (.ref w1)] below meth c s₁ [] 0 0 := Stand.of_body Bd
  have e0 : s₁.heap = h0 := by rw [← hh, Bd.state]; rfl
  have N0 := Fr.nil n0
  have Z0 : n0 ≤ h0.size := by rw [← O0.1]; exact O0.2.1
  show own_Go p e below (s₁.setTop (entryFrame m #[(.ref d), (.ref w1)] 3)) (fun t o => ∃ v L, o = .returned v ∧ Q_rm_add_0_0_w1 Z d a1 kk1 w1 h0 n0 v t.heap L ∧ FrameEnd s o t L ({ frames := 1, cells := 0, slots := 0, locals := 15 } : Room).cells ({ frames := 1, cells := 0, slots := 0, locals := 15 } : Room).slots)
  rw [ef_rm_add_0_0_w1 m d a1 kk1 w1]
  have lt_Ed : h0.size > d := Ed.lt
  have lt_Fe : h0.size > d := Fe.lt
  have lt_Fh : h0.size > d := Fh.lt
  have lt_Ft : h0.size > d := Ft.lt
  have lt_Va : h0.size > a1 := Va.lt
  have lt_Ew : h0.size > w1 := Ew.lt
  refine own_by (fun _ k => XS.aloadN X0.here hx rfl (hb hby D10_0) rfl rfl k) ?_
  refine own_by (fun _ k => XS.ifnonnullYes X0.here hx rfl (pc0 := 1) (pc' := 12) rfl (hb hby D10_1) rfl (by decide) (by decide) k) ?_
  show own_Go p e below (s₁.setTop (mkF m 12 #[.val (.ref d), .val (.ref w1), .unset] [])) _
  refine own_by (fun _ k => XS.aloadN X0.here hx rfl (hb hby D10_12) rfl rfl k) ?_
  obtain ⟨T1, X1, e1, st1⟩ := getF X0 hx hZ hown (host := "") (Or.inl (own_w hw 73 rfl)) Via.refl e0 Fe (g := (mkF m 13 #[.val (.ref d), .val (.ref w1), .unset] [(.ref d)])) rfl rfl (hb hby D10_13)
  refine own_by st1 ?_
  refine own_by (fun _ k => XS.astoreN X1.here hx rfl (hb hby D10_16) rfl rfl (l' := #[.val (.ref d), .val (.ref w1), .val (.ref a1)]) rfl k) ?_
  refine own_by (fun _ k => XS.aloadN X1.here hx rfl (hb hby D10_17) rfl rfl k) ?_
  refine own_by (fun _ k => XS.aloadN X1.here hx rfl (hb hby D10_18) rfl rfl k) ?_
  obtain ⟨T2, X2, e2, st2⟩ := getF X1 hx hZ hown (host := "") (Or.inl (own_w hw 90 rfl)) Via.refl e1 Ft (g := (mkF m 19 #[.val (.ref d), .val (.ref w1), .val (.ref a1)] [(.ref d), (.ref a1)])) rfl rfl (hb hby D10_19)
  refine own_by st2 ?_
  show own_Go p e below (T2.setTop (mkF m 22 #[.val (.ref d), .val (.ref w1), .val (.ref a1)] [(.int (0 : Int32)), (.ref a1)])) _
  refine own_by (fun _ k => XS.aloadN X2.here hx rfl (hb hby D10_22) rfl rfl k) ?_
  have Vw3 : Arv Z h0 a1 kk1 (.object s3_) (17 : Int32) [.null] .null := Va.pad (pad_rep [] .null 1)
  obtain ⟨cl4, Ar4, q4, S4, M4, H4, G4⟩ := (id Vw3)
  have hin4 : ¬ ((0 : Int32) < 0 ∨ cl4.slots.size ≤ ((0 : Int32)).toNatClampNeg) := inb_of S4 ⟨by decide, by decide⟩
  obtain ⟨T4, h4, X4, e4, W4, st4⟩ := stR X2 hx hZ e2 Ar4 (j := (0 : Int32)) hin4 rfl (Sto.ofV Ar4 q4 ov (Ins.of_exa Ew (own_w hw 92 rfl))) (g := (mkF m 23 #[.val (.ref d), .val (.ref w1), .val (.ref a1)] [(.ref w1), (.int (0 : Int32)), (.ref a1)])) rfl rfl (hb hby D10_23)
  refine own_by st4 ?_
  have z4 := W4.size
  have N4 := Fr.snoc X4 N0 (by omega)
  have Vw4 : Arv Z h4 a1 kk1 (.object s3_) (17 : Int32) [(.ref w1)] .null := Arv.set Ar4 q4 S4 M4 H4 G4 rfl W4 0 rfl (Nat.le_of_ble_eq_true rfl)
  refine own_by (fun _ k => XS.aloadN X4.here hx rfl (hb hby D10_24) rfl rfl k) ?_
  have fc5 : Fld Z h4 d s14_ "head" "I" (.int (0 : Int32)) := (Fh.other W4 (Or.inl (own_ne (by omega))))
  obtain ⟨T6, X6, e6, st6⟩ := getF X4 hx hZ hown (host := "") (Or.inl (own_w hw 93 rfl)) Via.refl e4 fc5 (g := (mkF m 25 #[.val (.ref d), .val (.ref w1), .val (.ref a1)] [(.ref d)])) rfl rfl (hb hby D10_25)
  refine own_by st6 ?_
  refine own_by (fun _ k => XS.aloadN X6.here hx rfl (hb hby D10_28) rfl rfl k) ?_
  refine own_by (fun _ k => XS.aloadN X6.here hx rfl (hb hby D10_29) rfl rfl k) ?_
  show own_Go p e below (T6.setTop (mkF m 30 #[.val (.ref d), .val (.ref w1), .val (.ref a1)] [(.ref d), (.ref d), (.int (0 : Int32))])) _
  have fc7 : Fld Z h4 d s14_ "tail" "I" (.int (0 : Int32)) := (Ft.other W4 (Or.inl (own_ne (by omega))))
  obtain ⟨T8, X8, e8, st8⟩ := getF X6 hx hZ hown (host := "") (Or.inl (own_w hw 90 rfl)) Via.refl e6 fc7 (g := (mkF m 30 #[.val (.ref d), .val (.ref w1), .val (.ref a1)] [(.ref d), (.ref d), (.int (0 : Int32))])) rfl rfl (hb hby D10_30)
  refine own_by st8 ?_
  refine own_by (fun _ k => XS.aloadN X8.here hx rfl (hb hby D10_33) rfl rfl k) ?_
  obtain ⟨cl9, Ar9, q9, S9, M9, H9, G9⟩ := (id Vw4)
  refine own_by (X8.arraylength hx (by rw [e8]; exact Ar9.1) (State.isArrayOf_alike hZ.alike Ar9.2.1) (g := (mkF m 34 #[.val (.ref d), .val (.ref w1), .val (.ref a1)] [(.ref a1), (.int (0 : Int32)), (.ref d), (.int (0 : Int32))])) rfl rfl (hb hby D10_34)) ?_
  rw [len_of S9 M9]
  have O10 : Old Z n0 h4 := (O0.wr W4 (by omega))
  obtain ⟨_, _, ⟨T11, L11, k11, n11⟩, -, X11, ⟨Lc11, hQ11, l11, y11, z11⟩, st11⟩ := Jvm.LawKit.callS X8 hx (y := (⟨s14_, "inc", "(II)I"⟩ : MethodName)) hown (mvT hZ (own_w hw 95 rfl)) (mvT hZ (own_w hw 96 rfl)) (mvT hZ (own_w hw 60 rfl)) (mvT hZ (own_w hw 97 rfl)) (by decide) (backOf (W := 2) (rm_inc0 l Z a0 hw [] h4 n0 O10) hZ (own_w hw 97 rfl) (own_w hw 60 rfl) (by decide) (by decide)) (g := (mkF m 35 #[.val (.ref d), .val (.ref w1), .val (.ref a1)] [(.int (17 : Int32)), (.int (0 : Int32)), (.ref d), (.int (0 : Int32))])) rfl (by rw [hml]; rfl) (argsL := [(.int (0 : Int32)), (.int (17 : Int32))]) (rest := [(.ref d), (.int (0 : Int32))]) (lenOf own_pd__28II_29I rfl) rfl (by show 2 * 0 + _ ≤ _; exact Nat.le_of_eq rfl) (hb hby D10_35) (fun _ _ => ⟨rfl, e8, (by decide : 0 + 0 ≤ _), (by decide : 0 + 0 ≤ _)⟩)
  dsimp only [Pt.U, Pt.locs, Pt.cells, Pt.slots] at X11 l11 y11 z11 st11 hQ11
  subst l11 y11 z11
  obtain ⟨rfl, M11, K11⟩ := hQ11
  have N11 := Fr.app N4 M11
  refine own_by st11 ?_
  refine own_by (fun _ k => XS.dupX1 X11.here hx rfl (hb hby D10_38) rfl rfl rfl k) ?_
  have fc12 : Exa Z h4 d s14_ := (Ed.wr W4)
  obtain ⟨T13, h13, X13, e13, W13, st13⟩ := putF X11 hx hZ hown (host := "") (Or.inl (own_w hw 90 rfl)) Via.refl K11 fc7 fc12 (Or.inl (own_w hw 91 rfl)) (own_w hw 59 rfl) (ty := .int) (by decide) rfl rfl (g := (mkF m 39 #[.val (.ref d), .val (.ref w1), .val (.ref a1)] [(.int (1 : Int32)), (.ref d), (.int (1 : Int32)), (.int (0 : Int32))])) rfl rfl (hb hby D10_39)
  refine own_by st13 ?_
  have z13 := W13.size
  have N13 := Fr.snoc X13 N11 (by omega)
  have Fw13 : Fld Z h13 d s14_ "tail" "I" (.int (1 : Int32)) := fc7.same W13
  show own_Go p e below (T13.setTop (mkF m 42 #[.val (.ref d), .val (.ref w1), .val (.ref a1)] [(.int (1 : Int32)), (.int (0 : Int32))])) _
  refine own_by (fun _ k => XS.icmpYes X13.here hx rfl (pc0 := 42) (pc' := 50) rfl (hb hby D10_42) rfl (feq (by decide : ¬ ((0 : Int32) = (1 : Int32)))).2 (by decide) (by decide) k) ?_
  show own_Go p e below (T13.setTop (mkF m 50 #[.val (.ref d), .val (.ref w1), .val (.ref a1)] [])) _
  have fc14 : Exa Z h13 d s14_ := (fc12.wr W13)
  have fc15 : Fld Z h13 d s14_ "elements" s16_ (.ref a1) := ((Fe.other W4 (Or.inl (own_ne (by omega)))).other W13 (Or.inr (slot_ne (a0 := a0) (Or.inl (own_w hw 74 rfl)) (Or.inl (own_w hw 91 rfl)) (by decide) (t := (.array (.object s3_))) (by decide) (t' := .int) (by decide))))
  have fc16 : Fld Z h13 d s14_ "head" "I" (.int (0 : Int32)) := (fc5.other W13 (Or.inr (slot_ne (a0 := a0) (Or.inl (own_w hw 94 rfl)) (Or.inl (own_w hw 91 rfl)) (by decide) (t := .int) (by decide) (t' := .int) (by decide))))
  have fc17 : Arv Z h13 a1 kk1 (.object s3_) (17 : Int32) [(.ref w1)] .null := (Vw4.other W13 (own_ne (by omega)))
  have K18 : Keep h0 h13 [d, a1] := (((Keep.refl h0 [d, a1]).wr W4 (Or.inl (List.mem_of_getElem? (i := 1) rfl))).wr W13 (Or.inl (List.mem_of_getElem? (i := 0) rfl)))
  obtain ⟨fs, hr, hrun, hended, hW, hsame⟩ := X13.leave (v := none) (fun h => rfl)
  refine ⟨_, _, X13.returnOut hx Bd.returns (hb hby D10_50) hr, hrun, hended, _, _, rfl, ?_, ⟨_, rfl⟩, hW, hsame.mono (by decide) (by decide)⟩
  show Q_rm_add_0_0_w1 Z d a1 kk1 w1 h0 n0 _ T13.heap _
  rw [e13]
  exact ⟨rfl, N13, K18, fc14, fc15, fc16, Fw13, fc17⟩
theorem D9_0 : decode prog_12_method_2_code 0 = .ok (.aload_n 1, 1) := by decide +kernel
theorem D9_1 : decode prog_12_method_2_code 1 = .ok (.getfield 19, 3) := by decide +kernel
theorem D9_4 : decode prog_12_method_2_code 4 = .ok (.ifCond .eq 10, 3) := by decide +kernel
theorem D9_14 : decode prog_12_method_2_code 14 = .ok (.aload_n 0, 1) := by decide +kernel
theorem D9_15 : decode prog_12_method_2_code 15 = .ok (.getfield 16, 3) := by decide +kernel
theorem D9_18 : decode prog_12_method_2_code 18 = .ok (.areturn, 1) := by decide +kernel
def Q_rm_of0 (Z : State) (q : Addr) (w1 : Addr) (d1 : Addr) (d2 : Addr) (h0 : Heap) (n0 : Nat) (v : Option Value) (h : Heap) (L : List Loc) : Prop := v = some (.ref d2) ∧ Fr n0 L ∧ h = h0
theorem ef_rm_of0 (m : MethodId) (q : Addr) (w1 : Addr) (d1 : Addr) (d2 : Addr) : entryFrame m #[(.ref q), (.ref w1)] 2 = mkF m 0 #[.val (.ref q), .val (.ref w1)] [] := by first | (simp [entryFrame, mkF, argsToLocals, Value.category]; done) | rfl
set_option maxRecDepth 65536 in
set_option maxHeartbeats 40000000 in
theorem rm_of0 (l : Launch) (Z : State) (a0 : Array Value) (hw : ∀ d ∈ tables_1, d.before a0 Z = true) (ws : List Jvm.Cond) (q : Addr) (w1 : Addr) (d1 : Addr) (d2 : Addr) (h0 : Heap) (n0 : Nat) (O0 : Old Z n0 h0) (Fw : Fld Z h0 w1 s5_ "conversion" "Z" (.int (0 : Int32))) (F1 : Fld Z h0 q s13_ "conversions" s17_ (.ref d1)) (F2 : Fld Z h0 q s13_ "requests" s17_ (.ref d2)) :
    MetFree l (⟨s13_, "of", s18_⟩ : MethodName) (head1 (Jvm.Cond.code (⟨s13_, "of", s18_⟩ : MethodName) prog_12_method_2_code 2 (some (.object s14_)) :: ws) ({ frames := 0, cells := 0, slots := 0, locals := 0 } : Room)) (fun a U => a = #[(.ref q), (.ref w1)] ∧ Z.Warmed39 U.vm ∧ U.heap = h0) (fun _ _ _ _ _ => True) (fun _ U o U' => ∃ v L, o = .returned v ∧ Q_rm_of0 Z q w1 d1 d2 h0 n0 v U'.heap L ∧ FrameEnd U o U' L ({ frames := 0, cells := 0, slots := 0, locals := 0 } : Room).cells ({ frames := 0, cells := 0, slots := 0, locals := 0 } : Room).slots) := by
  refine MetFree.of_bodySF (plainFor_of_name own_pn_com_example_admit1_admit1_lock_LockEntry_Queues) hisR ?_
  intro p e s m args below meth c s₁ Bd hml0 hP hK
  obtain ⟨rfl, hZ, hh⟩ := hP
  have hx := Bd.exec
  have hby := Bd.bytes
  have hml : c.maxLocals = 2 := hml0
  have hown : s.vm.findClass s13_ = some m.cls := findClass_of_methodNamed Bd.named
  have hnm := (name_of_methodNamed Bd.named Bd.method).1
  have X0 : Stand p l e ({ frames := 0, cells := 0, slots := 0, locals := 0 } : Room) s m #[(.ref q), (.ref w1)] below meth c s₁ [] 0 0 := Stand.of_body Bd
  have e0 : s₁.heap = h0 := by rw [← hh, Bd.state]; rfl
  have N0 := Fr.nil n0
  have Z0 : n0 ≤ h0.size := by rw [← O0.1]; exact O0.2.1
  show own_Go p e below (s₁.setTop (entryFrame m #[(.ref q), (.ref w1)] 2)) (fun t o => ∃ v L, o = .returned v ∧ Q_rm_of0 Z q w1 d1 d2 h0 n0 v t.heap L ∧ FrameEnd s o t L ({ frames := 0, cells := 0, slots := 0, locals := 0 } : Room).cells ({ frames := 0, cells := 0, slots := 0, locals := 0 } : Room).slots)
  rw [ef_rm_of0 m q w1 d1 d2]
  have lt_Fw : h0.size > w1 := Fw.lt
  have lt_F1 : h0.size > q := F1.lt
  have lt_F2 : h0.size > q := F2.lt
  refine own_by (fun _ k => XS.aloadN X0.here hx rfl (hb hby D9_0) rfl rfl k) ?_
  obtain ⟨T1, X1, e1, st1⟩ := getF X0 hx hZ hown (host := "") (Or.inl (own_w hw 84 rfl)) Via.refl e0 Fw (g := (mkF m 1 #[.val (.ref q), .val (.ref w1)] [(.ref w1)])) rfl rfl (hb hby D9_1)
  refine own_by st1 ?_
  refine own_by (fun _ k => XS.ifYes X1.here hx rfl (pc0 := 4) (pc' := 14) rfl (hb hby D9_4) rfl ((if0 _ _).trans (teq (by decide : (0 : Int32) = (0 : Int32))).1) (by decide) (by decide) k) ?_
  show own_Go p e below (T1.setTop (mkF m 14 #[.val (.ref q), .val (.ref w1)] [])) _
  refine own_by (fun _ k => XS.aloadN X1.here hx rfl (hb hby D9_14) rfl rfl k) ?_
  obtain ⟨T2, X2, e2, st2⟩ := getF X1 hx hZ hown (host := "") (Or.inl (own_w hw 77 rfl)) Via.refl e1 F2 (g := (mkF m 15 #[.val (.ref q), .val (.ref w1)] [(.ref q)])) rfl rfl (hb hby D9_15)
  refine own_by st2 ?_
  obtain ⟨fs, hr, hrun, hended, hW, hsame⟩ := X2.leave (v := some (.ref d2)) (fun h => by rw [Bd.returns] at h; cases h)
  refine ⟨_, _, retOut X2 hx Bd.returns (own_narrow_ref (by decide) rfl) (Or.inr (Or.inr (Or.inr (Or.inr ⟨rfl, by decide, rfl⟩)))) (hb hby D9_18) hr, hrun, hended, _, _, rfl, ?_, ⟨_, rfl⟩, hW, hsame.mono (by decide) (by decide)⟩
  show Q_rm_of0 Z q w1 d1 d2 h0 n0 _ T2.heap _
  rw [e2]
  exact ⟨rfl, N0, rfl⟩
theorem D5_0 : decode prog_11_method_10_code 0 = .ok (.aload_n 0, 1) := by decide +kernel
theorem D5_1 : decode prog_11_method_10_code 1 = .ok (.getfield 113, 3) := by decide +kernel
theorem D5_4 : decode prog_11_method_10_code 4 = .ok (.ifnonnull 14, 3) := by decide +kernel
theorem D5_7 : decode prog_11_method_10_code 7 = .ok (.aload_n 0, 1) := by decide +kernel
theorem D5_8 : decode prog_11_method_10_code 8 = .ok (.new 117, 3) := by decide +kernel
theorem D5_11 : decode prog_11_method_10_code 11 = .ok (.dup, 1) := by decide +kernel
theorem D5_12 : decode prog_11_method_10_code 12 = .ok (.invokespecial 119, 3) := by decide +kernel
theorem D5_15 : decode prog_11_method_10_code 15 = .ok (.putfield 113, 3) := by decide +kernel
theorem D5_18 : decode prog_11_method_10_code 18 = .ok (.aload_n 0, 1) := by decide +kernel
theorem D5_19 : decode prog_11_method_10_code 19 = .ok (.getfield 113, 3) := by decide +kernel
theorem D5_22 : decode prog_11_method_10_code 22 = .ok (.aload_n 1, 1) := by decide +kernel
theorem D5_23 : decode prog_11_method_10_code 23 = .ok (.invokevirtual 120, 3) := by decide +kernel
theorem D5_26 : decode prog_11_method_10_code 26 = .ok (.aload_n 1, 1) := by decide +kernel
theorem D5_27 : decode prog_11_method_10_code 27 = .ok (.invokevirtual 123, 3) := by decide +kernel
theorem D5_30 : decode prog_11_method_10_code 30 = .ok (.return_, 1) := by decide +kernel
def Q_rm_enq_None_w10 (Z : State) (en : Addr) (w1 : Addr) (h0 : Heap) (n0 : Nat) (v : Option Value) (h : Heap) (L : List Loc) : Prop := ∃ (q : Addr), ∃ (d1 : Addr), ∃ (a1 : Addr), ∃ (kk1 : ClassId), ∃ (d2 : Addr), ∃ (a2 : Addr), ∃ (kk2 : ClassId), v = none ∧ Fr n0 L ∧ Keep h0 h [en] ∧ Fld Z h en s2_ "queues" s11_ (.ref q) ∧ Exa Z h q s13_ ∧ Fld Z h q s13_ "conversions" s17_ (.ref d1) ∧ Fld Z h q s13_ "requests" s17_ (.ref d2) ∧ Exa Z h d1 s14_ ∧ Fld Z h d1 s14_ "elements" s16_ (.ref a1) ∧ Fld Z h d1 s14_ "head" "I" (.int (0 : Int32)) ∧ Fld Z h d1 s14_ "tail" "I" (.int (0 : Int32)) ∧ Arv Z h a1 kk1 (.object s3_) (17 : Int32) [] .null ∧ Exa Z h d2 s14_ ∧ Fld Z h d2 s14_ "elements" s16_ (.ref a2) ∧ Fld Z h d2 s14_ "head" "I" (.int (0 : Int32)) ∧ Fld Z h d2 s14_ "tail" "I" (.int (1 : Int32)) ∧ Arv Z h a2 kk2 (.object s3_) (17 : Int32) [(.ref w1)] .null ∧ @LT.lt Nat _ q d1 ∧ @LT.lt Nat _ d1 a1 ∧ @LT.lt Nat _ a1 d2 ∧ @LT.lt Nat _ d2 a2 ∧ n0 ≤ q ∧ Ovr Z kk1 s3_ ∧ Ovr Z kk2 s3_ ∧ h0.size ≤ q
theorem ef_rm_enq_None_w10 (m : MethodId) (en : Addr) (w1 : Addr) : entryFrame m #[(.ref en), (.ref w1)] 2 = mkF m 0 #[.val (.ref en), .val (.ref w1)] [] := by first | (simp [entryFrame, mkF, argsToLocals, Value.category]; done) | rfl
set_option maxRecDepth 65536 in
set_option maxHeartbeats 40000000 in
theorem rm_enq_None_w10 (l : Launch) (Z : State) (a0 : Array Value) (hw : ∀ d ∈ tables_1, d.before a0 Z = true) (ws : List Jvm.Cond) (en : Addr) (w1 : Addr) (h0 : Heap) (n0 : Nat) (O0 : Old Z n0 h0) (Fq : Fld Z h0 en s2_ "queues" s11_ .null) (Ee : Exa Z h0 en s2_) (Ew : Exa Z h0 w1 s5_) (Fw : Fld Z h0 w1 s5_ "conversion" "Z" (.int (0 : Int32))) (ge : n0 ≤ en) (nwe : ¬ (@Eq Nat w1 en)) :
    MetFree l (⟨s2_, "enqueue", s12_⟩ : MethodName) (head1 (Jvm.Cond.code (⟨s2_, "enqueue", s12_⟩ : MethodName) prog_11_method_10_code 2 none :: ws) ({ frames := 4, cells := 5, slots := 42, locals := 52 } : Room)) (fun a U => a = #[(.ref en), (.ref w1)] ∧ Z.Warmed39 U.vm ∧ U.heap = h0) (fun _ _ _ _ _ => True) (fun _ U o U' => ∃ v L, o = .returned v ∧ Q_rm_enq_None_w10 Z en w1 h0 n0 v U'.heap L ∧ FrameEnd U o U' L ({ frames := 4, cells := 5, slots := 42, locals := 52 } : Room).cells ({ frames := 4, cells := 5, slots := 42, locals := 52 } : Room).slots) := by
  refine MetFree.of_bodySF (plainFor_of_name own_pn_com_example_admit1_admit1_lock_LockEntry) hisR ?_
  intro p e s m args below meth c s₁ Bd hml0 hP hK
  obtain ⟨rfl, hZ, hh⟩ := hP
  have hx := Bd.exec
  have hby := Bd.bytes
  have hml : c.maxLocals = 2 := hml0
  have hown : s.vm.findClass s2_ = some m.cls := findClass_of_methodNamed Bd.named
  have hnm := (name_of_methodNamed Bd.named Bd.method).1
  have X0 : Stand p l e ({ frames := 4, cells := 5, slots := 42, locals := 52 } : Room) s m #[(.ref en), (.ref w1)] below meth c s₁ [] 0 0 := Stand.of_body Bd
  have e0 : s₁.heap = h0 := by rw [← hh, Bd.state]; rfl
  have N0 := Fr.nil n0
  have Z0 : n0 ≤ h0.size := by rw [← O0.1]; exact O0.2.1
  show own_Go p e below (s₁.setTop (entryFrame m #[(.ref en), (.ref w1)] 2)) (fun t o => ∃ v L, o = .returned v ∧ Q_rm_enq_None_w10 Z en w1 h0 n0 v t.heap L ∧ FrameEnd s o t L ({ frames := 4, cells := 5, slots := 42, locals := 52 } : Room).cells ({ frames := 4, cells := 5, slots := 42, locals := 52 } : Room).slots)
  rw [ef_rm_enq_None_w10 m en w1]
  have lt_Fq : h0.size > en := Fq.lt
  have lt_Ee : h0.size > en := Ee.lt
  have lt_Ew : h0.size > w1 := Ew.lt
  have lt_Fw : h0.size > w1 := Fw.lt
  refine own_by (fun _ k => XS.aloadN X0.here hx rfl (hb hby D5_0) rfl rfl k) ?_
  obtain ⟨T1, X1, e1, st1⟩ := getF X0 hx hZ hown (host := "") (Or.inl (own_w hw 44 rfl)) Via.refl e0 Fq (g := (mkF m 1 #[.val (.ref en), .val (.ref w1)] [(.ref en)])) rfl rfl (hb hby D5_1)
  refine own_by st1 ?_
  refine own_by (fun _ k => XS.ifnonnullNo X1.here hx rfl (hb hby D5_4) rfl k) ?_
  refine own_by (fun _ k => XS.aloadN X1.here hx rfl (hb hby D5_7) rfl rfl k) ?_
  obtain ⟨T2, h2, X2, e2, E2, A2, D2, U2, st2⟩ := newO X1 hx hZ hown (own_w hw 51 rfl) (own_w hw 52 rfl) (own_w hw 53 rfl) e1 (g := (mkF m 8 #[.val (.ref en), .val (.ref w1)] [(.ref en)])) rfl (hb hby D5_8) (by decide) (by decide)
  obtain ⟨ob2, g2⟩ : ∃ z, z = h0.size := ⟨_, rfl⟩
  rw [← g2] at A2 D2 U2 st2
  refine own_by st2 ?_
  have z2 := E2.1
  have lt2 : h2.size > ob2 := A2.lt
  refine own_by (fun _ k => XS.dup X2.here hx rfl (hb hby D5_11) rfl rfl k) ?_
  show own_Go p e below (T2.setTop (mkF m 12 #[.val (.ref en), .val (.ref w1)] [(.ref ob2), (.ref ob2), (.ref en)])) _
  have O3 : Old Z n0 h2 := (O0.ext E2)
  obtain ⟨_, _, ⟨T4, L4, k4, n4⟩, -, X4, ⟨Lc4, hQ4, l4, y4, z4⟩, st4⟩ := own_specialRef X2 hx (y := (⟨s13_, "<init>", "()V"⟩ : MethodName)) rfl hown (own_mvR hZ (own_w hw 55 rfl) (by decide) (own_w hw 54 rfl)) (mvT hZ (own_w hw 55 rfl)) (mvT hZ (own_w hw 56 rfl)) (by decide) (backOf (W := 2) (rm_qinit l Z a0 hw [] ob2 h2 n0 O3 A2 (show Fld Z h2 ob2 s13_ "conversions" s17_ .null from D2 (Or.inr (own_w hw 76 rfl)) (ty := (.object s14_)) (by decide)) (show Fld Z h2 ob2 s13_ "requests" s17_ .null from D2 (Or.inr (own_w hw 78 rfl)) (ty := (.object s14_)) (by decide)) (by first | assumption | omega | decide)) hZ (own_w hw 56 rfl) (own_w hw 53 rfl) (by decide) (by decide)) (g := (mkF m 12 #[.val (.ref en), .val (.ref w1)] [(.ref ob2), (.ref ob2), (.ref en)])) rfl (by rw [hml]; rfl) (Steps.refl _) (a := ob2) (argsL := []) (rest := [(.ref ob2), (.ref en)]) (lenOf own_pd__28_29V rfl) rfl (by show 2 * 0 + _ ≤ _; exact Nat.le_of_eq rfl) (hb hby D5_12) (fun _ _ => ⟨rfl, e2, (by decide : 1 + 4 ≤ _), (by decide : 2 + 40 ≤ _)⟩)
  dsimp only [Pt.U, Pt.locs, Pt.cells, Pt.slots] at X4 l4 y4 z4 st4 hQ4
  subst l4 y4 z4
  obtain ⟨d1_4, a1_4, kk1_4, d2_4, a2_4, kk2_4, rfl, M4, K4, g4_0, g4_1, g4_2, g4_3, g4_4, g4_5, g4_6, g4_7, g4_8, g4_9, g4_10, g4_11, g4_12, r4_0, r4_1, r4_2, r4_3, r4_4, r4_5⟩ := hQ4
  have N4 := Fr.app N0 M4
  refine own_by (fun _ k => st4.trans k) ?_
  have z4 := K4.1
  have lt_g4_0 : T4.heap.size > ob2 := g4_0.lt
  have lt_g4_1 : T4.heap.size > ob2 := g4_1.lt
  have lt_g4_2 : T4.heap.size > ob2 := g4_2.lt
  have lt_g4_3 : T4.heap.size > d1_4 := g4_3.lt
  have lt_g4_4 : T4.heap.size > d1_4 := g4_4.lt
  have lt_g4_5 : T4.heap.size > d1_4 := g4_5.lt
  have lt_g4_6 : T4.heap.size > d1_4 := g4_6.lt
  have lt_g4_7 : T4.heap.size > a1_4 := g4_7.lt
  have lt_g4_8 : T4.heap.size > d2_4 := g4_8.lt
  have lt_g4_9 : T4.heap.size > d2_4 := g4_9.lt
  have lt_g4_10 : T4.heap.size > d2_4 := g4_10.lt
  have lt_g4_11 : T4.heap.size > d2_4 := g4_11.lt
  have lt_g4_12 : T4.heap.size > a2_4 := g4_12.lt
  have fc5 : Fld Z T4.heap en s2_ "queues" s11_ .null := ((Fq.ext E2).keep K4 (ninS (own_ne (by omega)) nin0))
  have fc6 : Exa Z T4.heap en s2_ := ((Ee.ext E2).keep K4)
  obtain ⟨T7, h7, X7, e7, W7, st7⟩ := putF X4 hx hZ hown (host := "") (Or.inl (own_w hw 44 rfl)) Via.refl rfl fc5 fc6 (Or.inl (own_w hw 45 rfl)) (own_w hw 1 rfl) (ty := (.object s13_)) (by decide) rfl rfl (g := (mkF m 15 #[.val (.ref en), .val (.ref w1)] [(.ref ob2), (.ref en)])) rfl rfl (hb hby D5_15)
  refine own_by st7 ?_
  have z7 := W7.size
  have N7 := Fr.snoc X7 N4 (by omega)
  have Fw7 : Fld Z h7 en s2_ "queues" s11_ (.ref ob2) := fc5.same W7
  refine own_by (fun _ k => XS.aloadN X7.here hx rfl (hb hby D5_18) rfl rfl k) ?_
  obtain ⟨T8, X8, e8, st8⟩ := getF X7 hx hZ hown (host := "") (Or.inl (own_w hw 44 rfl)) Via.refl e7 Fw7 (g := (mkF m 19 #[.val (.ref en), .val (.ref w1)] [(.ref en)])) rfl rfl (hb hby D5_19)
  refine own_by st8 ?_
  refine own_by (fun _ k => XS.aloadN X8.here hx rfl (hb hby D5_22) rfl rfl k) ?_
  have fc9 : Fld Z h7 w1 s5_ "conversion" "Z" (.int (0 : Int32)) := (((Fw.ext E2).keep K4 (ninS (own_ne (by omega)) nin0)).other W7 (Or.inl (own_ne (by omega))))
  have fc10 : Fld Z h7 ob2 s13_ "conversions" s17_ (.ref d1_4) := (g4_1.other W7 (Or.inl (own_ne (by omega))))
  have fc11 : Fld Z h7 ob2 s13_ "requests" s17_ (.ref d2_4) := (g4_2.other W7 (Or.inl (own_ne (by omega))))
  have O12 : Old Z n0 h7 := ((O3.keep K4 (allS (by omega) all0)).wr W7 (by omega))
  have fc14 : Exa Z h7 ob2 s13_ := (g4_0.wr W7)
  obtain ⟨cq13, kq13, q13a, q13b, q13c⟩ := isOf hZ e8 fc14
  obtain ⟨_, _, ⟨T13, L13, k13, n13⟩, -, X13, ⟨Lc13, hQ13, l13, y13, z13⟩, st13⟩ := X8.virtualBack hx (y := (⟨s13_, "of", s18_⟩ : MethodName)) (z := (⟨s13_, "of", s18_⟩ : MethodName)) hown (mvT hZ (own_w hw 79 rfl)) (mvT hZ (own_w hw 80 rfl)) (notFace_of_selects (args := #[]) (mvT hZ (own_w hw 82 rfl))) (mvT hZ (own_w hw 82 rfl)) (mvT hZ (own_w hw 81 rfl)) (by decide) (backOf (W := 0) (rm_of0 l Z a0 hw [] ob2 w1 d1_4 d2_4 h7 n0 O12 fc9 fc10 fc11) hZ (own_w hw 83 rfl) (own_w hw 53 rfl) (by decide) (by decide)) q13a q13c (g := (mkF m 23 #[.val (.ref en), .val (.ref w1)] [(.ref w1), (.ref ob2)])) rfl (by rw [hml]; rfl) (Steps.refl _) (argsL := [(.ref w1)]) (rest := []) (lenOf own_pd__28Lcom_2fexample_2fadmit1_2fadmit1_2flock_2fWait_3b_29Ljava_2futil_2fArrayDeque_3b rfl) rfl (by show 2 * 0 + _ ≤ _; exact Nat.le_of_eq rfl) (hb hby D5_23) (fun _ _ => ⟨rfl, e8, (by decide : 5 + 0 ≤ _), (by decide : 42 + 0 ≤ _)⟩)
  dsimp only [Pt.U, Pt.locs, Pt.cells, Pt.slots] at X13 l13 y13 z13 st13 hQ13
  subst l13 y13 z13
  obtain ⟨rfl, M13, K13⟩ := hQ13
  have N13 := Fr.app N7 M13
  refine own_by (fun _ k => st13.trans k) ?_
  show own_Go p e below (T13.setTop (mkF m 26 #[.val (.ref en), .val (.ref w1)] [(.ref d2_4)])) _
  refine own_by (fun _ k => XS.aloadN X13.here hx rfl (hb hby D5_26) rfl rfl k) ?_
  have fc15 : Exa Z h7 d2_4 s14_ := (g4_8.wr W7)
  have fc16 : Fld Z h7 d2_4 s14_ "elements" s16_ (.ref a2_4) := (g4_9.other W7 (Or.inl (own_ne (by omega))))
  have fc17 : Fld Z h7 d2_4 s14_ "head" "I" (.int (0 : Int32)) := (g4_10.other W7 (Or.inl (own_ne (by omega))))
  have fc18 : Fld Z h7 d2_4 s14_ "tail" "I" (.int (0 : Int32)) := (g4_11.other W7 (Or.inl (own_ne (by omega))))
  have fc19 : Arv Z h7 a2_4 kk2_4 (.object s3_) (17 : Int32) [] .null := (g4_12.other W7 (own_ne (by omega)))
  have fc20 : Exa Z h7 w1 s5_ := (((Ew.ext E2).keep K4).wr W7)
  obtain ⟨cq21, kq21, q21a, q21b, q21c⟩ := isOf hZ K13 fc15
  obtain ⟨_, _, ⟨T21, L21, k21, n21⟩, -, X21, ⟨Lc21, hQ21, l21, y21, z21⟩, st21⟩ := X13.virtualBack hx (y := (⟨s14_, "addLast", s19_⟩ : MethodName)) (z := (⟨s14_, "addLast", s19_⟩ : MethodName)) hown (mvT hZ (own_w hw 85 rfl)) (mvT hZ (own_w hw 86 rfl)) (notFace_of_selects (args := #[]) (mvT hZ (own_w hw 88 rfl))) (mvT hZ (own_w hw 88 rfl)) (mvT hZ (own_w hw 87 rfl)) (by decide) (backOf (W := 0) (rm_add_0_0_w1 l Z a0 hw [] d2_4 a2_4 kk2_4 w1 h7 n0 O12 fc15 fc16 fc17 fc18 fc19 fc20 (by first | assumption | omega | decide) (by first | assumption | omega | decide) (by first | assumption | omega | decide) r4_1) hZ (own_w hw 89 rfl) (own_w hw 60 rfl) (by decide) (by decide)) q21a q21c (g := (mkF m 27 #[.val (.ref en), .val (.ref w1)] [(.ref w1), (.ref d2_4)])) rfl (by rw [hml]; rfl) (Steps.refl _) (argsL := [(.ref w1)]) (rest := []) (lenOf own_pd__28Ljava_2flang_2fObject_3b_29V rfl) rfl (by show 2 * 0 + _ ≤ _; exact Nat.le_of_eq rfl) (hb hby D5_27) (fun _ _ => ⟨rfl, K13, (by decide : 5 + 0 ≤ _), (by decide : 42 + 0 ≤ _)⟩)
  dsimp only [Pt.U, Pt.locs, Pt.cells, Pt.slots] at X21 l21 y21 z21 st21 hQ21
  subst l21 y21 z21
  obtain ⟨rfl, M21, K21, g21_0, g21_1, g21_2, g21_3, g21_4⟩ := hQ21
  have N21 := Fr.app N13 M21
  refine own_by (fun _ k => st21.trans k) ?_
  have z21 := K21.1
  have lt_g21_0 : T21.heap.size > d2_4 := g21_0.lt
  have lt_g21_1 : T21.heap.size > d2_4 := g21_1.lt
  have lt_g21_2 : T21.heap.size > d2_4 := g21_2.lt
  have lt_g21_3 : T21.heap.size > d2_4 := g21_3.lt
  have lt_g21_4 : T21.heap.size > a2_4 := g21_4.lt
  have fc22 : Fld Z T21.heap en s2_ "queues" s11_ (.ref ob2) := (Fw7.keep K21 (ninS (own_ne (by omega)) (ninS (own_ne (by omega)) nin0)))
  have fc23 : Exa Z T21.heap ob2 s13_ := (fc14.keep K21)
  have fc24 : Fld Z T21.heap ob2 s13_ "conversions" s17_ (.ref d1_4) := (fc10.keep K21 (ninS (own_ne (by omega)) (ninS (own_ne (by omega)) nin0)))
  have fc25 : Fld Z T21.heap ob2 s13_ "requests" s17_ (.ref d2_4) := (fc11.keep K21 (ninS (own_ne (by omega)) (ninS (own_ne (by omega)) nin0)))
  have fc26 : Exa Z T21.heap d1_4 s14_ := ((g4_3.wr W7).keep K21)
  have fc27 : Fld Z T21.heap d1_4 s14_ "elements" s16_ (.ref a1_4) := ((g4_4.other W7 (Or.inl (own_ne (by omega)))).keep K21 (ninS (own_ne (by omega)) (ninS (own_ne (by omega)) nin0)))
  have fc28 : Fld Z T21.heap d1_4 s14_ "head" "I" (.int (0 : Int32)) := ((g4_5.other W7 (Or.inl (own_ne (by omega)))).keep K21 (ninS (own_ne (by omega)) (ninS (own_ne (by omega)) nin0)))
  have fc29 : Fld Z T21.heap d1_4 s14_ "tail" "I" (.int (0 : Int32)) := ((g4_6.other W7 (Or.inl (own_ne (by omega)))).keep K21 (ninS (own_ne (by omega)) (ninS (own_ne (by omega)) nin0)))
  have fc30 : Arv Z T21.heap a1_4 kk1_4 (.object s3_) (17 : Int32) [] .null := ((g4_7.other W7 (own_ne (by omega))).keep K21 (ninS (own_ne (by omega)) (ninS (own_ne (by omega)) nin0)))
  have K31 : Keep h0 T21.heap [en] := (((((Keep.refl h0 [en]).ext E2).trans K4 (allS (P := fun x => x ∈ [en] ∨ h0.size ≤ x) (Or.inr (by omega)) all0)).wr W7 (Or.inl (List.mem_of_getElem? (i := 0) rfl))).trans K21 (allS (P := fun x => x ∈ [en] ∨ h0.size ≤ x) (Or.inr (by omega)) (allS (P := fun x => x ∈ [en] ∨ h0.size ≤ x) (Or.inr (by omega)) all0)))
  obtain ⟨fs, hr, hrun, hended, hW, hsame⟩ := X21.leave (v := none) (fun h => rfl)
  refine ⟨_, _, X21.returnOut hx Bd.returns (hb hby D5_30) hr, hrun, hended, _, _, rfl, ?_, ⟨_, rfl⟩, hW, hsame.mono (by decide) (by decide)⟩
  show Q_rm_enq_None_w10 Z en w1 h0 n0 _ T21.heap _
  exact ⟨ob2, d1_4, a1_4, kk1_4, d2_4, a2_4, kk2_4, rfl, N21, K31, fc22, fc23, fc24, fc25, fc26, fc27, fc28, fc29, fc30, g21_0, g21_1, g21_2, g21_3, g21_4, (by first | assumption | omega), (by first | assumption | omega), (by first | assumption | omega), (by first | assumption | omega), (by first | assumption | omega), (by first | assumption | omega), (by first | assumption | omega), (by first | assumption | omega)⟩
theorem D17_0 : decode jdk_21_method_9_code 0 = .ok (.iload_n 0, 1) := by decide +kernel
theorem D17_1 : decode jdk_21_method_9_code 1 = .ok (.iload_n 1, 1) := by decide +kernel
theorem D17_2 : decode jdk_21_method_9_code 2 = .ok (.isub, 1) := by decide +kernel
theorem D17_3 : decode jdk_21_method_9_code 3 = .ok (.dup, 1) := by decide +kernel
theorem D17_4 : decode jdk_21_method_9_code 4 = .ok (.istore_n 0, 1) := by decide +kernel
theorem D17_5 : decode jdk_21_method_9_code 5 = .ok (.ifCond .ge 7, 3) := by decide +kernel
theorem D17_12 : decode jdk_21_method_9_code 12 = .ok (.iload_n 0, 1) := by decide +kernel
theorem D17_13 : decode jdk_21_method_9_code 13 = .ok (.ireturn, 1) := by decide +kernel
def Q_rm_sub0_0 (Z : State) (h0 : Heap) (n0 : Nat) (v : Option Value) (h : Heap) (L : List Loc) : Prop := v = some (.int (0 : Int32)) ∧ Fr n0 L ∧ h = h0
theorem ef_rm_sub0_0 (m : MethodId) : entryFrame m #[(.int (0 : Int32)), (.int (0 : Int32)), (.int (17 : Int32))] 3 = mkF m 0 #[.val (.int (0 : Int32)), .val (.int (0 : Int32)), .val (.int (17 : Int32))] [] := by first | (simp [entryFrame, mkF, argsToLocals, Value.category]; done) | rfl
set_option maxRecDepth 65536 in
set_option maxHeartbeats 40000000 in
theorem rm_sub0_0 (l : Launch) (Z : State) (a0 : Array Value) (hw : ∀ d ∈ tables_1, d.before a0 Z = true) (ws : List Jvm.Cond) (h0 : Heap) (n0 : Nat) (O0 : Old Z n0 h0) :
    MetFree l (⟨s14_, "sub", "(III)I"⟩ : MethodName) (head1 (Jvm.Cond.code (⟨s14_, "sub", "(III)I"⟩ : MethodName) jdk_21_method_9_code 3 (some .int) :: ws) ({ frames := 0, cells := 0, slots := 0, locals := 0 } : Room)) (fun a U => a = #[(.int (0 : Int32)), (.int (0 : Int32)), (.int (17 : Int32))] ∧ Z.Warmed39 U.vm ∧ U.heap = h0) (fun _ _ _ _ _ => True) (fun _ U o U' => ∃ v L, o = .returned v ∧ Q_rm_sub0_0 Z h0 n0 v U'.heap L ∧ FrameEnd U o U' L ({ frames := 0, cells := 0, slots := 0, locals := 0 } : Room).cells ({ frames := 0, cells := 0, slots := 0, locals := 0 } : Room).slots) := by
  refine MetFree.of_bodySF (plainFor_of_name own_pn_java_util_ArrayDeque) hisR ?_
  intro p e s m args below meth c s₁ Bd hml0 hP hK
  obtain ⟨rfl, hZ, hh⟩ := hP
  have hx := Bd.exec
  have hby := Bd.bytes
  have hml : c.maxLocals = 3 := hml0
  have hown : s.vm.findClass s14_ = some m.cls := findClass_of_methodNamed Bd.named
  have hnm := (name_of_methodNamed Bd.named Bd.method).1
  have X0 : Stand p l e ({ frames := 0, cells := 0, slots := 0, locals := 0 } : Room) s m #[(.int (0 : Int32)), (.int (0 : Int32)), (.int (17 : Int32))] below meth c s₁ [] 0 0 := Stand.of_body Bd
  have e0 : s₁.heap = h0 := by rw [← hh, Bd.state]; rfl
  have N0 := Fr.nil n0
  have Z0 : n0 ≤ h0.size := by rw [← O0.1]; exact O0.2.1
  show own_Go p e below (s₁.setTop (entryFrame m #[(.int (0 : Int32)), (.int (0 : Int32)), (.int (17 : Int32))] 3)) (fun t o => ∃ v L, o = .returned v ∧ Q_rm_sub0_0 Z h0 n0 v t.heap L ∧ FrameEnd s o t L ({ frames := 0, cells := 0, slots := 0, locals := 0 } : Room).cells ({ frames := 0, cells := 0, slots := 0, locals := 0 } : Room).slots)
  rw [ef_rm_sub0_0 m]
  refine own_by (fun _ k => XS.iloadN X0.here hx rfl (hb hby D17_0) rfl k) ?_
  refine own_by (fun _ k => XS.iloadN X0.here hx rfl (hb hby D17_1) rfl k) ?_
  refine own_by (fun _ k => XS.isub X0.here hx rfl (hb hby D17_2) rfl k) ?_
  refine own_by (fun _ k => XS.dup X0.here hx rfl (hb hby D17_3) rfl rfl k) ?_
  refine own_by (fun _ k => XS.istoreN X0.here hx rfl (hb hby D17_4) rfl (l' := #[.val (.int (0 : Int32)), .val (.int (0 : Int32)), .val (.int (17 : Int32))]) rfl k) ?_
  refine own_by (fun _ k => XS.ifYes X0.here hx rfl (pc0 := 5) (pc' := 12) rfl (hb hby D17_5) rfl ((if0 _ _).trans (flt (by decide : ¬ ((0 : Int32) < (0 : Int32)))).2.1) (by decide) (by decide) k) ?_
  show own_Go p e below (s₁.setTop (mkF m 12 #[.val (.int (0 : Int32)), .val (.int (0 : Int32)), .val (.int (17 : Int32))] [])) _
  refine own_by (fun _ k => XS.iloadN X0.here hx rfl (hb hby D17_12) rfl k) ?_
  obtain ⟨fs, hr, hrun, hended, hW, hsame⟩ := X0.leave (v := some (.int (0 : Int32))) (fun h => by rw [Bd.returns] at h; cases h)
  refine ⟨_, _, retI X0 hx Bd.returns (hb hby D17_13) hr, hrun, hended, _, _, rfl, ?_, ⟨_, rfl⟩, hW, hsame.mono (by decide) (by decide)⟩
  show Q_rm_sub0_0 Z h0 n0 _ s₁.heap _
  rw [e0]
  exact ⟨rfl, N0, rfl⟩
def Q_rm_sub1_0 (Z : State) (h0 : Heap) (n0 : Nat) (v : Option Value) (h : Heap) (L : List Loc) : Prop := v = some (.int (1 : Int32)) ∧ Fr n0 L ∧ h = h0
theorem ef_rm_sub1_0 (m : MethodId) : entryFrame m #[(.int (1 : Int32)), (.int (0 : Int32)), (.int (17 : Int32))] 3 = mkF m 0 #[.val (.int (1 : Int32)), .val (.int (0 : Int32)), .val (.int (17 : Int32))] [] := by first | (simp [entryFrame, mkF, argsToLocals, Value.category]; done) | rfl
set_option maxRecDepth 65536 in
set_option maxHeartbeats 40000000 in
theorem rm_sub1_0 (l : Launch) (Z : State) (a0 : Array Value) (hw : ∀ d ∈ tables_1, d.before a0 Z = true) (ws : List Jvm.Cond) (h0 : Heap) (n0 : Nat) (O0 : Old Z n0 h0) :
    MetFree l (⟨s14_, "sub", "(III)I"⟩ : MethodName) (head1 (Jvm.Cond.code (⟨s14_, "sub", "(III)I"⟩ : MethodName) jdk_21_method_9_code 3 (some .int) :: ws) ({ frames := 0, cells := 0, slots := 0, locals := 0 } : Room)) (fun a U => a = #[(.int (1 : Int32)), (.int (0 : Int32)), (.int (17 : Int32))] ∧ Z.Warmed39 U.vm ∧ U.heap = h0) (fun _ _ _ _ _ => True) (fun _ U o U' => ∃ v L, o = .returned v ∧ Q_rm_sub1_0 Z h0 n0 v U'.heap L ∧ FrameEnd U o U' L ({ frames := 0, cells := 0, slots := 0, locals := 0 } : Room).cells ({ frames := 0, cells := 0, slots := 0, locals := 0 } : Room).slots) := by
  refine MetFree.of_bodySF (plainFor_of_name own_pn_java_util_ArrayDeque) hisR ?_
  intro p e s m args below meth c s₁ Bd hml0 hP hK
  obtain ⟨rfl, hZ, hh⟩ := hP
  have hx := Bd.exec
  have hby := Bd.bytes
  have hml : c.maxLocals = 3 := hml0
  have hown : s.vm.findClass s14_ = some m.cls := findClass_of_methodNamed Bd.named
  have hnm := (name_of_methodNamed Bd.named Bd.method).1
  have X0 : Stand p l e ({ frames := 0, cells := 0, slots := 0, locals := 0 } : Room) s m #[(.int (1 : Int32)), (.int (0 : Int32)), (.int (17 : Int32))] below meth c s₁ [] 0 0 := Stand.of_body Bd
  have e0 : s₁.heap = h0 := by rw [← hh, Bd.state]; rfl
  have N0 := Fr.nil n0
  have Z0 : n0 ≤ h0.size := by rw [← O0.1]; exact O0.2.1
  show own_Go p e below (s₁.setTop (entryFrame m #[(.int (1 : Int32)), (.int (0 : Int32)), (.int (17 : Int32))] 3)) (fun t o => ∃ v L, o = .returned v ∧ Q_rm_sub1_0 Z h0 n0 v t.heap L ∧ FrameEnd s o t L ({ frames := 0, cells := 0, slots := 0, locals := 0 } : Room).cells ({ frames := 0, cells := 0, slots := 0, locals := 0 } : Room).slots)
  rw [ef_rm_sub1_0 m]
  refine own_by (fun _ k => XS.iloadN X0.here hx rfl (hb hby D17_0) rfl k) ?_
  refine own_by (fun _ k => XS.iloadN X0.here hx rfl (hb hby D17_1) rfl k) ?_
  refine own_by (fun _ k => XS.isub X0.here hx rfl (hb hby D17_2) rfl k) ?_
  refine own_by (fun _ k => XS.dup X0.here hx rfl (hb hby D17_3) rfl rfl k) ?_
  refine own_by (fun _ k => XS.istoreN X0.here hx rfl (hb hby D17_4) rfl (l' := #[.val (.int (1 : Int32)), .val (.int (0 : Int32)), .val (.int (17 : Int32))]) rfl k) ?_
  refine own_by (fun _ k => XS.ifYes X0.here hx rfl (pc0 := 5) (pc' := 12) rfl (hb hby D17_5) rfl ((if0 _ _).trans (flt (by decide : ¬ ((1 : Int32) < (0 : Int32)))).2.1) (by decide) (by decide) k) ?_
  show own_Go p e below (s₁.setTop (mkF m 12 #[.val (.int (1 : Int32)), .val (.int (0 : Int32)), .val (.int (17 : Int32))] [])) _
  refine own_by (fun _ k => XS.iloadN X0.here hx rfl (hb hby D17_12) rfl k) ?_
  obtain ⟨fs, hr, hrun, hended, hW, hsame⟩ := X0.leave (v := some (.int (1 : Int32))) (fun h => by rw [Bd.returns] at h; cases h)
  refine ⟨_, _, retI X0 hx Bd.returns (hb hby D17_13) hr, hrun, hended, _, _, rfl, ?_, ⟨_, rfl⟩, hW, hsame.mono (by decide) (by decide)⟩
  show Q_rm_sub1_0 Z h0 n0 _ s₁.heap _
  rw [e0]
  exact ⟨rfl, N0, rfl⟩
theorem D18_0 : decode jdk_21_method_7_code 0 = .ok (.iinc 0 (-1), 3) := by decide +kernel
theorem D18_3 : decode jdk_21_method_7_code 3 = .ok (.iload_n 0, 1) := by decide +kernel
theorem D18_4 : decode jdk_21_method_7_code 4 = .ok (.ifCond .ge 7, 3) := by decide +kernel
theorem D18_11 : decode jdk_21_method_7_code 11 = .ok (.iload_n 0, 1) := by decide +kernel
theorem D18_12 : decode jdk_21_method_7_code 12 = .ok (.ireturn, 1) := by decide +kernel
def Q_rm_dec1 (Z : State) (h0 : Heap) (n0 : Nat) (v : Option Value) (h : Heap) (L : List Loc) : Prop := v = some (.int (0 : Int32)) ∧ Fr n0 L ∧ h = h0
theorem ef_rm_dec1 (m : MethodId) : entryFrame m #[(.int (1 : Int32)), (.int (17 : Int32))] 2 = mkF m 0 #[.val (.int (1 : Int32)), .val (.int (17 : Int32))] [] := by first | (simp [entryFrame, mkF, argsToLocals, Value.category]; done) | rfl
set_option maxRecDepth 65536 in
set_option maxHeartbeats 40000000 in
theorem rm_dec1 (l : Launch) (Z : State) (a0 : Array Value) (hw : ∀ d ∈ tables_1, d.before a0 Z = true) (ws : List Jvm.Cond) (h0 : Heap) (n0 : Nat) (O0 : Old Z n0 h0) :
    MetFree l (⟨s14_, "dec", "(II)I"⟩ : MethodName) (head1 (Jvm.Cond.code (⟨s14_, "dec", "(II)I"⟩ : MethodName) jdk_21_method_7_code 2 (some .int) :: ws) ({ frames := 0, cells := 0, slots := 0, locals := 0 } : Room)) (fun a U => a = #[(.int (1 : Int32)), (.int (17 : Int32))] ∧ Z.Warmed39 U.vm ∧ U.heap = h0) (fun _ _ _ _ _ => True) (fun _ U o U' => ∃ v L, o = .returned v ∧ Q_rm_dec1 Z h0 n0 v U'.heap L ∧ FrameEnd U o U' L ({ frames := 0, cells := 0, slots := 0, locals := 0 } : Room).cells ({ frames := 0, cells := 0, slots := 0, locals := 0 } : Room).slots) := by
  refine MetFree.of_bodySF (plainFor_of_name own_pn_java_util_ArrayDeque) hisR ?_
  intro p e s m args below meth c s₁ Bd hml0 hP hK
  obtain ⟨rfl, hZ, hh⟩ := hP
  have hx := Bd.exec
  have hby := Bd.bytes
  have hml : c.maxLocals = 2 := hml0
  have hown : s.vm.findClass s14_ = some m.cls := findClass_of_methodNamed Bd.named
  have hnm := (name_of_methodNamed Bd.named Bd.method).1
  have X0 : Stand p l e ({ frames := 0, cells := 0, slots := 0, locals := 0 } : Room) s m #[(.int (1 : Int32)), (.int (17 : Int32))] below meth c s₁ [] 0 0 := Stand.of_body Bd
  have e0 : s₁.heap = h0 := by rw [← hh, Bd.state]; rfl
  have N0 := Fr.nil n0
  have Z0 : n0 ≤ h0.size := by rw [← O0.1]; exact O0.2.1
  show own_Go p e below (s₁.setTop (entryFrame m #[(.int (1 : Int32)), (.int (17 : Int32))] 2)) (fun t o => ∃ v L, o = .returned v ∧ Q_rm_dec1 Z h0 n0 v t.heap L ∧ FrameEnd s o t L ({ frames := 0, cells := 0, slots := 0, locals := 0 } : Room).cells ({ frames := 0, cells := 0, slots := 0, locals := 0 } : Room).slots)
  rw [ef_rm_dec1 m]
  refine own_by (fun _ k => XS.iinc X0.here hx rfl (hb hby D18_0) rfl (l' := #[.val (.int (0 : Int32)), .val (.int (17 : Int32))]) rfl k) ?_
  refine own_by (fun _ k => XS.iloadN X0.here hx rfl (hb hby D18_3) rfl k) ?_
  refine own_by (fun _ k => XS.ifYes X0.here hx rfl (pc0 := 4) (pc' := 11) rfl (hb hby D18_4) rfl ((if0 _ _).trans (flt (by decide : ¬ ((0 : Int32) < (0 : Int32)))).2.1) (by decide) (by decide) k) ?_
  show own_Go p e below (s₁.setTop (mkF m 11 #[.val (.int (0 : Int32)), .val (.int (17 : Int32))] [])) _
  refine own_by (fun _ k => XS.iloadN X0.here hx rfl (hb hby D18_11) rfl k) ?_
  obtain ⟨fs, hr, hrun, hended, hW, hsame⟩ := X0.leave (v := some (.int (0 : Int32))) (fun h => by rw [Bd.returns] at h; cases h)
  refine ⟨_, _, retI X0 hx Bd.returns (hb hby D18_12) hr, hrun, hended, _, _, rfl, ?_, ⟨_, rfl⟩, hW, hsame.mono (by decide) (by decide)⟩
  show Q_rm_dec1 Z h0 n0 _ s₁.heap _
  rw [e0]
  exact ⟨rfl, N0, rfl⟩
theorem D16_0 : decode jdk_21_method_36_code 0 = .ok (.aload_n 0, 1) := by decide +kernel
theorem D16_1 : decode jdk_21_method_36_code 1 = .ok (.getfield 3, 3) := by decide +kernel
theorem D16_4 : decode jdk_21_method_36_code 4 = .ok (.astore_n 2, 1) := by decide +kernel
theorem D16_5 : decode jdk_21_method_36_code 5 = .ok (.aload_n 2, 1) := by decide +kernel
theorem D16_6 : decode jdk_21_method_36_code 6 = .ok (.arraylength, 1) := by decide +kernel
theorem D16_7 : decode jdk_21_method_36_code 7 = .ok (.istore_n 3, 1) := by decide +kernel
theorem D16_8 : decode jdk_21_method_36_code 8 = .ok (.iload_n 1, 1) := by decide +kernel
theorem D16_9 : decode jdk_21_method_36_code 9 = .ok (.aload_n 0, 1) := by decide +kernel
theorem D16_10 : decode jdk_21_method_36_code 10 = .ok (.getfield 24, 3) := by decide +kernel
theorem D16_13 : decode jdk_21_method_36_code 13 = .ok (.dup, 1) := by decide +kernel
theorem D16_14 : decode jdk_21_method_36_code 14 = .ok (.istore 4, 2) := by decide +kernel
theorem D16_16 : decode jdk_21_method_36_code 16 = .ok (.iload_n 3, 1) := by decide +kernel
theorem D16_17 : decode jdk_21_method_36_code 17 = .ok (.invokestatic 127, 3) := by decide +kernel
theorem D16_20 : decode jdk_21_method_36_code 20 = .ok (.istore 6, 2) := by decide +kernel
theorem D16_22 : decode jdk_21_method_36_code 22 = .ok (.aload_n 0, 1) := by decide +kernel
theorem D16_23 : decode jdk_21_method_36_code 23 = .ok (.getfield 20, 3) := by decide +kernel
theorem D16_26 : decode jdk_21_method_36_code 26 = .ok (.dup, 1) := by decide +kernel
theorem D16_27 : decode jdk_21_method_36_code 27 = .ok (.istore 5, 2) := by decide +kernel
theorem D16_29 : decode jdk_21_method_36_code 29 = .ok (.iload_n 1, 1) := by decide +kernel
theorem D16_30 : decode jdk_21_method_36_code 30 = .ok (.iload_n 3, 1) := by decide +kernel
theorem D16_31 : decode jdk_21_method_36_code 31 = .ok (.invokestatic 127, 3) := by decide +kernel
theorem D16_34 : decode jdk_21_method_36_code 34 = .ok (.iconst 1, 1) := by decide +kernel
theorem D16_35 : decode jdk_21_method_36_code 35 = .ok (.isub, 1) := by decide +kernel
theorem D16_36 : decode jdk_21_method_36_code 36 = .ok (.istore 7, 2) := by decide +kernel
theorem D16_38 : decode jdk_21_method_36_code 38 = .ok (.iload 6, 2) := by decide +kernel
theorem D16_40 : decode jdk_21_method_36_code 40 = .ok (.iload 7, 2) := by decide +kernel
theorem D16_42 : decode jdk_21_method_36_code 42 = .ok (.if_icmp .ge 75, 3) := by decide +kernel
theorem D16_117 : decode jdk_21_method_36_code 117 = .ok (.aload_n 0, 1) := by decide +kernel
theorem D16_118 : decode jdk_21_method_36_code 118 = .ok (.iload 5, 2) := by decide +kernel
theorem D16_120 : decode jdk_21_method_36_code 120 = .ok (.iload_n 3, 1) := by decide +kernel
theorem D16_121 : decode jdk_21_method_36_code 121 = .ok (.invokestatic 68, 3) := by decide +kernel
theorem D16_124 : decode jdk_21_method_36_code 124 = .ok (.putfield 20, 3) := by decide +kernel
theorem D16_127 : decode jdk_21_method_36_code 127 = .ok (.iload_n 1, 1) := by decide +kernel
theorem D16_128 : decode jdk_21_method_36_code 128 = .ok (.aload_n 0, 1) := by decide +kernel
theorem D16_129 : decode jdk_21_method_36_code 129 = .ok (.getfield 20, 3) := by decide +kernel
theorem D16_132 : decode jdk_21_method_36_code 132 = .ok (.if_icmp .gt 17, 3) := by decide +kernel
theorem D16_135 : decode jdk_21_method_36_code 135 = .ok (.aload_n 2, 1) := by decide +kernel
theorem D16_136 : decode jdk_21_method_36_code 136 = .ok (.iload_n 1, 1) := by decide +kernel
theorem D16_137 : decode jdk_21_method_36_code 137 = .ok (.iconst 1, 1) := by decide +kernel
theorem D16_138 : decode jdk_21_method_36_code 138 = .ok (.iadd, 1) := by decide +kernel
theorem D16_139 : decode jdk_21_method_36_code 139 = .ok (.aload_n 2, 1) := by decide +kernel
theorem D16_140 : decode jdk_21_method_36_code 140 = .ok (.iload_n 1, 1) := by decide +kernel
theorem D16_141 : decode jdk_21_method_36_code 141 = .ok (.iload 7, 2) := by decide +kernel
theorem D16_143 : decode jdk_21_method_36_code 143 = .ok (.invokestatic 27, 3) := by decide +kernel
theorem D16_146 : decode jdk_21_method_36_code 146 = .ok (.goto 36, 3) := by decide +kernel
theorem D16_182 : decode jdk_21_method_36_code 182 = .ok (.aload_n 2, 1) := by decide +kernel
theorem D16_183 : decode jdk_21_method_36_code 183 = .ok (.aload_n 0, 1) := by decide +kernel
theorem D16_184 : decode jdk_21_method_36_code 184 = .ok (.getfield 20, 3) := by decide +kernel
theorem D16_187 : decode jdk_21_method_36_code 187 = .ok (.aconst_null, 1) := by decide +kernel
theorem D16_188 : decode jdk_21_method_36_code 188 = .ok (.aastore, 1) := by decide +kernel
theorem D16_189 : decode jdk_21_method_36_code 189 = .ok (.iconst 1, 1) := by decide +kernel
theorem D16_190 : decode jdk_21_method_36_code 190 = .ok (.ireturn, 1) := by decide +kernel
def Q_rm_del_0_1_w1_0 (Z : State) (d : Addr) (a1 : Addr) (kk1 : ClassId) (w1 : Addr) (h0 : Heap) (n0 : Nat) (v : Option Value) (h : Heap) (L : List Loc) : Prop := v = some (.int (1 : Int32)) ∧ Fr n0 L ∧ Keep h0 h [d, a1] ∧ Exa Z h d s14_ ∧ Fld Z h d s14_ "elements" s16_ (.ref a1) ∧ Fld Z h d s14_ "head" "I" (.int (0 : Int32)) ∧ Fld Z h d s14_ "tail" "I" (.int (0 : Int32)) ∧ Arv Z h a1 kk1 (.object s3_) (17 : Int32) [] .null
theorem ef_rm_del_0_1_w1_0 (m : MethodId) (d : Addr) (a1 : Addr) (kk1 : ClassId) (w1 : Addr) : entryFrame m #[(.ref d), (.int (0 : Int32))] 8 = mkF m 0 #[.val (.ref d), .val (.int (0 : Int32)), .unset, .unset, .unset, .unset, .unset, .unset] [] := by first | (simp [entryFrame, mkF, argsToLocals, Value.category]; done) | rfl
set_option maxRecDepth 65536 in
set_option maxHeartbeats 40000000 in
theorem rm_del_0_1_w1_0 (l : Launch) (Z : State) (a0 : Array Value) (hw : ∀ d ∈ tables_1, d.before a0 Z = true) (ws : List Jvm.Cond) (d : Addr) (a1 : Addr) (kk1 : ClassId) (w1 : Addr) (h0 : Heap) (n0 : Nat) (O0 : Old Z n0 h0) (Ed : Exa Z h0 d s14_) (Fe : Fld Z h0 d s14_ "elements" s16_ (.ref a1)) (Fh : Fld Z h0 d s14_ "head" "I" (.int (0 : Int32))) (Ft : Fld Z h0 d s14_ "tail" "I" (.int (1 : Int32))) (Va : Arv Z h0 a1 kk1 (.object s3_) (17 : Int32) [(.ref w1)] .null) (gd : n0 ≤ d) (ga : n0 ≤ a1) (nda : ¬ (@Eq Nat d a1)) :
    MetFree l (⟨s14_, "delete", "(I)Z"⟩ : MethodName) (head1 (Jvm.Cond.code (⟨s14_, "delete", "(I)Z"⟩ : MethodName) jdk_21_method_36_code 8 (some .boolean) :: ws) ({ frames := 1, cells := 0, slots := 0, locals := 18 } : Room)) (fun a U => a = #[(.ref d), (.int (0 : Int32))] ∧ Z.Warmed39 U.vm ∧ U.heap = h0) (fun _ _ _ _ _ => True) (fun _ U o U' => ∃ v L, o = .returned v ∧ Q_rm_del_0_1_w1_0 Z d a1 kk1 w1 h0 n0 v U'.heap L ∧ FrameEnd U o U' L ({ frames := 1, cells := 0, slots := 0, locals := 18 } : Room).cells ({ frames := 1, cells := 0, slots := 0, locals := 18 } : Room).slots) := by
  refine MetFree.of_bodySF (plainFor_of_name own_pn_java_util_ArrayDeque) hisR ?_
  intro p e s m args below meth c s₁ Bd hml0 hP hK
  obtain ⟨rfl, hZ, hh⟩ := hP
  have hx := Bd.exec
  have hby := Bd.bytes
  have hml : c.maxLocals = 8 := hml0
  have hown : s.vm.findClass s14_ = some m.cls := findClass_of_methodNamed Bd.named
  have hnm := (name_of_methodNamed Bd.named Bd.method).1
  have X0 : Stand p l e ({ frames := 1, cells := 0, slots := 0, locals := 18 } : Room) s m #[(.ref d), (.int (0 : Int32))] below meth c s₁ [] 0 0 := Stand.of_body Bd
  have e0 : s₁.heap = h0 := by rw [← hh, Bd.state]; rfl
  have N0 := Fr.nil n0
  have Z0 : n0 ≤ h0.size := by rw [← O0.1]; exact O0.2.1
  show own_Go p e below (s₁.setTop (entryFrame m #[(.ref d), (.int (0 : Int32))] 8)) (fun t o => ∃ v L, o = .returned v ∧ Q_rm_del_0_1_w1_0 Z d a1 kk1 w1 h0 n0 v t.heap L ∧ FrameEnd s o t L ({ frames := 1, cells := 0, slots := 0, locals := 18 } : Room).cells ({ frames := 1, cells := 0, slots := 0, locals := 18 } : Room).slots)
  rw [ef_rm_del_0_1_w1_0 m d a1 kk1 w1]
  have lt_Ed : h0.size > d := Ed.lt
  have lt_Fe : h0.size > d := Fe.lt
  have lt_Fh : h0.size > d := Fh.lt
  have lt_Ft : h0.size > d := Ft.lt
  have lt_Va : h0.size > a1 := Va.lt
  refine own_by (fun _ k => XS.aloadN X0.here hx rfl (hb hby D16_0) rfl rfl k) ?_
  obtain ⟨T1, X1, e1, st1⟩ := getF X0 hx hZ hown (host := "") (Or.inl (own_w hw 73 rfl)) Via.refl e0 Fe (g := (mkF m 1 #[.val (.ref d), .val (.int (0 : Int32)), .unset, .unset, .unset, .unset, .unset, .unset] [(.ref d)])) rfl rfl (hb hby D16_1)
  refine own_by st1 ?_
  refine own_by (fun _ k => XS.astoreN X1.here hx rfl (hb hby D16_4) rfl rfl (l' := #[.val (.ref d), .val (.int (0 : Int32)), .val (.ref a1), .unset, .unset, .unset, .unset, .unset]) rfl k) ?_
  refine own_by (fun _ k => XS.aloadN X1.here hx rfl (hb hby D16_5) rfl rfl k) ?_
  obtain ⟨cl2, Ar2, q2, S2, M2, H2, G2⟩ := (id Va)
  refine own_by (X1.arraylength hx (by rw [e1]; exact Ar2.1) (State.isArrayOf_alike hZ.alike Ar2.2.1) (g := (mkF m 6 #[.val (.ref d), .val (.int (0 : Int32)), .val (.ref a1), .unset, .unset, .unset, .unset, .unset] [(.ref a1)])) rfl rfl (hb hby D16_6)) ?_
  rw [len_of S2 M2]
  refine own_by (fun _ k => XS.istoreN X1.here hx rfl (hb hby D16_7) rfl (l' := #[.val (.ref d), .val (.int (0 : Int32)), .val (.ref a1), .val (.int (17 : Int32)), .unset, .unset, .unset, .unset]) rfl k) ?_
  show own_Go p e below (T1.setTop (mkF m 8 #[.val (.ref d), .val (.int (0 : Int32)), .val (.ref a1), .val (.int (17 : Int32)), .unset, .unset, .unset, .unset] [])) _
  refine own_by (fun _ k => XS.iloadN X1.here hx rfl (hb hby D16_8) rfl k) ?_
  refine own_by (fun _ k => XS.aloadN X1.here hx rfl (hb hby D16_9) rfl rfl k) ?_
  obtain ⟨T3, X3, e3, st3⟩ := getF X1 hx hZ hown (host := "") (Or.inl (own_w hw 93 rfl)) Via.refl e1 Fh (g := (mkF m 10 #[.val (.ref d), .val (.int (0 : Int32)), .val (.ref a1), .val (.int (17 : Int32)), .unset, .unset, .unset, .unset] [(.ref d), (.int (0 : Int32))])) rfl rfl (hb hby D16_10)
  refine own_by st3 ?_
  refine own_by (fun _ k => XS.dup X3.here hx rfl (hb hby D16_13) rfl rfl k) ?_
  refine own_by (fun _ k => XS.istore X3.here hx rfl (hb hby D16_14) rfl (l' := #[.val (.ref d), .val (.int (0 : Int32)), .val (.ref a1), .val (.int (17 : Int32)), .val (.int (0 : Int32)), .unset, .unset, .unset]) rfl k) ?_
  refine own_by (fun _ k => XS.iloadN X3.here hx rfl (hb hby D16_16) rfl k) ?_
  show own_Go p e below (T3.setTop (mkF m 17 #[.val (.ref d), .val (.int (0 : Int32)), .val (.ref a1), .val (.int (17 : Int32)), .val (.int (0 : Int32)), .unset, .unset, .unset] [(.int (17 : Int32)), (.int (0 : Int32)), (.int (0 : Int32))])) _
  obtain ⟨_, _, ⟨T4, L4, k4, n4⟩, -, X4, ⟨Lc4, hQ4, l4, y4, z4⟩, st4⟩ := Jvm.LawKit.callS X3 hx (y := (⟨s14_, "sub", "(III)I"⟩ : MethodName)) hown (mvT hZ (own_w hw 123 rfl)) (mvT hZ (own_w hw 124 rfl)) (mvT hZ (own_w hw 60 rfl)) (mvT hZ (own_w hw 125 rfl)) (by decide) (backOf (W := 0) (rm_sub0_0 l Z a0 hw [] h0 n0 O0) hZ (own_w hw 125 rfl) (own_w hw 60 rfl) (by decide) (by decide)) (g := (mkF m 17 #[.val (.ref d), .val (.int (0 : Int32)), .val (.ref a1), .val (.int (17 : Int32)), .val (.int (0 : Int32)), .unset, .unset, .unset] [(.int (17 : Int32)), (.int (0 : Int32)), (.int (0 : Int32))])) rfl (by rw [hml]; rfl) (argsL := [(.int (0 : Int32)), (.int (0 : Int32)), (.int (17 : Int32))]) (rest := []) (lenOf own_pd__28III_29I rfl) rfl (by show 2 * 0 + _ ≤ _; exact Nat.le_of_eq rfl) (hb hby D16_17) (fun _ _ => ⟨rfl, e3, (by decide : 0 + 0 ≤ _), (by decide : 0 + 0 ≤ _)⟩)
  dsimp only [Pt.U, Pt.locs, Pt.cells, Pt.slots] at X4 l4 y4 z4 st4 hQ4
  subst l4 y4 z4
  obtain ⟨rfl, M4, K4⟩ := hQ4
  have N4 := Fr.app N0 M4
  refine own_by st4 ?_
  refine own_by (fun _ k => XS.istore X4.here hx rfl (hb hby D16_20) rfl (l' := #[.val (.ref d), .val (.int (0 : Int32)), .val (.ref a1), .val (.int (17 : Int32)), .val (.int (0 : Int32)), .unset, .val (.int (0 : Int32)), .unset]) rfl k) ?_
  refine own_by (fun _ k => XS.aloadN X4.here hx rfl (hb hby D16_22) rfl rfl k) ?_
  obtain ⟨T5, X5, e5, st5⟩ := getF X4 hx hZ hown (host := "") (Or.inl (own_w hw 90 rfl)) Via.refl K4 Ft (g := (mkF m 23 #[.val (.ref d), .val (.int (0 : Int32)), .val (.ref a1), .val (.int (17 : Int32)), .val (.int (0 : Int32)), .unset, .val (.int (0 : Int32)), .unset] [(.ref d)])) rfl rfl (hb hby D16_23)
  refine own_by st5 ?_
  refine own_by (fun _ k => XS.dup X5.here hx rfl (hb hby D16_26) rfl rfl k) ?_
  refine own_by (fun _ k => XS.istore X5.here hx rfl (hb hby D16_27) rfl (l' := #[.val (.ref d), .val (.int (0 : Int32)), .val (.ref a1), .val (.int (17 : Int32)), .val (.int (0 : Int32)), .val (.int (1 : Int32)), .val (.int (0 : Int32)), .unset]) rfl k) ?_
  show own_Go p e below (T5.setTop (mkF m 29 #[.val (.ref d), .val (.int (0 : Int32)), .val (.ref a1), .val (.int (17 : Int32)), .val (.int (0 : Int32)), .val (.int (1 : Int32)), .val (.int (0 : Int32)), .unset] [(.int (1 : Int32))])) _
  refine own_by (fun _ k => XS.iloadN X5.here hx rfl (hb hby D16_29) rfl k) ?_
  refine own_by (fun _ k => XS.iloadN X5.here hx rfl (hb hby D16_30) rfl k) ?_
  obtain ⟨_, _, ⟨T6, L6, k6, n6⟩, -, X6, ⟨Lc6, hQ6, l6, y6, z6⟩, st6⟩ := Jvm.LawKit.callS X5 hx (y := (⟨s14_, "sub", "(III)I"⟩ : MethodName)) hown (mvT hZ (own_w hw 123 rfl)) (mvT hZ (own_w hw 124 rfl)) (mvT hZ (own_w hw 60 rfl)) (mvT hZ (own_w hw 125 rfl)) (by decide) (backOf (W := 0) (rm_sub1_0 l Z a0 hw [] h0 n0 O0) hZ (own_w hw 125 rfl) (own_w hw 60 rfl) (by decide) (by decide)) (g := (mkF m 31 #[.val (.ref d), .val (.int (0 : Int32)), .val (.ref a1), .val (.int (17 : Int32)), .val (.int (0 : Int32)), .val (.int (1 : Int32)), .val (.int (0 : Int32)), .unset] [(.int (17 : Int32)), (.int (0 : Int32)), (.int (1 : Int32))])) rfl (by rw [hml]; rfl) (argsL := [(.int (1 : Int32)), (.int (0 : Int32)), (.int (17 : Int32))]) (rest := []) (lenOf own_pd__28III_29I rfl) rfl (by show 2 * 0 + _ ≤ _; exact Nat.le_of_eq rfl) (hb hby D16_31) (fun _ _ => ⟨rfl, e5, (by decide : 0 + 0 ≤ _), (by decide : 0 + 0 ≤ _)⟩)
  dsimp only [Pt.U, Pt.locs, Pt.cells, Pt.slots] at X6 l6 y6 z6 st6 hQ6
  subst l6 y6 z6
  obtain ⟨rfl, M6, K6⟩ := hQ6
  have N6 := Fr.app N4 M6
  refine own_by st6 ?_
  refine own_by (fun _ k => XS.iconst X6.here hx rfl (hb hby D16_34) k) ?_
  refine own_by (fun _ k => XS.isub X6.here hx rfl (hb hby D16_35) rfl k) ?_
  refine own_by (fun _ k => XS.istore X6.here hx rfl (hb hby D16_36) rfl (l' := #[.val (.ref d), .val (.int (0 : Int32)), .val (.ref a1), .val (.int (17 : Int32)), .val (.int (0 : Int32)), .val (.int (1 : Int32)), .val (.int (0 : Int32)), .val (.int (0 : Int32))]) rfl k) ?_
  show own_Go p e below (T6.setTop (mkF m 38 #[.val (.ref d), .val (.int (0 : Int32)), .val (.ref a1), .val (.int (17 : Int32)), .val (.int (0 : Int32)), .val (.int (1 : Int32)), .val (.int (0 : Int32)), .val (.int (0 : Int32))] [])) _
  refine own_by (fun _ k => XS.iload X6.here hx rfl (hb hby D16_38) rfl k) ?_
  refine own_by (fun _ k => XS.iload X6.here hx rfl (hb hby D16_40) rfl k) ?_
  refine own_by (fun _ k => XS.icmpYes X6.here hx rfl (pc0 := 42) (pc' := 117) rfl (hb hby D16_42) rfl (flt (by decide : ¬ ((0 : Int32) < (0 : Int32)))).2.1 (by decide) (by decide) k) ?_
  show own_Go p e below (T6.setTop (mkF m 117 #[.val (.ref d), .val (.int (0 : Int32)), .val (.ref a1), .val (.int (17 : Int32)), .val (.int (0 : Int32)), .val (.int (1 : Int32)), .val (.int (0 : Int32)), .val (.int (0 : Int32))] [])) _
  refine own_by (fun _ k => XS.aloadN X6.here hx rfl (hb hby D16_117) rfl rfl k) ?_
  refine own_by (fun _ k => XS.iload X6.here hx rfl (hb hby D16_118) rfl k) ?_
  refine own_by (fun _ k => XS.iloadN X6.here hx rfl (hb hby D16_120) rfl k) ?_
  obtain ⟨_, _, ⟨T7, L7, k7, n7⟩, -, X7, ⟨Lc7, hQ7, l7, y7, z7⟩, st7⟩ := Jvm.LawKit.callS X6 hx (y := (⟨s14_, "dec", "(II)I"⟩ : MethodName)) hown (mvT hZ (own_w hw 126 rfl)) (mvT hZ (own_w hw 127 rfl)) (mvT hZ (own_w hw 60 rfl)) (mvT hZ (own_w hw 128 rfl)) (by decide) (backOf (W := 1) (rm_dec1 l Z a0 hw [] h0 n0 O0) hZ (own_w hw 128 rfl) (own_w hw 60 rfl) (by decide) (by decide)) (g := (mkF m 121 #[.val (.ref d), .val (.int (0 : Int32)), .val (.ref a1), .val (.int (17 : Int32)), .val (.int (0 : Int32)), .val (.int (1 : Int32)), .val (.int (0 : Int32)), .val (.int (0 : Int32))] [(.int (17 : Int32)), (.int (1 : Int32)), (.ref d)])) rfl (by rw [hml]; rfl) (argsL := [(.int (1 : Int32)), (.int (17 : Int32))]) (rest := [(.ref d)]) (lenOf own_pd__28II_29I rfl) rfl (by show 2 * 0 + _ ≤ _; exact Nat.le_of_eq rfl) (hb hby D16_121) (fun _ _ => ⟨rfl, K6, (by decide : 0 + 0 ≤ _), (by decide : 0 + 0 ≤ _)⟩)
  dsimp only [Pt.U, Pt.locs, Pt.cells, Pt.slots] at X7 l7 y7 z7 st7 hQ7
  subst l7 y7 z7
  obtain ⟨rfl, M7, K7⟩ := hQ7
  have N7 := Fr.app N6 M7
  refine own_by st7 ?_
  obtain ⟨T8, h8, X8, e8, W8, st8⟩ := putF X7 hx hZ hown (host := "") (Or.inl (own_w hw 90 rfl)) Via.refl K7 Ft Ed (Or.inl (own_w hw 91 rfl)) (own_w hw 59 rfl) (ty := .int) (by decide) rfl rfl (g := (mkF m 124 #[.val (.ref d), .val (.int (0 : Int32)), .val (.ref a1), .val (.int (17 : Int32)), .val (.int (0 : Int32)), .val (.int (1 : Int32)), .val (.int (0 : Int32)), .val (.int (0 : Int32))] [(.int (0 : Int32)), (.ref d)])) rfl rfl (hb hby D16_124)
  refine own_by st8 ?_
  have z8 := W8.size
  have N8 := Fr.snoc X8 N7 (by omega)
  have Fw8 : Fld Z h8 d s14_ "tail" "I" (.int (0 : Int32)) := Ft.same W8
  refine own_by (fun _ k => XS.iloadN X8.here hx rfl (hb hby D16_127) rfl k) ?_
  show own_Go p e below (T8.setTop (mkF m 128 #[.val (.ref d), .val (.int (0 : Int32)), .val (.ref a1), .val (.int (17 : Int32)), .val (.int (0 : Int32)), .val (.int (1 : Int32)), .val (.int (0 : Int32)), .val (.int (0 : Int32))] [(.int (0 : Int32))])) _
  refine own_by (fun _ k => XS.aloadN X8.here hx rfl (hb hby D16_128) rfl rfl k) ?_
  obtain ⟨T9, X9, e9, st9⟩ := getF X8 hx hZ hown (host := "") (Or.inl (own_w hw 90 rfl)) Via.refl e8 Fw8 (g := (mkF m 129 #[.val (.ref d), .val (.int (0 : Int32)), .val (.ref a1), .val (.int (17 : Int32)), .val (.int (0 : Int32)), .val (.int (1 : Int32)), .val (.int (0 : Int32)), .val (.int (0 : Int32))] [(.ref d), (.int (0 : Int32))])) rfl rfl (hb hby D16_129)
  refine own_by st9 ?_
  refine own_by (fun _ k => XS.icmpNo X9.here hx rfl (hb hby D16_132) rfl (flt (by decide : ¬ ((0 : Int32) < (0 : Int32)))).2.2.1 k) ?_
  show own_Go p e below (T9.setTop (mkF m 135 #[.val (.ref d), .val (.int (0 : Int32)), .val (.ref a1), .val (.int (17 : Int32)), .val (.int (0 : Int32)), .val (.int (1 : Int32)), .val (.int (0 : Int32)), .val (.int (0 : Int32))] [])) _
  refine own_by (fun _ k => XS.aloadN X9.here hx rfl (hb hby D16_135) rfl rfl k) ?_
  refine own_by (fun _ k => XS.iloadN X9.here hx rfl (hb hby D16_136) rfl k) ?_
  refine own_by (fun _ k => XS.iconst X9.here hx rfl (hb hby D16_137) k) ?_
  refine own_by (fun _ k => XS.iadd X9.here hx rfl (hb hby D16_138) rfl k) ?_
  refine own_by (fun _ k => XS.aloadN X9.here hx rfl (hb hby D16_139) rfl rfl k) ?_
  refine own_by (fun _ k => XS.iloadN X9.here hx rfl (hb hby D16_140) rfl k) ?_
  show own_Go p e below (T9.setTop (mkF m 141 #[.val (.ref d), .val (.int (0 : Int32)), .val (.ref a1), .val (.int (17 : Int32)), .val (.int (0 : Int32)), .val (.int (1 : Int32)), .val (.int (0 : Int32)), .val (.int (0 : Int32))] [(.int (0 : Int32)), (.ref a1), (.int (1 : Int32)), (.ref a1)])) _
  refine own_by (fun _ k => XS.iload X9.here hx rfl (hb hby D16_141) rfl k) ?_
  have fc10 : Arv Z h8 a1 kk1 (.object s3_) (17 : Int32) [(.ref w1)] .null := (Va.other W8 (own_ne (by omega)))
  obtain ⟨T11, h11, L11, X11, e11, N11, K11, Vr11, st11⟩ := cpA X9 hx hZ hown (own_w hw 129 rfl) (own_w hw 132 rfl) (own_w hw 130 rfl) (own_w hw 131 rfl) e9 fc10 fc10 (Or.inr ⟨rfl, rfl, trivial⟩) (sp := (1 : Int32)) (dp := (0 : Int32)) (nn := (0 : Int32)) (us := []) (by decide) (by decide) (by decide) (by decide) (by decide) rfl (Nat.le_of_ble_eq_true rfl) N8 (by omega) (g := (mkF m 143 #[.val (.ref d), .val (.int (0 : Int32)), .val (.ref a1), .val (.int (17 : Int32)), .val (.int (0 : Int32)), .val (.int (1 : Int32)), .val (.int (0 : Int32)), .val (.int (0 : Int32))] [(.int (0 : Int32)), (.int (0 : Int32)), (.ref a1), (.int (1 : Int32)), (.ref a1)])) rfl (by rw [hml]; rfl) rfl (hb hby D16_143) (by decide) (W := 0) (by show 2 * 0 + _ ≤ _; exact Nat.le_of_eq rfl) (by decide)
  refine own_by st11 ?_
  have z11 := K11.1
  have Vw11 : Arv Z h11 a1 kk1 (.object s3_) (17 : Int32) [(.ref w1)] .null := Vr11
  refine own_by (fun _ k => XS.goto X11.here hx rfl (pc0 := 146) (pc' := 182) rfl (hb hby D16_146) (by decide) (by decide) k) ?_
  refine own_by (fun _ k => XS.aloadN X11.here hx rfl (hb hby D16_182) rfl rfl k) ?_
  refine own_by (fun _ k => XS.aloadN X11.here hx rfl (hb hby D16_183) rfl rfl k) ?_
  have fc12 : Fld Z h11 d s14_ "tail" "I" (.int (0 : Int32)) := (Fw8.keep K11 (ninS (own_ne (by omega)) nin0))
  obtain ⟨T13, X13, e13, st13⟩ := getF X11 hx hZ hown (host := "") (Or.inl (own_w hw 90 rfl)) Via.refl e11 fc12 (g := (mkF m 184 #[.val (.ref d), .val (.int (0 : Int32)), .val (.ref a1), .val (.int (17 : Int32)), .val (.int (0 : Int32)), .val (.int (1 : Int32)), .val (.int (0 : Int32)), .val (.int (0 : Int32))] [(.ref d), (.ref a1)])) rfl rfl (hb hby D16_184)
  refine own_by st13 ?_
  show own_Go p e below (T13.setTop (mkF m 187 #[.val (.ref d), .val (.int (0 : Int32)), .val (.ref a1), .val (.int (17 : Int32)), .val (.int (0 : Int32)), .val (.int (1 : Int32)), .val (.int (0 : Int32)), .val (.int (0 : Int32))] [(.int (0 : Int32)), (.ref a1)])) _
  refine own_by (fun _ k => XS.aconstNull X13.here hx rfl (hb hby D16_187) k) ?_
  obtain ⟨cl14, Ar14, q14, S14, M14, H14, G14⟩ := (id Vw11)
  have hin14 : ¬ ((0 : Int32) < 0 ∨ cl14.slots.size ≤ ((0 : Int32)).toNatClampNeg) := inb_of S14 ⟨by decide, by decide⟩
  obtain ⟨T14, h14, X14, e14, W14, st14⟩ := stR X13 hx hZ e13 Ar14 (j := (0 : Int32)) hin14 rfl (Or.inl rfl) (g := (mkF m 188 #[.val (.ref d), .val (.int (0 : Int32)), .val (.ref a1), .val (.int (17 : Int32)), .val (.int (0 : Int32)), .val (.int (1 : Int32)), .val (.int (0 : Int32)), .val (.int (0 : Int32))] [.null, (.int (0 : Int32)), (.ref a1)])) rfl rfl (hb hby D16_188)
  refine own_by st14 ?_
  have z14 := W14.size
  have N14 := Fr.snoc X14 N11 (by omega)
  have Vw14 : Arv Z h14 a1 kk1 (.object s3_) (17 : Int32) [.null] .null := Arv.set Ar14 q14 S14 M14 H14 G14 rfl W14 0 rfl (Nat.le_of_ble_eq_true rfl)
  refine own_by (fun _ k => XS.iconst X14.here hx rfl (hb hby D16_189) k) ?_
  have fc15 : Exa Z h14 d s14_ := (((Ed.wr W8).keep K11).wr W14)
  have fc16 : Fld Z h14 d s14_ "elements" s16_ (.ref a1) := (((Fe.other W8 (Or.inr (slot_ne (a0 := a0) (Or.inl (own_w hw 74 rfl)) (Or.inl (own_w hw 91 rfl)) (by decide) (t := (.array (.object s3_))) (by decide) (t' := .int) (by decide)))).keep K11 (ninS (own_ne (by omega)) nin0)).other W14 (Or.inl (own_ne (by omega))))
  have fc17 : Fld Z h14 d s14_ "head" "I" (.int (0 : Int32)) := (((Fh.other W8 (Or.inr (slot_ne (a0 := a0) (Or.inl (own_w hw 94 rfl)) (Or.inl (own_w hw 91 rfl)) (by decide) (t := .int) (by decide) (t' := .int) (by decide)))).keep K11 (ninS (own_ne (by omega)) nin0)).other W14 (Or.inl (own_ne (by omega))))
  have fc18 : Fld Z h14 d s14_ "tail" "I" (.int (0 : Int32)) := (fc12.other W14 (Or.inl (own_ne (by omega))))
  have Vs19 : Arv Z h14 a1 kk1 (.object s3_) (17 : Int32) [] .null := Vw14.pad (fun i => (pad_rep [] .null 1 i).symm)
  have K20 : Keep h0 h14 [d, a1] := ((((Keep.refl h0 [d, a1]).wr W8 (Or.inl (List.mem_of_getElem? (i := 0) rfl))).trans K11 (allS (P := fun x => x ∈ [d, a1] ∨ h0.size ≤ x) (Or.inl (List.mem_of_getElem? (i := 1) rfl)) all0)).wr W14 (Or.inl (List.mem_of_getElem? (i := 1) rfl)))
  obtain ⟨fs, hr, hrun, hended, hW, hsame⟩ := X14.leave (v := some (.int (1 : Int32))) (fun h => by rw [Bd.returns] at h; cases h)
  refine ⟨_, _, retN X14 hx (t := .boolean) Bd.returns (by simp) (hb hby D16_190) hr, hrun, hended, _, _, rfl, ?_, ⟨_, rfl⟩, hW, hsame.mono (by decide) (by decide)⟩
  show Q_rm_del_0_1_w1_0 Z d a1 kk1 w1 h0 n0 _ T14.heap _
  rw [e14]
  exact ⟨rfl, N14, K20, fc15, fc16, fc17, fc18, Vs19⟩
theorem D14_0 : decode jdk_21_method_26_code 0 = .ok (.aload_n 1, 1) := by decide +kernel
theorem D14_1 : decode jdk_21_method_26_code 1 = .ok (.ifnull 83, 3) := by decide +kernel
theorem D14_4 : decode jdk_21_method_26_code 4 = .ok (.aload_n 0, 1) := by decide +kernel
theorem D14_5 : decode jdk_21_method_26_code 5 = .ok (.getfield 3, 3) := by decide +kernel
theorem D14_8 : decode jdk_21_method_26_code 8 = .ok (.astore_n 2, 1) := by decide +kernel
theorem D14_9 : decode jdk_21_method_26_code 9 = .ok (.aload_n 0, 1) := by decide +kernel
theorem D14_10 : decode jdk_21_method_26_code 10 = .ok (.getfield 24, 3) := by decide +kernel
theorem D14_13 : decode jdk_21_method_26_code 13 = .ok (.istore_n 3, 1) := by decide +kernel
theorem D14_14 : decode jdk_21_method_26_code 14 = .ok (.aload_n 0, 1) := by decide +kernel
theorem D14_15 : decode jdk_21_method_26_code 15 = .ok (.getfield 20, 3) := by decide +kernel
theorem D14_18 : decode jdk_21_method_26_code 18 = .ok (.istore 4, 2) := by decide +kernel
theorem D14_20 : decode jdk_21_method_26_code 20 = .ok (.iload_n 3, 1) := by decide +kernel
theorem D14_21 : decode jdk_21_method_26_code 21 = .ok (.iload 4, 2) := by decide +kernel
theorem D14_23 : decode jdk_21_method_26_code 23 = .ok (.if_icmp .gt 8, 3) := by decide +kernel
theorem D14_26 : decode jdk_21_method_26_code 26 = .ok (.iload 4, 2) := by decide +kernel
theorem D14_28 : decode jdk_21_method_26_code 28 = .ok (.goto 5, 3) := by decide +kernel
theorem D14_33 : decode jdk_21_method_26_code 33 = .ok (.istore 5, 2) := by decide +kernel
theorem D14_35 : decode jdk_21_method_26_code 35 = .ok (.iload_n 3, 1) := by decide +kernel
theorem D14_36 : decode jdk_21_method_26_code 36 = .ok (.iload 5, 2) := by decide +kernel
theorem D14_38 : decode jdk_21_method_26_code 38 = .ok (.if_icmp .ge 27, 3) := by decide +kernel
theorem D14_41 : decode jdk_21_method_26_code 41 = .ok (.aload_n 1, 1) := by decide +kernel
theorem D14_42 : decode jdk_21_method_26_code 42 = .ok (.aload_n 2, 1) := by decide +kernel
theorem D14_43 : decode jdk_21_method_26_code 43 = .ok (.iload_n 3, 1) := by decide +kernel
theorem D14_44 : decode jdk_21_method_26_code 44 = .ok (.aaload, 1) := by decide +kernel
theorem D14_45 : decode jdk_21_method_26_code 45 = .ok (.invokevirtual 107, 3) := by decide +kernel
theorem D14_48 : decode jdk_21_method_26_code 48 = .ok (.ifCond .eq 11, 3) := by decide +kernel
theorem D14_51 : decode jdk_21_method_26_code 51 = .ok (.aload_n 0, 1) := by decide +kernel
theorem D14_52 : decode jdk_21_method_26_code 52 = .ok (.iload_n 3, 1) := by decide +kernel
theorem D14_53 : decode jdk_21_method_26_code 53 = .ok (.invokevirtual 111, 3) := by decide +kernel
theorem D14_56 : decode jdk_21_method_26_code 56 = .ok (.pop, 1) := by decide +kernel
theorem D14_57 : decode jdk_21_method_26_code 57 = .ok (.iconst 1, 1) := by decide +kernel
theorem D14_58 : decode jdk_21_method_26_code 58 = .ok (.ireturn, 1) := by decide +kernel
def Q_rm_rfo_0_1_w1_w1 (Z : State) (d : Addr) (a1 : Addr) (kk1 : ClassId) (w1 : Addr) (h0 : Heap) (n0 : Nat) (v : Option Value) (h : Heap) (L : List Loc) : Prop := v = some (.int (1 : Int32)) ∧ Fr n0 L ∧ Keep h0 h [d, a1] ∧ Exa Z h d s14_ ∧ Fld Z h d s14_ "elements" s16_ (.ref a1) ∧ Fld Z h d s14_ "head" "I" (.int (0 : Int32)) ∧ Fld Z h d s14_ "tail" "I" (.int (0 : Int32)) ∧ Arv Z h a1 kk1 (.object s3_) (17 : Int32) [] .null
theorem ef_rm_rfo_0_1_w1_w1 (m : MethodId) (d : Addr) (a1 : Addr) (kk1 : ClassId) (w1 : Addr) : entryFrame m #[(.ref d), (.ref w1)] 6 = mkF m 0 #[.val (.ref d), .val (.ref w1), .unset, .unset, .unset, .unset] [] := by first | (simp [entryFrame, mkF, argsToLocals, Value.category]; done) | rfl
set_option maxRecDepth 65536 in
set_option maxHeartbeats 40000000 in
theorem rm_rfo_0_1_w1_w1 (l : Launch) (Z : State) (a0 : Array Value) (hw : ∀ d ∈ tables_1, d.before a0 Z = true) (ws : List Jvm.Cond) (d : Addr) (a1 : Addr) (kk1 : ClassId) (w1 : Addr) (h0 : Heap) (n0 : Nat) (O0 : Old Z n0 h0) (Ed : Exa Z h0 d s14_) (Fe : Fld Z h0 d s14_ "elements" s16_ (.ref a1)) (Fh : Fld Z h0 d s14_ "head" "I" (.int (0 : Int32))) (Ft : Fld Z h0 d s14_ "tail" "I" (.int (1 : Int32))) (Va : Arv Z h0 a1 kk1 (.object s3_) (17 : Int32) [(.ref w1)] .null) (Ew : Exa Z h0 w1 s5_) (gd : n0 ≤ d) (ga : n0 ≤ a1) (nda : ¬ (@Eq Nat d a1)) :
    MetFree l (⟨s14_, s21_, s20_⟩ : MethodName) (head1 (Jvm.Cond.code (⟨s14_, s21_, s20_⟩ : MethodName) jdk_21_method_26_code 6 (some .boolean) :: ws) ({ frames := 2, cells := 0, slots := 0, locals := 37 } : Room)) (fun a U => a = #[(.ref d), (.ref w1)] ∧ Z.Warmed39 U.vm ∧ U.heap = h0) (fun _ _ _ _ _ => True) (fun _ U o U' => ∃ v L, o = .returned v ∧ Q_rm_rfo_0_1_w1_w1 Z d a1 kk1 w1 h0 n0 v U'.heap L ∧ FrameEnd U o U' L ({ frames := 2, cells := 0, slots := 0, locals := 37 } : Room).cells ({ frames := 2, cells := 0, slots := 0, locals := 37 } : Room).slots) := by
  refine MetFree.of_bodySF (plainFor_of_name own_pn_java_util_ArrayDeque) hisR ?_
  intro p e s m args below meth c s₁ Bd hml0 hP hK
  obtain ⟨rfl, hZ, hh⟩ := hP
  have hx := Bd.exec
  have hby := Bd.bytes
  have hml : c.maxLocals = 6 := hml0
  have hown : s.vm.findClass s14_ = some m.cls := findClass_of_methodNamed Bd.named
  have hnm := (name_of_methodNamed Bd.named Bd.method).1
  have X0 : Stand p l e ({ frames := 2, cells := 0, slots := 0, locals := 37 } : Room) s m #[(.ref d), (.ref w1)] below meth c s₁ [] 0 0 := Stand.of_body Bd
  have e0 : s₁.heap = h0 := by rw [← hh, Bd.state]; rfl
  have N0 := Fr.nil n0
  have Z0 : n0 ≤ h0.size := by rw [← O0.1]; exact O0.2.1
  show own_Go p e below (s₁.setTop (entryFrame m #[(.ref d), (.ref w1)] 6)) (fun t o => ∃ v L, o = .returned v ∧ Q_rm_rfo_0_1_w1_w1 Z d a1 kk1 w1 h0 n0 v t.heap L ∧ FrameEnd s o t L ({ frames := 2, cells := 0, slots := 0, locals := 37 } : Room).cells ({ frames := 2, cells := 0, slots := 0, locals := 37 } : Room).slots)
  rw [ef_rm_rfo_0_1_w1_w1 m d a1 kk1 w1]
  have lt_Ed : h0.size > d := Ed.lt
  have lt_Fe : h0.size > d := Fe.lt
  have lt_Fh : h0.size > d := Fh.lt
  have lt_Ft : h0.size > d := Ft.lt
  have lt_Va : h0.size > a1 := Va.lt
  have lt_Ew : h0.size > w1 := Ew.lt
  refine own_by (fun _ k => XS.aloadN X0.here hx rfl (hb hby D14_0) rfl rfl k) ?_
  refine own_by (fun _ k => XS.ifnullNo X0.here hx rfl (hb hby D14_1) rfl k) ?_
  refine own_by (fun _ k => XS.aloadN X0.here hx rfl (hb hby D14_4) rfl rfl k) ?_
  obtain ⟨T1, X1, e1, st1⟩ := getF X0 hx hZ hown (host := "") (Or.inl (own_w hw 73 rfl)) Via.refl e0 Fe (g := (mkF m 5 #[.val (.ref d), .val (.ref w1), .unset, .unset, .unset, .unset] [(.ref d)])) rfl rfl (hb hby D14_5)
  refine own_by st1 ?_
  refine own_by (fun _ k => XS.astoreN X1.here hx rfl (hb hby D14_8) rfl rfl (l' := #[.val (.ref d), .val (.ref w1), .val (.ref a1), .unset, .unset, .unset]) rfl k) ?_
  refine own_by (fun _ k => XS.aloadN X1.here hx rfl (hb hby D14_9) rfl rfl k) ?_
  show own_Go p e below (T1.setTop (mkF m 10 #[.val (.ref d), .val (.ref w1), .val (.ref a1), .unset, .unset, .unset] [(.ref d)])) _
  obtain ⟨T2, X2, e2, st2⟩ := getF X1 hx hZ hown (host := "") (Or.inl (own_w hw 93 rfl)) Via.refl e1 Fh (g := (mkF m 10 #[.val (.ref d), .val (.ref w1), .val (.ref a1), .unset, .unset, .unset] [(.ref d)])) rfl rfl (hb hby D14_10)
  refine own_by st2 ?_
  refine own_by (fun _ k => XS.istoreN X2.here hx rfl (hb hby D14_13) rfl (l' := #[.val (.ref d), .val (.ref w1), .val (.ref a1), .val (.int (0 : Int32)), .unset, .unset]) rfl k) ?_
  refine own_by (fun _ k => XS.aloadN X2.here hx rfl (hb hby D14_14) rfl rfl k) ?_
  obtain ⟨T3, X3, e3, st3⟩ := getF X2 hx hZ hown (host := "") (Or.inl (own_w hw 90 rfl)) Via.refl e2 Ft (g := (mkF m 15 #[.val (.ref d), .val (.ref w1), .val (.ref a1), .val (.int (0 : Int32)), .unset, .unset] [(.ref d)])) rfl rfl (hb hby D14_15)
  refine own_by st3 ?_
  refine own_by (fun _ k => XS.istore X3.here hx rfl (hb hby D14_18) rfl (l' := #[.val (.ref d), .val (.ref w1), .val (.ref a1), .val (.int (0 : Int32)), .val (.int (1 : Int32)), .unset]) rfl k) ?_
  refine own_by (fun _ k => XS.iloadN X3.here hx rfl (hb hby D14_20) rfl k) ?_
  show own_Go p e below (T3.setTop (mkF m 21 #[.val (.ref d), .val (.ref w1), .val (.ref a1), .val (.int (0 : Int32)), .val (.int (1 : Int32)), .unset] [(.int (0 : Int32))])) _
  refine own_by (fun _ k => XS.iload X3.here hx rfl (hb hby D14_21) rfl k) ?_
  refine own_by (fun _ k => XS.icmpNo X3.here hx rfl (hb hby D14_23) rfl (flt (by decide : ¬ ((1 : Int32) < (0 : Int32)))).2.2.1 k) ?_
  show own_Go p e below (T3.setTop (mkF m 26 #[.val (.ref d), .val (.ref w1), .val (.ref a1), .val (.int (0 : Int32)), .val (.int (1 : Int32)), .unset] [])) _
  refine own_by (fun _ k => XS.iload X3.here hx rfl (hb hby D14_26) rfl k) ?_
  refine own_by (fun _ k => XS.goto X3.here hx rfl (pc0 := 28) (pc' := 33) rfl (hb hby D14_28) (by decide) (by decide) k) ?_
  refine own_by (fun _ k => XS.istore X3.here hx rfl (hb hby D14_33) rfl (l' := #[.val (.ref d), .val (.ref w1), .val (.ref a1), .val (.int (0 : Int32)), .val (.int (1 : Int32)), .val (.int (1 : Int32))]) rfl k) ?_
  refine own_by (fun _ k => XS.iloadN X3.here hx rfl (hb hby D14_35) rfl k) ?_
  refine own_by (fun _ k => XS.iload X3.here hx rfl (hb hby D14_36) rfl k) ?_
  refine own_by (fun _ k => XS.icmpNo X3.here hx rfl (hb hby D14_38) rfl (tlt (by decide : (0 : Int32) < (1 : Int32))).2.1 k) ?_
  show own_Go p e below (T3.setTop (mkF m 41 #[.val (.ref d), .val (.ref w1), .val (.ref a1), .val (.int (0 : Int32)), .val (.int (1 : Int32)), .val (.int (1 : Int32))] [])) _
  refine own_by (fun _ k => XS.aloadN X3.here hx rfl (hb hby D14_41) rfl rfl k) ?_
  refine own_by (fun _ k => XS.aloadN X3.here hx rfl (hb hby D14_42) rfl rfl k) ?_
  refine own_by (fun _ k => XS.iloadN X3.here hx rfl (hb hby D14_43) rfl k) ?_
  obtain ⟨cl4, Ar4, q4, S4, M4, H4, G4⟩ := (id Va)
  have hin4 : ¬ ((0 : Int32) < 0 ∨ cl4.slots.size ≤ ((0 : Int32)).toNatClampNeg) := inb_of S4 ⟨by decide, by decide⟩
  refine own_by (X3.aaload hx (j := (0 : Int32)) (v := (.ref w1)) (by rw [e3]; exact Ar4.1) (State.isArrayOf_alike hZ.alike Ar4.2.1) rfl Ar4.2.2 hin4 (H4.at hin4 rfl) (g := (mkF m 44 #[.val (.ref d), .val (.ref w1), .val (.ref a1), .val (.int (0 : Int32)), .val (.int (1 : Int32)), .val (.int (1 : Int32))] [(.int (0 : Int32)), (.ref a1), (.ref w1)])) rfl rfl (hb hby D14_44)) ?_
  obtain ⟨cq5, kq5, q5a, q5b, q5c⟩ := isOf hZ e3 Ew
  obtain ⟨_, _, ⟨T5, L5, k5, n5⟩, -, X5, ⟨Lc5, hQ5, l5, y5, z5⟩, st5⟩ := X3.virtualBack hx (y := (⟨s3_, "equals", s20_⟩ : MethodName)) (z := (⟨s3_, "equals", s20_⟩ : MethodName)) hown (mvT hZ (own_w hw 113 rfl)) (mvT hZ (own_w hw 114 rfl)) (notFace_of_selects (args := #[]) (mvT hZ (own_w hw 116 rfl))) (mvT hZ (own_w hw 116 rfl)) (mvT hZ (own_w hw 115 rfl)) (by decide) (own_oeq (W := 0) (h0 := h0) (n0 := n0) hx w1 w1 hZ (own_w hw 117 rfl) (by decide) (by decide)) q5a q5c (g := (mkF m 45 #[.val (.ref d), .val (.ref w1), .val (.ref a1), .val (.int (0 : Int32)), .val (.int (1 : Int32)), .val (.int (1 : Int32))] [(.ref w1), (.ref w1)])) rfl (by rw [hml]; rfl) (Steps.refl _) (argsL := [(.ref w1)]) (rest := []) (lenOf own_pd__28Ljava_2flang_2fObject_3b_29Z rfl) rfl (by show 2 * 0 + _ ≤ _; exact Nat.le_of_eq rfl) (hb hby D14_45) (fun _ _ => ⟨rfl, e3, (by decide : 0 + 0 ≤ _), (by decide : 0 + 0 ≤ _)⟩)
  dsimp only [Pt.U, Pt.locs, Pt.cells, Pt.slots] at X5 l5 y5 z5 st5 hQ5
  subst l5 y5 z5
  obtain ⟨rfl, M5, K5⟩ := hQ5
  have N5 := Fr.app N0 M5
  refine own_by (fun _ k => st5.trans k) ?_
  refine own_by (fun _ k => XS.ifNo X5.here hx rfl (hb hby D14_48) rfl ((if0 _ _).trans (feq (own_oeq_same w1)).1) k) ?_
  show own_Go p e below (T5.setTop (mkF m 51 #[.val (.ref d), .val (.ref w1), .val (.ref a1), .val (.int (0 : Int32)), .val (.int (1 : Int32)), .val (.int (1 : Int32))] [])) _
  refine own_by (fun _ k => XS.aloadN X5.here hx rfl (hb hby D14_51) rfl rfl k) ?_
  refine own_by (fun _ k => XS.iloadN X5.here hx rfl (hb hby D14_52) rfl k) ?_
  obtain ⟨cq6, kq6, q6a, q6b, q6c⟩ := isOf hZ K5 Ed
  obtain ⟨_, _, ⟨T6, L6, k6, n6⟩, -, X6, ⟨Lc6, hQ6, l6, y6, z6⟩, st6⟩ := X5.virtualBack hx (y := (⟨s14_, "delete", "(I)Z"⟩ : MethodName)) (z := (⟨s14_, "delete", "(I)Z"⟩ : MethodName)) hown (mvT hZ (own_w hw 118 rfl)) (mvT hZ (own_w hw 119 rfl)) (notFace_of_selects (args := #[]) (mvT hZ (own_w hw 121 rfl))) (mvT hZ (own_w hw 121 rfl)) (mvT hZ (own_w hw 120 rfl)) (by decide) (backOf (W := 0) (rm_del_0_1_w1_0 l Z a0 hw [] d a1 kk1 w1 h0 n0 O0 Ed Fe Fh Ft Va gd ga nda) hZ (own_w hw 122 rfl) (own_w hw 60 rfl) (by decide) (by decide)) q6a q6c (g := (mkF m 53 #[.val (.ref d), .val (.ref w1), .val (.ref a1), .val (.int (0 : Int32)), .val (.int (1 : Int32)), .val (.int (1 : Int32))] [(.int (0 : Int32)), (.ref d)])) rfl (by rw [hml]; rfl) (Steps.refl _) (argsL := [(.int (0 : Int32))]) (rest := []) (lenOf own_pd__28I_29Z rfl) rfl (by show 2 * 0 + _ ≤ _; exact Nat.le_of_eq rfl) (hb hby D14_53) (fun _ _ => ⟨rfl, K5, (by decide : 0 + 0 ≤ _), (by decide : 0 + 0 ≤ _)⟩)
  dsimp only [Pt.U, Pt.locs, Pt.cells, Pt.slots] at X6 l6 y6 z6 st6 hQ6
  subst l6 y6 z6
  obtain ⟨rfl, M6, K6, g6_0, g6_1, g6_2, g6_3, g6_4⟩ := hQ6
  have N6 := Fr.app N5 M6
  refine own_by (fun _ k => st6.trans k) ?_
  have z6 := K6.1
  have lt_g6_0 : T6.heap.size > d := g6_0.lt
  have lt_g6_1 : T6.heap.size > d := g6_1.lt
  have lt_g6_2 : T6.heap.size > d := g6_2.lt
  have lt_g6_3 : T6.heap.size > d := g6_3.lt
  have lt_g6_4 : T6.heap.size > a1 := g6_4.lt
  refine own_by (fun _ k => XS.pop X6.here hx rfl (hb hby D14_56) rfl rfl k) ?_
  refine own_by (fun _ k => XS.iconst X6.here hx rfl (hb hby D14_57) k) ?_
  have K7 : Keep h0 T6.heap [d, a1] := ((Keep.refl h0 [d, a1]).trans K6 (allS (P := fun x => x ∈ [d, a1] ∨ h0.size ≤ x) (Or.inl (List.mem_of_getElem? (i := 0) rfl)) (allS (P := fun x => x ∈ [d, a1] ∨ h0.size ≤ x) (Or.inl (List.mem_of_getElem? (i := 1) rfl)) all0)))
  obtain ⟨fs, hr, hrun, hended, hW, hsame⟩ := X6.leave (v := some (.int (1 : Int32))) (fun h => by rw [Bd.returns] at h; cases h)
  refine ⟨_, _, retN X6 hx (t := .boolean) Bd.returns (by simp) (hb hby D14_58) hr, hrun, hended, _, _, rfl, ?_, ⟨_, rfl⟩, hW, hsame.mono (by decide) (by decide)⟩
  show Q_rm_rfo_0_1_w1_w1 Z d a1 kk1 w1 h0 n0 _ T6.heap _
  exact ⟨rfl, N6, K7, g6_0, g6_1, g6_2, g6_3, g6_4⟩
theorem D13_0 : decode jdk_21_method_52_code 0 = .ok (.aload_n 0, 1) := by decide +kernel
theorem D13_1 : decode jdk_21_method_52_code 1 = .ok (.aload_n 1, 1) := by decide +kernel
theorem D13_2 : decode jdk_21_method_52_code 2 = .ok (.invokevirtual 185, 3) := by decide +kernel
theorem D13_5 : decode jdk_21_method_52_code 5 = .ok (.ireturn, 1) := by decide +kernel
def Q_rm_rem_0_1_w1_w1 (Z : State) (d : Addr) (a1 : Addr) (kk1 : ClassId) (w1 : Addr) (h0 : Heap) (n0 : Nat) (v : Option Value) (h : Heap) (L : List Loc) : Prop := v = some (.int (1 : Int32)) ∧ Fr n0 L ∧ Keep h0 h [d, a1] ∧ Exa Z h d s14_ ∧ Fld Z h d s14_ "elements" s16_ (.ref a1) ∧ Fld Z h d s14_ "head" "I" (.int (0 : Int32)) ∧ Fld Z h d s14_ "tail" "I" (.int (0 : Int32)) ∧ Arv Z h a1 kk1 (.object s3_) (17 : Int32) [] .null
theorem ef_rm_rem_0_1_w1_w1 (m : MethodId) (d : Addr) (a1 : Addr) (kk1 : ClassId) (w1 : Addr) : entryFrame m #[(.ref d), (.ref w1)] 2 = mkF m 0 #[.val (.ref d), .val (.ref w1)] [] := by first | (simp [entryFrame, mkF, argsToLocals, Value.category]; done) | rfl
set_option maxRecDepth 65536 in
set_option maxHeartbeats 40000000 in
theorem rm_rem_0_1_w1_w1 (l : Launch) (Z : State) (a0 : Array Value) (hw : ∀ d ∈ tables_1, d.before a0 Z = true) (ws : List Jvm.Cond) (d : Addr) (a1 : Addr) (kk1 : ClassId) (w1 : Addr) (h0 : Heap) (n0 : Nat) (O0 : Old Z n0 h0) (Ed : Exa Z h0 d s14_) (Fe : Fld Z h0 d s14_ "elements" s16_ (.ref a1)) (Fh : Fld Z h0 d s14_ "head" "I" (.int (0 : Int32))) (Ft : Fld Z h0 d s14_ "tail" "I" (.int (1 : Int32))) (Va : Arv Z h0 a1 kk1 (.object s3_) (17 : Int32) [(.ref w1)] .null) (Ew : Exa Z h0 w1 s5_) (gd : n0 ≤ d) (ga : n0 ≤ a1) (nda : ¬ (@Eq Nat d a1)) :
    MetFree l (⟨s14_, "remove", s20_⟩ : MethodName) (head1 (Jvm.Cond.code (⟨s14_, "remove", s20_⟩ : MethodName) jdk_21_method_52_code 2 (some .boolean) :: ws) ({ frames := 3, cells := 0, slots := 0, locals := 54 } : Room)) (fun a U => a = #[(.ref d), (.ref w1)] ∧ Z.Warmed39 U.vm ∧ U.heap = h0) (fun _ _ _ _ _ => True) (fun _ U o U' => ∃ v L, o = .returned v ∧ Q_rm_rem_0_1_w1_w1 Z d a1 kk1 w1 h0 n0 v U'.heap L ∧ FrameEnd U o U' L ({ frames := 3, cells := 0, slots := 0, locals := 54 } : Room).cells ({ frames := 3, cells := 0, slots := 0, locals := 54 } : Room).slots) := by
  refine MetFree.of_bodySF (plainFor_of_name own_pn_java_util_ArrayDeque) hisR ?_
  intro p e s m args below meth c s₁ Bd hml0 hP hK
  obtain ⟨rfl, hZ, hh⟩ := hP
  have hx := Bd.exec
  have hby := Bd.bytes
  have hml : c.maxLocals = 2 := hml0
  have hown : s.vm.findClass s14_ = some m.cls := findClass_of_methodNamed Bd.named
  have hnm := (name_of_methodNamed Bd.named Bd.method).1
  have X0 : Stand p l e ({ frames := 3, cells := 0, slots := 0, locals := 54 } : Room) s m #[(.ref d), (.ref w1)] below meth c s₁ [] 0 0 := Stand.of_body Bd
  have e0 : s₁.heap = h0 := by rw [← hh, Bd.state]; rfl
  have N0 := Fr.nil n0
  have Z0 : n0 ≤ h0.size := by rw [← O0.1]; exact O0.2.1
  show own_Go p e below (s₁.setTop (entryFrame m #[(.ref d), (.ref w1)] 2)) (fun t o => ∃ v L, o = .returned v ∧ Q_rm_rem_0_1_w1_w1 Z d a1 kk1 w1 h0 n0 v t.heap L ∧ FrameEnd s o t L ({ frames := 3, cells := 0, slots := 0, locals := 54 } : Room).cells ({ frames := 3, cells := 0, slots := 0, locals := 54 } : Room).slots)
  rw [ef_rm_rem_0_1_w1_w1 m d a1 kk1 w1]
  have lt_Ed : h0.size > d := Ed.lt
  have lt_Fe : h0.size > d := Fe.lt
  have lt_Fh : h0.size > d := Fh.lt
  have lt_Ft : h0.size > d := Ft.lt
  have lt_Va : h0.size > a1 := Va.lt
  have lt_Ew : h0.size > w1 := Ew.lt
  refine own_by (fun _ k => XS.aloadN X0.here hx rfl (hb hby D13_0) rfl rfl k) ?_
  refine own_by (fun _ k => XS.aloadN X0.here hx rfl (hb hby D13_1) rfl rfl k) ?_
  obtain ⟨cq1, kq1, q1a, q1b, q1c⟩ := isOf hZ e0 Ed
  obtain ⟨_, _, ⟨T1, L1, k1, n1⟩, -, X1, ⟨Lc1, hQ1, l1, y1, z1⟩, st1⟩ := X0.virtualBack hx (y := (⟨s14_, s21_, s20_⟩ : MethodName)) (z := (⟨s14_, s21_, s20_⟩ : MethodName)) hown (mvT hZ (own_w hw 108 rfl)) (mvT hZ (own_w hw 109 rfl)) (notFace_of_selects (args := #[]) (mvT hZ (own_w hw 111 rfl))) (mvT hZ (own_w hw 111 rfl)) (mvT hZ (own_w hw 110 rfl)) (by decide) (backOf (W := 0) (rm_rfo_0_1_w1_w1 l Z a0 hw [] d a1 kk1 w1 h0 n0 O0 Ed Fe Fh Ft Va Ew gd ga nda) hZ (own_w hw 112 rfl) (own_w hw 60 rfl) (by decide) (by decide)) q1a q1c (g := (mkF m 2 #[.val (.ref d), .val (.ref w1)] [(.ref w1), (.ref d)])) rfl (by rw [hml]; rfl) (Steps.refl _) (argsL := [(.ref w1)]) (rest := []) (lenOf own_pd__28Ljava_2flang_2fObject_3b_29Z rfl) rfl (by show 2 * 0 + _ ≤ _; exact Nat.le_of_eq rfl) (hb hby D13_2) (fun _ _ => ⟨rfl, e0, (by decide : 0 + 0 ≤ _), (by decide : 0 + 0 ≤ _)⟩)
  dsimp only [Pt.U, Pt.locs, Pt.cells, Pt.slots] at X1 l1 y1 z1 st1 hQ1
  subst l1 y1 z1
  obtain ⟨rfl, M1, K1, g1_0, g1_1, g1_2, g1_3, g1_4⟩ := hQ1
  have N1 := Fr.app N0 M1
  refine own_by (fun _ k => st1.trans k) ?_
  have z1 := K1.1
  have lt_g1_0 : T1.heap.size > d := g1_0.lt
  have lt_g1_1 : T1.heap.size > d := g1_1.lt
  have lt_g1_2 : T1.heap.size > d := g1_2.lt
  have lt_g1_3 : T1.heap.size > d := g1_3.lt
  have lt_g1_4 : T1.heap.size > a1 := g1_4.lt
  have K2 : Keep h0 T1.heap [d, a1] := ((Keep.refl h0 [d, a1]).trans K1 (allS (P := fun x => x ∈ [d, a1] ∨ h0.size ≤ x) (Or.inl (List.mem_of_getElem? (i := 0) rfl)) (allS (P := fun x => x ∈ [d, a1] ∨ h0.size ≤ x) (Or.inl (List.mem_of_getElem? (i := 1) rfl)) all0)))
  obtain ⟨fs, hr, hrun, hended, hW, hsame⟩ := X1.leave (v := some (.int (1 : Int32))) (fun h => by rw [Bd.returns] at h; cases h)
  refine ⟨_, _, retN X1 hx (t := .boolean) Bd.returns (by simp) (hb hby D13_5) hr, hrun, hended, _, _, rfl, ?_, ⟨_, rfl⟩, hW, hsame.mono (by decide) (by decide)⟩
  show Q_rm_rem_0_1_w1_w1 Z d a1 kk1 w1 h0 n0 _ T1.heap _
  exact ⟨rfl, N1, K2, g1_0, g1_1, g1_2, g1_3, g1_4⟩
theorem D19_0 : decode jdk_21_method_38_code 0 = .ok (.aload_n 0, 1) := by decide +kernel
theorem D19_1 : decode jdk_21_method_38_code 1 = .ok (.getfield 24, 3) := by decide +kernel
theorem D19_4 : decode jdk_21_method_38_code 4 = .ok (.aload_n 0, 1) := by decide +kernel
theorem D19_5 : decode jdk_21_method_38_code 5 = .ok (.getfield 20, 3) := by decide +kernel
theorem D19_8 : decode jdk_21_method_38_code 8 = .ok (.if_icmp .ne 7, 3) := by decide +kernel
theorem D19_11 : decode jdk_21_method_38_code 11 = .ok (.iconst 1, 1) := by decide +kernel
theorem D19_12 : decode jdk_21_method_38_code 12 = .ok (.goto 4, 3) := by decide +kernel
theorem D19_16 : decode jdk_21_method_38_code 16 = .ok (.ireturn, 1) := by decide +kernel
def Q_rm_emp0_0 (Z : State) (d : Addr) (h0 : Heap) (n0 : Nat) (v : Option Value) (h : Heap) (L : List Loc) : Prop := v = some (.int (1 : Int32)) ∧ Fr n0 L ∧ h = h0
theorem ef_rm_emp0_0 (m : MethodId) (d : Addr) : entryFrame m #[(.ref d)] 1 = mkF m 0 #[.val (.ref d)] [] := by first | (simp [entryFrame, mkF, argsToLocals, Value.category]; done) | rfl
set_option maxRecDepth 65536 in
set_option maxHeartbeats 40000000 in
theorem rm_emp0_0 (l : Launch) (Z : State) (a0 : Array Value) (hw : ∀ d ∈ tables_1, d.before a0 Z = true) (ws : List Jvm.Cond) (d : Addr) (h0 : Heap) (n0 : Nat) (O0 : Old Z n0 h0) (Fh : Fld Z h0 d s14_ "head" "I" (.int (0 : Int32))) (Ft : Fld Z h0 d s14_ "tail" "I" (.int (0 : Int32))) :
    MetFree l (⟨s14_, "isEmpty", "()Z"⟩ : MethodName) (head1 (Jvm.Cond.code (⟨s14_, "isEmpty", "()Z"⟩ : MethodName) jdk_21_method_38_code 1 (some .boolean) :: ws) ({ frames := 0, cells := 0, slots := 0, locals := 0 } : Room)) (fun a U => a = #[(.ref d)] ∧ Z.Warmed39 U.vm ∧ U.heap = h0) (fun _ _ _ _ _ => True) (fun _ U o U' => ∃ v L, o = .returned v ∧ Q_rm_emp0_0 Z d h0 n0 v U'.heap L ∧ FrameEnd U o U' L ({ frames := 0, cells := 0, slots := 0, locals := 0 } : Room).cells ({ frames := 0, cells := 0, slots := 0, locals := 0 } : Room).slots) := by
  refine MetFree.of_bodySF (plainFor_of_name own_pn_java_util_ArrayDeque) hisR ?_
  intro p e s m args below meth c s₁ Bd hml0 hP hK
  obtain ⟨rfl, hZ, hh⟩ := hP
  have hx := Bd.exec
  have hby := Bd.bytes
  have hml : c.maxLocals = 1 := hml0
  have hown : s.vm.findClass s14_ = some m.cls := findClass_of_methodNamed Bd.named
  have hnm := (name_of_methodNamed Bd.named Bd.method).1
  have X0 : Stand p l e ({ frames := 0, cells := 0, slots := 0, locals := 0 } : Room) s m #[(.ref d)] below meth c s₁ [] 0 0 := Stand.of_body Bd
  have e0 : s₁.heap = h0 := by rw [← hh, Bd.state]; rfl
  have N0 := Fr.nil n0
  have Z0 : n0 ≤ h0.size := by rw [← O0.1]; exact O0.2.1
  show own_Go p e below (s₁.setTop (entryFrame m #[(.ref d)] 1)) (fun t o => ∃ v L, o = .returned v ∧ Q_rm_emp0_0 Z d h0 n0 v t.heap L ∧ FrameEnd s o t L ({ frames := 0, cells := 0, slots := 0, locals := 0 } : Room).cells ({ frames := 0, cells := 0, slots := 0, locals := 0 } : Room).slots)
  rw [ef_rm_emp0_0 m d]
  have lt_Fh : h0.size > d := Fh.lt
  have lt_Ft : h0.size > d := Ft.lt
  refine own_by (fun _ k => XS.aloadN X0.here hx rfl (hb hby D19_0) rfl rfl k) ?_
  obtain ⟨T1, X1, e1, st1⟩ := getF X0 hx hZ hown (host := "") (Or.inl (own_w hw 93 rfl)) Via.refl e0 Fh (g := (mkF m 1 #[.val (.ref d)] [(.ref d)])) rfl rfl (hb hby D19_1)
  refine own_by st1 ?_
  refine own_by (fun _ k => XS.aloadN X1.here hx rfl (hb hby D19_4) rfl rfl k) ?_
  obtain ⟨T2, X2, e2, st2⟩ := getF X1 hx hZ hown (host := "") (Or.inl (own_w hw 90 rfl)) Via.refl e1 Ft (g := (mkF m 5 #[.val (.ref d)] [(.ref d), (.int (0 : Int32))])) rfl rfl (hb hby D19_5)
  refine own_by st2 ?_
  refine own_by (fun _ k => XS.icmpNo X2.here hx rfl (hb hby D19_8) rfl (teq (by decide : (0 : Int32) = (0 : Int32))).2 k) ?_
  show own_Go p e below (T2.setTop (mkF m 11 #[.val (.ref d)] [])) _
  refine own_by (fun _ k => XS.iconst X2.here hx rfl (hb hby D19_11) k) ?_
  refine own_by (fun _ k => XS.goto X2.here hx rfl (pc0 := 12) (pc' := 16) rfl (hb hby D19_12) (by decide) (by decide) k) ?_
  obtain ⟨fs, hr, hrun, hended, hW, hsame⟩ := X2.leave (v := some (.int (1 : Int32))) (fun h => by rw [Bd.returns] at h; cases h)
  refine ⟨_, _, retN X2 hx (t := .boolean) Bd.returns (by simp) (hb hby D19_16) hr, hrun, hended, _, _, rfl, ?_, ⟨_, rfl⟩, hW, hsame.mono (by decide) (by decide)⟩
  show Q_rm_emp0_0 Z d h0 n0 _ T2.heap _
  rw [e2]
  exact ⟨rfl, N0, rfl⟩
theorem D12_0 : decode prog_11_method_11_code 0 = .ok (.aload_n 0, 1) := by decide +kernel
theorem D12_1 : decode prog_11_method_11_code 1 = .ok (.getfield 113, 3) := by decide +kernel
theorem D12_4 : decode prog_11_method_11_code 4 = .ok (.aload_n 1, 1) := by decide +kernel
theorem D12_5 : decode prog_11_method_11_code 5 = .ok (.invokevirtual 120, 3) := by decide +kernel
theorem D12_8 : decode prog_11_method_11_code 8 = .ok (.aload_n 1, 1) := by decide +kernel
theorem D12_9 : decode prog_11_method_11_code 9 = .ok (.invokevirtual 129, 3) := by decide +kernel
theorem D12_12 : decode prog_11_method_11_code 12 = .ok (.pop, 1) := by decide +kernel
theorem D12_13 : decode prog_11_method_11_code 13 = .ok (.aload_n 0, 1) := by decide +kernel
theorem D12_14 : decode prog_11_method_11_code 14 = .ok (.getfield 113, 3) := by decide +kernel
theorem D12_17 : decode prog_11_method_11_code 17 = .ok (.getfield 132, 3) := by decide +kernel
theorem D12_20 : decode prog_11_method_11_code 20 = .ok (.invokevirtual 136, 3) := by decide +kernel
theorem D12_23 : decode prog_11_method_11_code 23 = .ok (.ifCond .eq 21, 3) := by decide +kernel
theorem D12_26 : decode prog_11_method_11_code 26 = .ok (.aload_n 0, 1) := by decide +kernel
theorem D12_27 : decode prog_11_method_11_code 27 = .ok (.getfield 113, 3) := by decide +kernel
theorem D12_30 : decode prog_11_method_11_code 30 = .ok (.getfield 140, 3) := by decide +kernel
theorem D12_33 : decode prog_11_method_11_code 33 = .ok (.invokevirtual 136, 3) := by decide +kernel
theorem D12_36 : decode prog_11_method_11_code 36 = .ok (.ifCond .eq 8, 3) := by decide +kernel
theorem D12_39 : decode prog_11_method_11_code 39 = .ok (.aload_n 0, 1) := by decide +kernel
theorem D12_40 : decode prog_11_method_11_code 40 = .ok (.aconst_null, 1) := by decide +kernel
theorem D12_41 : decode prog_11_method_11_code 41 = .ok (.putfield 113, 3) := by decide +kernel
theorem D12_44 : decode prog_11_method_11_code 44 = .ok (.return_, 1) := by decide +kernel
def Q_rm_deq_0_0_0_1_w1_w10 (Z : State) (en : Addr) (q : Addr) (d1 : Addr) (a1 : Addr) (kk1 : ClassId) (d2 : Addr) (a2 : Addr) (kk2 : ClassId) (w1 : Addr) (h0 : Heap) (n0 : Nat) (v : Option Value) (h : Heap) (L : List Loc) : Prop := v = none ∧ Fr n0 L ∧ Keep h0 h [en, d2, a2] ∧ Fld Z h en s2_ "queues" s11_ .null
theorem ef_rm_deq_0_0_0_1_w1_w10 (m : MethodId) (en : Addr) (q : Addr) (d1 : Addr) (a1 : Addr) (kk1 : ClassId) (d2 : Addr) (a2 : Addr) (kk2 : ClassId) (w1 : Addr) : entryFrame m #[(.ref en), (.ref w1)] 2 = mkF m 0 #[.val (.ref en), .val (.ref w1)] [] := by first | (simp [entryFrame, mkF, argsToLocals, Value.category]; done) | rfl
set_option maxRecDepth 65536 in
set_option maxHeartbeats 40000000 in
theorem rm_deq_0_0_0_1_w1_w10 (l : Launch) (Z : State) (a0 : Array Value) (hw : ∀ d ∈ tables_1, d.before a0 Z = true) (ws : List Jvm.Cond) (en : Addr) (q : Addr) (d1 : Addr) (a1 : Addr) (kk1 : ClassId) (d2 : Addr) (a2 : Addr) (kk2 : ClassId) (w1 : Addr) (h0 : Heap) (n0 : Nat) (O0 : Old Z n0 h0) (Fq : Fld Z h0 en s2_ "queues" s11_ (.ref q)) (Ee : Exa Z h0 en s2_) (Ew : Exa Z h0 w1 s5_) (Fw : Fld Z h0 w1 s5_ "conversion" "Z" (.int (0 : Int32))) (G0 : Exa Z h0 q s13_) (G1 : Fld Z h0 q s13_ "conversions" s17_ (.ref d1)) (G2 : Fld Z h0 q s13_ "requests" s17_ (.ref d2)) (G3 : Exa Z h0 d1 s14_) (G4 : Fld Z h0 d1 s14_ "elements" s16_ (.ref a1)) (G5 : Fld Z h0 d1 s14_ "head" "I" (.int (0 : Int32))) (G6 : Fld Z h0 d1 s14_ "tail" "I" (.int (0 : Int32))) (G7 : Arv Z h0 a1 kk1 (.object s3_) (17 : Int32) [] .null) (G8 : Exa Z h0 d2 s14_) (G9 : Fld Z h0 d2 s14_ "elements" s16_ (.ref a2)) (G10 : Fld Z h0 d2 s14_ "head" "I" (.int (0 : Int32))) (G11 : Fld Z h0 d2 s14_ "tail" "I" (.int (1 : Int32))) (G12 : Arv Z h0 a2 kk2 (.object s3_) (17 : Int32) [(.ref w1)] .null) (ge : n0 ≤ en) (nwe : ¬ (@Eq Nat w1 en)) (nea : ¬ (@Eq Nat en a2)) (ned : ¬ (@Eq Nat en d2)) (o0 : @LT.lt Nat _ q d1) (o1 : @LT.lt Nat _ d1 a1) (o2 : @LT.lt Nat _ a1 d2) (o3 : @LT.lt Nat _ d2 a2) (gq : n0 ≤ q) (ov1 : Ovr Z kk1 s3_) (ov2 : Ovr Z kk2 s3_) :
    MetFree l (⟨s2_, "dequeue", s12_⟩ : MethodName) (head1 (Jvm.Cond.code (⟨s2_, "dequeue", s12_⟩ : MethodName) prog_11_method_11_code 2 none :: ws) ({ frames := 4, cells := 0, slots := 0, locals := 67 } : Room)) (fun a U => a = #[(.ref en), (.ref w1)] ∧ Z.Warmed39 U.vm ∧ U.heap = h0) (fun _ _ _ _ _ => True) (fun _ U o U' => ∃ v L, o = .returned v ∧ Q_rm_deq_0_0_0_1_w1_w10 Z en q d1 a1 kk1 d2 a2 kk2 w1 h0 n0 v U'.heap L ∧ FrameEnd U o U' L ({ frames := 4, cells := 0, slots := 0, locals := 67 } : Room).cells ({ frames := 4, cells := 0, slots := 0, locals := 67 } : Room).slots) := by
  refine MetFree.of_bodySF (plainFor_of_name own_pn_com_example_admit1_admit1_lock_LockEntry) hisR ?_
  intro p e s m args below meth c s₁ Bd hml0 hP hK
  obtain ⟨rfl, hZ, hh⟩ := hP
  have hx := Bd.exec
  have hby := Bd.bytes
  have hml : c.maxLocals = 2 := hml0
  have hown : s.vm.findClass s2_ = some m.cls := findClass_of_methodNamed Bd.named
  have hnm := (name_of_methodNamed Bd.named Bd.method).1
  have X0 : Stand p l e ({ frames := 4, cells := 0, slots := 0, locals := 67 } : Room) s m #[(.ref en), (.ref w1)] below meth c s₁ [] 0 0 := Stand.of_body Bd
  have e0 : s₁.heap = h0 := by rw [← hh, Bd.state]; rfl
  have N0 := Fr.nil n0
  have Z0 : n0 ≤ h0.size := by rw [← O0.1]; exact O0.2.1
  show own_Go p e below (s₁.setTop (entryFrame m #[(.ref en), (.ref w1)] 2)) (fun t o => ∃ v L, o = .returned v ∧ Q_rm_deq_0_0_0_1_w1_w10 Z en q d1 a1 kk1 d2 a2 kk2 w1 h0 n0 v t.heap L ∧ FrameEnd s o t L ({ frames := 4, cells := 0, slots := 0, locals := 67 } : Room).cells ({ frames := 4, cells := 0, slots := 0, locals := 67 } : Room).slots)
  rw [ef_rm_deq_0_0_0_1_w1_w10 m en q d1 a1 kk1 d2 a2 kk2 w1]
  have lt_Fq : h0.size > en := Fq.lt
  have lt_Ee : h0.size > en := Ee.lt
  have lt_Ew : h0.size > w1 := Ew.lt
  have lt_Fw : h0.size > w1 := Fw.lt
  have lt_G0 : h0.size > q := G0.lt
  have lt_G1 : h0.size > q := G1.lt
  have lt_G2 : h0.size > q := G2.lt
  have lt_G3 : h0.size > d1 := G3.lt
  have lt_G4 : h0.size > d1 := G4.lt
  have lt_G5 : h0.size > d1 := G5.lt
  have lt_G6 : h0.size > d1 := G6.lt
  have lt_G7 : h0.size > a1 := G7.lt
  have lt_G8 : h0.size > d2 := G8.lt
  have lt_G9 : h0.size > d2 := G9.lt
  have lt_G10 : h0.size > d2 := G10.lt
  have lt_G11 : h0.size > d2 := G11.lt
  have lt_G12 : h0.size > a2 := G12.lt
  refine own_by (fun _ k => XS.aloadN X0.here hx rfl (hb hby D12_0) rfl rfl k) ?_
  obtain ⟨T1, X1, e1, st1⟩ := getF X0 hx hZ hown (host := "") (Or.inl (own_w hw 44 rfl)) Via.refl e0 Fq (g := (mkF m 1 #[.val (.ref en), .val (.ref w1)] [(.ref en)])) rfl rfl (hb hby D12_1)
  refine own_by st1 ?_
  refine own_by (fun _ k => XS.aloadN X1.here hx rfl (hb hby D12_4) rfl rfl k) ?_
  obtain ⟨cq2, kq2, q2a, q2b, q2c⟩ := isOf hZ e1 G0
  obtain ⟨_, _, ⟨T2, L2, k2, n2⟩, -, X2, ⟨Lc2, hQ2, l2, y2, z2⟩, st2⟩ := X1.virtualBack hx (y := (⟨s13_, "of", s18_⟩ : MethodName)) (z := (⟨s13_, "of", s18_⟩ : MethodName)) hown (mvT hZ (own_w hw 79 rfl)) (mvT hZ (own_w hw 80 rfl)) (notFace_of_selects (args := #[]) (mvT hZ (own_w hw 82 rfl))) (mvT hZ (own_w hw 82 rfl)) (mvT hZ (own_w hw 81 rfl)) (by decide) (backOf (W := 0) (rm_of0 l Z a0 hw [] q w1 d1 d2 h0 n0 O0 Fw G1 G2) hZ (own_w hw 83 rfl) (own_w hw 53 rfl) (by decide) (by decide)) q2a q2c (g := (mkF m 5 #[.val (.ref en), .val (.ref w1)] [(.ref w1), (.ref q)])) rfl (by rw [hml]; rfl) (Steps.refl _) (argsL := [(.ref w1)]) (rest := []) (lenOf own_pd__28Lcom_2fexample_2fadmit1_2fadmit1_2flock_2fWait_3b_29Ljava_2futil_2fArrayDeque_3b rfl) rfl (by show 2 * 0 + _ ≤ _; exact Nat.le_of_eq rfl) (hb hby D12_5) (fun _ _ => ⟨rfl, e1, (by decide : 0 + 0 ≤ _), (by decide : 0 + 0 ≤ _)⟩)
  dsimp only [Pt.U, Pt.locs, Pt.cells, Pt.slots] at X2 l2 y2 z2 st2 hQ2
  subst l2 y2 z2
  obtain ⟨rfl, M2, K2⟩ := hQ2
  have N2 := Fr.app N0 M2
  refine own_by (fun _ k => st2.trans k) ?_
  refine own_by (fun _ k => XS.aloadN X2.here hx rfl (hb hby D12_8) rfl rfl k) ?_
  obtain ⟨cq3, kq3, q3a, q3b, q3c⟩ := isOf hZ K2 G8
  obtain ⟨_, _, ⟨T3, L3, k3, n3⟩, -, X3, ⟨Lc3, hQ3, l3, y3, z3⟩, st3⟩ := X2.virtualBack hx (y := (⟨s14_, "remove", s20_⟩ : MethodName)) (z := (⟨s14_, "remove", s20_⟩ : MethodName)) hown (mvT hZ (own_w hw 103 rfl)) (mvT hZ (own_w hw 104 rfl)) (notFace_of_selects (args := #[]) (mvT hZ (own_w hw 106 rfl))) (mvT hZ (own_w hw 106 rfl)) (mvT hZ (own_w hw 105 rfl)) (by decide) (backOf (W := 0) (rm_rem_0_1_w1_w1 l Z a0 hw [] d2 a2 kk2 w1 h0 n0 O0 G8 G9 G10 G11 G12 Ew (by first | assumption | omega | decide) (by first | assumption | omega | decide) (by first | assumption | omega | decide)) hZ (own_w hw 107 rfl) (own_w hw 60 rfl) (by decide) (by decide)) q3a q3c (g := (mkF m 9 #[.val (.ref en), .val (.ref w1)] [(.ref w1), (.ref d2)])) rfl (by rw [hml]; rfl) (Steps.refl _) (argsL := [(.ref w1)]) (rest := []) (lenOf own_pd__28Ljava_2flang_2fObject_3b_29Z rfl) rfl (by show 2 * 0 + _ ≤ _; exact Nat.le_of_eq rfl) (hb hby D12_9) (fun _ _ => ⟨rfl, K2, (by decide : 0 + 0 ≤ _), (by decide : 0 + 0 ≤ _)⟩)
  dsimp only [Pt.U, Pt.locs, Pt.cells, Pt.slots] at X3 l3 y3 z3 st3 hQ3
  subst l3 y3 z3
  obtain ⟨rfl, M3, K3, g3_0, g3_1, g3_2, g3_3, g3_4⟩ := hQ3
  have N3 := Fr.app N2 M3
  refine own_by (fun _ k => st3.trans k) ?_
  have z3 := K3.1
  have lt_g3_0 : T3.heap.size > d2 := g3_0.lt
  have lt_g3_1 : T3.heap.size > d2 := g3_1.lt
  have lt_g3_2 : T3.heap.size > d2 := g3_2.lt
  have lt_g3_3 : T3.heap.size > d2 := g3_3.lt
  have lt_g3_4 : T3.heap.size > a2 := g3_4.lt
  show own_Go p e below (T3.setTop (mkF m 12 #[.val (.ref en), .val (.ref w1)] [(.int (1 : Int32))])) _
  refine own_by (fun _ k => XS.pop X3.here hx rfl (hb hby D12_12) rfl rfl k) ?_
  refine own_by (fun _ k => XS.aloadN X3.here hx rfl (hb hby D12_13) rfl rfl k) ?_
  have fc4 : Fld Z T3.heap en s2_ "queues" s11_ (.ref q) := (Fq.keep K3 (ninS (own_ne (by omega)) (ninS (own_ne (by omega)) nin0)))
  obtain ⟨T5, X5, e5, st5⟩ := getF X3 hx hZ hown (host := "") (Or.inl (own_w hw 44 rfl)) Via.refl rfl fc4 (g := (mkF m 14 #[.val (.ref en), .val (.ref w1)] [(.ref en)])) rfl rfl (hb hby D12_14)
  refine own_by st5 ?_
  have fc6 : Fld Z T3.heap q s13_ "conversions" s17_ (.ref d1) := (G1.keep K3 (ninS (own_ne (by omega)) (ninS (own_ne (by omega)) nin0)))
  obtain ⟨T7, X7, e7, st7⟩ := getF X5 hx hZ hown (host := "") (Or.inl (own_w hw 133 rfl)) Via.refl e5 fc6 (g := (mkF m 17 #[.val (.ref en), .val (.ref w1)] [(.ref q)])) rfl rfl (hb hby D12_17)
  refine own_by st7 ?_
  have fc8 : Fld Z T3.heap d1 s14_ "head" "I" (.int (0 : Int32)) := (G5.keep K3 (ninS (own_ne (by omega)) (ninS (own_ne (by omega)) nin0)))
  have fc9 : Fld Z T3.heap d1 s14_ "tail" "I" (.int (0 : Int32)) := (G6.keep K3 (ninS (own_ne (by omega)) (ninS (own_ne (by omega)) nin0)))
  have O10 : Old Z n0 T3.heap := (O0.keep K3 (allS (by omega) (allS (by omega) all0)))
  have fc12 : Exa Z T3.heap d1 s14_ := (G3.keep K3)
  obtain ⟨cq11, kq11, q11a, q11b, q11c⟩ := isOf hZ e7 fc12
  obtain ⟨_, _, ⟨T11, L11, k11, n11⟩, -, X11, ⟨Lc11, hQ11, l11, y11, z11⟩, st11⟩ := X7.virtualBack hx (y := (⟨s14_, "isEmpty", "()Z"⟩ : MethodName)) (z := (⟨s14_, "isEmpty", "()Z"⟩ : MethodName)) hown (mvT hZ (own_w hw 134 rfl)) (mvT hZ (own_w hw 135 rfl)) (notFace_of_selects (args := #[]) (mvT hZ (own_w hw 137 rfl))) (mvT hZ (own_w hw 137 rfl)) (mvT hZ (own_w hw 136 rfl)) (by decide) (backOf (W := 0) (rm_emp0_0 l Z a0 hw [] d1 T3.heap n0 O10 fc8 fc9) hZ (own_w hw 138 rfl) (own_w hw 60 rfl) (by decide) (by decide)) q11a q11c (g := (mkF m 20 #[.val (.ref en), .val (.ref w1)] [(.ref d1)])) rfl (by rw [hml]; rfl) (Steps.refl _) (argsL := []) (rest := []) (lenOf own_pd__28_29Z rfl) rfl (by show 2 * 0 + _ ≤ _; exact Nat.le_of_eq rfl) (hb hby D12_20) (fun _ _ => ⟨rfl, e7, (by decide : 0 + 0 ≤ _), (by decide : 0 + 0 ≤ _)⟩)
  dsimp only [Pt.U, Pt.locs, Pt.cells, Pt.slots] at X11 l11 y11 z11 st11 hQ11
  subst l11 y11 z11
  obtain ⟨rfl, M11, K11⟩ := hQ11
  have N11 := Fr.app N3 M11
  refine own_by (fun _ k => st11.trans k) ?_
  refine own_by (fun _ k => XS.ifNo X11.here hx rfl (hb hby D12_23) rfl ((if0 _ _).trans (feq (by decide : ¬ ((1 : Int32) = (0 : Int32)))).1) k) ?_
  show own_Go p e below (T11.setTop (mkF m 26 #[.val (.ref en), .val (.ref w1)] [])) _
  refine own_by (fun _ k => XS.aloadN X11.here hx rfl (hb hby D12_26) rfl rfl k) ?_
  obtain ⟨T13, X13, e13, st13⟩ := getF X11 hx hZ hown (host := "") (Or.inl (own_w hw 44 rfl)) Via.refl K11 fc4 (g := (mkF m 27 #[.val (.ref en), .val (.ref w1)] [(.ref en)])) rfl rfl (hb hby D12_27)
  refine own_by st13 ?_
  have fc14 : Fld Z T3.heap q s13_ "requests" s17_ (.ref d2) := (G2.keep K3 (ninS (own_ne (by omega)) (ninS (own_ne (by omega)) nin0)))
  obtain ⟨T15, X15, e15, st15⟩ := getF X13 hx hZ hown (host := "") (Or.inl (own_w hw 139 rfl)) Via.refl e13 fc14 (g := (mkF m 30 #[.val (.ref en), .val (.ref w1)] [(.ref q)])) rfl rfl (hb hby D12_30)
  refine own_by st15 ?_
  obtain ⟨cq16, kq16, q16a, q16b, q16c⟩ := isOf hZ e15 g3_0
  obtain ⟨_, _, ⟨T16, L16, k16, n16⟩, -, X16, ⟨Lc16, hQ16, l16, y16, z16⟩, st16⟩ := X15.virtualBack hx (y := (⟨s14_, "isEmpty", "()Z"⟩ : MethodName)) (z := (⟨s14_, "isEmpty", "()Z"⟩ : MethodName)) hown (mvT hZ (own_w hw 134 rfl)) (mvT hZ (own_w hw 135 rfl)) (notFace_of_selects (args := #[]) (mvT hZ (own_w hw 137 rfl))) (mvT hZ (own_w hw 137 rfl)) (mvT hZ (own_w hw 136 rfl)) (by decide) (backOf (W := 0) (rm_emp0_0 l Z a0 hw [] d2 T3.heap n0 O10 g3_2 g3_3) hZ (own_w hw 138 rfl) (own_w hw 60 rfl) (by decide) (by decide)) q16a q16c (g := (mkF m 33 #[.val (.ref en), .val (.ref w1)] [(.ref d2)])) rfl (by rw [hml]; rfl) (Steps.refl _) (argsL := []) (rest := []) (lenOf own_pd__28_29Z rfl) rfl (by show 2 * 0 + _ ≤ _; exact Nat.le_of_eq rfl) (hb hby D12_33) (fun _ _ => ⟨rfl, e15, (by decide : 0 + 0 ≤ _), (by decide : 0 + 0 ≤ _)⟩)
  dsimp only [Pt.U, Pt.locs, Pt.cells, Pt.slots] at X16 l16 y16 z16 st16 hQ16
  subst l16 y16 z16
  obtain ⟨rfl, M16, K16⟩ := hQ16
  have N16 := Fr.app N11 M16
  refine own_by (fun _ k => st16.trans k) ?_
  refine own_by (fun _ k => XS.ifNo X16.here hx rfl (hb hby D12_36) rfl ((if0 _ _).trans (feq (by decide : ¬ ((1 : Int32) = (0 : Int32)))).1) k) ?_
  show own_Go p e below (T16.setTop (mkF m 39 #[.val (.ref en), .val (.ref w1)] [])) _
  refine own_by (fun _ k => XS.aloadN X16.here hx rfl (hb hby D12_39) rfl rfl k) ?_
  refine own_by (fun _ k => XS.aconstNull X16.here hx rfl (hb hby D12_40) k) ?_
  have fc17 : Exa Z T3.heap en s2_ := (Ee.keep K3)
  obtain ⟨T18, h18, X18, e18, W18, st18⟩ := putF X16 hx hZ hown (host := "") (Or.inl (own_w hw 44 rfl)) Via.refl K16 fc4 fc17 (Or.inl (own_w hw 45 rfl)) (own_w hw 1 rfl) (ty := (.object s13_)) (by decide) rfl rfl (g := (mkF m 41 #[.val (.ref en), .val (.ref w1)] [.null, (.ref en)])) rfl rfl (hb hby D12_41)
  refine own_by st18 ?_
  have z18 := W18.size
  have N18 := Fr.snoc X18 N16 (by omega)
  have Fw18 : Fld Z h18 en s2_ "queues" s11_ .null := fc4.same W18
  have K19 : Keep h0 h18 [en, d2, a2] := (((Keep.refl h0 [en, d2, a2]).trans K3 (allS (P := fun x => x ∈ [en, d2, a2] ∨ h0.size ≤ x) (Or.inl (List.mem_of_getElem? (i := 1) rfl)) (allS (P := fun x => x ∈ [en, d2, a2] ∨ h0.size ≤ x) (Or.inl (List.mem_of_getElem? (i := 2) rfl)) all0))).wr W18 (Or.inl (List.mem_of_getElem? (i := 0) rfl)))
  obtain ⟨fs, hr, hrun, hended, hW, hsame⟩ := X18.leave (v := none) (fun h => rfl)
  refine ⟨_, _, X18.returnOut hx Bd.returns (hb hby D12_44) hr, hrun, hended, _, _, rfl, ?_, ⟨_, rfl⟩, hW, hsame.mono (by decide) (by decide)⟩
  show Q_rm_deq_0_0_0_1_w1_w10 Z en q d1 a1 kk1 d2 a2 kk2 w1 h0 n0 _ T18.heap _
  rw [e18]
  exact ⟨rfl, N18, K19, Fw18⟩
def Q_rm_inc1 (Z : State) (h0 : Heap) (n0 : Nat) (v : Option Value) (h : Heap) (L : List Loc) : Prop := v = some (.int (2 : Int32)) ∧ Fr n0 L ∧ h = h0
theorem ef_rm_inc1 (m : MethodId) : entryFrame m #[(.int (1 : Int32)), (.int (17 : Int32))] 2 = mkF m 0 #[.val (.int (1 : Int32)), .val (.int (17 : Int32))] [] := by first | (simp [entryFrame, mkF, argsToLocals, Value.category]; done) | rfl
set_option maxRecDepth 65536 in
set_option maxHeartbeats 40000000 in
theorem rm_inc1 (l : Launch) (Z : State) (a0 : Array Value) (hw : ∀ d ∈ tables_1, d.before a0 Z = true) (ws : List Jvm.Cond) (h0 : Heap) (n0 : Nat) (O0 : Old Z n0 h0) :
    MetFree l (⟨s14_, "inc", "(II)I"⟩ : MethodName) (head1 (Jvm.Cond.code (⟨s14_, "inc", "(II)I"⟩ : MethodName) jdk_21_method_6_code 2 (some .int) :: ws) ({ frames := 0, cells := 0, slots := 0, locals := 0 } : Room)) (fun a U => a = #[(.int (1 : Int32)), (.int (17 : Int32))] ∧ Z.Warmed39 U.vm ∧ U.heap = h0) (fun _ _ _ _ _ => True) (fun _ U o U' => ∃ v L, o = .returned v ∧ Q_rm_inc1 Z h0 n0 v U'.heap L ∧ FrameEnd U o U' L ({ frames := 0, cells := 0, slots := 0, locals := 0 } : Room).cells ({ frames := 0, cells := 0, slots := 0, locals := 0 } : Room).slots) := by
  refine MetFree.of_bodySF (plainFor_of_name own_pn_java_util_ArrayDeque) hisR ?_
  intro p e s m args below meth c s₁ Bd hml0 hP hK
  obtain ⟨rfl, hZ, hh⟩ := hP
  have hx := Bd.exec
  have hby := Bd.bytes
  have hml : c.maxLocals = 2 := hml0
  have hown : s.vm.findClass s14_ = some m.cls := findClass_of_methodNamed Bd.named
  have hnm := (name_of_methodNamed Bd.named Bd.method).1
  have X0 : Stand p l e ({ frames := 0, cells := 0, slots := 0, locals := 0 } : Room) s m #[(.int (1 : Int32)), (.int (17 : Int32))] below meth c s₁ [] 0 0 := Stand.of_body Bd
  have e0 : s₁.heap = h0 := by rw [← hh, Bd.state]; rfl
  have N0 := Fr.nil n0
  have Z0 : n0 ≤ h0.size := by rw [← O0.1]; exact O0.2.1
  show own_Go p e below (s₁.setTop (entryFrame m #[(.int (1 : Int32)), (.int (17 : Int32))] 2)) (fun t o => ∃ v L, o = .returned v ∧ Q_rm_inc1 Z h0 n0 v t.heap L ∧ FrameEnd s o t L ({ frames := 0, cells := 0, slots := 0, locals := 0 } : Room).cells ({ frames := 0, cells := 0, slots := 0, locals := 0 } : Room).slots)
  rw [ef_rm_inc1 m]
  refine own_by (fun _ k => XS.iinc X0.here hx rfl (hb hby D11_0) rfl (l' := #[.val (.int (2 : Int32)), .val (.int (17 : Int32))]) rfl k) ?_
  refine own_by (fun _ k => XS.iloadN X0.here hx rfl (hb hby D11_3) rfl k) ?_
  refine own_by (fun _ k => XS.iloadN X0.here hx rfl (hb hby D11_4) rfl k) ?_
  refine own_by (fun _ k => XS.icmpYes X0.here hx rfl (pc0 := 5) (pc' := 10) rfl (hb hby D11_5) rfl (tlt (by decide : (2 : Int32) < (17 : Int32))).1 (by decide) (by decide) k) ?_
  show own_Go p e below (s₁.setTop (mkF m 10 #[.val (.int (2 : Int32)), .val (.int (17 : Int32))] [])) _
  refine own_by (fun _ k => XS.iloadN X0.here hx rfl (hb hby D11_10) rfl k) ?_
  obtain ⟨fs, hr, hrun, hended, hW, hsame⟩ := X0.leave (v := some (.int (2 : Int32))) (fun h => by rw [Bd.returns] at h; cases h)
  refine ⟨_, _, retI X0 hx Bd.returns (hb hby D11_11) hr, hrun, hended, _, _, rfl, ?_, ⟨_, rfl⟩, hW, hsame.mono (by decide) (by decide)⟩
  show Q_rm_inc1 Z h0 n0 _ s₁.heap _
  rw [e0]
  exact ⟨rfl, N0, rfl⟩
def Q_rm_add_0_1_w1_w2 (Z : State) (d : Addr) (a1 : Addr) (kk1 : ClassId) (w1 : Addr) (w2 : Addr) (h0 : Heap) (n0 : Nat) (v : Option Value) (h : Heap) (L : List Loc) : Prop := v = none ∧ Fr n0 L ∧ Keep h0 h [d, a1] ∧ Exa Z h d s14_ ∧ Fld Z h d s14_ "elements" s16_ (.ref a1) ∧ Fld Z h d s14_ "head" "I" (.int (0 : Int32)) ∧ Fld Z h d s14_ "tail" "I" (.int (2 : Int32)) ∧ Arv Z h a1 kk1 (.object s3_) (17 : Int32) [(.ref w1), (.ref w2)] .null
theorem ef_rm_add_0_1_w1_w2 (m : MethodId) (d : Addr) (a1 : Addr) (kk1 : ClassId) (w1 : Addr) (w2 : Addr) : entryFrame m #[(.ref d), (.ref w2)] 3 = mkF m 0 #[.val (.ref d), .val (.ref w2), .unset] [] := by first | (simp [entryFrame, mkF, argsToLocals, Value.category]; done) | rfl
set_option maxRecDepth 65536 in
set_option maxHeartbeats 40000000 in
theorem rm_add_0_1_w1_w2 (l : Launch) (Z : State) (a0 : Array Value) (hw : ∀ d ∈ tables_1, d.before a0 Z = true) (ws : List Jvm.Cond) (d : Addr) (a1 : Addr) (kk1 : ClassId) (w1 : Addr) (w2 : Addr) (h0 : Heap) (n0 : Nat) (O0 : Old Z n0 h0) (Ed : Exa Z h0 d s14_) (Fe : Fld Z h0 d s14_ "elements" s16_ (.ref a1)) (Fh : Fld Z h0 d s14_ "head" "I" (.int (0 : Int32))) (Ft : Fld Z h0 d s14_ "tail" "I" (.int (1 : Int32))) (Va : Arv Z h0 a1 kk1 (.object s3_) (17 : Int32) [(.ref w1)] .null) (Ew : Exa Z h0 w2 s5_) (gd : n0 ≤ d) (ga : n0 ≤ a1) (nda : ¬ (@Eq Nat d a1)) (ov : Ovr Z kk1 s3_) :
    MetFree l (⟨s14_, "addLast", s19_⟩ : MethodName) (head1 (Jvm.Cond.code (⟨s14_, "addLast", s19_⟩ : MethodName) jdk_21_method_13_code 3 none :: ws) ({ frames := 1, cells := 0, slots := 0, locals := 15 } : Room)) (fun a U => a = #[(.ref d), (.ref w2)] ∧ Z.Warmed39 U.vm ∧ U.heap = h0) (fun _ _ _ _ _ => True) (fun _ U o U' => ∃ v L, o = .returned v ∧ Q_rm_add_0_1_w1_w2 Z d a1 kk1 w1 w2 h0 n0 v U'.heap L ∧ FrameEnd U o U' L ({ frames := 1, cells := 0, slots := 0, locals := 15 } : Room).cells ({ frames := 1, cells := 0, slots := 0, locals := 15 } : Room).slots) := by
  refine MetFree.of_bodySF (plainFor_of_name own_pn_java_util_ArrayDeque) hisR ?_
  intro p e s m args below meth c s₁ Bd hml0 hP hK
  obtain ⟨rfl, hZ, hh⟩ := hP
  have hx := Bd.exec
  have hby := Bd.bytes
  have hml : c.maxLocals = 3 := hml0
  have hown : s.vm.findClass s14_ = some m.cls := findClass_of_methodNamed Bd.named
  have hnm := (name_of_methodNamed Bd.named Bd.method).1
  have X0 : Stand p l e ({ frames := 1, cells := 0, slots := 0, locals := 15 } : Room) s m #[(.ref d), (.ref w2)] below meth c s₁ [] 0 0 := Stand.of_body Bd
  have e0 : s₁.heap = h0 := by rw [← hh, Bd.state]; rfl
  have N0 := Fr.nil n0
  have Z0 : n0 ≤ h0.size := by rw [← O0.1]; exact O0.2.1
  show own_Go p e below (s₁.setTop (entryFrame m #[(.ref d), (.ref w2)] 3)) (fun t o => ∃ v L, o = .returned v ∧ Q_rm_add_0_1_w1_w2 Z d a1 kk1 w1 w2 h0 n0 v t.heap L ∧ FrameEnd s o t L ({ frames := 1, cells := 0, slots := 0, locals := 15 } : Room).cells ({ frames := 1, cells := 0, slots := 0, locals := 15 } : Room).slots)
  rw [ef_rm_add_0_1_w1_w2 m d a1 kk1 w1 w2]
  have lt_Ed : h0.size > d := Ed.lt
  have lt_Fe : h0.size > d := Fe.lt
  have lt_Fh : h0.size > d := Fh.lt
  have lt_Ft : h0.size > d := Ft.lt
  have lt_Va : h0.size > a1 := Va.lt
  have lt_Ew : h0.size > w2 := Ew.lt
  refine own_by (fun _ k => XS.aloadN X0.here hx rfl (hb hby D10_0) rfl rfl k) ?_
  refine own_by (fun _ k => XS.ifnonnullYes X0.here hx rfl (pc0 := 1) (pc' := 12) rfl (hb hby D10_1) rfl (by decide) (by decide) k) ?_
  show own_Go p e below (s₁.setTop (mkF m 12 #[.val (.ref d), .val (.ref w2), .unset] [])) _
  refine own_by (fun _ k => XS.aloadN X0.here hx rfl (hb hby D10_12) rfl rfl k) ?_
  obtain ⟨T1, X1, e1, st1⟩ := getF X0 hx hZ hown (host := "") (Or.inl (own_w hw 73 rfl)) Via.refl e0 Fe (g := (mkF m 13 #[.val (.ref d), .val (.ref w2), .unset] [(.ref d)])) rfl rfl (hb hby D10_13)
  refine own_by st1 ?_
  refine own_by (fun _ k => XS.astoreN X1.here hx rfl (hb hby D10_16) rfl rfl (l' := #[.val (.ref d), .val (.ref w2), .val (.ref a1)]) rfl k) ?_
  refine own_by (fun _ k => XS.aloadN X1.here hx rfl (hb hby D10_17) rfl rfl k) ?_
  refine own_by (fun _ k => XS.aloadN X1.here hx rfl (hb hby D10_18) rfl rfl k) ?_
  obtain ⟨T2, X2, e2, st2⟩ := getF X1 hx hZ hown (host := "") (Or.inl (own_w hw 90 rfl)) Via.refl e1 Ft (g := (mkF m 19 #[.val (.ref d), .val (.ref w2), .val (.ref a1)] [(.ref d), (.ref a1)])) rfl rfl (hb hby D10_19)
  refine own_by st2 ?_
  show own_Go p e below (T2.setTop (mkF m 22 #[.val (.ref d), .val (.ref w2), .val (.ref a1)] [(.int (1 : Int32)), (.ref a1)])) _
  refine own_by (fun _ k => XS.aloadN X2.here hx rfl (hb hby D10_22) rfl rfl k) ?_
  have Vw3 : Arv Z h0 a1 kk1 (.object s3_) (17 : Int32) [(.ref w1), .null] .null := Va.pad (pad_rep [(.ref w1)] .null 1)
  obtain ⟨cl4, Ar4, q4, S4, M4, H4, G4⟩ := (id Vw3)
  have hin4 : ¬ ((1 : Int32) < 0 ∨ cl4.slots.size ≤ ((1 : Int32)).toNatClampNeg) := inb_of S4 ⟨by decide, by decide⟩
  obtain ⟨T4, h4, X4, e4, W4, st4⟩ := stR X2 hx hZ e2 Ar4 (j := (1 : Int32)) hin4 rfl (Sto.ofV Ar4 q4 ov (Ins.of_exa Ew (own_w hw 92 rfl))) (g := (mkF m 23 #[.val (.ref d), .val (.ref w2), .val (.ref a1)] [(.ref w2), (.int (1 : Int32)), (.ref a1)])) rfl rfl (hb hby D10_23)
  refine own_by st4 ?_
  have z4 := W4.size
  have N4 := Fr.snoc X4 N0 (by omega)
  have Vw4 : Arv Z h4 a1 kk1 (.object s3_) (17 : Int32) [(.ref w1), (.ref w2)] .null := Arv.set Ar4 q4 S4 M4 H4 G4 rfl W4 1 rfl (Nat.le_of_ble_eq_true rfl)
  refine own_by (fun _ k => XS.aloadN X4.here hx rfl (hb hby D10_24) rfl rfl k) ?_
  have fc5 : Fld Z h4 d s14_ "head" "I" (.int (0 : Int32)) := (Fh.other W4 (Or.inl (own_ne (by omega))))
  obtain ⟨T6, X6, e6, st6⟩ := getF X4 hx hZ hown (host := "") (Or.inl (own_w hw 93 rfl)) Via.refl e4 fc5 (g := (mkF m 25 #[.val (.ref d), .val (.ref w2), .val (.ref a1)] [(.ref d)])) rfl rfl (hb hby D10_25)
  refine own_by st6 ?_
  refine own_by (fun _ k => XS.aloadN X6.here hx rfl (hb hby D10_28) rfl rfl k) ?_
  refine own_by (fun _ k => XS.aloadN X6.here hx rfl (hb hby D10_29) rfl rfl k) ?_
  show own_Go p e below (T6.setTop (mkF m 30 #[.val (.ref d), .val (.ref w2), .val (.ref a1)] [(.ref d), (.ref d), (.int (0 : Int32))])) _
  have fc7 : Fld Z h4 d s14_ "tail" "I" (.int (1 : Int32)) := (Ft.other W4 (Or.inl (own_ne (by omega))))
  obtain ⟨T8, X8, e8, st8⟩ := getF X6 hx hZ hown (host := "") (Or.inl (own_w hw 90 rfl)) Via.refl e6 fc7 (g := (mkF m 30 #[.val (.ref d), .val (.ref w2), .val (.ref a1)] [(.ref d), (.ref d), (.int (0 : Int32))])) rfl rfl (hb hby D10_30)
  refine own_by st8 ?_
  refine own_by (fun _ k => XS.aloadN X8.here hx rfl (hb hby D10_33) rfl rfl k) ?_
  obtain ⟨cl9, Ar9, q9, S9, M9, H9, G9⟩ := (id Vw4)
  refine own_by (X8.arraylength hx (by rw [e8]; exact Ar9.1) (State.isArrayOf_alike hZ.alike Ar9.2.1) (g := (mkF m 34 #[.val (.ref d), .val (.ref w2), .val (.ref a1)] [(.ref a1), (.int (1 : Int32)), (.ref d), (.int (0 : Int32))])) rfl rfl (hb hby D10_34)) ?_
  rw [len_of S9 M9]
  have O10 : Old Z n0 h4 := (O0.wr W4 (by omega))
  obtain ⟨_, _, ⟨T11, L11, k11, n11⟩, -, X11, ⟨Lc11, hQ11, l11, y11, z11⟩, st11⟩ := Jvm.LawKit.callS X8 hx (y := (⟨s14_, "inc", "(II)I"⟩ : MethodName)) hown (mvT hZ (own_w hw 95 rfl)) (mvT hZ (own_w hw 96 rfl)) (mvT hZ (own_w hw 60 rfl)) (mvT hZ (own_w hw 97 rfl)) (by decide) (backOf (W := 2) (rm_inc1 l Z a0 hw [] h4 n0 O10) hZ (own_w hw 97 rfl) (own_w hw 60 rfl) (by decide) (by decide)) (g := (mkF m 35 #[.val (.ref d), .val (.ref w2), .val (.ref a1)] [(.int (17 : Int32)), (.int (1 : Int32)), (.ref d), (.int (0 : Int32))])) rfl (by rw [hml]; rfl) (argsL := [(.int (1 : Int32)), (.int (17 : Int32))]) (rest := [(.ref d), (.int (0 : Int32))]) (lenOf own_pd__28II_29I rfl) rfl (by show 2 * 0 + _ ≤ _; exact Nat.le_of_eq rfl) (hb hby D10_35) (fun _ _ => ⟨rfl, e8, (by decide : 0 + 0 ≤ _), (by decide : 0 + 0 ≤ _)⟩)
  dsimp only [Pt.U, Pt.locs, Pt.cells, Pt.slots] at X11 l11 y11 z11 st11 hQ11
  subst l11 y11 z11
  obtain ⟨rfl, M11, K11⟩ := hQ11
  have N11 := Fr.app N4 M11
  refine own_by st11 ?_
  refine own_by (fun _ k => XS.dupX1 X11.here hx rfl (hb hby D10_38) rfl rfl rfl k) ?_
  have fc12 : Exa Z h4 d s14_ := (Ed.wr W4)
  obtain ⟨T13, h13, X13, e13, W13, st13⟩ := putF X11 hx hZ hown (host := "") (Or.inl (own_w hw 90 rfl)) Via.refl K11 fc7 fc12 (Or.inl (own_w hw 91 rfl)) (own_w hw 59 rfl) (ty := .int) (by decide) rfl rfl (g := (mkF m 39 #[.val (.ref d), .val (.ref w2), .val (.ref a1)] [(.int (2 : Int32)), (.ref d), (.int (2 : Int32)), (.int (0 : Int32))])) rfl rfl (hb hby D10_39)
  refine own_by st13 ?_
  have z13 := W13.size
  have N13 := Fr.snoc X13 N11 (by omega)
  have Fw13 : Fld Z h13 d s14_ "tail" "I" (.int (2 : Int32)) := fc7.same W13
  show own_Go p e below (T13.setTop (mkF m 42 #[.val (.ref d), .val (.ref w2), .val (.ref a1)] [(.int (2 : Int32)), (.int (0 : Int32))])) _
  refine own_by (fun _ k => XS.icmpYes X13.here hx rfl (pc0 := 42) (pc' := 50) rfl (hb hby D10_42) rfl (feq (by decide : ¬ ((0 : Int32) = (2 : Int32)))).2 (by decide) (by decide) k) ?_
  show own_Go p e below (T13.setTop (mkF m 50 #[.val (.ref d), .val (.ref w2), .val (.ref a1)] [])) _
  have fc14 : Exa Z h13 d s14_ := (fc12.wr W13)
  have fc15 : Fld Z h13 d s14_ "elements" s16_ (.ref a1) := ((Fe.other W4 (Or.inl (own_ne (by omega)))).other W13 (Or.inr (slot_ne (a0 := a0) (Or.inl (own_w hw 74 rfl)) (Or.inl (own_w hw 91 rfl)) (by decide) (t := (.array (.object s3_))) (by decide) (t' := .int) (by decide))))
  have fc16 : Fld Z h13 d s14_ "head" "I" (.int (0 : Int32)) := (fc5.other W13 (Or.inr (slot_ne (a0 := a0) (Or.inl (own_w hw 94 rfl)) (Or.inl (own_w hw 91 rfl)) (by decide) (t := .int) (by decide) (t' := .int) (by decide))))
  have fc17 : Arv Z h13 a1 kk1 (.object s3_) (17 : Int32) [(.ref w1), (.ref w2)] .null := (Vw4.other W13 (own_ne (by omega)))
  have K18 : Keep h0 h13 [d, a1] := (((Keep.refl h0 [d, a1]).wr W4 (Or.inl (List.mem_of_getElem? (i := 1) rfl))).wr W13 (Or.inl (List.mem_of_getElem? (i := 0) rfl)))
  obtain ⟨fs, hr, hrun, hended, hW, hsame⟩ := X13.leave (v := none) (fun h => rfl)
  refine ⟨_, _, X13.returnOut hx Bd.returns (hb hby D10_50) hr, hrun, hended, _, _, rfl, ?_, ⟨_, rfl⟩, hW, hsame.mono (by decide) (by decide)⟩
  show Q_rm_add_0_1_w1_w2 Z d a1 kk1 w1 w2 h0 n0 _ T13.heap _
  rw [e13]
  exact ⟨rfl, N13, K18, fc14, fc15, fc16, Fw13, fc17⟩
def Q_rm_enq_0_0_0_1_w1_w20 (Z : State) (en : Addr) (q : Addr) (d1 : Addr) (a1 : Addr) (kk1 : ClassId) (d2 : Addr) (a2 : Addr) (kk2 : ClassId) (w1 : Addr) (w2 : Addr) (h0 : Heap) (n0 : Nat) (v : Option Value) (h : Heap) (L : List Loc) : Prop := v = none ∧ Fr n0 L ∧ Keep h0 h [d2, a2] ∧ Fld Z h en s2_ "queues" s11_ (.ref q) ∧ Exa Z h q s13_ ∧ Fld Z h q s13_ "conversions" s17_ (.ref d1) ∧ Fld Z h q s13_ "requests" s17_ (.ref d2) ∧ Exa Z h d1 s14_ ∧ Fld Z h d1 s14_ "elements" s16_ (.ref a1) ∧ Fld Z h d1 s14_ "head" "I" (.int (0 : Int32)) ∧ Fld Z h d1 s14_ "tail" "I" (.int (0 : Int32)) ∧ Arv Z h a1 kk1 (.object s3_) (17 : Int32) [] .null ∧ Exa Z h d2 s14_ ∧ Fld Z h d2 s14_ "elements" s16_ (.ref a2) ∧ Fld Z h d2 s14_ "head" "I" (.int (0 : Int32)) ∧ Fld Z h d2 s14_ "tail" "I" (.int (2 : Int32)) ∧ Arv Z h a2 kk2 (.object s3_) (17 : Int32) [(.ref w1), (.ref w2)] .null
theorem ef_rm_enq_0_0_0_1_w1_w20 (m : MethodId) (en : Addr) (q : Addr) (d1 : Addr) (a1 : Addr) (kk1 : ClassId) (d2 : Addr) (a2 : Addr) (kk2 : ClassId) (w1 : Addr) (w2 : Addr) : entryFrame m #[(.ref en), (.ref w2)] 2 = mkF m 0 #[.val (.ref en), .val (.ref w2)] [] := by first | (simp [entryFrame, mkF, argsToLocals, Value.category]; done) | rfl
set_option maxRecDepth 65536 in
set_option maxHeartbeats 40000000 in
theorem rm_enq_0_0_0_1_w1_w20 (l : Launch) (Z : State) (a0 : Array Value) (hw : ∀ d ∈ tables_1, d.before a0 Z = true) (ws : List Jvm.Cond) (en : Addr) (q : Addr) (d1 : Addr) (a1 : Addr) (kk1 : ClassId) (d2 : Addr) (a2 : Addr) (kk2 : ClassId) (w1 : Addr) (w2 : Addr) (h0 : Heap) (n0 : Nat) (O0 : Old Z n0 h0) (Fq : Fld Z h0 en s2_ "queues" s11_ (.ref q)) (Ee : Exa Z h0 en s2_) (Ew : Exa Z h0 w2 s5_) (Fw : Fld Z h0 w2 s5_ "conversion" "Z" (.int (0 : Int32))) (G0 : Exa Z h0 q s13_) (G1 : Fld Z h0 q s13_ "conversions" s17_ (.ref d1)) (G2 : Fld Z h0 q s13_ "requests" s17_ (.ref d2)) (G3 : Exa Z h0 d1 s14_) (G4 : Fld Z h0 d1 s14_ "elements" s16_ (.ref a1)) (G5 : Fld Z h0 d1 s14_ "head" "I" (.int (0 : Int32))) (G6 : Fld Z h0 d1 s14_ "tail" "I" (.int (0 : Int32))) (G7 : Arv Z h0 a1 kk1 (.object s3_) (17 : Int32) [] .null) (G8 : Exa Z h0 d2 s14_) (G9 : Fld Z h0 d2 s14_ "elements" s16_ (.ref a2)) (G10 : Fld Z h0 d2 s14_ "head" "I" (.int (0 : Int32))) (G11 : Fld Z h0 d2 s14_ "tail" "I" (.int (1 : Int32))) (G12 : Arv Z h0 a2 kk2 (.object s3_) (17 : Int32) [(.ref w1)] .null) (ge : n0 ≤ en) (nwe : ¬ (@Eq Nat w2 en)) (nea : ¬ (@Eq Nat en a2)) (ned : ¬ (@Eq Nat en d2)) (o0 : @LT.lt Nat _ q d1) (o1 : @LT.lt Nat _ d1 a1) (o2 : @LT.lt Nat _ a1 d2) (o3 : @LT.lt Nat _ d2 a2) (gq : n0 ≤ q) (ov1 : Ovr Z kk1 s3_) (ov2 : Ovr Z kk2 s3_) :
    MetFree l (⟨s2_, "enqueue", s12_⟩ : MethodName) (head1 (Jvm.Cond.code (⟨s2_, "enqueue", s12_⟩ : MethodName) prog_11_method_10_code 2 none :: ws) ({ frames := 2, cells := 0, slots := 0, locals := 29 } : Room)) (fun a U => a = #[(.ref en), (.ref w2)] ∧ Z.Warmed39 U.vm ∧ U.heap = h0) (fun _ _ _ _ _ => True) (fun _ U o U' => ∃ v L, o = .returned v ∧ Q_rm_enq_0_0_0_1_w1_w20 Z en q d1 a1 kk1 d2 a2 kk2 w1 w2 h0 n0 v U'.heap L ∧ FrameEnd U o U' L ({ frames := 2, cells := 0, slots := 0, locals := 29 } : Room).cells ({ frames := 2, cells := 0, slots := 0, locals := 29 } : Room).slots) := by
  refine MetFree.of_bodySF (plainFor_of_name own_pn_com_example_admit1_admit1_lock_LockEntry) hisR ?_
  intro p e s m args below meth c s₁ Bd hml0 hP hK
  obtain ⟨rfl, hZ, hh⟩ := hP
  have hx := Bd.exec
  have hby := Bd.bytes
  have hml : c.maxLocals = 2 := hml0
  have hown : s.vm.findClass s2_ = some m.cls := findClass_of_methodNamed Bd.named
  have hnm := (name_of_methodNamed Bd.named Bd.method).1
  have X0 : Stand p l e ({ frames := 2, cells := 0, slots := 0, locals := 29 } : Room) s m #[(.ref en), (.ref w2)] below meth c s₁ [] 0 0 := Stand.of_body Bd
  have e0 : s₁.heap = h0 := by rw [← hh, Bd.state]; rfl
  have N0 := Fr.nil n0
  have Z0 : n0 ≤ h0.size := by rw [← O0.1]; exact O0.2.1
  show own_Go p e below (s₁.setTop (entryFrame m #[(.ref en), (.ref w2)] 2)) (fun t o => ∃ v L, o = .returned v ∧ Q_rm_enq_0_0_0_1_w1_w20 Z en q d1 a1 kk1 d2 a2 kk2 w1 w2 h0 n0 v t.heap L ∧ FrameEnd s o t L ({ frames := 2, cells := 0, slots := 0, locals := 29 } : Room).cells ({ frames := 2, cells := 0, slots := 0, locals := 29 } : Room).slots)
  rw [ef_rm_enq_0_0_0_1_w1_w20 m en q d1 a1 kk1 d2 a2 kk2 w1 w2]
  have lt_Fq : h0.size > en := Fq.lt
  have lt_Ee : h0.size > en := Ee.lt
  have lt_Ew : h0.size > w2 := Ew.lt
  have lt_Fw : h0.size > w2 := Fw.lt
  have lt_G0 : h0.size > q := G0.lt
  have lt_G1 : h0.size > q := G1.lt
  have lt_G2 : h0.size > q := G2.lt
  have lt_G3 : h0.size > d1 := G3.lt
  have lt_G4 : h0.size > d1 := G4.lt
  have lt_G5 : h0.size > d1 := G5.lt
  have lt_G6 : h0.size > d1 := G6.lt
  have lt_G7 : h0.size > a1 := G7.lt
  have lt_G8 : h0.size > d2 := G8.lt
  have lt_G9 : h0.size > d2 := G9.lt
  have lt_G10 : h0.size > d2 := G10.lt
  have lt_G11 : h0.size > d2 := G11.lt
  have lt_G12 : h0.size > a2 := G12.lt
  refine own_by (fun _ k => XS.aloadN X0.here hx rfl (hb hby D5_0) rfl rfl k) ?_
  obtain ⟨T1, X1, e1, st1⟩ := getF X0 hx hZ hown (host := "") (Or.inl (own_w hw 44 rfl)) Via.refl e0 Fq (g := (mkF m 1 #[.val (.ref en), .val (.ref w2)] [(.ref en)])) rfl rfl (hb hby D5_1)
  refine own_by st1 ?_
  refine own_by (fun _ k => XS.ifnonnullYes X1.here hx rfl (pc0 := 4) (pc' := 18) rfl (hb hby D5_4) rfl (by decide) (by decide) k) ?_
  show own_Go p e below (T1.setTop (mkF m 18 #[.val (.ref en), .val (.ref w2)] [])) _
  refine own_by (fun _ k => XS.aloadN X1.here hx rfl (hb hby D5_18) rfl rfl k) ?_
  obtain ⟨T2, X2, e2, st2⟩ := getF X1 hx hZ hown (host := "") (Or.inl (own_w hw 44 rfl)) Via.refl e1 Fq (g := (mkF m 19 #[.val (.ref en), .val (.ref w2)] [(.ref en)])) rfl rfl (hb hby D5_19)
  refine own_by st2 ?_
  refine own_by (fun _ k => XS.aloadN X2.here hx rfl (hb hby D5_22) rfl rfl k) ?_
  obtain ⟨cq3, kq3, q3a, q3b, q3c⟩ := isOf hZ e2 G0
  obtain ⟨_, _, ⟨T3, L3, k3, n3⟩, -, X3, ⟨Lc3, hQ3, l3, y3, z3⟩, st3⟩ := X2.virtualBack hx (y := (⟨s13_, "of", s18_⟩ : MethodName)) (z := (⟨s13_, "of", s18_⟩ : MethodName)) hown (mvT hZ (own_w hw 79 rfl)) (mvT hZ (own_w hw 80 rfl)) (notFace_of_selects (args := #[]) (mvT hZ (own_w hw 82 rfl))) (mvT hZ (own_w hw 82 rfl)) (mvT hZ (own_w hw 81 rfl)) (by decide) (backOf (W := 0) (rm_of0 l Z a0 hw [] q w2 d1 d2 h0 n0 O0 Fw G1 G2) hZ (own_w hw 83 rfl) (own_w hw 53 rfl) (by decide) (by decide)) q3a q3c (g := (mkF m 23 #[.val (.ref en), .val (.ref w2)] [(.ref w2), (.ref q)])) rfl (by rw [hml]; rfl) (Steps.refl _) (argsL := [(.ref w2)]) (rest := []) (lenOf own_pd__28Lcom_2fexample_2fadmit1_2fadmit1_2flock_2fWait_3b_29Ljava_2futil_2fArrayDeque_3b rfl) rfl (by show 2 * 0 + _ ≤ _; exact Nat.le_of_eq rfl) (hb hby D5_23) (fun _ _ => ⟨rfl, e2, (by decide : 0 + 0 ≤ _), (by decide : 0 + 0 ≤ _)⟩)
  dsimp only [Pt.U, Pt.locs, Pt.cells, Pt.slots] at X3 l3 y3 z3 st3 hQ3
  subst l3 y3 z3
  obtain ⟨rfl, M3, K3⟩ := hQ3
  have N3 := Fr.app N0 M3
  refine own_by (fun _ k => st3.trans k) ?_
  refine own_by (fun _ k => XS.aloadN X3.here hx rfl (hb hby D5_26) rfl rfl k) ?_
  obtain ⟨cq4, kq4, q4a, q4b, q4c⟩ := isOf hZ K3 G8
  obtain ⟨_, _, ⟨T4, L4, k4, n4⟩, -, X4, ⟨Lc4, hQ4, l4, y4, z4⟩, st4⟩ := X3.virtualBack hx (y := (⟨s14_, "addLast", s19_⟩ : MethodName)) (z := (⟨s14_, "addLast", s19_⟩ : MethodName)) hown (mvT hZ (own_w hw 85 rfl)) (mvT hZ (own_w hw 86 rfl)) (notFace_of_selects (args := #[]) (mvT hZ (own_w hw 88 rfl))) (mvT hZ (own_w hw 88 rfl)) (mvT hZ (own_w hw 87 rfl)) (by decide) (backOf (W := 0) (rm_add_0_1_w1_w2 l Z a0 hw [] d2 a2 kk2 w1 w2 h0 n0 O0 G8 G9 G10 G11 G12 Ew (by first | assumption | omega | decide) (by first | assumption | omega | decide) (by first | assumption | omega | decide) ov2) hZ (own_w hw 89 rfl) (own_w hw 60 rfl) (by decide) (by decide)) q4a q4c (g := (mkF m 27 #[.val (.ref en), .val (.ref w2)] [(.ref w2), (.ref d2)])) rfl (by rw [hml]; rfl) (Steps.refl _) (argsL := [(.ref w2)]) (rest := []) (lenOf own_pd__28Ljava_2flang_2fObject_3b_29V rfl) rfl (by show 2 * 0 + _ ≤ _; exact Nat.le_of_eq rfl) (hb hby D5_27) (fun _ _ => ⟨rfl, K3, (by decide : 0 + 0 ≤ _), (by decide : 0 + 0 ≤ _)⟩)
  dsimp only [Pt.U, Pt.locs, Pt.cells, Pt.slots] at X4 l4 y4 z4 st4 hQ4
  subst l4 y4 z4
  obtain ⟨rfl, M4, K4, g4_0, g4_1, g4_2, g4_3, g4_4⟩ := hQ4
  have N4 := Fr.app N3 M4
  refine own_by (fun _ k => st4.trans k) ?_
  have z4 := K4.1
  have lt_g4_0 : T4.heap.size > d2 := g4_0.lt
  have lt_g4_1 : T4.heap.size > d2 := g4_1.lt
  have lt_g4_2 : T4.heap.size > d2 := g4_2.lt
  have lt_g4_3 : T4.heap.size > d2 := g4_3.lt
  have lt_g4_4 : T4.heap.size > a2 := g4_4.lt
  show own_Go p e below (T4.setTop (mkF m 30 #[.val (.ref en), .val (.ref w2)] [])) _
  have fc5 : Fld Z T4.heap en s2_ "queues" s11_ (.ref q) := (Fq.keep K4 (ninS (own_ne (by omega)) (ninS (own_ne (by omega)) nin0)))
  have fc6 : Exa Z T4.heap q s13_ := (G0.keep K4)
  have fc7 : Fld Z T4.heap q s13_ "conversions" s17_ (.ref d1) := (G1.keep K4 (ninS (own_ne (by omega)) (ninS (own_ne (by omega)) nin0)))
  have fc8 : Fld Z T4.heap q s13_ "requests" s17_ (.ref d2) := (G2.keep K4 (ninS (own_ne (by omega)) (ninS (own_ne (by omega)) nin0)))
  have fc9 : Exa Z T4.heap d1 s14_ := (G3.keep K4)
  have fc10 : Fld Z T4.heap d1 s14_ "elements" s16_ (.ref a1) := (G4.keep K4 (ninS (own_ne (by omega)) (ninS (own_ne (by omega)) nin0)))
  have fc11 : Fld Z T4.heap d1 s14_ "head" "I" (.int (0 : Int32)) := (G5.keep K4 (ninS (own_ne (by omega)) (ninS (own_ne (by omega)) nin0)))
  have fc12 : Fld Z T4.heap d1 s14_ "tail" "I" (.int (0 : Int32)) := (G6.keep K4 (ninS (own_ne (by omega)) (ninS (own_ne (by omega)) nin0)))
  have fc13 : Arv Z T4.heap a1 kk1 (.object s3_) (17 : Int32) [] .null := (G7.keep K4 (ninS (own_ne (by omega)) (ninS (own_ne (by omega)) nin0)))
  have K14 : Keep h0 T4.heap [d2, a2] := ((Keep.refl h0 [d2, a2]).trans K4 (allS (P := fun x => x ∈ [d2, a2] ∨ h0.size ≤ x) (Or.inl (List.mem_of_getElem? (i := 0) rfl)) (allS (P := fun x => x ∈ [d2, a2] ∨ h0.size ≤ x) (Or.inl (List.mem_of_getElem? (i := 1) rfl)) all0)))
  obtain ⟨fs, hr, hrun, hended, hW, hsame⟩ := X4.leave (v := none) (fun h => rfl)
  refine ⟨_, _, X4.returnOut hx Bd.returns (hb hby D5_30) hr, hrun, hended, _, _, rfl, ?_, ⟨_, rfl⟩, hW, hsame.mono (by decide) (by decide)⟩
  show Q_rm_enq_0_0_0_1_w1_w20 Z en q d1 a1 kk1 d2 a2 kk2 w1 w2 h0 n0 _ T4.heap _
  exact ⟨rfl, N4, K14, fc5, fc6, fc7, fc8, fc9, fc10, fc11, fc12, fc13, g4_0, g4_1, g4_2, g4_3, g4_4⟩
def Q_rm_sub2_0 (Z : State) (h0 : Heap) (n0 : Nat) (v : Option Value) (h : Heap) (L : List Loc) : Prop := v = some (.int (2 : Int32)) ∧ Fr n0 L ∧ h = h0
theorem ef_rm_sub2_0 (m : MethodId) : entryFrame m #[(.int (2 : Int32)), (.int (0 : Int32)), (.int (17 : Int32))] 3 = mkF m 0 #[.val (.int (2 : Int32)), .val (.int (0 : Int32)), .val (.int (17 : Int32))] [] := by first | (simp [entryFrame, mkF, argsToLocals, Value.category]; done) | rfl
set_option maxRecDepth 65536 in
set_option maxHeartbeats 40000000 in
theorem rm_sub2_0 (l : Launch) (Z : State) (a0 : Array Value) (hw : ∀ d ∈ tables_1, d.before a0 Z = true) (ws : List Jvm.Cond) (h0 : Heap) (n0 : Nat) (O0 : Old Z n0 h0) :
    MetFree l (⟨s14_, "sub", "(III)I"⟩ : MethodName) (head1 (Jvm.Cond.code (⟨s14_, "sub", "(III)I"⟩ : MethodName) jdk_21_method_9_code 3 (some .int) :: ws) ({ frames := 0, cells := 0, slots := 0, locals := 0 } : Room)) (fun a U => a = #[(.int (2 : Int32)), (.int (0 : Int32)), (.int (17 : Int32))] ∧ Z.Warmed39 U.vm ∧ U.heap = h0) (fun _ _ _ _ _ => True) (fun _ U o U' => ∃ v L, o = .returned v ∧ Q_rm_sub2_0 Z h0 n0 v U'.heap L ∧ FrameEnd U o U' L ({ frames := 0, cells := 0, slots := 0, locals := 0 } : Room).cells ({ frames := 0, cells := 0, slots := 0, locals := 0 } : Room).slots) := by
  refine MetFree.of_bodySF (plainFor_of_name own_pn_java_util_ArrayDeque) hisR ?_
  intro p e s m args below meth c s₁ Bd hml0 hP hK
  obtain ⟨rfl, hZ, hh⟩ := hP
  have hx := Bd.exec
  have hby := Bd.bytes
  have hml : c.maxLocals = 3 := hml0
  have hown : s.vm.findClass s14_ = some m.cls := findClass_of_methodNamed Bd.named
  have hnm := (name_of_methodNamed Bd.named Bd.method).1
  have X0 : Stand p l e ({ frames := 0, cells := 0, slots := 0, locals := 0 } : Room) s m #[(.int (2 : Int32)), (.int (0 : Int32)), (.int (17 : Int32))] below meth c s₁ [] 0 0 := Stand.of_body Bd
  have e0 : s₁.heap = h0 := by rw [← hh, Bd.state]; rfl
  have N0 := Fr.nil n0
  have Z0 : n0 ≤ h0.size := by rw [← O0.1]; exact O0.2.1
  show own_Go p e below (s₁.setTop (entryFrame m #[(.int (2 : Int32)), (.int (0 : Int32)), (.int (17 : Int32))] 3)) (fun t o => ∃ v L, o = .returned v ∧ Q_rm_sub2_0 Z h0 n0 v t.heap L ∧ FrameEnd s o t L ({ frames := 0, cells := 0, slots := 0, locals := 0 } : Room).cells ({ frames := 0, cells := 0, slots := 0, locals := 0 } : Room).slots)
  rw [ef_rm_sub2_0 m]
  refine own_by (fun _ k => XS.iloadN X0.here hx rfl (hb hby D17_0) rfl k) ?_
  refine own_by (fun _ k => XS.iloadN X0.here hx rfl (hb hby D17_1) rfl k) ?_
  refine own_by (fun _ k => XS.isub X0.here hx rfl (hb hby D17_2) rfl k) ?_
  refine own_by (fun _ k => XS.dup X0.here hx rfl (hb hby D17_3) rfl rfl k) ?_
  refine own_by (fun _ k => XS.istoreN X0.here hx rfl (hb hby D17_4) rfl (l' := #[.val (.int (2 : Int32)), .val (.int (0 : Int32)), .val (.int (17 : Int32))]) rfl k) ?_
  refine own_by (fun _ k => XS.ifYes X0.here hx rfl (pc0 := 5) (pc' := 12) rfl (hb hby D17_5) rfl ((if0 _ _).trans (flt (by decide : ¬ ((2 : Int32) < (0 : Int32)))).2.1) (by decide) (by decide) k) ?_
  show own_Go p e below (s₁.setTop (mkF m 12 #[.val (.int (2 : Int32)), .val (.int (0 : Int32)), .val (.int (17 : Int32))] [])) _
  refine own_by (fun _ k => XS.iloadN X0.here hx rfl (hb hby D17_12) rfl k) ?_
  obtain ⟨fs, hr, hrun, hended, hW, hsame⟩ := X0.leave (v := some (.int (2 : Int32))) (fun h => by rw [Bd.returns] at h; cases h)
  refine ⟨_, _, retI X0 hx Bd.returns (hb hby D17_13) hr, hrun, hended, _, _, rfl, ?_, ⟨_, rfl⟩, hW, hsame.mono (by decide) (by decide)⟩
  show Q_rm_sub2_0 Z h0 n0 _ s₁.heap _
  rw [e0]
  exact ⟨rfl, N0, rfl⟩
def Q_rm_dec2 (Z : State) (h0 : Heap) (n0 : Nat) (v : Option Value) (h : Heap) (L : List Loc) : Prop := v = some (.int (1 : Int32)) ∧ Fr n0 L ∧ h = h0
theorem ef_rm_dec2 (m : MethodId) : entryFrame m #[(.int (2 : Int32)), (.int (17 : Int32))] 2 = mkF m 0 #[.val (.int (2 : Int32)), .val (.int (17 : Int32))] [] := by first | (simp [entryFrame, mkF, argsToLocals, Value.category]; done) | rfl
set_option maxRecDepth 65536 in
set_option maxHeartbeats 40000000 in
theorem rm_dec2 (l : Launch) (Z : State) (a0 : Array Value) (hw : ∀ d ∈ tables_1, d.before a0 Z = true) (ws : List Jvm.Cond) (h0 : Heap) (n0 : Nat) (O0 : Old Z n0 h0) :
    MetFree l (⟨s14_, "dec", "(II)I"⟩ : MethodName) (head1 (Jvm.Cond.code (⟨s14_, "dec", "(II)I"⟩ : MethodName) jdk_21_method_7_code 2 (some .int) :: ws) ({ frames := 0, cells := 0, slots := 0, locals := 0 } : Room)) (fun a U => a = #[(.int (2 : Int32)), (.int (17 : Int32))] ∧ Z.Warmed39 U.vm ∧ U.heap = h0) (fun _ _ _ _ _ => True) (fun _ U o U' => ∃ v L, o = .returned v ∧ Q_rm_dec2 Z h0 n0 v U'.heap L ∧ FrameEnd U o U' L ({ frames := 0, cells := 0, slots := 0, locals := 0 } : Room).cells ({ frames := 0, cells := 0, slots := 0, locals := 0 } : Room).slots) := by
  refine MetFree.of_bodySF (plainFor_of_name own_pn_java_util_ArrayDeque) hisR ?_
  intro p e s m args below meth c s₁ Bd hml0 hP hK
  obtain ⟨rfl, hZ, hh⟩ := hP
  have hx := Bd.exec
  have hby := Bd.bytes
  have hml : c.maxLocals = 2 := hml0
  have hown : s.vm.findClass s14_ = some m.cls := findClass_of_methodNamed Bd.named
  have hnm := (name_of_methodNamed Bd.named Bd.method).1
  have X0 : Stand p l e ({ frames := 0, cells := 0, slots := 0, locals := 0 } : Room) s m #[(.int (2 : Int32)), (.int (17 : Int32))] below meth c s₁ [] 0 0 := Stand.of_body Bd
  have e0 : s₁.heap = h0 := by rw [← hh, Bd.state]; rfl
  have N0 := Fr.nil n0
  have Z0 : n0 ≤ h0.size := by rw [← O0.1]; exact O0.2.1
  show own_Go p e below (s₁.setTop (entryFrame m #[(.int (2 : Int32)), (.int (17 : Int32))] 2)) (fun t o => ∃ v L, o = .returned v ∧ Q_rm_dec2 Z h0 n0 v t.heap L ∧ FrameEnd s o t L ({ frames := 0, cells := 0, slots := 0, locals := 0 } : Room).cells ({ frames := 0, cells := 0, slots := 0, locals := 0 } : Room).slots)
  rw [ef_rm_dec2 m]
  refine own_by (fun _ k => XS.iinc X0.here hx rfl (hb hby D18_0) rfl (l' := #[.val (.int (1 : Int32)), .val (.int (17 : Int32))]) rfl k) ?_
  refine own_by (fun _ k => XS.iloadN X0.here hx rfl (hb hby D18_3) rfl k) ?_
  refine own_by (fun _ k => XS.ifYes X0.here hx rfl (pc0 := 4) (pc' := 11) rfl (hb hby D18_4) rfl ((if0 _ _).trans (flt (by decide : ¬ ((1 : Int32) < (0 : Int32)))).2.1) (by decide) (by decide) k) ?_
  show own_Go p e below (s₁.setTop (mkF m 11 #[.val (.int (1 : Int32)), .val (.int (17 : Int32))] [])) _
  refine own_by (fun _ k => XS.iloadN X0.here hx rfl (hb hby D18_11) rfl k) ?_
  obtain ⟨fs, hr, hrun, hended, hW, hsame⟩ := X0.leave (v := some (.int (1 : Int32))) (fun h => by rw [Bd.returns] at h; cases h)
  refine ⟨_, _, retI X0 hx Bd.returns (hb hby D18_12) hr, hrun, hended, _, _, rfl, ?_, ⟨_, rfl⟩, hW, hsame.mono (by decide) (by decide)⟩
  show Q_rm_dec2 Z h0 n0 _ s₁.heap _
  rw [e0]
  exact ⟨rfl, N0, rfl⟩
theorem D16_45 : decode jdk_21_method_36_code 45 = .ok (.iload 4, 2) := by decide +kernel
theorem D16_47 : decode jdk_21_method_36_code 47 = .ok (.iload_n 1, 1) := by decide +kernel
theorem D16_48 : decode jdk_21_method_36_code 48 = .ok (.if_icmp .gt 19, 3) := by decide +kernel
theorem D16_51 : decode jdk_21_method_36_code 51 = .ok (.aload_n 2, 1) := by decide +kernel
theorem D16_52 : decode jdk_21_method_36_code 52 = .ok (.iload 4, 2) := by decide +kernel
theorem D16_54 : decode jdk_21_method_36_code 54 = .ok (.aload_n 2, 1) := by decide +kernel
theorem D16_55 : decode jdk_21_method_36_code 55 = .ok (.iload 4, 2) := by decide +kernel
theorem D16_57 : decode jdk_21_method_36_code 57 = .ok (.iconst 1, 1) := by decide +kernel
theorem D16_58 : decode jdk_21_method_36_code 58 = .ok (.iadd, 1) := by decide +kernel
theorem D16_59 : decode jdk_21_method_36_code 59 = .ok (.iload 6, 2) := by decide +kernel
theorem D16_61 : decode jdk_21_method_36_code 61 = .ok (.invokestatic 27, 3) := by decide +kernel
theorem D16_64 : decode jdk_21_method_36_code 64 = .ok (.goto 36, 3) := by decide +kernel
theorem D16_100 : decode jdk_21_method_36_code 100 = .ok (.aload_n 2, 1) := by decide +kernel
theorem D16_101 : decode jdk_21_method_36_code 101 = .ok (.iload 4, 2) := by decide +kernel
theorem D16_103 : decode jdk_21_method_36_code 103 = .ok (.aconst_null, 1) := by decide +kernel
theorem D16_104 : decode jdk_21_method_36_code 104 = .ok (.aastore, 1) := by decide +kernel
theorem D16_105 : decode jdk_21_method_36_code 105 = .ok (.aload_n 0, 1) := by decide +kernel
theorem D16_106 : decode jdk_21_method_36_code 106 = .ok (.iload 4, 2) := by decide +kernel
theorem D16_108 : decode jdk_21_method_36_code 108 = .ok (.iload_n 3, 1) := by decide +kernel
theorem D16_109 : decode jdk_21_method_36_code 109 = .ok (.invokestatic 74, 3) := by decide +kernel
theorem D16_112 : decode jdk_21_method_36_code 112 = .ok (.putfield 24, 3) := by decide +kernel
theorem D16_115 : decode jdk_21_method_36_code 115 = .ok (.iconst 0, 1) := by decide +kernel
theorem D16_116 : decode jdk_21_method_36_code 116 = .ok (.ireturn, 1) := by decide +kernel
def Q_rm_del_0_2_w1_w2_0 (Z : State) (d : Addr) (a1 : Addr) (kk1 : ClassId) (w1 : Addr) (w2 : Addr) (h0 : Heap) (n0 : Nat) (v : Option Value) (h : Heap) (L : List Loc) : Prop := v = some (.int (0 : Int32)) ∧ Fr n0 L ∧ Keep h0 h [d, a1] ∧ Exa Z h d s14_ ∧ Fld Z h d s14_ "elements" s16_ (.ref a1) ∧ Fld Z h d s14_ "head" "I" (.int (1 : Int32)) ∧ Fld Z h d s14_ "tail" "I" (.int (2 : Int32)) ∧ Arv Z h a1 kk1 (.object s3_) (17 : Int32) [.null, (.ref w2)] .null
theorem ef_rm_del_0_2_w1_w2_0 (m : MethodId) (d : Addr) (a1 : Addr) (kk1 : ClassId) (w1 : Addr) (w2 : Addr) : entryFrame m #[(.ref d), (.int (0 : Int32))] 8 = mkF m 0 #[.val (.ref d), .val (.int (0 : Int32)), .unset, .unset, .unset, .unset, .unset, .unset] [] := by first | (simp [entryFrame, mkF, argsToLocals, Value.category]; done) | rfl
set_option maxRecDepth 65536 in
set_option maxHeartbeats 40000000 in
theorem rm_del_0_2_w1_w2_0 (l : Launch) (Z : State) (a0 : Array Value) (hw : ∀ d ∈ tables_1, d.before a0 Z = true) (ws : List Jvm.Cond) (d : Addr) (a1 : Addr) (kk1 : ClassId) (w1 : Addr) (w2 : Addr) (h0 : Heap) (n0 : Nat) (O0 : Old Z n0 h0) (Ed : Exa Z h0 d s14_) (Fe : Fld Z h0 d s14_ "elements" s16_ (.ref a1)) (Fh : Fld Z h0 d s14_ "head" "I" (.int (0 : Int32))) (Ft : Fld Z h0 d s14_ "tail" "I" (.int (2 : Int32))) (Va : Arv Z h0 a1 kk1 (.object s3_) (17 : Int32) [(.ref w1), (.ref w2)] .null) (gd : n0 ≤ d) (ga : n0 ≤ a1) (nda : ¬ (@Eq Nat d a1)) :
    MetFree l (⟨s14_, "delete", "(I)Z"⟩ : MethodName) (head1 (Jvm.Cond.code (⟨s14_, "delete", "(I)Z"⟩ : MethodName) jdk_21_method_36_code 8 (some .boolean) :: ws) ({ frames := 1, cells := 0, slots := 0, locals := 18 } : Room)) (fun a U => a = #[(.ref d), (.int (0 : Int32))] ∧ Z.Warmed39 U.vm ∧ U.heap = h0) (fun _ _ _ _ _ => True) (fun _ U o U' => ∃ v L, o = .returned v ∧ Q_rm_del_0_2_w1_w2_0 Z d a1 kk1 w1 w2 h0 n0 v U'.heap L ∧ FrameEnd U o U' L ({ frames := 1, cells := 0, slots := 0, locals := 18 } : Room).cells ({ frames := 1, cells := 0, slots := 0, locals := 18 } : Room).slots) := by
  refine MetFree.of_bodySF (plainFor_of_name own_pn_java_util_ArrayDeque) hisR ?_
  intro p e s m args below meth c s₁ Bd hml0 hP hK
  obtain ⟨rfl, hZ, hh⟩ := hP
  have hx := Bd.exec
  have hby := Bd.bytes
  have hml : c.maxLocals = 8 := hml0
  have hown : s.vm.findClass s14_ = some m.cls := findClass_of_methodNamed Bd.named
  have hnm := (name_of_methodNamed Bd.named Bd.method).1
  have X0 : Stand p l e ({ frames := 1, cells := 0, slots := 0, locals := 18 } : Room) s m #[(.ref d), (.int (0 : Int32))] below meth c s₁ [] 0 0 := Stand.of_body Bd
  have e0 : s₁.heap = h0 := by rw [← hh, Bd.state]; rfl
  have N0 := Fr.nil n0
  have Z0 : n0 ≤ h0.size := by rw [← O0.1]; exact O0.2.1
  show own_Go p e below (s₁.setTop (entryFrame m #[(.ref d), (.int (0 : Int32))] 8)) (fun t o => ∃ v L, o = .returned v ∧ Q_rm_del_0_2_w1_w2_0 Z d a1 kk1 w1 w2 h0 n0 v t.heap L ∧ FrameEnd s o t L ({ frames := 1, cells := 0, slots := 0, locals := 18 } : Room).cells ({ frames := 1, cells := 0, slots := 0, locals := 18 } : Room).slots)
  rw [ef_rm_del_0_2_w1_w2_0 m d a1 kk1 w1 w2]
  have lt_Ed : h0.size > d := Ed.lt
  have lt_Fe : h0.size > d := Fe.lt
  have lt_Fh : h0.size > d := Fh.lt
  have lt_Ft : h0.size > d := Ft.lt
  have lt_Va : h0.size > a1 := Va.lt
  refine own_by (fun _ k => XS.aloadN X0.here hx rfl (hb hby D16_0) rfl rfl k) ?_
  obtain ⟨T1, X1, e1, st1⟩ := getF X0 hx hZ hown (host := "") (Or.inl (own_w hw 73 rfl)) Via.refl e0 Fe (g := (mkF m 1 #[.val (.ref d), .val (.int (0 : Int32)), .unset, .unset, .unset, .unset, .unset, .unset] [(.ref d)])) rfl rfl (hb hby D16_1)
  refine own_by st1 ?_
  refine own_by (fun _ k => XS.astoreN X1.here hx rfl (hb hby D16_4) rfl rfl (l' := #[.val (.ref d), .val (.int (0 : Int32)), .val (.ref a1), .unset, .unset, .unset, .unset, .unset]) rfl k) ?_
  refine own_by (fun _ k => XS.aloadN X1.here hx rfl (hb hby D16_5) rfl rfl k) ?_
  obtain ⟨cl2, Ar2, q2, S2, M2, H2, G2⟩ := (id Va)
  refine own_by (X1.arraylength hx (by rw [e1]; exact Ar2.1) (State.isArrayOf_alike hZ.alike Ar2.2.1) (g := (mkF m 6 #[.val (.ref d), .val (.int (0 : Int32)), .val (.ref a1), .unset, .unset, .unset, .unset, .unset] [(.ref a1)])) rfl rfl (hb hby D16_6)) ?_
  rw [len_of S2 M2]
  refine own_by (fun _ k => XS.istoreN X1.here hx rfl (hb hby D16_7) rfl (l' := #[.val (.ref d), .val (.int (0 : Int32)), .val (.ref a1), .val (.int (17 : Int32)), .unset, .unset, .unset, .unset]) rfl k) ?_
  show own_Go p e below (T1.setTop (mkF m 8 #[.val (.ref d), .val (.int (0 : Int32)), .val (.ref a1), .val (.int (17 : Int32)), .unset, .unset, .unset, .unset] [])) _
  refine own_by (fun _ k => XS.iloadN X1.here hx rfl (hb hby D16_8) rfl k) ?_
  refine own_by (fun _ k => XS.aloadN X1.here hx rfl (hb hby D16_9) rfl rfl k) ?_
  obtain ⟨T3, X3, e3, st3⟩ := getF X1 hx hZ hown (host := "") (Or.inl (own_w hw 93 rfl)) Via.refl e1 Fh (g := (mkF m 10 #[.val (.ref d), .val (.int (0 : Int32)), .val (.ref a1), .val (.int (17 : Int32)), .unset, .unset, .unset, .unset] [(.ref d), (.int (0 : Int32))])) rfl rfl (hb hby D16_10)
  refine own_by st3 ?_
  refine own_by (fun _ k => XS.dup X3.here hx rfl (hb hby D16_13) rfl rfl k) ?_
  refine own_by (fun _ k => XS.istore X3.here hx rfl (hb hby D16_14) rfl (l' := #[.val (.ref d), .val (.int (0 : Int32)), .val (.ref a1), .val (.int (17 : Int32)), .val (.int (0 : Int32)), .unset, .unset, .unset]) rfl k) ?_
  refine own_by (fun _ k => XS.iloadN X3.here hx rfl (hb hby D16_16) rfl k) ?_
  show own_Go p e below (T3.setTop (mkF m 17 #[.val (.ref d), .val (.int (0 : Int32)), .val (.ref a1), .val (.int (17 : Int32)), .val (.int (0 : Int32)), .unset, .unset, .unset] [(.int (17 : Int32)), (.int (0 : Int32)), (.int (0 : Int32))])) _
  obtain ⟨_, _, ⟨T4, L4, k4, n4⟩, -, X4, ⟨Lc4, hQ4, l4, y4, z4⟩, st4⟩ := Jvm.LawKit.callS X3 hx (y := (⟨s14_, "sub", "(III)I"⟩ : MethodName)) hown (mvT hZ (own_w hw 123 rfl)) (mvT hZ (own_w hw 124 rfl)) (mvT hZ (own_w hw 60 rfl)) (mvT hZ (own_w hw 125 rfl)) (by decide) (backOf (W := 0) (rm_sub0_0 l Z a0 hw [] h0 n0 O0) hZ (own_w hw 125 rfl) (own_w hw 60 rfl) (by decide) (by decide)) (g := (mkF m 17 #[.val (.ref d), .val (.int (0 : Int32)), .val (.ref a1), .val (.int (17 : Int32)), .val (.int (0 : Int32)), .unset, .unset, .unset] [(.int (17 : Int32)), (.int (0 : Int32)), (.int (0 : Int32))])) rfl (by rw [hml]; rfl) (argsL := [(.int (0 : Int32)), (.int (0 : Int32)), (.int (17 : Int32))]) (rest := []) (lenOf own_pd__28III_29I rfl) rfl (by show 2 * 0 + _ ≤ _; exact Nat.le_of_eq rfl) (hb hby D16_17) (fun _ _ => ⟨rfl, e3, (by decide : 0 + 0 ≤ _), (by decide : 0 + 0 ≤ _)⟩)
  dsimp only [Pt.U, Pt.locs, Pt.cells, Pt.slots] at X4 l4 y4 z4 st4 hQ4
  subst l4 y4 z4
  obtain ⟨rfl, M4, K4⟩ := hQ4
  have N4 := Fr.app N0 M4
  refine own_by st4 ?_
  refine own_by (fun _ k => XS.istore X4.here hx rfl (hb hby D16_20) rfl (l' := #[.val (.ref d), .val (.int (0 : Int32)), .val (.ref a1), .val (.int (17 : Int32)), .val (.int (0 : Int32)), .unset, .val (.int (0 : Int32)), .unset]) rfl k) ?_
  refine own_by (fun _ k => XS.aloadN X4.here hx rfl (hb hby D16_22) rfl rfl k) ?_
  obtain ⟨T5, X5, e5, st5⟩ := getF X4 hx hZ hown (host := "") (Or.inl (own_w hw 90 rfl)) Via.refl K4 Ft (g := (mkF m 23 #[.val (.ref d), .val (.int (0 : Int32)), .val (.ref a1), .val (.int (17 : Int32)), .val (.int (0 : Int32)), .unset, .val (.int (0 : Int32)), .unset] [(.ref d)])) rfl rfl (hb hby D16_23)
  refine own_by st5 ?_
  refine own_by (fun _ k => XS.dup X5.here hx rfl (hb hby D16_26) rfl rfl k) ?_
  refine own_by (fun _ k => XS.istore X5.here hx rfl (hb hby D16_27) rfl (l' := #[.val (.ref d), .val (.int (0 : Int32)), .val (.ref a1), .val (.int (17 : Int32)), .val (.int (0 : Int32)), .val (.int (2 : Int32)), .val (.int (0 : Int32)), .unset]) rfl k) ?_
  show own_Go p e below (T5.setTop (mkF m 29 #[.val (.ref d), .val (.int (0 : Int32)), .val (.ref a1), .val (.int (17 : Int32)), .val (.int (0 : Int32)), .val (.int (2 : Int32)), .val (.int (0 : Int32)), .unset] [(.int (2 : Int32))])) _
  refine own_by (fun _ k => XS.iloadN X5.here hx rfl (hb hby D16_29) rfl k) ?_
  refine own_by (fun _ k => XS.iloadN X5.here hx rfl (hb hby D16_30) rfl k) ?_
  obtain ⟨_, _, ⟨T6, L6, k6, n6⟩, -, X6, ⟨Lc6, hQ6, l6, y6, z6⟩, st6⟩ := Jvm.LawKit.callS X5 hx (y := (⟨s14_, "sub", "(III)I"⟩ : MethodName)) hown (mvT hZ (own_w hw 123 rfl)) (mvT hZ (own_w hw 124 rfl)) (mvT hZ (own_w hw 60 rfl)) (mvT hZ (own_w hw 125 rfl)) (by decide) (backOf (W := 0) (rm_sub2_0 l Z a0 hw [] h0 n0 O0) hZ (own_w hw 125 rfl) (own_w hw 60 rfl) (by decide) (by decide)) (g := (mkF m 31 #[.val (.ref d), .val (.int (0 : Int32)), .val (.ref a1), .val (.int (17 : Int32)), .val (.int (0 : Int32)), .val (.int (2 : Int32)), .val (.int (0 : Int32)), .unset] [(.int (17 : Int32)), (.int (0 : Int32)), (.int (2 : Int32))])) rfl (by rw [hml]; rfl) (argsL := [(.int (2 : Int32)), (.int (0 : Int32)), (.int (17 : Int32))]) (rest := []) (lenOf own_pd__28III_29I rfl) rfl (by show 2 * 0 + _ ≤ _; exact Nat.le_of_eq rfl) (hb hby D16_31) (fun _ _ => ⟨rfl, e5, (by decide : 0 + 0 ≤ _), (by decide : 0 + 0 ≤ _)⟩)
  dsimp only [Pt.U, Pt.locs, Pt.cells, Pt.slots] at X6 l6 y6 z6 st6 hQ6
  subst l6 y6 z6
  obtain ⟨rfl, M6, K6⟩ := hQ6
  have N6 := Fr.app N4 M6
  refine own_by st6 ?_
  refine own_by (fun _ k => XS.iconst X6.here hx rfl (hb hby D16_34) k) ?_
  refine own_by (fun _ k => XS.isub X6.here hx rfl (hb hby D16_35) rfl k) ?_
  refine own_by (fun _ k => XS.istore X6.here hx rfl (hb hby D16_36) rfl (l' := #[.val (.ref d), .val (.int (0 : Int32)), .val (.ref a1), .val (.int (17 : Int32)), .val (.int (0 : Int32)), .val (.int (2 : Int32)), .val (.int (0 : Int32)), .val (.int (1 : Int32))]) rfl k) ?_
  show own_Go p e below (T6.setTop (mkF m 38 #[.val (.ref d), .val (.int (0 : Int32)), .val (.ref a1), .val (.int (17 : Int32)), .val (.int (0 : Int32)), .val (.int (2 : Int32)), .val (.int (0 : Int32)), .val (.int (1 : Int32))] [])) _
  refine own_by (fun _ k => XS.iload X6.here hx rfl (hb hby D16_38) rfl k) ?_
  refine own_by (fun _ k => XS.iload X6.here hx rfl (hb hby D16_40) rfl k) ?_
  refine own_by (fun _ k => XS.icmpNo X6.here hx rfl (hb hby D16_42) rfl (tlt (by decide : (0 : Int32) < (1 : Int32))).2.1 k) ?_
  show own_Go p e below (T6.setTop (mkF m 45 #[.val (.ref d), .val (.int (0 : Int32)), .val (.ref a1), .val (.int (17 : Int32)), .val (.int (0 : Int32)), .val (.int (2 : Int32)), .val (.int (0 : Int32)), .val (.int (1 : Int32))] [])) _
  refine own_by (fun _ k => XS.iload X6.here hx rfl (hb hby D16_45) rfl k) ?_
  refine own_by (fun _ k => XS.iloadN X6.here hx rfl (hb hby D16_47) rfl k) ?_
  refine own_by (fun _ k => XS.icmpNo X6.here hx rfl (hb hby D16_48) rfl (flt (by decide : ¬ ((0 : Int32) < (0 : Int32)))).2.2.1 k) ?_
  show own_Go p e below (T6.setTop (mkF m 51 #[.val (.ref d), .val (.int (0 : Int32)), .val (.ref a1), .val (.int (17 : Int32)), .val (.int (0 : Int32)), .val (.int (2 : Int32)), .val (.int (0 : Int32)), .val (.int (1 : Int32))] [])) _
  refine own_by (fun _ k => XS.aloadN X6.here hx rfl (hb hby D16_51) rfl rfl k) ?_
  refine own_by (fun _ k => XS.iload X6.here hx rfl (hb hby D16_52) rfl k) ?_
  refine own_by (fun _ k => XS.aloadN X6.here hx rfl (hb hby D16_54) rfl rfl k) ?_
  refine own_by (fun _ k => XS.iload X6.here hx rfl (hb hby D16_55) rfl k) ?_
  refine own_by (fun _ k => XS.iconst X6.here hx rfl (hb hby D16_57) k) ?_
  refine own_by (fun _ k => XS.iadd X6.here hx rfl (hb hby D16_58) rfl k) ?_
  show own_Go p e below (T6.setTop (mkF m 59 #[.val (.ref d), .val (.int (0 : Int32)), .val (.ref a1), .val (.int (17 : Int32)), .val (.int (0 : Int32)), .val (.int (2 : Int32)), .val (.int (0 : Int32)), .val (.int (1 : Int32))] [(.int (1 : Int32)), (.ref a1), (.int (0 : Int32)), (.ref a1)])) _
  refine own_by (fun _ k => XS.iload X6.here hx rfl (hb hby D16_59) rfl k) ?_
  obtain ⟨T7, h7, L7, X7, e7, N7, K7, Vr7, st7⟩ := cpA X6 hx hZ hown (own_w hw 129 rfl) (own_w hw 132 rfl) (own_w hw 130 rfl) (own_w hw 131 rfl) K6 Va Va (Or.inr ⟨rfl, rfl, trivial⟩) (sp := (0 : Int32)) (dp := (1 : Int32)) (nn := (0 : Int32)) (us := []) (by decide) (by decide) (by decide) (by decide) (by decide) rfl (Nat.le_of_ble_eq_true rfl) N6 (by omega) (g := (mkF m 61 #[.val (.ref d), .val (.int (0 : Int32)), .val (.ref a1), .val (.int (17 : Int32)), .val (.int (0 : Int32)), .val (.int (2 : Int32)), .val (.int (0 : Int32)), .val (.int (1 : Int32))] [(.int (0 : Int32)), (.int (1 : Int32)), (.ref a1), (.int (0 : Int32)), (.ref a1)])) rfl (by rw [hml]; rfl) rfl (hb hby D16_61) (by decide) (W := 0) (by show 2 * 0 + _ ≤ _; exact Nat.le_of_eq rfl) (by decide)
  refine own_by st7 ?_
  have z7 := K7.1
  have Vw7 : Arv Z h7 a1 kk1 (.object s3_) (17 : Int32) [(.ref w1), (.ref w2)] .null := Vr7
  refine own_by (fun _ k => XS.goto X7.here hx rfl (pc0 := 64) (pc' := 100) rfl (hb hby D16_64) (by decide) (by decide) k) ?_
  refine own_by (fun _ k => XS.aloadN X7.here hx rfl (hb hby D16_100) rfl rfl k) ?_
  refine own_by (fun _ k => XS.iload X7.here hx rfl (hb hby D16_101) rfl k) ?_
  refine own_by (fun _ k => XS.aconstNull X7.here hx rfl (hb hby D16_103) k) ?_
  show own_Go p e below (T7.setTop (mkF m 104 #[.val (.ref d), .val (.int (0 : Int32)), .val (.ref a1), .val (.int (17 : Int32)), .val (.int (0 : Int32)), .val (.int (2 : Int32)), .val (.int (0 : Int32)), .val (.int (1 : Int32))] [.null, (.int (0 : Int32)), (.ref a1)])) _
  obtain ⟨cl8, Ar8, q8, S8, M8, H8, G8⟩ := (id Vw7)
  have hin8 : ¬ ((0 : Int32) < 0 ∨ cl8.slots.size ≤ ((0 : Int32)).toNatClampNeg) := inb_of S8 ⟨by decide, by decide⟩
  obtain ⟨T8, h8, X8, e8, W8, st8⟩ := stR X7 hx hZ e7 Ar8 (j := (0 : Int32)) hin8 rfl (Or.inl rfl) (g := (mkF m 104 #[.val (.ref d), .val (.int (0 : Int32)), .val (.ref a1), .val (.int (17 : Int32)), .val (.int (0 : Int32)), .val (.int (2 : Int32)), .val (.int (0 : Int32)), .val (.int (1 : Int32))] [.null, (.int (0 : Int32)), (.ref a1)])) rfl rfl (hb hby D16_104)
  refine own_by st8 ?_
  have z8 := W8.size
  have N8 := Fr.snoc X8 N7 (by omega)
  have Vw8 : Arv Z h8 a1 kk1 (.object s3_) (17 : Int32) [.null, (.ref w2)] .null := Arv.set Ar8 q8 S8 M8 H8 G8 rfl W8 0 rfl (Nat.le_of_ble_eq_true rfl)
  refine own_by (fun _ k => XS.aloadN X8.here hx rfl (hb hby D16_105) rfl rfl k) ?_
  refine own_by (fun _ k => XS.iload X8.here hx rfl (hb hby D16_106) rfl k) ?_
  refine own_by (fun _ k => XS.iloadN X8.here hx rfl (hb hby D16_108) rfl k) ?_
  have O9 : Old Z n0 h8 := ((O0.keep K7 (allS (by omega) all0)).wr W8 (by omega))
  obtain ⟨_, _, ⟨T10, L10, k10, n10⟩, -, X10, ⟨Lc10, hQ10, l10, y10, z10⟩, st10⟩ := Jvm.LawKit.callS X8 hx (y := (⟨s14_, "inc", "(II)I"⟩ : MethodName)) hown (mvT hZ (own_w hw 95 rfl)) (mvT hZ (own_w hw 96 rfl)) (mvT hZ (own_w hw 60 rfl)) (mvT hZ (own_w hw 97 rfl)) (by decide) (backOf (W := 1) (rm_inc0 l Z a0 hw [] h8 n0 O9) hZ (own_w hw 97 rfl) (own_w hw 60 rfl) (by decide) (by decide)) (g := (mkF m 109 #[.val (.ref d), .val (.int (0 : Int32)), .val (.ref a1), .val (.int (17 : Int32)), .val (.int (0 : Int32)), .val (.int (2 : Int32)), .val (.int (0 : Int32)), .val (.int (1 : Int32))] [(.int (17 : Int32)), (.int (0 : Int32)), (.ref d)])) rfl (by rw [hml]; rfl) (argsL := [(.int (0 : Int32)), (.int (17 : Int32))]) (rest := [(.ref d)]) (lenOf own_pd__28II_29I rfl) rfl (by show 2 * 0 + _ ≤ _; exact Nat.le_of_eq rfl) (hb hby D16_109) (fun _ _ => ⟨rfl, e8, (by decide : 0 + 0 ≤ _), (by decide : 0 + 0 ≤ _)⟩)
  dsimp only [Pt.U, Pt.locs, Pt.cells, Pt.slots] at X10 l10 y10 z10 st10 hQ10
  subst l10 y10 z10
  obtain ⟨rfl, M10, K10⟩ := hQ10
  have N10 := Fr.app N8 M10
  refine own_by st10 ?_
  have fc11 : Fld Z h8 d s14_ "head" "I" (.int (0 : Int32)) := ((Fh.keep K7 (ninS (own_ne (by omega)) nin0)).other W8 (Or.inl (own_ne (by omega))))
  have fc12 : Exa Z h8 d s14_ := ((Ed.keep K7).wr W8)
  obtain ⟨T13, h13, X13, e13, W13, st13⟩ := putF X10 hx hZ hown (host := "") (Or.inl (own_w hw 93 rfl)) Via.refl K10 fc11 fc12 (Or.inl (own_w hw 94 rfl)) (own_w hw 59 rfl) (ty := .int) (by decide) rfl rfl (g := (mkF m 112 #[.val (.ref d), .val (.int (0 : Int32)), .val (.ref a1), .val (.int (17 : Int32)), .val (.int (0 : Int32)), .val (.int (2 : Int32)), .val (.int (0 : Int32)), .val (.int (1 : Int32))] [(.int (1 : Int32)), (.ref d)])) rfl rfl (hb hby D16_112)
  refine own_by st13 ?_
  have z13 := W13.size
  have N13 := Fr.snoc X13 N10 (by omega)
  have Fw13 : Fld Z h13 d s14_ "head" "I" (.int (1 : Int32)) := fc11.same W13
  show own_Go p e below (T13.setTop (mkF m 115 #[.val (.ref d), .val (.int (0 : Int32)), .val (.ref a1), .val (.int (17 : Int32)), .val (.int (0 : Int32)), .val (.int (2 : Int32)), .val (.int (0 : Int32)), .val (.int (1 : Int32))] [])) _
  refine own_by (fun _ k => XS.iconst X13.here hx rfl (hb hby D16_115) k) ?_
  have fc14 : Exa Z h13 d s14_ := (fc12.wr W13)
  have fc15 : Fld Z h13 d s14_ "elements" s16_ (.ref a1) := (((Fe.keep K7 (ninS (own_ne (by omega)) nin0)).other W8 (Or.inl (own_ne (by omega)))).other W13 (Or.inr (slot_ne (a0 := a0) (Or.inl (own_w hw 74 rfl)) (Or.inl (own_w hw 94 rfl)) (by decide) (t := (.array (.object s3_))) (by decide) (t' := .int) (by decide))))
  have fc16 : Fld Z h13 d s14_ "tail" "I" (.int (2 : Int32)) := (((Ft.keep K7 (ninS (own_ne (by omega)) nin0)).other W8 (Or.inl (own_ne (by omega)))).other W13 (Or.inr (slot_ne (a0 := a0) (Or.inl (own_w hw 91 rfl)) (Or.inl (own_w hw 94 rfl)) (by decide) (t := .int) (by decide) (t' := .int) (by decide))))
  have fc17 : Arv Z h13 a1 kk1 (.object s3_) (17 : Int32) [.null, (.ref w2)] .null := (Vw8.other W13 (own_ne (by omega)))
  have K18 : Keep h0 h13 [d, a1] := ((((Keep.refl h0 [d, a1]).trans K7 (allS (P := fun x => x ∈ [d, a1] ∨ h0.size ≤ x) (Or.inl (List.mem_of_getElem? (i := 1) rfl)) all0)).wr W8 (Or.inl (List.mem_of_getElem? (i := 1) rfl))).wr W13 (Or.inl (List.mem_of_getElem? (i := 0) rfl)))
  obtain ⟨fs, hr, hrun, hended, hW, hsame⟩ := X13.leave (v := some (.int (0 : Int32))) (fun h => by rw [Bd.returns] at h; cases h)
  refine ⟨_, _, retN X13 hx (t := .boolean) Bd.returns (by simp) (hb hby D16_116) hr, hrun, hended, _, _, rfl, ?_, ⟨_, rfl⟩, hW, hsame.mono (by decide) (by decide)⟩
  show Q_rm_del_0_2_w1_w2_0 Z d a1 kk1 w1 w2 h0 n0 _ T13.heap _
  rw [e13]
  exact ⟨rfl, N13, K18, fc14, fc15, Fw13, fc16, fc17⟩
def Q_rm_rfo_0_2_w1_w2_w1 (Z : State) (d : Addr) (a1 : Addr) (kk1 : ClassId) (w1 : Addr) (w2 : Addr) (h0 : Heap) (n0 : Nat) (v : Option Value) (h : Heap) (L : List Loc) : Prop := v = some (.int (1 : Int32)) ∧ Fr n0 L ∧ Keep h0 h [d, a1] ∧ Exa Z h d s14_ ∧ Fld Z h d s14_ "elements" s16_ (.ref a1) ∧ Fld Z h d s14_ "head" "I" (.int (1 : Int32)) ∧ Fld Z h d s14_ "tail" "I" (.int (2 : Int32)) ∧ Arv Z h a1 kk1 (.object s3_) (17 : Int32) [.null, (.ref w2)] .null
theorem ef_rm_rfo_0_2_w1_w2_w1 (m : MethodId) (d : Addr) (a1 : Addr) (kk1 : ClassId) (w1 : Addr) (w2 : Addr) : entryFrame m #[(.ref d), (.ref w1)] 6 = mkF m 0 #[.val (.ref d), .val (.ref w1), .unset, .unset, .unset, .unset] [] := by first | (simp [entryFrame, mkF, argsToLocals, Value.category]; done) | rfl
set_option maxRecDepth 65536 in
set_option maxHeartbeats 40000000 in
theorem rm_rfo_0_2_w1_w2_w1 (l : Launch) (Z : State) (a0 : Array Value) (hw : ∀ d ∈ tables_1, d.before a0 Z = true) (ws : List Jvm.Cond) (d : Addr) (a1 : Addr) (kk1 : ClassId) (w1 : Addr) (w2 : Addr) (h0 : Heap) (n0 : Nat) (O0 : Old Z n0 h0) (Ed : Exa Z h0 d s14_) (Fe : Fld Z h0 d s14_ "elements" s16_ (.ref a1)) (Fh : Fld Z h0 d s14_ "head" "I" (.int (0 : Int32))) (Ft : Fld Z h0 d s14_ "tail" "I" (.int (2 : Int32))) (Va : Arv Z h0 a1 kk1 (.object s3_) (17 : Int32) [(.ref w1), (.ref w2)] .null) (Ew : Exa Z h0 w1 s5_) (gd : n0 ≤ d) (ga : n0 ≤ a1) (nda : ¬ (@Eq Nat d a1)) (n_w1_w2 : ¬ (w1 = w2)) :
    MetFree l (⟨s14_, s21_, s20_⟩ : MethodName) (head1 (Jvm.Cond.code (⟨s14_, s21_, s20_⟩ : MethodName) jdk_21_method_26_code 6 (some .boolean) :: ws) ({ frames := 2, cells := 0, slots := 0, locals := 37 } : Room)) (fun a U => a = #[(.ref d), (.ref w1)] ∧ Z.Warmed39 U.vm ∧ U.heap = h0) (fun _ _ _ _ _ => True) (fun _ U o U' => ∃ v L, o = .returned v ∧ Q_rm_rfo_0_2_w1_w2_w1 Z d a1 kk1 w1 w2 h0 n0 v U'.heap L ∧ FrameEnd U o U' L ({ frames := 2, cells := 0, slots := 0, locals := 37 } : Room).cells ({ frames := 2, cells := 0, slots := 0, locals := 37 } : Room).slots) := by
  refine MetFree.of_bodySF (plainFor_of_name own_pn_java_util_ArrayDeque) hisR ?_
  intro p e s m args below meth c s₁ Bd hml0 hP hK
  obtain ⟨rfl, hZ, hh⟩ := hP
  have hx := Bd.exec
  have hby := Bd.bytes
  have hml : c.maxLocals = 6 := hml0
  have hown : s.vm.findClass s14_ = some m.cls := findClass_of_methodNamed Bd.named
  have hnm := (name_of_methodNamed Bd.named Bd.method).1
  have X0 : Stand p l e ({ frames := 2, cells := 0, slots := 0, locals := 37 } : Room) s m #[(.ref d), (.ref w1)] below meth c s₁ [] 0 0 := Stand.of_body Bd
  have e0 : s₁.heap = h0 := by rw [← hh, Bd.state]; rfl
  have N0 := Fr.nil n0
  have Z0 : n0 ≤ h0.size := by rw [← O0.1]; exact O0.2.1
  show own_Go p e below (s₁.setTop (entryFrame m #[(.ref d), (.ref w1)] 6)) (fun t o => ∃ v L, o = .returned v ∧ Q_rm_rfo_0_2_w1_w2_w1 Z d a1 kk1 w1 w2 h0 n0 v t.heap L ∧ FrameEnd s o t L ({ frames := 2, cells := 0, slots := 0, locals := 37 } : Room).cells ({ frames := 2, cells := 0, slots := 0, locals := 37 } : Room).slots)
  rw [ef_rm_rfo_0_2_w1_w2_w1 m d a1 kk1 w1 w2]
  have lt_Ed : h0.size > d := Ed.lt
  have lt_Fe : h0.size > d := Fe.lt
  have lt_Fh : h0.size > d := Fh.lt
  have lt_Ft : h0.size > d := Ft.lt
  have lt_Va : h0.size > a1 := Va.lt
  have lt_Ew : h0.size > w1 := Ew.lt
  refine own_by (fun _ k => XS.aloadN X0.here hx rfl (hb hby D14_0) rfl rfl k) ?_
  refine own_by (fun _ k => XS.ifnullNo X0.here hx rfl (hb hby D14_1) rfl k) ?_
  refine own_by (fun _ k => XS.aloadN X0.here hx rfl (hb hby D14_4) rfl rfl k) ?_
  obtain ⟨T1, X1, e1, st1⟩ := getF X0 hx hZ hown (host := "") (Or.inl (own_w hw 73 rfl)) Via.refl e0 Fe (g := (mkF m 5 #[.val (.ref d), .val (.ref w1), .unset, .unset, .unset, .unset] [(.ref d)])) rfl rfl (hb hby D14_5)
  refine own_by st1 ?_
  refine own_by (fun _ k => XS.astoreN X1.here hx rfl (hb hby D14_8) rfl rfl (l' := #[.val (.ref d), .val (.ref w1), .val (.ref a1), .unset, .unset, .unset]) rfl k) ?_
  refine own_by (fun _ k => XS.aloadN X1.here hx rfl (hb hby D14_9) rfl rfl k) ?_
  show own_Go p e below (T1.setTop (mkF m 10 #[.val (.ref d), .val (.ref w1), .val (.ref a1), .unset, .unset, .unset] [(.ref d)])) _
  obtain ⟨T2, X2, e2, st2⟩ := getF X1 hx hZ hown (host := "") (Or.inl (own_w hw 93 rfl)) Via.refl e1 Fh (g := (mkF m 10 #[.val (.ref d), .val (.ref w1), .val (.ref a1), .unset, .unset, .unset] [(.ref d)])) rfl rfl (hb hby D14_10)
  refine own_by st2 ?_
  refine own_by (fun _ k => XS.istoreN X2.here hx rfl (hb hby D14_13) rfl (l' := #[.val (.ref d), .val (.ref w1), .val (.ref a1), .val (.int (0 : Int32)), .unset, .unset]) rfl k) ?_
  refine own_by (fun _ k => XS.aloadN X2.here hx rfl (hb hby D14_14) rfl rfl k) ?_
  obtain ⟨T3, X3, e3, st3⟩ := getF X2 hx hZ hown (host := "") (Or.inl (own_w hw 90 rfl)) Via.refl e2 Ft (g := (mkF m 15 #[.val (.ref d), .val (.ref w1), .val (.ref a1), .val (.int (0 : Int32)), .unset, .unset] [(.ref d)])) rfl rfl (hb hby D14_15)
  refine own_by st3 ?_
  refine own_by (fun _ k => XS.istore X3.here hx rfl (hb hby D14_18) rfl (l' := #[.val (.ref d), .val (.ref w1), .val (.ref a1), .val (.int (0 : Int32)), .val (.int (2 : Int32)), .unset]) rfl k) ?_
  refine own_by (fun _ k => XS.iloadN X3.here hx rfl (hb hby D14_20) rfl k) ?_
  show own_Go p e below (T3.setTop (mkF m 21 #[.val (.ref d), .val (.ref w1), .val (.ref a1), .val (.int (0 : Int32)), .val (.int (2 : Int32)), .unset] [(.int (0 : Int32))])) _
  refine own_by (fun _ k => XS.iload X3.here hx rfl (hb hby D14_21) rfl k) ?_
  refine own_by (fun _ k => XS.icmpNo X3.here hx rfl (hb hby D14_23) rfl (flt (by decide : ¬ ((2 : Int32) < (0 : Int32)))).2.2.1 k) ?_
  show own_Go p e below (T3.setTop (mkF m 26 #[.val (.ref d), .val (.ref w1), .val (.ref a1), .val (.int (0 : Int32)), .val (.int (2 : Int32)), .unset] [])) _
  refine own_by (fun _ k => XS.iload X3.here hx rfl (hb hby D14_26) rfl k) ?_
  refine own_by (fun _ k => XS.goto X3.here hx rfl (pc0 := 28) (pc' := 33) rfl (hb hby D14_28) (by decide) (by decide) k) ?_
  refine own_by (fun _ k => XS.istore X3.here hx rfl (hb hby D14_33) rfl (l' := #[.val (.ref d), .val (.ref w1), .val (.ref a1), .val (.int (0 : Int32)), .val (.int (2 : Int32)), .val (.int (2 : Int32))]) rfl k) ?_
  refine own_by (fun _ k => XS.iloadN X3.here hx rfl (hb hby D14_35) rfl k) ?_
  refine own_by (fun _ k => XS.iload X3.here hx rfl (hb hby D14_36) rfl k) ?_
  refine own_by (fun _ k => XS.icmpNo X3.here hx rfl (hb hby D14_38) rfl (tlt (by decide : (0 : Int32) < (2 : Int32))).2.1 k) ?_
  show own_Go p e below (T3.setTop (mkF m 41 #[.val (.ref d), .val (.ref w1), .val (.ref a1), .val (.int (0 : Int32)), .val (.int (2 : Int32)), .val (.int (2 : Int32))] [])) _
  refine own_by (fun _ k => XS.aloadN X3.here hx rfl (hb hby D14_41) rfl rfl k) ?_
  refine own_by (fun _ k => XS.aloadN X3.here hx rfl (hb hby D14_42) rfl rfl k) ?_
  refine own_by (fun _ k => XS.iloadN X3.here hx rfl (hb hby D14_43) rfl k) ?_
  obtain ⟨cl4, Ar4, q4, S4, M4, H4, G4⟩ := (id Va)
  have hin4 : ¬ ((0 : Int32) < 0 ∨ cl4.slots.size ≤ ((0 : Int32)).toNatClampNeg) := inb_of S4 ⟨by decide, by decide⟩
  refine own_by (X3.aaload hx (j := (0 : Int32)) (v := (.ref w1)) (by rw [e3]; exact Ar4.1) (State.isArrayOf_alike hZ.alike Ar4.2.1) rfl Ar4.2.2 hin4 (H4.at hin4 rfl) (g := (mkF m 44 #[.val (.ref d), .val (.ref w1), .val (.ref a1), .val (.int (0 : Int32)), .val (.int (2 : Int32)), .val (.int (2 : Int32))] [(.int (0 : Int32)), (.ref a1), (.ref w1)])) rfl rfl (hb hby D14_44)) ?_
  obtain ⟨cq5, kq5, q5a, q5b, q5c⟩ := isOf hZ e3 Ew
  obtain ⟨_, _, ⟨T5, L5, k5, n5⟩, -, X5, ⟨Lc5, hQ5, l5, y5, z5⟩, st5⟩ := X3.virtualBack hx (y := (⟨s3_, "equals", s20_⟩ : MethodName)) (z := (⟨s3_, "equals", s20_⟩ : MethodName)) hown (mvT hZ (own_w hw 113 rfl)) (mvT hZ (own_w hw 114 rfl)) (notFace_of_selects (args := #[]) (mvT hZ (own_w hw 116 rfl))) (mvT hZ (own_w hw 116 rfl)) (mvT hZ (own_w hw 115 rfl)) (by decide) (own_oeq (W := 0) (h0 := h0) (n0 := n0) hx w1 w1 hZ (own_w hw 117 rfl) (by decide) (by decide)) q5a q5c (g := (mkF m 45 #[.val (.ref d), .val (.ref w1), .val (.ref a1), .val (.int (0 : Int32)), .val (.int (2 : Int32)), .val (.int (2 : Int32))] [(.ref w1), (.ref w1)])) rfl (by rw [hml]; rfl) (Steps.refl _) (argsL := [(.ref w1)]) (rest := []) (lenOf own_pd__28Ljava_2flang_2fObject_3b_29Z rfl) rfl (by show 2 * 0 + _ ≤ _; exact Nat.le_of_eq rfl) (hb hby D14_45) (fun _ _ => ⟨rfl, e3, (by decide : 0 + 0 ≤ _), (by decide : 0 + 0 ≤ _)⟩)
  dsimp only [Pt.U, Pt.locs, Pt.cells, Pt.slots] at X5 l5 y5 z5 st5 hQ5
  subst l5 y5 z5
  obtain ⟨rfl, M5, K5⟩ := hQ5
  have N5 := Fr.app N0 M5
  refine own_by (fun _ k => st5.trans k) ?_
  refine own_by (fun _ k => XS.ifNo X5.here hx rfl (hb hby D14_48) rfl ((if0 _ _).trans (feq (own_oeq_same w1)).1) k) ?_
  show own_Go p e below (T5.setTop (mkF m 51 #[.val (.ref d), .val (.ref w1), .val (.ref a1), .val (.int (0 : Int32)), .val (.int (2 : Int32)), .val (.int (2 : Int32))] [])) _
  refine own_by (fun _ k => XS.aloadN X5.here hx rfl (hb hby D14_51) rfl rfl k) ?_
  refine own_by (fun _ k => XS.iloadN X5.here hx rfl (hb hby D14_52) rfl k) ?_
  obtain ⟨cq6, kq6, q6a, q6b, q6c⟩ := isOf hZ K5 Ed
  obtain ⟨_, _, ⟨T6, L6, k6, n6⟩, -, X6, ⟨Lc6, hQ6, l6, y6, z6⟩, st6⟩ := X5.virtualBack hx (y := (⟨s14_, "delete", "(I)Z"⟩ : MethodName)) (z := (⟨s14_, "delete", "(I)Z"⟩ : MethodName)) hown (mvT hZ (own_w hw 118 rfl)) (mvT hZ (own_w hw 119 rfl)) (notFace_of_selects (args := #[]) (mvT hZ (own_w hw 121 rfl))) (mvT hZ (own_w hw 121 rfl)) (mvT hZ (own_w hw 120 rfl)) (by decide) (backOf (W := 0) (rm_del_0_2_w1_w2_0 l Z a0 hw [] d a1 kk1 w1 w2 h0 n0 O0 Ed Fe Fh Ft Va gd ga nda) hZ (own_w hw 122 rfl) (own_w hw 60 rfl) (by decide) (by decide)) q6a q6c (g := (mkF m 53 #[.val (.ref d), .val (.ref w1), .val (.ref a1), .val (.int (0 : Int32)), .val (.int (2 : Int32)), .val (.int (2 : Int32))] [(.int (0 : Int32)), (.ref d)])) rfl (by rw [hml]; rfl) (Steps.refl _) (argsL := [(.int (0 : Int32))]) (rest := []) (lenOf own_pd__28I_29Z rfl) rfl (by show 2 * 0 + _ ≤ _; exact Nat.le_of_eq rfl) (hb hby D14_53) (fun _ _ => ⟨rfl, K5, (by decide : 0 + 0 ≤ _), (by decide : 0 + 0 ≤ _)⟩)
  dsimp only [Pt.U, Pt.locs, Pt.cells, Pt.slots] at X6 l6 y6 z6 st6 hQ6
  subst l6 y6 z6
  obtain ⟨rfl, M6, K6, g6_0, g6_1, g6_2, g6_3, g6_4⟩ := hQ6
  have N6 := Fr.app N5 M6
  refine own_by (fun _ k => st6.trans k) ?_
  have z6 := K6.1
  have lt_g6_0 : T6.heap.size > d := g6_0.lt
  have lt_g6_1 : T6.heap.size > d := g6_1.lt
  have lt_g6_2 : T6.heap.size > d := g6_2.lt
  have lt_g6_3 : T6.heap.size > d := g6_3.lt
  have lt_g6_4 : T6.heap.size > a1 := g6_4.lt
  refine own_by (fun _ k => XS.pop X6.here hx rfl (hb hby D14_56) rfl rfl k) ?_
  refine own_by (fun _ k => XS.iconst X6.here hx rfl (hb hby D14_57) k) ?_
  have K7 : Keep h0 T6.heap [d, a1] := ((Keep.refl h0 [d, a1]).trans K6 (allS (P := fun x => x ∈ [d, a1] ∨ h0.size ≤ x) (Or.inl (List.mem_of_getElem? (i := 0) rfl)) (allS (P := fun x => x ∈ [d, a1] ∨ h0.size ≤ x) (Or.inl (List.mem_of_getElem? (i := 1) rfl)) all0)))
  obtain ⟨fs, hr, hrun, hended, hW, hsame⟩ := X6.leave (v := some (.int (1 : Int32))) (fun h => by rw [Bd.returns] at h; cases h)
  refine ⟨_, _, retN X6 hx (t := .boolean) Bd.returns (by simp) (hb hby D14_58) hr, hrun, hended, _, _, rfl, ?_, ⟨_, rfl⟩, hW, hsame.mono (by decide) (by decide)⟩
  show Q_rm_rfo_0_2_w1_w2_w1 Z d a1 kk1 w1 w2 h0 n0 _ T6.heap _
  exact ⟨rfl, N6, K7, g6_0, g6_1, g6_2, g6_3, g6_4⟩
def Q_rm_rem_0_2_w1_w2_w1 (Z : State) (d : Addr) (a1 : Addr) (kk1 : ClassId) (w1 : Addr) (w2 : Addr) (h0 : Heap) (n0 : Nat) (v : Option Value) (h : Heap) (L : List Loc) : Prop := v = some (.int (1 : Int32)) ∧ Fr n0 L ∧ Keep h0 h [d, a1] ∧ Exa Z h d s14_ ∧ Fld Z h d s14_ "elements" s16_ (.ref a1) ∧ Fld Z h d s14_ "head" "I" (.int (1 : Int32)) ∧ Fld Z h d s14_ "tail" "I" (.int (2 : Int32)) ∧ Arv Z h a1 kk1 (.object s3_) (17 : Int32) [.null, (.ref w2)] .null
theorem ef_rm_rem_0_2_w1_w2_w1 (m : MethodId) (d : Addr) (a1 : Addr) (kk1 : ClassId) (w1 : Addr) (w2 : Addr) : entryFrame m #[(.ref d), (.ref w1)] 2 = mkF m 0 #[.val (.ref d), .val (.ref w1)] [] := by first | (simp [entryFrame, mkF, argsToLocals, Value.category]; done) | rfl
set_option maxRecDepth 65536 in
set_option maxHeartbeats 40000000 in
theorem rm_rem_0_2_w1_w2_w1 (l : Launch) (Z : State) (a0 : Array Value) (hw : ∀ d ∈ tables_1, d.before a0 Z = true) (ws : List Jvm.Cond) (d : Addr) (a1 : Addr) (kk1 : ClassId) (w1 : Addr) (w2 : Addr) (h0 : Heap) (n0 : Nat) (O0 : Old Z n0 h0) (Ed : Exa Z h0 d s14_) (Fe : Fld Z h0 d s14_ "elements" s16_ (.ref a1)) (Fh : Fld Z h0 d s14_ "head" "I" (.int (0 : Int32))) (Ft : Fld Z h0 d s14_ "tail" "I" (.int (2 : Int32))) (Va : Arv Z h0 a1 kk1 (.object s3_) (17 : Int32) [(.ref w1), (.ref w2)] .null) (Ew : Exa Z h0 w1 s5_) (gd : n0 ≤ d) (ga : n0 ≤ a1) (nda : ¬ (@Eq Nat d a1)) (n_w1_w2 : ¬ (w1 = w2)) :
    MetFree l (⟨s14_, "remove", s20_⟩ : MethodName) (head1 (Jvm.Cond.code (⟨s14_, "remove", s20_⟩ : MethodName) jdk_21_method_52_code 2 (some .boolean) :: ws) ({ frames := 3, cells := 0, slots := 0, locals := 54 } : Room)) (fun a U => a = #[(.ref d), (.ref w1)] ∧ Z.Warmed39 U.vm ∧ U.heap = h0) (fun _ _ _ _ _ => True) (fun _ U o U' => ∃ v L, o = .returned v ∧ Q_rm_rem_0_2_w1_w2_w1 Z d a1 kk1 w1 w2 h0 n0 v U'.heap L ∧ FrameEnd U o U' L ({ frames := 3, cells := 0, slots := 0, locals := 54 } : Room).cells ({ frames := 3, cells := 0, slots := 0, locals := 54 } : Room).slots) := by
  refine MetFree.of_bodySF (plainFor_of_name own_pn_java_util_ArrayDeque) hisR ?_
  intro p e s m args below meth c s₁ Bd hml0 hP hK
  obtain ⟨rfl, hZ, hh⟩ := hP
  have hx := Bd.exec
  have hby := Bd.bytes
  have hml : c.maxLocals = 2 := hml0
  have hown : s.vm.findClass s14_ = some m.cls := findClass_of_methodNamed Bd.named
  have hnm := (name_of_methodNamed Bd.named Bd.method).1
  have X0 : Stand p l e ({ frames := 3, cells := 0, slots := 0, locals := 54 } : Room) s m #[(.ref d), (.ref w1)] below meth c s₁ [] 0 0 := Stand.of_body Bd
  have e0 : s₁.heap = h0 := by rw [← hh, Bd.state]; rfl
  have N0 := Fr.nil n0
  have Z0 : n0 ≤ h0.size := by rw [← O0.1]; exact O0.2.1
  show own_Go p e below (s₁.setTop (entryFrame m #[(.ref d), (.ref w1)] 2)) (fun t o => ∃ v L, o = .returned v ∧ Q_rm_rem_0_2_w1_w2_w1 Z d a1 kk1 w1 w2 h0 n0 v t.heap L ∧ FrameEnd s o t L ({ frames := 3, cells := 0, slots := 0, locals := 54 } : Room).cells ({ frames := 3, cells := 0, slots := 0, locals := 54 } : Room).slots)
  rw [ef_rm_rem_0_2_w1_w2_w1 m d a1 kk1 w1 w2]
  have lt_Ed : h0.size > d := Ed.lt
  have lt_Fe : h0.size > d := Fe.lt
  have lt_Fh : h0.size > d := Fh.lt
  have lt_Ft : h0.size > d := Ft.lt
  have lt_Va : h0.size > a1 := Va.lt
  have lt_Ew : h0.size > w1 := Ew.lt
  refine own_by (fun _ k => XS.aloadN X0.here hx rfl (hb hby D13_0) rfl rfl k) ?_
  refine own_by (fun _ k => XS.aloadN X0.here hx rfl (hb hby D13_1) rfl rfl k) ?_
  obtain ⟨cq1, kq1, q1a, q1b, q1c⟩ := isOf hZ e0 Ed
  obtain ⟨_, _, ⟨T1, L1, k1, n1⟩, -, X1, ⟨Lc1, hQ1, l1, y1, z1⟩, st1⟩ := X0.virtualBack hx (y := (⟨s14_, s21_, s20_⟩ : MethodName)) (z := (⟨s14_, s21_, s20_⟩ : MethodName)) hown (mvT hZ (own_w hw 108 rfl)) (mvT hZ (own_w hw 109 rfl)) (notFace_of_selects (args := #[]) (mvT hZ (own_w hw 111 rfl))) (mvT hZ (own_w hw 111 rfl)) (mvT hZ (own_w hw 110 rfl)) (by decide) (backOf (W := 0) (rm_rfo_0_2_w1_w2_w1 l Z a0 hw [] d a1 kk1 w1 w2 h0 n0 O0 Ed Fe Fh Ft Va Ew gd ga nda n_w1_w2) hZ (own_w hw 112 rfl) (own_w hw 60 rfl) (by decide) (by decide)) q1a q1c (g := (mkF m 2 #[.val (.ref d), .val (.ref w1)] [(.ref w1), (.ref d)])) rfl (by rw [hml]; rfl) (Steps.refl _) (argsL := [(.ref w1)]) (rest := []) (lenOf own_pd__28Ljava_2flang_2fObject_3b_29Z rfl) rfl (by show 2 * 0 + _ ≤ _; exact Nat.le_of_eq rfl) (hb hby D13_2) (fun _ _ => ⟨rfl, e0, (by decide : 0 + 0 ≤ _), (by decide : 0 + 0 ≤ _)⟩)
  dsimp only [Pt.U, Pt.locs, Pt.cells, Pt.slots] at X1 l1 y1 z1 st1 hQ1
  subst l1 y1 z1
  obtain ⟨rfl, M1, K1, g1_0, g1_1, g1_2, g1_3, g1_4⟩ := hQ1
  have N1 := Fr.app N0 M1
  refine own_by (fun _ k => st1.trans k) ?_
  have z1 := K1.1
  have lt_g1_0 : T1.heap.size > d := g1_0.lt
  have lt_g1_1 : T1.heap.size > d := g1_1.lt
  have lt_g1_2 : T1.heap.size > d := g1_2.lt
  have lt_g1_3 : T1.heap.size > d := g1_3.lt
  have lt_g1_4 : T1.heap.size > a1 := g1_4.lt
  have K2 : Keep h0 T1.heap [d, a1] := ((Keep.refl h0 [d, a1]).trans K1 (allS (P := fun x => x ∈ [d, a1] ∨ h0.size ≤ x) (Or.inl (List.mem_of_getElem? (i := 0) rfl)) (allS (P := fun x => x ∈ [d, a1] ∨ h0.size ≤ x) (Or.inl (List.mem_of_getElem? (i := 1) rfl)) all0)))
  obtain ⟨fs, hr, hrun, hended, hW, hsame⟩ := X1.leave (v := some (.int (1 : Int32))) (fun h => by rw [Bd.returns] at h; cases h)
  refine ⟨_, _, retN X1 hx (t := .boolean) Bd.returns (by simp) (hb hby D13_5) hr, hrun, hended, _, _, rfl, ?_, ⟨_, rfl⟩, hW, hsame.mono (by decide) (by decide)⟩
  show Q_rm_rem_0_2_w1_w2_w1 Z d a1 kk1 w1 w2 h0 n0 _ T1.heap _
  exact ⟨rfl, N1, K2, g1_0, g1_1, g1_2, g1_3, g1_4⟩
theorem D19_15 : decode jdk_21_method_38_code 15 = .ok (.iconst 0, 1) := by decide +kernel
def Q_rm_emp1_2 (Z : State) (d : Addr) (h0 : Heap) (n0 : Nat) (v : Option Value) (h : Heap) (L : List Loc) : Prop := v = some (.int (0 : Int32)) ∧ Fr n0 L ∧ h = h0
theorem ef_rm_emp1_2 (m : MethodId) (d : Addr) : entryFrame m #[(.ref d)] 1 = mkF m 0 #[.val (.ref d)] [] := by first | (simp [entryFrame, mkF, argsToLocals, Value.category]; done) | rfl
set_option maxRecDepth 65536 in
set_option maxHeartbeats 40000000 in
theorem rm_emp1_2 (l : Launch) (Z : State) (a0 : Array Value) (hw : ∀ d ∈ tables_1, d.before a0 Z = true) (ws : List Jvm.Cond) (d : Addr) (h0 : Heap) (n0 : Nat) (O0 : Old Z n0 h0) (Fh : Fld Z h0 d s14_ "head" "I" (.int (1 : Int32))) (Ft : Fld Z h0 d s14_ "tail" "I" (.int (2 : Int32))) :
    MetFree l (⟨s14_, "isEmpty", "()Z"⟩ : MethodName) (head1 (Jvm.Cond.code (⟨s14_, "isEmpty", "()Z"⟩ : MethodName) jdk_21_method_38_code 1 (some .boolean) :: ws) ({ frames := 0, cells := 0, slots := 0, locals := 0 } : Room)) (fun a U => a = #[(.ref d)] ∧ Z.Warmed39 U.vm ∧ U.heap = h0) (fun _ _ _ _ _ => True) (fun _ U o U' => ∃ v L, o = .returned v ∧ Q_rm_emp1_2 Z d h0 n0 v U'.heap L ∧ FrameEnd U o U' L ({ frames := 0, cells := 0, slots := 0, locals := 0 } : Room).cells ({ frames := 0, cells := 0, slots := 0, locals := 0 } : Room).slots) := by
  refine MetFree.of_bodySF (plainFor_of_name own_pn_java_util_ArrayDeque) hisR ?_
  intro p e s m args below meth c s₁ Bd hml0 hP hK
  obtain ⟨rfl, hZ, hh⟩ := hP
  have hx := Bd.exec
  have hby := Bd.bytes
  have hml : c.maxLocals = 1 := hml0
  have hown : s.vm.findClass s14_ = some m.cls := findClass_of_methodNamed Bd.named
  have hnm := (name_of_methodNamed Bd.named Bd.method).1
  have X0 : Stand p l e ({ frames := 0, cells := 0, slots := 0, locals := 0 } : Room) s m #[(.ref d)] below meth c s₁ [] 0 0 := Stand.of_body Bd
  have e0 : s₁.heap = h0 := by rw [← hh, Bd.state]; rfl
  have N0 := Fr.nil n0
  have Z0 : n0 ≤ h0.size := by rw [← O0.1]; exact O0.2.1
  show own_Go p e below (s₁.setTop (entryFrame m #[(.ref d)] 1)) (fun t o => ∃ v L, o = .returned v ∧ Q_rm_emp1_2 Z d h0 n0 v t.heap L ∧ FrameEnd s o t L ({ frames := 0, cells := 0, slots := 0, locals := 0 } : Room).cells ({ frames := 0, cells := 0, slots := 0, locals := 0 } : Room).slots)
  rw [ef_rm_emp1_2 m d]
  have lt_Fh : h0.size > d := Fh.lt
  have lt_Ft : h0.size > d := Ft.lt
  refine own_by (fun _ k => XS.aloadN X0.here hx rfl (hb hby D19_0) rfl rfl k) ?_
  obtain ⟨T1, X1, e1, st1⟩ := getF X0 hx hZ hown (host := "") (Or.inl (own_w hw 93 rfl)) Via.refl e0 Fh (g := (mkF m 1 #[.val (.ref d)] [(.ref d)])) rfl rfl (hb hby D19_1)
  refine own_by st1 ?_
  refine own_by (fun _ k => XS.aloadN X1.here hx rfl (hb hby D19_4) rfl rfl k) ?_
  obtain ⟨T2, X2, e2, st2⟩ := getF X1 hx hZ hown (host := "") (Or.inl (own_w hw 90 rfl)) Via.refl e1 Ft (g := (mkF m 5 #[.val (.ref d)] [(.ref d), (.int (1 : Int32))])) rfl rfl (hb hby D19_5)
  refine own_by st2 ?_
  refine own_by (fun _ k => XS.icmpYes X2.here hx rfl (pc0 := 8) (pc' := 15) rfl (hb hby D19_8) rfl (feq (by decide : ¬ ((1 : Int32) = (2 : Int32)))).2 (by decide) (by decide) k) ?_
  show own_Go p e below (T2.setTop (mkF m 15 #[.val (.ref d)] [])) _
  refine own_by (fun _ k => XS.iconst X2.here hx rfl (hb hby D19_15) k) ?_
  obtain ⟨fs, hr, hrun, hended, hW, hsame⟩ := X2.leave (v := some (.int (0 : Int32))) (fun h => by rw [Bd.returns] at h; cases h)
  refine ⟨_, _, retN X2 hx (t := .boolean) Bd.returns (by simp) (hb hby D19_16) hr, hrun, hended, _, _, rfl, ?_, ⟨_, rfl⟩, hW, hsame.mono (by decide) (by decide)⟩
  show Q_rm_emp1_2 Z d h0 n0 _ T2.heap _
  rw [e2]
  exact ⟨rfl, N0, rfl⟩
def Q_rm_deq_0_0_0_2_w1_w2_w10 (Z : State) (en : Addr) (q : Addr) (d1 : Addr) (a1 : Addr) (kk1 : ClassId) (d2 : Addr) (a2 : Addr) (kk2 : ClassId) (w1 : Addr) (w2 : Addr) (h0 : Heap) (n0 : Nat) (v : Option Value) (h : Heap) (L : List Loc) : Prop := v = none ∧ Fr n0 L ∧ Keep h0 h [en, d2, a2] ∧ Fld Z h en s2_ "queues" s11_ (.ref q) ∧ Exa Z h q s13_ ∧ Fld Z h q s13_ "conversions" s17_ (.ref d1) ∧ Fld Z h q s13_ "requests" s17_ (.ref d2) ∧ Exa Z h d1 s14_ ∧ Fld Z h d1 s14_ "elements" s16_ (.ref a1) ∧ Fld Z h d1 s14_ "head" "I" (.int (0 : Int32)) ∧ Fld Z h d1 s14_ "tail" "I" (.int (0 : Int32)) ∧ Arv Z h a1 kk1 (.object s3_) (17 : Int32) [] .null ∧ Exa Z h d2 s14_ ∧ Fld Z h d2 s14_ "elements" s16_ (.ref a2) ∧ Fld Z h d2 s14_ "head" "I" (.int (1 : Int32)) ∧ Fld Z h d2 s14_ "tail" "I" (.int (2 : Int32)) ∧ Arv Z h a2 kk2 (.object s3_) (17 : Int32) [.null, (.ref w2)] .null
theorem ef_rm_deq_0_0_0_2_w1_w2_w10 (m : MethodId) (en : Addr) (q : Addr) (d1 : Addr) (a1 : Addr) (kk1 : ClassId) (d2 : Addr) (a2 : Addr) (kk2 : ClassId) (w1 : Addr) (w2 : Addr) : entryFrame m #[(.ref en), (.ref w1)] 2 = mkF m 0 #[.val (.ref en), .val (.ref w1)] [] := by first | (simp [entryFrame, mkF, argsToLocals, Value.category]; done) | rfl
set_option maxRecDepth 65536 in
set_option maxHeartbeats 40000000 in
theorem rm_deq_0_0_0_2_w1_w2_w10 (l : Launch) (Z : State) (a0 : Array Value) (hw : ∀ d ∈ tables_1, d.before a0 Z = true) (ws : List Jvm.Cond) (en : Addr) (q : Addr) (d1 : Addr) (a1 : Addr) (kk1 : ClassId) (d2 : Addr) (a2 : Addr) (kk2 : ClassId) (w1 : Addr) (w2 : Addr) (h0 : Heap) (n0 : Nat) (O0 : Old Z n0 h0) (Fq : Fld Z h0 en s2_ "queues" s11_ (.ref q)) (Ee : Exa Z h0 en s2_) (Ew : Exa Z h0 w1 s5_) (Fw : Fld Z h0 w1 s5_ "conversion" "Z" (.int (0 : Int32))) (G0 : Exa Z h0 q s13_) (G1 : Fld Z h0 q s13_ "conversions" s17_ (.ref d1)) (G2 : Fld Z h0 q s13_ "requests" s17_ (.ref d2)) (G3 : Exa Z h0 d1 s14_) (G4 : Fld Z h0 d1 s14_ "elements" s16_ (.ref a1)) (G5 : Fld Z h0 d1 s14_ "head" "I" (.int (0 : Int32))) (G6 : Fld Z h0 d1 s14_ "tail" "I" (.int (0 : Int32))) (G7 : Arv Z h0 a1 kk1 (.object s3_) (17 : Int32) [] .null) (G8 : Exa Z h0 d2 s14_) (G9 : Fld Z h0 d2 s14_ "elements" s16_ (.ref a2)) (G10 : Fld Z h0 d2 s14_ "head" "I" (.int (0 : Int32))) (G11 : Fld Z h0 d2 s14_ "tail" "I" (.int (2 : Int32))) (G12 : Arv Z h0 a2 kk2 (.object s3_) (17 : Int32) [(.ref w1), (.ref w2)] .null) (ge : n0 ≤ en) (nwe : ¬ (@Eq Nat w1 en)) (nea : ¬ (@Eq Nat en a2)) (ned : ¬ (@Eq Nat en d2)) (o0 : @LT.lt Nat _ q d1) (o1 : @LT.lt Nat _ d1 a1) (o2 : @LT.lt Nat _ a1 d2) (o3 : @LT.lt Nat _ d2 a2) (gq : n0 ≤ q) (ov1 : Ovr Z kk1 s3_) (ov2 : Ovr Z kk2 s3_) (n_w1_w2 : ¬ (w1 = w2)) :
    MetFree l (⟨s2_, "dequeue", s12_⟩ : MethodName) (head1 (Jvm.Cond.code (⟨s2_, "dequeue", s12_⟩ : MethodName) prog_11_method_11_code 2 none :: ws) ({ frames := 4, cells := 0, slots := 0, locals := 67 } : Room)) (fun a U => a = #[(.ref en), (.ref w1)] ∧ Z.Warmed39 U.vm ∧ U.heap = h0) (fun _ _ _ _ _ => True) (fun _ U o U' => ∃ v L, o = .returned v ∧ Q_rm_deq_0_0_0_2_w1_w2_w10 Z en q d1 a1 kk1 d2 a2 kk2 w1 w2 h0 n0 v U'.heap L ∧ FrameEnd U o U' L ({ frames := 4, cells := 0, slots := 0, locals := 67 } : Room).cells ({ frames := 4, cells := 0, slots := 0, locals := 67 } : Room).slots) := by
  refine MetFree.of_bodySF (plainFor_of_name own_pn_com_example_admit1_admit1_lock_LockEntry) hisR ?_
  intro p e s m args below meth c s₁ Bd hml0 hP hK
  obtain ⟨rfl, hZ, hh⟩ := hP
  have hx := Bd.exec
  have hby := Bd.bytes
  have hml : c.maxLocals = 2 := hml0
  have hown : s.vm.findClass s2_ = some m.cls := findClass_of_methodNamed Bd.named
  have hnm := (name_of_methodNamed Bd.named Bd.method).1
  have X0 : Stand p l e ({ frames := 4, cells := 0, slots := 0, locals := 67 } : Room) s m #[(.ref en), (.ref w1)] below meth c s₁ [] 0 0 := Stand.of_body Bd
  have e0 : s₁.heap = h0 := by rw [← hh, Bd.state]; rfl
  have N0 := Fr.nil n0
  have Z0 : n0 ≤ h0.size := by rw [← O0.1]; exact O0.2.1
  show own_Go p e below (s₁.setTop (entryFrame m #[(.ref en), (.ref w1)] 2)) (fun t o => ∃ v L, o = .returned v ∧ Q_rm_deq_0_0_0_2_w1_w2_w10 Z en q d1 a1 kk1 d2 a2 kk2 w1 w2 h0 n0 v t.heap L ∧ FrameEnd s o t L ({ frames := 4, cells := 0, slots := 0, locals := 67 } : Room).cells ({ frames := 4, cells := 0, slots := 0, locals := 67 } : Room).slots)
  rw [ef_rm_deq_0_0_0_2_w1_w2_w10 m en q d1 a1 kk1 d2 a2 kk2 w1 w2]
  have lt_Fq : h0.size > en := Fq.lt
  have lt_Ee : h0.size > en := Ee.lt
  have lt_Ew : h0.size > w1 := Ew.lt
  have lt_Fw : h0.size > w1 := Fw.lt
  have lt_G0 : h0.size > q := G0.lt
  have lt_G1 : h0.size > q := G1.lt
  have lt_G2 : h0.size > q := G2.lt
  have lt_G3 : h0.size > d1 := G3.lt
  have lt_G4 : h0.size > d1 := G4.lt
  have lt_G5 : h0.size > d1 := G5.lt
  have lt_G6 : h0.size > d1 := G6.lt
  have lt_G7 : h0.size > a1 := G7.lt
  have lt_G8 : h0.size > d2 := G8.lt
  have lt_G9 : h0.size > d2 := G9.lt
  have lt_G10 : h0.size > d2 := G10.lt
  have lt_G11 : h0.size > d2 := G11.lt
  have lt_G12 : h0.size > a2 := G12.lt
  refine own_by (fun _ k => XS.aloadN X0.here hx rfl (hb hby D12_0) rfl rfl k) ?_
  obtain ⟨T1, X1, e1, st1⟩ := getF X0 hx hZ hown (host := "") (Or.inl (own_w hw 44 rfl)) Via.refl e0 Fq (g := (mkF m 1 #[.val (.ref en), .val (.ref w1)] [(.ref en)])) rfl rfl (hb hby D12_1)
  refine own_by st1 ?_
  refine own_by (fun _ k => XS.aloadN X1.here hx rfl (hb hby D12_4) rfl rfl k) ?_
  obtain ⟨cq2, kq2, q2a, q2b, q2c⟩ := isOf hZ e1 G0
  obtain ⟨_, _, ⟨T2, L2, k2, n2⟩, -, X2, ⟨Lc2, hQ2, l2, y2, z2⟩, st2⟩ := X1.virtualBack hx (y := (⟨s13_, "of", s18_⟩ : MethodName)) (z := (⟨s13_, "of", s18_⟩ : MethodName)) hown (mvT hZ (own_w hw 79 rfl)) (mvT hZ (own_w hw 80 rfl)) (notFace_of_selects (args := #[]) (mvT hZ (own_w hw 82 rfl))) (mvT hZ (own_w hw 82 rfl)) (mvT hZ (own_w hw 81 rfl)) (by decide) (backOf (W := 0) (rm_of0 l Z a0 hw [] q w1 d1 d2 h0 n0 O0 Fw G1 G2) hZ (own_w hw 83 rfl) (own_w hw 53 rfl) (by decide) (by decide)) q2a q2c (g := (mkF m 5 #[.val (.ref en), .val (.ref w1)] [(.ref w1), (.ref q)])) rfl (by rw [hml]; rfl) (Steps.refl _) (argsL := [(.ref w1)]) (rest := []) (lenOf own_pd__28Lcom_2fexample_2fadmit1_2fadmit1_2flock_2fWait_3b_29Ljava_2futil_2fArrayDeque_3b rfl) rfl (by show 2 * 0 + _ ≤ _; exact Nat.le_of_eq rfl) (hb hby D12_5) (fun _ _ => ⟨rfl, e1, (by decide : 0 + 0 ≤ _), (by decide : 0 + 0 ≤ _)⟩)
  dsimp only [Pt.U, Pt.locs, Pt.cells, Pt.slots] at X2 l2 y2 z2 st2 hQ2
  subst l2 y2 z2
  obtain ⟨rfl, M2, K2⟩ := hQ2
  have N2 := Fr.app N0 M2
  refine own_by (fun _ k => st2.trans k) ?_
  refine own_by (fun _ k => XS.aloadN X2.here hx rfl (hb hby D12_8) rfl rfl k) ?_
  obtain ⟨cq3, kq3, q3a, q3b, q3c⟩ := isOf hZ K2 G8
  obtain ⟨_, _, ⟨T3, L3, k3, n3⟩, -, X3, ⟨Lc3, hQ3, l3, y3, z3⟩, st3⟩ := X2.virtualBack hx (y := (⟨s14_, "remove", s20_⟩ : MethodName)) (z := (⟨s14_, "remove", s20_⟩ : MethodName)) hown (mvT hZ (own_w hw 103 rfl)) (mvT hZ (own_w hw 104 rfl)) (notFace_of_selects (args := #[]) (mvT hZ (own_w hw 106 rfl))) (mvT hZ (own_w hw 106 rfl)) (mvT hZ (own_w hw 105 rfl)) (by decide) (backOf (W := 0) (rm_rem_0_2_w1_w2_w1 l Z a0 hw [] d2 a2 kk2 w1 w2 h0 n0 O0 G8 G9 G10 G11 G12 Ew (by first | assumption | omega | decide) (by first | assumption | omega | decide) (by first | assumption | omega | decide) n_w1_w2) hZ (own_w hw 107 rfl) (own_w hw 60 rfl) (by decide) (by decide)) q3a q3c (g := (mkF m 9 #[.val (.ref en), .val (.ref w1)] [(.ref w1), (.ref d2)])) rfl (by rw [hml]; rfl) (Steps.refl _) (argsL := [(.ref w1)]) (rest := []) (lenOf own_pd__28Ljava_2flang_2fObject_3b_29Z rfl) rfl (by show 2 * 0 + _ ≤ _; exact Nat.le_of_eq rfl) (hb hby D12_9) (fun _ _ => ⟨rfl, K2, (by decide : 0 + 0 ≤ _), (by decide : 0 + 0 ≤ _)⟩)
  dsimp only [Pt.U, Pt.locs, Pt.cells, Pt.slots] at X3 l3 y3 z3 st3 hQ3
  subst l3 y3 z3
  obtain ⟨rfl, M3, K3, g3_0, g3_1, g3_2, g3_3, g3_4⟩ := hQ3
  have N3 := Fr.app N2 M3
  refine own_by (fun _ k => st3.trans k) ?_
  have z3 := K3.1
  have lt_g3_0 : T3.heap.size > d2 := g3_0.lt
  have lt_g3_1 : T3.heap.size > d2 := g3_1.lt
  have lt_g3_2 : T3.heap.size > d2 := g3_2.lt
  have lt_g3_3 : T3.heap.size > d2 := g3_3.lt
  have lt_g3_4 : T3.heap.size > a2 := g3_4.lt
  show own_Go p e below (T3.setTop (mkF m 12 #[.val (.ref en), .val (.ref w1)] [(.int (1 : Int32))])) _
  refine own_by (fun _ k => XS.pop X3.here hx rfl (hb hby D12_12) rfl rfl k) ?_
  refine own_by (fun _ k => XS.aloadN X3.here hx rfl (hb hby D12_13) rfl rfl k) ?_
  have fc4 : Fld Z T3.heap en s2_ "queues" s11_ (.ref q) := (Fq.keep K3 (ninS (own_ne (by omega)) (ninS (own_ne (by omega)) nin0)))
  obtain ⟨T5, X5, e5, st5⟩ := getF X3 hx hZ hown (host := "") (Or.inl (own_w hw 44 rfl)) Via.refl rfl fc4 (g := (mkF m 14 #[.val (.ref en), .val (.ref w1)] [(.ref en)])) rfl rfl (hb hby D12_14)
  refine own_by st5 ?_
  have fc6 : Fld Z T3.heap q s13_ "conversions" s17_ (.ref d1) := (G1.keep K3 (ninS (own_ne (by omega)) (ninS (own_ne (by omega)) nin0)))
  obtain ⟨T7, X7, e7, st7⟩ := getF X5 hx hZ hown (host := "") (Or.inl (own_w hw 133 rfl)) Via.refl e5 fc6 (g := (mkF m 17 #[.val (.ref en), .val (.ref w1)] [(.ref q)])) rfl rfl (hb hby D12_17)
  refine own_by st7 ?_
  have fc8 : Fld Z T3.heap d1 s14_ "head" "I" (.int (0 : Int32)) := (G5.keep K3 (ninS (own_ne (by omega)) (ninS (own_ne (by omega)) nin0)))
  have fc9 : Fld Z T3.heap d1 s14_ "tail" "I" (.int (0 : Int32)) := (G6.keep K3 (ninS (own_ne (by omega)) (ninS (own_ne (by omega)) nin0)))
  have O10 : Old Z n0 T3.heap := (O0.keep K3 (allS (by omega) (allS (by omega) all0)))
  have fc12 : Exa Z T3.heap d1 s14_ := (G3.keep K3)
  obtain ⟨cq11, kq11, q11a, q11b, q11c⟩ := isOf hZ e7 fc12
  obtain ⟨_, _, ⟨T11, L11, k11, n11⟩, -, X11, ⟨Lc11, hQ11, l11, y11, z11⟩, st11⟩ := X7.virtualBack hx (y := (⟨s14_, "isEmpty", "()Z"⟩ : MethodName)) (z := (⟨s14_, "isEmpty", "()Z"⟩ : MethodName)) hown (mvT hZ (own_w hw 134 rfl)) (mvT hZ (own_w hw 135 rfl)) (notFace_of_selects (args := #[]) (mvT hZ (own_w hw 137 rfl))) (mvT hZ (own_w hw 137 rfl)) (mvT hZ (own_w hw 136 rfl)) (by decide) (backOf (W := 0) (rm_emp0_0 l Z a0 hw [] d1 T3.heap n0 O10 fc8 fc9) hZ (own_w hw 138 rfl) (own_w hw 60 rfl) (by decide) (by decide)) q11a q11c (g := (mkF m 20 #[.val (.ref en), .val (.ref w1)] [(.ref d1)])) rfl (by rw [hml]; rfl) (Steps.refl _) (argsL := []) (rest := []) (lenOf own_pd__28_29Z rfl) rfl (by show 2 * 0 + _ ≤ _; exact Nat.le_of_eq rfl) (hb hby D12_20) (fun _ _ => ⟨rfl, e7, (by decide : 0 + 0 ≤ _), (by decide : 0 + 0 ≤ _)⟩)
  dsimp only [Pt.U, Pt.locs, Pt.cells, Pt.slots] at X11 l11 y11 z11 st11 hQ11
  subst l11 y11 z11
  obtain ⟨rfl, M11, K11⟩ := hQ11
  have N11 := Fr.app N3 M11
  refine own_by (fun _ k => st11.trans k) ?_
  refine own_by (fun _ k => XS.ifNo X11.here hx rfl (hb hby D12_23) rfl ((if0 _ _).trans (feq (by decide : ¬ ((1 : Int32) = (0 : Int32)))).1) k) ?_
  show own_Go p e below (T11.setTop (mkF m 26 #[.val (.ref en), .val (.ref w1)] [])) _
  refine own_by (fun _ k => XS.aloadN X11.here hx rfl (hb hby D12_26) rfl rfl k) ?_
  obtain ⟨T13, X13, e13, st13⟩ := getF X11 hx hZ hown (host := "") (Or.inl (own_w hw 44 rfl)) Via.refl K11 fc4 (g := (mkF m 27 #[.val (.ref en), .val (.ref w1)] [(.ref en)])) rfl rfl (hb hby D12_27)
  refine own_by st13 ?_
  have fc14 : Fld Z T3.heap q s13_ "requests" s17_ (.ref d2) := (G2.keep K3 (ninS (own_ne (by omega)) (ninS (own_ne (by omega)) nin0)))
  obtain ⟨T15, X15, e15, st15⟩ := getF X13 hx hZ hown (host := "") (Or.inl (own_w hw 139 rfl)) Via.refl e13 fc14 (g := (mkF m 30 #[.val (.ref en), .val (.ref w1)] [(.ref q)])) rfl rfl (hb hby D12_30)
  refine own_by st15 ?_
  obtain ⟨cq16, kq16, q16a, q16b, q16c⟩ := isOf hZ e15 g3_0
  obtain ⟨_, _, ⟨T16, L16, k16, n16⟩, -, X16, ⟨Lc16, hQ16, l16, y16, z16⟩, st16⟩ := X15.virtualBack hx (y := (⟨s14_, "isEmpty", "()Z"⟩ : MethodName)) (z := (⟨s14_, "isEmpty", "()Z"⟩ : MethodName)) hown (mvT hZ (own_w hw 134 rfl)) (mvT hZ (own_w hw 135 rfl)) (notFace_of_selects (args := #[]) (mvT hZ (own_w hw 137 rfl))) (mvT hZ (own_w hw 137 rfl)) (mvT hZ (own_w hw 136 rfl)) (by decide) (backOf (W := 0) (rm_emp1_2 l Z a0 hw [] d2 T3.heap n0 O10 g3_2 g3_3) hZ (own_w hw 138 rfl) (own_w hw 60 rfl) (by decide) (by decide)) q16a q16c (g := (mkF m 33 #[.val (.ref en), .val (.ref w1)] [(.ref d2)])) rfl (by rw [hml]; rfl) (Steps.refl _) (argsL := []) (rest := []) (lenOf own_pd__28_29Z rfl) rfl (by show 2 * 0 + _ ≤ _; exact Nat.le_of_eq rfl) (hb hby D12_33) (fun _ _ => ⟨rfl, e15, (by decide : 0 + 0 ≤ _), (by decide : 0 + 0 ≤ _)⟩)
  dsimp only [Pt.U, Pt.locs, Pt.cells, Pt.slots] at X16 l16 y16 z16 st16 hQ16
  subst l16 y16 z16
  obtain ⟨rfl, M16, K16⟩ := hQ16
  have N16 := Fr.app N11 M16
  refine own_by (fun _ k => st16.trans k) ?_
  refine own_by (fun _ k => XS.ifYes X16.here hx rfl (pc0 := 36) (pc' := 44) rfl (hb hby D12_36) rfl ((if0 _ _).trans (teq (by decide : (0 : Int32) = (0 : Int32))).1) (by decide) (by decide) k) ?_
  show own_Go p e below (T16.setTop (mkF m 44 #[.val (.ref en), .val (.ref w1)] [])) _
  have fc17 : Exa Z T3.heap q s13_ := (G0.keep K3)
  have fc18 : Fld Z T3.heap d1 s14_ "elements" s16_ (.ref a1) := (G4.keep K3 (ninS (own_ne (by omega)) (ninS (own_ne (by omega)) nin0)))
  have fc19 : Arv Z T3.heap a1 kk1 (.object s3_) (17 : Int32) [] .null := (G7.keep K3 (ninS (own_ne (by omega)) (ninS (own_ne (by omega)) nin0)))
  have K20 : Keep h0 T3.heap [en, d2, a2] := ((Keep.refl h0 [en, d2, a2]).trans K3 (allS (P := fun x => x ∈ [en, d2, a2] ∨ h0.size ≤ x) (Or.inl (List.mem_of_getElem? (i := 1) rfl)) (allS (P := fun x => x ∈ [en, d2, a2] ∨ h0.size ≤ x) (Or.inl (List.mem_of_getElem? (i := 2) rfl)) all0)))
  obtain ⟨fs, hr, hrun, hended, hW, hsame⟩ := X16.leave (v := none) (fun h => rfl)
  refine ⟨_, _, X16.returnOut hx Bd.returns (hb hby D12_44) hr, hrun, hended, _, _, rfl, ?_, ⟨_, rfl⟩, hW, hsame.mono (by decide) (by decide)⟩
  show Q_rm_deq_0_0_0_2_w1_w2_w10 Z en q d1 a1 kk1 d2 a2 kk2 w1 w2 h0 n0 _ T16.heap _
  rw [K16]
  exact ⟨rfl, N16, K20, fc4, fc17, fc6, fc14, fc12, fc18, fc8, fc9, fc19, g3_0, g3_1, g3_2, g3_3, g3_4⟩
def Q_rm_sub1_1 (Z : State) (h0 : Heap) (n0 : Nat) (v : Option Value) (h : Heap) (L : List Loc) : Prop := v = some (.int (0 : Int32)) ∧ Fr n0 L ∧ h = h0
theorem ef_rm_sub1_1 (m : MethodId) : entryFrame m #[(.int (1 : Int32)), (.int (1 : Int32)), (.int (17 : Int32))] 3 = mkF m 0 #[.val (.int (1 : Int32)), .val (.int (1 : Int32)), .val (.int (17 : Int32))] [] := by first | (simp [entryFrame, mkF, argsToLocals, Value.category]; done) | rfl
set_option maxRecDepth 65536 in
set_option maxHeartbeats 40000000 in
theorem rm_sub1_1 (l : Launch) (Z : State) (a0 : Array Value) (hw : ∀ d ∈ tables_1, d.before a0 Z = true) (ws : List Jvm.Cond) (h0 : Heap) (n0 : Nat) (O0 : Old Z n0 h0) :
    MetFree l (⟨s14_, "sub", "(III)I"⟩ : MethodName) (head1 (Jvm.Cond.code (⟨s14_, "sub", "(III)I"⟩ : MethodName) jdk_21_method_9_code 3 (some .int) :: ws) ({ frames := 0, cells := 0, slots := 0, locals := 0 } : Room)) (fun a U => a = #[(.int (1 : Int32)), (.int (1 : Int32)), (.int (17 : Int32))] ∧ Z.Warmed39 U.vm ∧ U.heap = h0) (fun _ _ _ _ _ => True) (fun _ U o U' => ∃ v L, o = .returned v ∧ Q_rm_sub1_1 Z h0 n0 v U'.heap L ∧ FrameEnd U o U' L ({ frames := 0, cells := 0, slots := 0, locals := 0 } : Room).cells ({ frames := 0, cells := 0, slots := 0, locals := 0 } : Room).slots) := by
  refine MetFree.of_bodySF (plainFor_of_name own_pn_java_util_ArrayDeque) hisR ?_
  intro p e s m args below meth c s₁ Bd hml0 hP hK
  obtain ⟨rfl, hZ, hh⟩ := hP
  have hx := Bd.exec
  have hby := Bd.bytes
  have hml : c.maxLocals = 3 := hml0
  have hown : s.vm.findClass s14_ = some m.cls := findClass_of_methodNamed Bd.named
  have hnm := (name_of_methodNamed Bd.named Bd.method).1
  have X0 : Stand p l e ({ frames := 0, cells := 0, slots := 0, locals := 0 } : Room) s m #[(.int (1 : Int32)), (.int (1 : Int32)), (.int (17 : Int32))] below meth c s₁ [] 0 0 := Stand.of_body Bd
  have e0 : s₁.heap = h0 := by rw [← hh, Bd.state]; rfl
  have N0 := Fr.nil n0
  have Z0 : n0 ≤ h0.size := by rw [← O0.1]; exact O0.2.1
  show own_Go p e below (s₁.setTop (entryFrame m #[(.int (1 : Int32)), (.int (1 : Int32)), (.int (17 : Int32))] 3)) (fun t o => ∃ v L, o = .returned v ∧ Q_rm_sub1_1 Z h0 n0 v t.heap L ∧ FrameEnd s o t L ({ frames := 0, cells := 0, slots := 0, locals := 0 } : Room).cells ({ frames := 0, cells := 0, slots := 0, locals := 0 } : Room).slots)
  rw [ef_rm_sub1_1 m]
  refine own_by (fun _ k => XS.iloadN X0.here hx rfl (hb hby D17_0) rfl k) ?_
  refine own_by (fun _ k => XS.iloadN X0.here hx rfl (hb hby D17_1) rfl k) ?_
  refine own_by (fun _ k => XS.isub X0.here hx rfl (hb hby D17_2) rfl k) ?_
  refine own_by (fun _ k => XS.dup X0.here hx rfl (hb hby D17_3) rfl rfl k) ?_
  refine own_by (fun _ k => XS.istoreN X0.here hx rfl (hb hby D17_4) rfl (l' := #[.val (.int (0 : Int32)), .val (.int (1 : Int32)), .val (.int (17 : Int32))]) rfl k) ?_
  refine own_by (fun _ k => XS.ifYes X0.here hx rfl (pc0 := 5) (pc' := 12) rfl (hb hby D17_5) rfl ((if0 _ _).trans (flt (by decide : ¬ ((0 : Int32) < (0 : Int32)))).2.1) (by decide) (by decide) k) ?_
  show own_Go p e below (s₁.setTop (mkF m 12 #[.val (.int (0 : Int32)), .val (.int (1 : Int32)), .val (.int (17 : Int32))] [])) _
  refine own_by (fun _ k => XS.iloadN X0.here hx rfl (hb hby D17_12) rfl k) ?_
  obtain ⟨fs, hr, hrun, hended, hW, hsame⟩ := X0.leave (v := some (.int (0 : Int32))) (fun h => by rw [Bd.returns] at h; cases h)
  refine ⟨_, _, retI X0 hx Bd.returns (hb hby D17_13) hr, hrun, hended, _, _, rfl, ?_, ⟨_, rfl⟩, hW, hsame.mono (by decide) (by decide)⟩
  show Q_rm_sub1_1 Z h0 n0 _ s₁.heap _
  rw [e0]
  exact ⟨rfl, N0, rfl⟩
def Q_rm_sub2_1 (Z : State) (h0 : Heap) (n0 : Nat) (v : Option Value) (h : Heap) (L : List Loc) : Prop := v = some (.int (1 : Int32)) ∧ Fr n0 L ∧ h = h0
theorem ef_rm_sub2_1 (m : MethodId) : entryFrame m #[(.int (2 : Int32)), (.int (1 : Int32)), (.int (17 : Int32))] 3 = mkF m 0 #[.val (.int (2 : Int32)), .val (.int (1 : Int32)), .val (.int (17 : Int32))] [] := by first | (simp [entryFrame, mkF, argsToLocals, Value.category]; done) | rfl
set_option maxRecDepth 65536 in
set_option maxHeartbeats 40000000 in
theorem rm_sub2_1 (l : Launch) (Z : State) (a0 : Array Value) (hw : ∀ d ∈ tables_1, d.before a0 Z = true) (ws : List Jvm.Cond) (h0 : Heap) (n0 : Nat) (O0 : Old Z n0 h0) :
    MetFree l (⟨s14_, "sub", "(III)I"⟩ : MethodName) (head1 (Jvm.Cond.code (⟨s14_, "sub", "(III)I"⟩ : MethodName) jdk_21_method_9_code 3 (some .int) :: ws) ({ frames := 0, cells := 0, slots := 0, locals := 0 } : Room)) (fun a U => a = #[(.int (2 : Int32)), (.int (1 : Int32)), (.int (17 : Int32))] ∧ Z.Warmed39 U.vm ∧ U.heap = h0) (fun _ _ _ _ _ => True) (fun _ U o U' => ∃ v L, o = .returned v ∧ Q_rm_sub2_1 Z h0 n0 v U'.heap L ∧ FrameEnd U o U' L ({ frames := 0, cells := 0, slots := 0, locals := 0 } : Room).cells ({ frames := 0, cells := 0, slots := 0, locals := 0 } : Room).slots) := by
  refine MetFree.of_bodySF (plainFor_of_name own_pn_java_util_ArrayDeque) hisR ?_
  intro p e s m args below meth c s₁ Bd hml0 hP hK
  obtain ⟨rfl, hZ, hh⟩ := hP
  have hx := Bd.exec
  have hby := Bd.bytes
  have hml : c.maxLocals = 3 := hml0
  have hown : s.vm.findClass s14_ = some m.cls := findClass_of_methodNamed Bd.named
  have hnm := (name_of_methodNamed Bd.named Bd.method).1
  have X0 : Stand p l e ({ frames := 0, cells := 0, slots := 0, locals := 0 } : Room) s m #[(.int (2 : Int32)), (.int (1 : Int32)), (.int (17 : Int32))] below meth c s₁ [] 0 0 := Stand.of_body Bd
  have e0 : s₁.heap = h0 := by rw [← hh, Bd.state]; rfl
  have N0 := Fr.nil n0
  have Z0 : n0 ≤ h0.size := by rw [← O0.1]; exact O0.2.1
  show own_Go p e below (s₁.setTop (entryFrame m #[(.int (2 : Int32)), (.int (1 : Int32)), (.int (17 : Int32))] 3)) (fun t o => ∃ v L, o = .returned v ∧ Q_rm_sub2_1 Z h0 n0 v t.heap L ∧ FrameEnd s o t L ({ frames := 0, cells := 0, slots := 0, locals := 0 } : Room).cells ({ frames := 0, cells := 0, slots := 0, locals := 0 } : Room).slots)
  rw [ef_rm_sub2_1 m]
  refine own_by (fun _ k => XS.iloadN X0.here hx rfl (hb hby D17_0) rfl k) ?_
  refine own_by (fun _ k => XS.iloadN X0.here hx rfl (hb hby D17_1) rfl k) ?_
  refine own_by (fun _ k => XS.isub X0.here hx rfl (hb hby D17_2) rfl k) ?_
  refine own_by (fun _ k => XS.dup X0.here hx rfl (hb hby D17_3) rfl rfl k) ?_
  refine own_by (fun _ k => XS.istoreN X0.here hx rfl (hb hby D17_4) rfl (l' := #[.val (.int (1 : Int32)), .val (.int (1 : Int32)), .val (.int (17 : Int32))]) rfl k) ?_
  refine own_by (fun _ k => XS.ifYes X0.here hx rfl (pc0 := 5) (pc' := 12) rfl (hb hby D17_5) rfl ((if0 _ _).trans (flt (by decide : ¬ ((1 : Int32) < (0 : Int32)))).2.1) (by decide) (by decide) k) ?_
  show own_Go p e below (s₁.setTop (mkF m 12 #[.val (.int (1 : Int32)), .val (.int (1 : Int32)), .val (.int (17 : Int32))] [])) _
  refine own_by (fun _ k => XS.iloadN X0.here hx rfl (hb hby D17_12) rfl k) ?_
  obtain ⟨fs, hr, hrun, hended, hW, hsame⟩ := X0.leave (v := some (.int (1 : Int32))) (fun h => by rw [Bd.returns] at h; cases h)
  refine ⟨_, _, retI X0 hx Bd.returns (hb hby D17_13) hr, hrun, hended, _, _, rfl, ?_, ⟨_, rfl⟩, hW, hsame.mono (by decide) (by decide)⟩
  show Q_rm_sub2_1 Z h0 n0 _ s₁.heap _
  rw [e0]
  exact ⟨rfl, N0, rfl⟩
def Q_rm_del_1_2_None_w1_1 (Z : State) (d : Addr) (a1 : Addr) (kk1 : ClassId) (w1 : Addr) (h0 : Heap) (n0 : Nat) (v : Option Value) (h : Heap) (L : List Loc) : Prop := v = some (.int (1 : Int32)) ∧ Fr n0 L ∧ Keep h0 h [d, a1] ∧ Exa Z h d s14_ ∧ Fld Z h d s14_ "elements" s16_ (.ref a1) ∧ Fld Z h d s14_ "head" "I" (.int (1 : Int32)) ∧ Fld Z h d s14_ "tail" "I" (.int (1 : Int32)) ∧ Arv Z h a1 kk1 (.object s3_) (17 : Int32) [] .null
theorem ef_rm_del_1_2_None_w1_1 (m : MethodId) (d : Addr) (a1 : Addr) (kk1 : ClassId) (w1 : Addr) : entryFrame m #[(.ref d), (.int (1 : Int32))] 8 = mkF m 0 #[.val (.ref d), .val (.int (1 : Int32)), .unset, .unset, .unset, .unset, .unset, .unset] [] := by first | (simp [entryFrame, mkF, argsToLocals, Value.category]; done) | rfl
set_option maxRecDepth 65536 in
set_option maxHeartbeats 40000000 in
theorem rm_del_1_2_None_w1_1 (l : Launch) (Z : State) (a0 : Array Value) (hw : ∀ d ∈ tables_1, d.before a0 Z = true) (ws : List Jvm.Cond) (d : Addr) (a1 : Addr) (kk1 : ClassId) (w1 : Addr) (h0 : Heap) (n0 : Nat) (O0 : Old Z n0 h0) (Ed : Exa Z h0 d s14_) (Fe : Fld Z h0 d s14_ "elements" s16_ (.ref a1)) (Fh : Fld Z h0 d s14_ "head" "I" (.int (1 : Int32))) (Ft : Fld Z h0 d s14_ "tail" "I" (.int (2 : Int32))) (Va : Arv Z h0 a1 kk1 (.object s3_) (17 : Int32) [.null, (.ref w1)] .null) (gd : n0 ≤ d) (ga : n0 ≤ a1) (nda : ¬ (@Eq Nat d a1)) :
    MetFree l (⟨s14_, "delete", "(I)Z"⟩ : MethodName) (head1 (Jvm.Cond.code (⟨s14_, "delete", "(I)Z"⟩ : MethodName) jdk_21_method_36_code 8 (some .boolean) :: ws) ({ frames := 1, cells := 0, slots := 0, locals := 18 } : Room)) (fun a U => a = #[(.ref d), (.int (1 : Int32))] ∧ Z.Warmed39 U.vm ∧ U.heap = h0) (fun _ _ _ _ _ => True) (fun _ U o U' => ∃ v L, o = .returned v ∧ Q_rm_del_1_2_None_w1_1 Z d a1 kk1 w1 h0 n0 v U'.heap L ∧ FrameEnd U o U' L ({ frames := 1, cells := 0, slots := 0, locals := 18 } : Room).cells ({ frames := 1, cells := 0, slots := 0, locals := 18 } : Room).slots) := by
  refine MetFree.of_bodySF (plainFor_of_name own_pn_java_util_ArrayDeque) hisR ?_
  intro p e s m args below meth c s₁ Bd hml0 hP hK
  obtain ⟨rfl, hZ, hh⟩ := hP
  have hx := Bd.exec
  have hby := Bd.bytes
  have hml : c.maxLocals = 8 := hml0
  have hown : s.vm.findClass s14_ = some m.cls := findClass_of_methodNamed Bd.named
  have hnm := (name_of_methodNamed Bd.named Bd.method).1
  have X0 : Stand p l e ({ frames := 1, cells := 0, slots := 0, locals := 18 } : Room) s m #[(.ref d), (.int (1 : Int32))] below meth c s₁ [] 0 0 := Stand.of_body Bd
  have e0 : s₁.heap = h0 := by rw [← hh, Bd.state]; rfl
  have N0 := Fr.nil n0
  have Z0 : n0 ≤ h0.size := by rw [← O0.1]; exact O0.2.1
  show own_Go p e below (s₁.setTop (entryFrame m #[(.ref d), (.int (1 : Int32))] 8)) (fun t o => ∃ v L, o = .returned v ∧ Q_rm_del_1_2_None_w1_1 Z d a1 kk1 w1 h0 n0 v t.heap L ∧ FrameEnd s o t L ({ frames := 1, cells := 0, slots := 0, locals := 18 } : Room).cells ({ frames := 1, cells := 0, slots := 0, locals := 18 } : Room).slots)
  rw [ef_rm_del_1_2_None_w1_1 m d a1 kk1 w1]
  have lt_Ed : h0.size > d := Ed.lt
  have lt_Fe : h0.size > d := Fe.lt
  have lt_Fh : h0.size > d := Fh.lt
  have lt_Ft : h0.size > d := Ft.lt
  have lt_Va : h0.size > a1 := Va.lt
  refine own_by (fun _ k => XS.aloadN X0.here hx rfl (hb hby D16_0) rfl rfl k) ?_
  obtain ⟨T1, X1, e1, st1⟩ := getF X0 hx hZ hown (host := "") (Or.inl (own_w hw 73 rfl)) Via.refl e0 Fe (g := (mkF m 1 #[.val (.ref d), .val (.int (1 : Int32)), .unset, .unset, .unset, .unset, .unset, .unset] [(.ref d)])) rfl rfl (hb hby D16_1)
  refine own_by st1 ?_
  refine own_by (fun _ k => XS.astoreN X1.here hx rfl (hb hby D16_4) rfl rfl (l' := #[.val (.ref d), .val (.int (1 : Int32)), .val (.ref a1), .unset, .unset, .unset, .unset, .unset]) rfl k) ?_
  refine own_by (fun _ k => XS.aloadN X1.here hx rfl (hb hby D16_5) rfl rfl k) ?_
  obtain ⟨cl2, Ar2, q2, S2, M2, H2, G2⟩ := (id Va)
  refine own_by (X1.arraylength hx (by rw [e1]; exact Ar2.1) (State.isArrayOf_alike hZ.alike Ar2.2.1) (g := (mkF m 6 #[.val (.ref d), .val (.int (1 : Int32)), .val (.ref a1), .unset, .unset, .unset, .unset, .unset] [(.ref a1)])) rfl rfl (hb hby D16_6)) ?_
  rw [len_of S2 M2]
  refine own_by (fun _ k => XS.istoreN X1.here hx rfl (hb hby D16_7) rfl (l' := #[.val (.ref d), .val (.int (1 : Int32)), .val (.ref a1), .val (.int (17 : Int32)), .unset, .unset, .unset, .unset]) rfl k) ?_
  show own_Go p e below (T1.setTop (mkF m 8 #[.val (.ref d), .val (.int (1 : Int32)), .val (.ref a1), .val (.int (17 : Int32)), .unset, .unset, .unset, .unset] [])) _
  refine own_by (fun _ k => XS.iloadN X1.here hx rfl (hb hby D16_8) rfl k) ?_
  refine own_by (fun _ k => XS.aloadN X1.here hx rfl (hb hby D16_9) rfl rfl k) ?_
  obtain ⟨T3, X3, e3, st3⟩ := getF X1 hx hZ hown (host := "") (Or.inl (own_w hw 93 rfl)) Via.refl e1 Fh (g := (mkF m 10 #[.val (.ref d), .val (.int (1 : Int32)), .val (.ref a1), .val (.int (17 : Int32)), .unset, .unset, .unset, .unset] [(.ref d), (.int (1 : Int32))])) rfl rfl (hb hby D16_10)
  refine own_by st3 ?_
  refine own_by (fun _ k => XS.dup X3.here hx rfl (hb hby D16_13) rfl rfl k) ?_
  refine own_by (fun _ k => XS.istore X3.here hx rfl (hb hby D16_14) rfl (l' := #[.val (.ref d), .val (.int (1 : Int32)), .val (.ref a1), .val (.int (17 : Int32)), .val (.int (1 : Int32)), .unset, .unset, .unset]) rfl k) ?_
  refine own_by (fun _ k => XS.iloadN X3.here hx rfl (hb hby D16_16) rfl k) ?_
  show own_Go p e below (T3.setTop (mkF m 17 #[.val (.ref d), .val (.int (1 : Int32)), .val (.ref a1), .val (.int (17 : Int32)), .val (.int (1 : Int32)), .unset, .unset, .unset] [(.int (17 : Int32)), (.int (1 : Int32)), (.int (1 : Int32))])) _
  obtain ⟨_, _, ⟨T4, L4, k4, n4⟩, -, X4, ⟨Lc4, hQ4, l4, y4, z4⟩, st4⟩ := Jvm.LawKit.callS X3 hx (y := (⟨s14_, "sub", "(III)I"⟩ : MethodName)) hown (mvT hZ (own_w hw 123 rfl)) (mvT hZ (own_w hw 124 rfl)) (mvT hZ (own_w hw 60 rfl)) (mvT hZ (own_w hw 125 rfl)) (by decide) (backOf (W := 0) (rm_sub1_1 l Z a0 hw [] h0 n0 O0) hZ (own_w hw 125 rfl) (own_w hw 60 rfl) (by decide) (by decide)) (g := (mkF m 17 #[.val (.ref d), .val (.int (1 : Int32)), .val (.ref a1), .val (.int (17 : Int32)), .val (.int (1 : Int32)), .unset, .unset, .unset] [(.int (17 : Int32)), (.int (1 : Int32)), (.int (1 : Int32))])) rfl (by rw [hml]; rfl) (argsL := [(.int (1 : Int32)), (.int (1 : Int32)), (.int (17 : Int32))]) (rest := []) (lenOf own_pd__28III_29I rfl) rfl (by show 2 * 0 + _ ≤ _; exact Nat.le_of_eq rfl) (hb hby D16_17) (fun _ _ => ⟨rfl, e3, (by decide : 0 + 0 ≤ _), (by decide : 0 + 0 ≤ _)⟩)
  dsimp only [Pt.U, Pt.locs, Pt.cells, Pt.slots] at X4 l4 y4 z4 st4 hQ4
  subst l4 y4 z4
  obtain ⟨rfl, M4, K4⟩ := hQ4
  have N4 := Fr.app N0 M4
  refine own_by st4 ?_
  refine own_by (fun _ k => XS.istore X4.here hx rfl (hb hby D16_20) rfl (l' := #[.val (.ref d), .val (.int (1 : Int32)), .val (.ref a1), .val (.int (17 : Int32)), .val (.int (1 : Int32)), .unset, .val (.int (0 : Int32)), .unset]) rfl k) ?_
  refine own_by (fun _ k => XS.aloadN X4.here hx rfl (hb hby D16_22) rfl rfl k) ?_
  obtain ⟨T5, X5, e5, st5⟩ := getF X4 hx hZ hown (host := "") (Or.inl (own_w hw 90 rfl)) Via.refl K4 Ft (g := (mkF m 23 #[.val (.ref d), .val (.int (1 : Int32)), .val (.ref a1), .val (.int (17 : Int32)), .val (.int (1 : Int32)), .unset, .val (.int (0 : Int32)), .unset] [(.ref d)])) rfl rfl (hb hby D16_23)
  refine own_by st5 ?_
  refine own_by (fun _ k => XS.dup X5.here hx rfl (hb hby D16_26) rfl rfl k) ?_
  refine own_by (fun _ k => XS.istore X5.here hx rfl (hb hby D16_27) rfl (l' := #[.val (.ref d), .val (.int (1 : Int32)), .val (.ref a1), .val (.int (17 : Int32)), .val (.int (1 : Int32)), .val (.int (2 : Int32)), .val (.int (0 : Int32)), .unset]) rfl k) ?_
  show own_Go p e below (T5.setTop (mkF m 29 #[.val (.ref d), .val (.int (1 : Int32)), .val (.ref a1), .val (.int (17 : Int32)), .val (.int (1 : Int32)), .val (.int (2 : Int32)), .val (.int (0 : Int32)), .unset] [(.int (2 : Int32))])) _
  refine own_by (fun _ k => XS.iloadN X5.here hx rfl (hb hby D16_29) rfl k) ?_
  refine own_by (fun _ k => XS.iloadN X5.here hx rfl (hb hby D16_30) rfl k) ?_
  obtain ⟨_, _, ⟨T6, L6, k6, n6⟩, -, X6, ⟨Lc6, hQ6, l6, y6, z6⟩, st6⟩ := Jvm.LawKit.callS X5 hx (y := (⟨s14_, "sub", "(III)I"⟩ : MethodName)) hown (mvT hZ (own_w hw 123 rfl)) (mvT hZ (own_w hw 124 rfl)) (mvT hZ (own_w hw 60 rfl)) (mvT hZ (own_w hw 125 rfl)) (by decide) (backOf (W := 0) (rm_sub2_1 l Z a0 hw [] h0 n0 O0) hZ (own_w hw 125 rfl) (own_w hw 60 rfl) (by decide) (by decide)) (g := (mkF m 31 #[.val (.ref d), .val (.int (1 : Int32)), .val (.ref a1), .val (.int (17 : Int32)), .val (.int (1 : Int32)), .val (.int (2 : Int32)), .val (.int (0 : Int32)), .unset] [(.int (17 : Int32)), (.int (1 : Int32)), (.int (2 : Int32))])) rfl (by rw [hml]; rfl) (argsL := [(.int (2 : Int32)), (.int (1 : Int32)), (.int (17 : Int32))]) (rest := []) (lenOf own_pd__28III_29I rfl) rfl (by show 2 * 0 + _ ≤ _; exact Nat.le_of_eq rfl) (hb hby D16_31) (fun _ _ => ⟨rfl, e5, (by decide : 0 + 0 ≤ _), (by decide : 0 + 0 ≤ _)⟩)
  dsimp only [Pt.U, Pt.locs, Pt.cells, Pt.slots] at X6 l6 y6 z6 st6 hQ6
  subst l6 y6 z6
  obtain ⟨rfl, M6, K6⟩ := hQ6
  have N6 := Fr.app N4 M6
  refine own_by st6 ?_
  refine own_by (fun _ k => XS.iconst X6.here hx rfl (hb hby D16_34) k) ?_
  refine own_by (fun _ k => XS.isub X6.here hx rfl (hb hby D16_35) rfl k) ?_
  refine own_by (fun _ k => XS.istore X6.here hx rfl (hb hby D16_36) rfl (l' := #[.val (.ref d), .val (.int (1 : Int32)), .val (.ref a1), .val (.int (17 : Int32)), .val (.int (1 : Int32)), .val (.int (2 : Int32)), .val (.int (0 : Int32)), .val (.int (0 : Int32))]) rfl k) ?_
  show own_Go p e below (T6.setTop (mkF m 38 #[.val (.ref d), .val (.int (1 : Int32)), .val (.ref a1), .val (.int (17 : Int32)), .val (.int (1 : Int32)), .val (.int (2 : Int32)), .val (.int (0 : Int32)), .val (.int (0 : Int32))] [])) _
  refine own_by (fun _ k => XS.iload X6.here hx rfl (hb hby D16_38) rfl k) ?_
  refine own_by (fun _ k => XS.iload X6.here hx rfl (hb hby D16_40) rfl k) ?_
  refine own_by (fun _ k => XS.icmpYes X6.here hx rfl (pc0 := 42) (pc' := 117) rfl (hb hby D16_42) rfl (flt (by decide : ¬ ((0 : Int32) < (0 : Int32)))).2.1 (by decide) (by decide) k) ?_
  show own_Go p e below (T6.setTop (mkF m 117 #[.val (.ref d), .val (.int (1 : Int32)), .val (.ref a1), .val (.int (17 : Int32)), .val (.int (1 : Int32)), .val (.int (2 : Int32)), .val (.int (0 : Int32)), .val (.int (0 : Int32))] [])) _
  refine own_by (fun _ k => XS.aloadN X6.here hx rfl (hb hby D16_117) rfl rfl k) ?_
  refine own_by (fun _ k => XS.iload X6.here hx rfl (hb hby D16_118) rfl k) ?_
  refine own_by (fun _ k => XS.iloadN X6.here hx rfl (hb hby D16_120) rfl k) ?_
  obtain ⟨_, _, ⟨T7, L7, k7, n7⟩, -, X7, ⟨Lc7, hQ7, l7, y7, z7⟩, st7⟩ := Jvm.LawKit.callS X6 hx (y := (⟨s14_, "dec", "(II)I"⟩ : MethodName)) hown (mvT hZ (own_w hw 126 rfl)) (mvT hZ (own_w hw 127 rfl)) (mvT hZ (own_w hw 60 rfl)) (mvT hZ (own_w hw 128 rfl)) (by decide) (backOf (W := 1) (rm_dec2 l Z a0 hw [] h0 n0 O0) hZ (own_w hw 128 rfl) (own_w hw 60 rfl) (by decide) (by decide)) (g := (mkF m 121 #[.val (.ref d), .val (.int (1 : Int32)), .val (.ref a1), .val (.int (17 : Int32)), .val (.int (1 : Int32)), .val (.int (2 : Int32)), .val (.int (0 : Int32)), .val (.int (0 : Int32))] [(.int (17 : Int32)), (.int (2 : Int32)), (.ref d)])) rfl (by rw [hml]; rfl) (argsL := [(.int (2 : Int32)), (.int (17 : Int32))]) (rest := [(.ref d)]) (lenOf own_pd__28II_29I rfl) rfl (by show 2 * 0 + _ ≤ _; exact Nat.le_of_eq rfl) (hb hby D16_121) (fun _ _ => ⟨rfl, K6, (by decide : 0 + 0 ≤ _), (by decide : 0 + 0 ≤ _)⟩)
  dsimp only [Pt.U, Pt.locs, Pt.cells, Pt.slots] at X7 l7 y7 z7 st7 hQ7
  subst l7 y7 z7
  obtain ⟨rfl, M7, K7⟩ := hQ7
  have N7 := Fr.app N6 M7
  refine own_by st7 ?_
  obtain ⟨T8, h8, X8, e8, W8, st8⟩ := putF X7 hx hZ hown (host := "") (Or.inl (own_w hw 90 rfl)) Via.refl K7 Ft Ed (Or.inl (own_w hw 91 rfl)) (own_w hw 59 rfl) (ty := .int) (by decide) rfl rfl (g := (mkF m 124 #[.val (.ref d), .val (.int (1 : Int32)), .val (.ref a1), .val (.int (17 : Int32)), .val (.int (1 : Int32)), .val (.int (2 : Int32)), .val (.int (0 : Int32)), .val (.int (0 : Int32))] [(.int (1 : Int32)), (.ref d)])) rfl rfl (hb hby D16_124)
  refine own_by st8 ?_
  have z8 := W8.size
  have N8 := Fr.snoc X8 N7 (by omega)
  have Fw8 : Fld Z h8 d s14_ "tail" "I" (.int (1 : Int32)) := Ft.same W8
  refine own_by (fun _ k => XS.iloadN X8.here hx rfl (hb hby D16_127) rfl k) ?_
  show own_Go p e below (T8.setTop (mkF m 128 #[.val (.ref d), .val (.int (1 : Int32)), .val (.ref a1), .val (.int (17 : Int32)), .val (.int (1 : Int32)), .val (.int (2 : Int32)), .val (.int (0 : Int32)), .val (.int (0 : Int32))] [(.int (1 : Int32))])) _
  refine own_by (fun _ k => XS.aloadN X8.here hx rfl (hb hby D16_128) rfl rfl k) ?_
  obtain ⟨T9, X9, e9, st9⟩ := getF X8 hx hZ hown (host := "") (Or.inl (own_w hw 90 rfl)) Via.refl e8 Fw8 (g := (mkF m 129 #[.val (.ref d), .val (.int (1 : Int32)), .val (.ref a1), .val (.int (17 : Int32)), .val (.int (1 : Int32)), .val (.int (2 : Int32)), .val (.int (0 : Int32)), .val (.int (0 : Int32))] [(.ref d), (.int (1 : Int32))])) rfl rfl (hb hby D16_129)
  refine own_by st9 ?_
  refine own_by (fun _ k => XS.icmpNo X9.here hx rfl (hb hby D16_132) rfl (flt (by decide : ¬ ((1 : Int32) < (1 : Int32)))).2.2.1 k) ?_
  show own_Go p e below (T9.setTop (mkF m 135 #[.val (.ref d), .val (.int (1 : Int32)), .val (.ref a1), .val (.int (17 : Int32)), .val (.int (1 : Int32)), .val (.int (2 : Int32)), .val (.int (0 : Int32)), .val (.int (0 : Int32))] [])) _
  refine own_by (fun _ k => XS.aloadN X9.here hx rfl (hb hby D16_135) rfl rfl k) ?_
  refine own_by (fun _ k => XS.iloadN X9.here hx rfl (hb hby D16_136) rfl k) ?_
  refine own_by (fun _ k => XS.iconst X9.here hx rfl (hb hby D16_137) k) ?_
  refine own_by (fun _ k => XS.iadd X9.here hx rfl (hb hby D16_138) rfl k) ?_
  refine own_by (fun _ k => XS.aloadN X9.here hx rfl (hb hby D16_139) rfl rfl k) ?_
  refine own_by (fun _ k => XS.iloadN X9.here hx rfl (hb hby D16_140) rfl k) ?_
  show own_Go p e below (T9.setTop (mkF m 141 #[.val (.ref d), .val (.int (1 : Int32)), .val (.ref a1), .val (.int (17 : Int32)), .val (.int (1 : Int32)), .val (.int (2 : Int32)), .val (.int (0 : Int32)), .val (.int (0 : Int32))] [(.int (1 : Int32)), (.ref a1), (.int (2 : Int32)), (.ref a1)])) _
  refine own_by (fun _ k => XS.iload X9.here hx rfl (hb hby D16_141) rfl k) ?_
  have fc10 : Arv Z h8 a1 kk1 (.object s3_) (17 : Int32) [.null, (.ref w1)] .null := (Va.other W8 (own_ne (by omega)))
  obtain ⟨T11, h11, L11, X11, e11, N11, K11, Vr11, st11⟩ := cpA X9 hx hZ hown (own_w hw 129 rfl) (own_w hw 132 rfl) (own_w hw 130 rfl) (own_w hw 131 rfl) e9 fc10 fc10 (Or.inr ⟨rfl, rfl, trivial⟩) (sp := (2 : Int32)) (dp := (1 : Int32)) (nn := (0 : Int32)) (us := []) (by decide) (by decide) (by decide) (by decide) (by decide) rfl (Nat.le_of_ble_eq_true rfl) N8 (by omega) (g := (mkF m 143 #[.val (.ref d), .val (.int (1 : Int32)), .val (.ref a1), .val (.int (17 : Int32)), .val (.int (1 : Int32)), .val (.int (2 : Int32)), .val (.int (0 : Int32)), .val (.int (0 : Int32))] [(.int (0 : Int32)), (.int (1 : Int32)), (.ref a1), (.int (2 : Int32)), (.ref a1)])) rfl (by rw [hml]; rfl) rfl (hb hby D16_143) (by decide) (W := 0) (by show 2 * 0 + _ ≤ _; exact Nat.le_of_eq rfl) (by decide)
  refine own_by st11 ?_
  have z11 := K11.1
  have Vw11 : Arv Z h11 a1 kk1 (.object s3_) (17 : Int32) [.null, (.ref w1)] .null := Vr11
  refine own_by (fun _ k => XS.goto X11.here hx rfl (pc0 := 146) (pc' := 182) rfl (hb hby D16_146) (by decide) (by decide) k) ?_
  refine own_by (fun _ k => XS.aloadN X11.here hx rfl (hb hby D16_182) rfl rfl k) ?_
  refine own_by (fun _ k => XS.aloadN X11.here hx rfl (hb hby D16_183) rfl rfl k) ?_
  have fc12 : Fld Z h11 d s14_ "tail" "I" (.int (1 : Int32)) := (Fw8.keep K11 (ninS (own_ne (by omega)) nin0))
  obtain ⟨T13, X13, e13, st13⟩ := getF X11 hx hZ hown (host := "") (Or.inl (own_w hw 90 rfl)) Via.refl e11 fc12 (g := (mkF m 184 #[.val (.ref d), .val (.int (1 : Int32)), .val (.ref a1), .val (.int (17 : Int32)), .val (.int (1 : Int32)), .val (.int (2 : Int32)), .val (.int (0 : Int32)), .val (.int (0 : Int32))] [(.ref d), (.ref a1)])) rfl rfl (hb hby D16_184)
  refine own_by st13 ?_
  show own_Go p e below (T13.setTop (mkF m 187 #[.val (.ref d), .val (.int (1 : Int32)), .val (.ref a1), .val (.int (17 : Int32)), .val (.int (1 : Int32)), .val (.int (2 : Int32)), .val (.int (0 : Int32)), .val (.int (0 : Int32))] [(.int (1 : Int32)), (.ref a1)])) _
  refine own_by (fun _ k => XS.aconstNull X13.here hx rfl (hb hby D16_187) k) ?_
  obtain ⟨cl14, Ar14, q14, S14, M14, H14, G14⟩ := (id Vw11)
  have hin14 : ¬ ((1 : Int32) < 0 ∨ cl14.slots.size ≤ ((1 : Int32)).toNatClampNeg) := inb_of S14 ⟨by decide, by decide⟩
  obtain ⟨T14, h14, X14, e14, W14, st14⟩ := stR X13 hx hZ e13 Ar14 (j := (1 : Int32)) hin14 rfl (Or.inl rfl) (g := (mkF m 188 #[.val (.ref d), .val (.int (1 : Int32)), .val (.ref a1), .val (.int (17 : Int32)), .val (.int (1 : Int32)), .val (.int (2 : Int32)), .val (.int (0 : Int32)), .val (.int (0 : Int32))] [.null, (.int (1 : Int32)), (.ref a1)])) rfl rfl (hb hby D16_188)
  refine own_by st14 ?_
  have z14 := W14.size
  have N14 := Fr.snoc X14 N11 (by omega)
  have Vw14 : Arv Z h14 a1 kk1 (.object s3_) (17 : Int32) [.null, .null] .null := Arv.set Ar14 q14 S14 M14 H14 G14 rfl W14 1 rfl (Nat.le_of_ble_eq_true rfl)
  refine own_by (fun _ k => XS.iconst X14.here hx rfl (hb hby D16_189) k) ?_
  have fc15 : Exa Z h14 d s14_ := (((Ed.wr W8).keep K11).wr W14)
  have fc16 : Fld Z h14 d s14_ "elements" s16_ (.ref a1) := (((Fe.other W8 (Or.inr (slot_ne (a0 := a0) (Or.inl (own_w hw 74 rfl)) (Or.inl (own_w hw 91 rfl)) (by decide) (t := (.array (.object s3_))) (by decide) (t' := .int) (by decide)))).keep K11 (ninS (own_ne (by omega)) nin0)).other W14 (Or.inl (own_ne (by omega))))
  have fc17 : Fld Z h14 d s14_ "head" "I" (.int (1 : Int32)) := (((Fh.other W8 (Or.inr (slot_ne (a0 := a0) (Or.inl (own_w hw 94 rfl)) (Or.inl (own_w hw 91 rfl)) (by decide) (t := .int) (by decide) (t' := .int) (by decide)))).keep K11 (ninS (own_ne (by omega)) nin0)).other W14 (Or.inl (own_ne (by omega))))
  have fc18 : Fld Z h14 d s14_ "tail" "I" (.int (1 : Int32)) := (fc12.other W14 (Or.inl (own_ne (by omega))))
  have Vs19 : Arv Z h14 a1 kk1 (.object s3_) (17 : Int32) [] .null := Vw14.pad (fun i => (pad_rep [] .null 2 i).symm)
  have K20 : Keep h0 h14 [d, a1] := ((((Keep.refl h0 [d, a1]).wr W8 (Or.inl (List.mem_of_getElem? (i := 0) rfl))).trans K11 (allS (P := fun x => x ∈ [d, a1] ∨ h0.size ≤ x) (Or.inl (List.mem_of_getElem? (i := 1) rfl)) all0)).wr W14 (Or.inl (List.mem_of_getElem? (i := 1) rfl)))
  obtain ⟨fs, hr, hrun, hended, hW, hsame⟩ := X14.leave (v := some (.int (1 : Int32))) (fun h => by rw [Bd.returns] at h; cases h)
  refine ⟨_, _, retN X14 hx (t := .boolean) Bd.returns (by simp) (hb hby D16_190) hr, hrun, hended, _, _, rfl, ?_, ⟨_, rfl⟩, hW, hsame.mono (by decide) (by decide)⟩
  show Q_rm_del_1_2_None_w1_1 Z d a1 kk1 w1 h0 n0 _ T14.heap _
  rw [e14]
  exact ⟨rfl, N14, K20, fc15, fc16, fc17, fc18, Vs19⟩
def Q_rm_rfo_1_2_None_w1_w1 (Z : State) (d : Addr) (a1 : Addr) (kk1 : ClassId) (w1 : Addr) (h0 : Heap) (n0 : Nat) (v : Option Value) (h : Heap) (L : List Loc) : Prop := v = some (.int (1 : Int32)) ∧ Fr n0 L ∧ Keep h0 h [d, a1] ∧ Exa Z h d s14_ ∧ Fld Z h d s14_ "elements" s16_ (.ref a1) ∧ Fld Z h d s14_ "head" "I" (.int (1 : Int32)) ∧ Fld Z h d s14_ "tail" "I" (.int (1 : Int32)) ∧ Arv Z h a1 kk1 (.object s3_) (17 : Int32) [] .null
theorem ef_rm_rfo_1_2_None_w1_w1 (m : MethodId) (d : Addr) (a1 : Addr) (kk1 : ClassId) (w1 : Addr) : entryFrame m #[(.ref d), (.ref w1)] 6 = mkF m 0 #[.val (.ref d), .val (.ref w1), .unset, .unset, .unset, .unset] [] := by first | (simp [entryFrame, mkF, argsToLocals, Value.category]; done) | rfl
set_option maxRecDepth 65536 in
set_option maxHeartbeats 40000000 in
theorem rm_rfo_1_2_None_w1_w1 (l : Launch) (Z : State) (a0 : Array Value) (hw : ∀ d ∈ tables_1, d.before a0 Z = true) (ws : List Jvm.Cond) (d : Addr) (a1 : Addr) (kk1 : ClassId) (w1 : Addr) (h0 : Heap) (n0 : Nat) (O0 : Old Z n0 h0) (Ed : Exa Z h0 d s14_) (Fe : Fld Z h0 d s14_ "elements" s16_ (.ref a1)) (Fh : Fld Z h0 d s14_ "head" "I" (.int (1 : Int32))) (Ft : Fld Z h0 d s14_ "tail" "I" (.int (2 : Int32))) (Va : Arv Z h0 a1 kk1 (.object s3_) (17 : Int32) [.null, (.ref w1)] .null) (Ew : Exa Z h0 w1 s5_) (gd : n0 ≤ d) (ga : n0 ≤ a1) (nda : ¬ (@Eq Nat d a1)) :
    MetFree l (⟨s14_, s21_, s20_⟩ : MethodName) (head1 (Jvm.Cond.code (⟨s14_, s21_, s20_⟩ : MethodName) jdk_21_method_26_code 6 (some .boolean) :: ws) ({ frames := 2, cells := 0, slots := 0, locals := 37 } : Room)) (fun a U => a = #[(.ref d), (.ref w1)] ∧ Z.Warmed39 U.vm ∧ U.heap = h0) (fun _ _ _ _ _ => True) (fun _ U o U' => ∃ v L, o = .returned v ∧ Q_rm_rfo_1_2_None_w1_w1 Z d a1 kk1 w1 h0 n0 v U'.heap L ∧ FrameEnd U o U' L ({ frames := 2, cells := 0, slots := 0, locals := 37 } : Room).cells ({ frames := 2, cells := 0, slots := 0, locals := 37 } : Room).slots) := by
  refine MetFree.of_bodySF (plainFor_of_name own_pn_java_util_ArrayDeque) hisR ?_
  intro p e s m args below meth c s₁ Bd hml0 hP hK
  obtain ⟨rfl, hZ, hh⟩ := hP
  have hx := Bd.exec
  have hby := Bd.bytes
  have hml : c.maxLocals = 6 := hml0
  have hown : s.vm.findClass s14_ = some m.cls := findClass_of_methodNamed Bd.named
  have hnm := (name_of_methodNamed Bd.named Bd.method).1
  have X0 : Stand p l e ({ frames := 2, cells := 0, slots := 0, locals := 37 } : Room) s m #[(.ref d), (.ref w1)] below meth c s₁ [] 0 0 := Stand.of_body Bd
  have e0 : s₁.heap = h0 := by rw [← hh, Bd.state]; rfl
  have N0 := Fr.nil n0
  have Z0 : n0 ≤ h0.size := by rw [← O0.1]; exact O0.2.1
  show own_Go p e below (s₁.setTop (entryFrame m #[(.ref d), (.ref w1)] 6)) (fun t o => ∃ v L, o = .returned v ∧ Q_rm_rfo_1_2_None_w1_w1 Z d a1 kk1 w1 h0 n0 v t.heap L ∧ FrameEnd s o t L ({ frames := 2, cells := 0, slots := 0, locals := 37 } : Room).cells ({ frames := 2, cells := 0, slots := 0, locals := 37 } : Room).slots)
  rw [ef_rm_rfo_1_2_None_w1_w1 m d a1 kk1 w1]
  have lt_Ed : h0.size > d := Ed.lt
  have lt_Fe : h0.size > d := Fe.lt
  have lt_Fh : h0.size > d := Fh.lt
  have lt_Ft : h0.size > d := Ft.lt
  have lt_Va : h0.size > a1 := Va.lt
  have lt_Ew : h0.size > w1 := Ew.lt
  refine own_by (fun _ k => XS.aloadN X0.here hx rfl (hb hby D14_0) rfl rfl k) ?_
  refine own_by (fun _ k => XS.ifnullNo X0.here hx rfl (hb hby D14_1) rfl k) ?_
  refine own_by (fun _ k => XS.aloadN X0.here hx rfl (hb hby D14_4) rfl rfl k) ?_
  obtain ⟨T1, X1, e1, st1⟩ := getF X0 hx hZ hown (host := "") (Or.inl (own_w hw 73 rfl)) Via.refl e0 Fe (g := (mkF m 5 #[.val (.ref d), .val (.ref w1), .unset, .unset, .unset, .unset] [(.ref d)])) rfl rfl (hb hby D14_5)
  refine own_by st1 ?_
  refine own_by (fun _ k => XS.astoreN X1.here hx rfl (hb hby D14_8) rfl rfl (l' := #[.val (.ref d), .val (.ref w1), .val (.ref a1), .unset, .unset, .unset]) rfl k) ?_
  refine own_by (fun _ k => XS.aloadN X1.here hx rfl (hb hby D14_9) rfl rfl k) ?_
  show own_Go p e below (T1.setTop (mkF m 10 #[.val (.ref d), .val (.ref w1), .val (.ref a1), .unset, .unset, .unset] [(.ref d)])) _
  obtain ⟨T2, X2, e2, st2⟩ := getF X1 hx hZ hown (host := "") (Or.inl (own_w hw 93 rfl)) Via.refl e1 Fh (g := (mkF m 10 #[.val (.ref d), .val (.ref w1), .val (.ref a1), .unset, .unset, .unset] [(.ref d)])) rfl rfl (hb hby D14_10)
  refine own_by st2 ?_
  refine own_by (fun _ k => XS.istoreN X2.here hx rfl (hb hby D14_13) rfl (l' := #[.val (.ref d), .val (.ref w1), .val (.ref a1), .val (.int (1 : Int32)), .unset, .unset]) rfl k) ?_
  refine own_by (fun _ k => XS.aloadN X2.here hx rfl (hb hby D14_14) rfl rfl k) ?_
  obtain ⟨T3, X3, e3, st3⟩ := getF X2 hx hZ hown (host := "") (Or.inl (own_w hw 90 rfl)) Via.refl e2 Ft (g := (mkF m 15 #[.val (.ref d), .val (.ref w1), .val (.ref a1), .val (.int (1 : Int32)), .unset, .unset] [(.ref d)])) rfl rfl (hb hby D14_15)
  refine own_by st3 ?_
  refine own_by (fun _ k => XS.istore X3.here hx rfl (hb hby D14_18) rfl (l' := #[.val (.ref d), .val (.ref w1), .val (.ref a1), .val (.int (1 : Int32)), .val (.int (2 : Int32)), .unset]) rfl k) ?_
  refine own_by (fun _ k => XS.iloadN X3.here hx rfl (hb hby D14_20) rfl k) ?_
  show own_Go p e below (T3.setTop (mkF m 21 #[.val (.ref d), .val (.ref w1), .val (.ref a1), .val (.int (1 : Int32)), .val (.int (2 : Int32)), .unset] [(.int (1 : Int32))])) _
  refine own_by (fun _ k => XS.iload X3.here hx rfl (hb hby D14_21) rfl k) ?_
  refine own_by (fun _ k => XS.icmpNo X3.here hx rfl (hb hby D14_23) rfl (flt (by decide : ¬ ((2 : Int32) < (1 : Int32)))).2.2.1 k) ?_
  show own_Go p e below (T3.setTop (mkF m 26 #[.val (.ref d), .val (.ref w1), .val (.ref a1), .val (.int (1 : Int32)), .val (.int (2 : Int32)), .unset] [])) _
  refine own_by (fun _ k => XS.iload X3.here hx rfl (hb hby D14_26) rfl k) ?_
  refine own_by (fun _ k => XS.goto X3.here hx rfl (pc0 := 28) (pc' := 33) rfl (hb hby D14_28) (by decide) (by decide) k) ?_
  refine own_by (fun _ k => XS.istore X3.here hx rfl (hb hby D14_33) rfl (l' := #[.val (.ref d), .val (.ref w1), .val (.ref a1), .val (.int (1 : Int32)), .val (.int (2 : Int32)), .val (.int (2 : Int32))]) rfl k) ?_
  refine own_by (fun _ k => XS.iloadN X3.here hx rfl (hb hby D14_35) rfl k) ?_
  refine own_by (fun _ k => XS.iload X3.here hx rfl (hb hby D14_36) rfl k) ?_
  refine own_by (fun _ k => XS.icmpNo X3.here hx rfl (hb hby D14_38) rfl (tlt (by decide : (1 : Int32) < (2 : Int32))).2.1 k) ?_
  show own_Go p e below (T3.setTop (mkF m 41 #[.val (.ref d), .val (.ref w1), .val (.ref a1), .val (.int (1 : Int32)), .val (.int (2 : Int32)), .val (.int (2 : Int32))] [])) _
  refine own_by (fun _ k => XS.aloadN X3.here hx rfl (hb hby D14_41) rfl rfl k) ?_
  refine own_by (fun _ k => XS.aloadN X3.here hx rfl (hb hby D14_42) rfl rfl k) ?_
  refine own_by (fun _ k => XS.iloadN X3.here hx rfl (hb hby D14_43) rfl k) ?_
  obtain ⟨cl4, Ar4, q4, S4, M4, H4, G4⟩ := (id Va)
  have hin4 : ¬ ((1 : Int32) < 0 ∨ cl4.slots.size ≤ ((1 : Int32)).toNatClampNeg) := inb_of S4 ⟨by decide, by decide⟩
  refine own_by (X3.aaload hx (j := (1 : Int32)) (v := (.ref w1)) (by rw [e3]; exact Ar4.1) (State.isArrayOf_alike hZ.alike Ar4.2.1) rfl Ar4.2.2 hin4 (H4.at hin4 rfl) (g := (mkF m 44 #[.val (.ref d), .val (.ref w1), .val (.ref a1), .val (.int (1 : Int32)), .val (.int (2 : Int32)), .val (.int (2 : Int32))] [(.int (1 : Int32)), (.ref a1), (.ref w1)])) rfl rfl (hb hby D14_44)) ?_
  obtain ⟨cq5, kq5, q5a, q5b, q5c⟩ := isOf hZ e3 Ew
  obtain ⟨_, _, ⟨T5, L5, k5, n5⟩, -, X5, ⟨Lc5, hQ5, l5, y5, z5⟩, st5⟩ := X3.virtualBack hx (y := (⟨s3_, "equals", s20_⟩ : MethodName)) (z := (⟨s3_, "equals", s20_⟩ : MethodName)) hown (mvT hZ (own_w hw 113 rfl)) (mvT hZ (own_w hw 114 rfl)) (notFace_of_selects (args := #[]) (mvT hZ (own_w hw 116 rfl))) (mvT hZ (own_w hw 116 rfl)) (mvT hZ (own_w hw 115 rfl)) (by decide) (own_oeq (W := 0) (h0 := h0) (n0 := n0) hx w1 w1 hZ (own_w hw 117 rfl) (by decide) (by decide)) q5a q5c (g := (mkF m 45 #[.val (.ref d), .val (.ref w1), .val (.ref a1), .val (.int (1 : Int32)), .val (.int (2 : Int32)), .val (.int (2 : Int32))] [(.ref w1), (.ref w1)])) rfl (by rw [hml]; rfl) (Steps.refl _) (argsL := [(.ref w1)]) (rest := []) (lenOf own_pd__28Ljava_2flang_2fObject_3b_29Z rfl) rfl (by show 2 * 0 + _ ≤ _; exact Nat.le_of_eq rfl) (hb hby D14_45) (fun _ _ => ⟨rfl, e3, (by decide : 0 + 0 ≤ _), (by decide : 0 + 0 ≤ _)⟩)
  dsimp only [Pt.U, Pt.locs, Pt.cells, Pt.slots] at X5 l5 y5 z5 st5 hQ5
  subst l5 y5 z5
  obtain ⟨rfl, M5, K5⟩ := hQ5
  have N5 := Fr.app N0 M5
  refine own_by (fun _ k => st5.trans k) ?_
  refine own_by (fun _ k => XS.ifNo X5.here hx rfl (hb hby D14_48) rfl ((if0 _ _).trans (feq (own_oeq_same w1)).1) k) ?_
  show own_Go p e below (T5.setTop (mkF m 51 #[.val (.ref d), .val (.ref w1), .val (.ref a1), .val (.int (1 : Int32)), .val (.int (2 : Int32)), .val (.int (2 : Int32))] [])) _
  refine own_by (fun _ k => XS.aloadN X5.here hx rfl (hb hby D14_51) rfl rfl k) ?_
  refine own_by (fun _ k => XS.iloadN X5.here hx rfl (hb hby D14_52) rfl k) ?_
  obtain ⟨cq6, kq6, q6a, q6b, q6c⟩ := isOf hZ K5 Ed
  obtain ⟨_, _, ⟨T6, L6, k6, n6⟩, -, X6, ⟨Lc6, hQ6, l6, y6, z6⟩, st6⟩ := X5.virtualBack hx (y := (⟨s14_, "delete", "(I)Z"⟩ : MethodName)) (z := (⟨s14_, "delete", "(I)Z"⟩ : MethodName)) hown (mvT hZ (own_w hw 118 rfl)) (mvT hZ (own_w hw 119 rfl)) (notFace_of_selects (args := #[]) (mvT hZ (own_w hw 121 rfl))) (mvT hZ (own_w hw 121 rfl)) (mvT hZ (own_w hw 120 rfl)) (by decide) (backOf (W := 0) (rm_del_1_2_None_w1_1 l Z a0 hw [] d a1 kk1 w1 h0 n0 O0 Ed Fe Fh Ft Va gd ga nda) hZ (own_w hw 122 rfl) (own_w hw 60 rfl) (by decide) (by decide)) q6a q6c (g := (mkF m 53 #[.val (.ref d), .val (.ref w1), .val (.ref a1), .val (.int (1 : Int32)), .val (.int (2 : Int32)), .val (.int (2 : Int32))] [(.int (1 : Int32)), (.ref d)])) rfl (by rw [hml]; rfl) (Steps.refl _) (argsL := [(.int (1 : Int32))]) (rest := []) (lenOf own_pd__28I_29Z rfl) rfl (by show 2 * 0 + _ ≤ _; exact Nat.le_of_eq rfl) (hb hby D14_53) (fun _ _ => ⟨rfl, K5, (by decide : 0 + 0 ≤ _), (by decide : 0 + 0 ≤ _)⟩)
  dsimp only [Pt.U, Pt.locs, Pt.cells, Pt.slots] at X6 l6 y6 z6 st6 hQ6
  subst l6 y6 z6
  obtain ⟨rfl, M6, K6, g6_0, g6_1, g6_2, g6_3, g6_4⟩ := hQ6
  have N6 := Fr.app N5 M6
  refine own_by (fun _ k => st6.trans k) ?_
  have z6 := K6.1
  have lt_g6_0 : T6.heap.size > d := g6_0.lt
  have lt_g6_1 : T6.heap.size > d := g6_1.lt
  have lt_g6_2 : T6.heap.size > d := g6_2.lt
  have lt_g6_3 : T6.heap.size > d := g6_3.lt
  have lt_g6_4 : T6.heap.size > a1 := g6_4.lt
  refine own_by (fun _ k => XS.pop X6.here hx rfl (hb hby D14_56) rfl rfl k) ?_
  refine own_by (fun _ k => XS.iconst X6.here hx rfl (hb hby D14_57) k) ?_
  have K7 : Keep h0 T6.heap [d, a1] := ((Keep.refl h0 [d, a1]).trans K6 (allS (P := fun x => x ∈ [d, a1] ∨ h0.size ≤ x) (Or.inl (List.mem_of_getElem? (i := 0) rfl)) (allS (P := fun x => x ∈ [d, a1] ∨ h0.size ≤ x) (Or.inl (List.mem_of_getElem? (i := 1) rfl)) all0)))
  obtain ⟨fs, hr, hrun, hended, hW, hsame⟩ := X6.leave (v := some (.int (1 : Int32))) (fun h => by rw [Bd.returns] at h; cases h)
  refine ⟨_, _, retN X6 hx (t := .boolean) Bd.returns (by simp) (hb hby D14_58) hr, hrun, hended, _, _, rfl, ?_, ⟨_, rfl⟩, hW, hsame.mono (by decide) (by decide)⟩
  show Q_rm_rfo_1_2_None_w1_w1 Z d a1 kk1 w1 h0 n0 _ T6.heap _
  exact ⟨rfl, N6, K7, g6_0, g6_1, g6_2, g6_3, g6_4⟩
def Q_rm_rem_1_2_None_w1_w1 (Z : State) (d : Addr) (a1 : Addr) (kk1 : ClassId) (w1 : Addr) (h0 : Heap) (n0 : Nat) (v : Option Value) (h : Heap) (L : List Loc) : Prop := v = some (.int (1 : Int32)) ∧ Fr n0 L ∧ Keep h0 h [d, a1] ∧ Exa Z h d s14_ ∧ Fld Z h d s14_ "elements" s16_ (.ref a1) ∧ Fld Z h d s14_ "head" "I" (.int (1 : Int32)) ∧ Fld Z h d s14_ "tail" "I" (.int (1 : Int32)) ∧ Arv Z h a1 kk1 (.object s3_) (17 : Int32) [] .null
theorem ef_rm_rem_1_2_None_w1_w1 (m : MethodId) (d : Addr) (a1 : Addr) (kk1 : ClassId) (w1 : Addr) : entryFrame m #[(.ref d), (.ref w1)] 2 = mkF m 0 #[.val (.ref d), .val (.ref w1)] [] := by first | (simp [entryFrame, mkF, argsToLocals, Value.category]; done) | rfl
set_option maxRecDepth 65536 in
set_option maxHeartbeats 40000000 in
theorem rm_rem_1_2_None_w1_w1 (l : Launch) (Z : State) (a0 : Array Value) (hw : ∀ d ∈ tables_1, d.before a0 Z = true) (ws : List Jvm.Cond) (d : Addr) (a1 : Addr) (kk1 : ClassId) (w1 : Addr) (h0 : Heap) (n0 : Nat) (O0 : Old Z n0 h0) (Ed : Exa Z h0 d s14_) (Fe : Fld Z h0 d s14_ "elements" s16_ (.ref a1)) (Fh : Fld Z h0 d s14_ "head" "I" (.int (1 : Int32))) (Ft : Fld Z h0 d s14_ "tail" "I" (.int (2 : Int32))) (Va : Arv Z h0 a1 kk1 (.object s3_) (17 : Int32) [.null, (.ref w1)] .null) (Ew : Exa Z h0 w1 s5_) (gd : n0 ≤ d) (ga : n0 ≤ a1) (nda : ¬ (@Eq Nat d a1)) :
    MetFree l (⟨s14_, "remove", s20_⟩ : MethodName) (head1 (Jvm.Cond.code (⟨s14_, "remove", s20_⟩ : MethodName) jdk_21_method_52_code 2 (some .boolean) :: ws) ({ frames := 3, cells := 0, slots := 0, locals := 54 } : Room)) (fun a U => a = #[(.ref d), (.ref w1)] ∧ Z.Warmed39 U.vm ∧ U.heap = h0) (fun _ _ _ _ _ => True) (fun _ U o U' => ∃ v L, o = .returned v ∧ Q_rm_rem_1_2_None_w1_w1 Z d a1 kk1 w1 h0 n0 v U'.heap L ∧ FrameEnd U o U' L ({ frames := 3, cells := 0, slots := 0, locals := 54 } : Room).cells ({ frames := 3, cells := 0, slots := 0, locals := 54 } : Room).slots) := by
  refine MetFree.of_bodySF (plainFor_of_name own_pn_java_util_ArrayDeque) hisR ?_
  intro p e s m args below meth c s₁ Bd hml0 hP hK
  obtain ⟨rfl, hZ, hh⟩ := hP
  have hx := Bd.exec
  have hby := Bd.bytes
  have hml : c.maxLocals = 2 := hml0
  have hown : s.vm.findClass s14_ = some m.cls := findClass_of_methodNamed Bd.named
  have hnm := (name_of_methodNamed Bd.named Bd.method).1
  have X0 : Stand p l e ({ frames := 3, cells := 0, slots := 0, locals := 54 } : Room) s m #[(.ref d), (.ref w1)] below meth c s₁ [] 0 0 := Stand.of_body Bd
  have e0 : s₁.heap = h0 := by rw [← hh, Bd.state]; rfl
  have N0 := Fr.nil n0
  have Z0 : n0 ≤ h0.size := by rw [← O0.1]; exact O0.2.1
  show own_Go p e below (s₁.setTop (entryFrame m #[(.ref d), (.ref w1)] 2)) (fun t o => ∃ v L, o = .returned v ∧ Q_rm_rem_1_2_None_w1_w1 Z d a1 kk1 w1 h0 n0 v t.heap L ∧ FrameEnd s o t L ({ frames := 3, cells := 0, slots := 0, locals := 54 } : Room).cells ({ frames := 3, cells := 0, slots := 0, locals := 54 } : Room).slots)
  rw [ef_rm_rem_1_2_None_w1_w1 m d a1 kk1 w1]
  have lt_Ed : h0.size > d := Ed.lt
  have lt_Fe : h0.size > d := Fe.lt
  have lt_Fh : h0.size > d := Fh.lt
  have lt_Ft : h0.size > d := Ft.lt
  have lt_Va : h0.size > a1 := Va.lt
  have lt_Ew : h0.size > w1 := Ew.lt
  refine own_by (fun _ k => XS.aloadN X0.here hx rfl (hb hby D13_0) rfl rfl k) ?_
  refine own_by (fun _ k => XS.aloadN X0.here hx rfl (hb hby D13_1) rfl rfl k) ?_
  obtain ⟨cq1, kq1, q1a, q1b, q1c⟩ := isOf hZ e0 Ed
  obtain ⟨_, _, ⟨T1, L1, k1, n1⟩, -, X1, ⟨Lc1, hQ1, l1, y1, z1⟩, st1⟩ := X0.virtualBack hx (y := (⟨s14_, s21_, s20_⟩ : MethodName)) (z := (⟨s14_, s21_, s20_⟩ : MethodName)) hown (mvT hZ (own_w hw 108 rfl)) (mvT hZ (own_w hw 109 rfl)) (notFace_of_selects (args := #[]) (mvT hZ (own_w hw 111 rfl))) (mvT hZ (own_w hw 111 rfl)) (mvT hZ (own_w hw 110 rfl)) (by decide) (backOf (W := 0) (rm_rfo_1_2_None_w1_w1 l Z a0 hw [] d a1 kk1 w1 h0 n0 O0 Ed Fe Fh Ft Va Ew gd ga nda) hZ (own_w hw 112 rfl) (own_w hw 60 rfl) (by decide) (by decide)) q1a q1c (g := (mkF m 2 #[.val (.ref d), .val (.ref w1)] [(.ref w1), (.ref d)])) rfl (by rw [hml]; rfl) (Steps.refl _) (argsL := [(.ref w1)]) (rest := []) (lenOf own_pd__28Ljava_2flang_2fObject_3b_29Z rfl) rfl (by show 2 * 0 + _ ≤ _; exact Nat.le_of_eq rfl) (hb hby D13_2) (fun _ _ => ⟨rfl, e0, (by decide : 0 + 0 ≤ _), (by decide : 0 + 0 ≤ _)⟩)
  dsimp only [Pt.U, Pt.locs, Pt.cells, Pt.slots] at X1 l1 y1 z1 st1 hQ1
  subst l1 y1 z1
  obtain ⟨rfl, M1, K1, g1_0, g1_1, g1_2, g1_3, g1_4⟩ := hQ1
  have N1 := Fr.app N0 M1
  refine own_by (fun _ k => st1.trans k) ?_
  have z1 := K1.1
  have lt_g1_0 : T1.heap.size > d := g1_0.lt
  have lt_g1_1 : T1.heap.size > d := g1_1.lt
  have lt_g1_2 : T1.heap.size > d := g1_2.lt
  have lt_g1_3 : T1.heap.size > d := g1_3.lt
  have lt_g1_4 : T1.heap.size > a1 := g1_4.lt
  have K2 : Keep h0 T1.heap [d, a1] := ((Keep.refl h0 [d, a1]).trans K1 (allS (P := fun x => x ∈ [d, a1] ∨ h0.size ≤ x) (Or.inl (List.mem_of_getElem? (i := 0) rfl)) (allS (P := fun x => x ∈ [d, a1] ∨ h0.size ≤ x) (Or.inl (List.mem_of_getElem? (i := 1) rfl)) all0)))
  obtain ⟨fs, hr, hrun, hended, hW, hsame⟩ := X1.leave (v := some (.int (1 : Int32))) (fun h => by rw [Bd.returns] at h; cases h)
  refine ⟨_, _, retN X1 hx (t := .boolean) Bd.returns (by simp) (hb hby D13_5) hr, hrun, hended, _, _, rfl, ?_, ⟨_, rfl⟩, hW, hsame.mono (by decide) (by decide)⟩
  show Q_rm_rem_1_2_None_w1_w1 Z d a1 kk1 w1 h0 n0 _ T1.heap _
  exact ⟨rfl, N1, K2, g1_0, g1_1, g1_2, g1_3, g1_4⟩
def Q_rm_emp1_1 (Z : State) (d : Addr) (h0 : Heap) (n0 : Nat) (v : Option Value) (h : Heap) (L : List Loc) : Prop := v = some (.int (1 : Int32)) ∧ Fr n0 L ∧ h = h0
theorem ef_rm_emp1_1 (m : MethodId) (d : Addr) : entryFrame m #[(.ref d)] 1 = mkF m 0 #[.val (.ref d)] [] := by first | (simp [entryFrame, mkF, argsToLocals, Value.category]; done) | rfl
set_option maxRecDepth 65536 in
set_option maxHeartbeats 40000000 in
theorem rm_emp1_1 (l : Launch) (Z : State) (a0 : Array Value) (hw : ∀ d ∈ tables_1, d.before a0 Z = true) (ws : List Jvm.Cond) (d : Addr) (h0 : Heap) (n0 : Nat) (O0 : Old Z n0 h0) (Fh : Fld Z h0 d s14_ "head" "I" (.int (1 : Int32))) (Ft : Fld Z h0 d s14_ "tail" "I" (.int (1 : Int32))) :
    MetFree l (⟨s14_, "isEmpty", "()Z"⟩ : MethodName) (head1 (Jvm.Cond.code (⟨s14_, "isEmpty", "()Z"⟩ : MethodName) jdk_21_method_38_code 1 (some .boolean) :: ws) ({ frames := 0, cells := 0, slots := 0, locals := 0 } : Room)) (fun a U => a = #[(.ref d)] ∧ Z.Warmed39 U.vm ∧ U.heap = h0) (fun _ _ _ _ _ => True) (fun _ U o U' => ∃ v L, o = .returned v ∧ Q_rm_emp1_1 Z d h0 n0 v U'.heap L ∧ FrameEnd U o U' L ({ frames := 0, cells := 0, slots := 0, locals := 0 } : Room).cells ({ frames := 0, cells := 0, slots := 0, locals := 0 } : Room).slots) := by
  refine MetFree.of_bodySF (plainFor_of_name own_pn_java_util_ArrayDeque) hisR ?_
  intro p e s m args below meth c s₁ Bd hml0 hP hK
  obtain ⟨rfl, hZ, hh⟩ := hP
  have hx := Bd.exec
  have hby := Bd.bytes
  have hml : c.maxLocals = 1 := hml0
  have hown : s.vm.findClass s14_ = some m.cls := findClass_of_methodNamed Bd.named
  have hnm := (name_of_methodNamed Bd.named Bd.method).1
  have X0 : Stand p l e ({ frames := 0, cells := 0, slots := 0, locals := 0 } : Room) s m #[(.ref d)] below meth c s₁ [] 0 0 := Stand.of_body Bd
  have e0 : s₁.heap = h0 := by rw [← hh, Bd.state]; rfl
  have N0 := Fr.nil n0
  have Z0 : n0 ≤ h0.size := by rw [← O0.1]; exact O0.2.1
  show own_Go p e below (s₁.setTop (entryFrame m #[(.ref d)] 1)) (fun t o => ∃ v L, o = .returned v ∧ Q_rm_emp1_1 Z d h0 n0 v t.heap L ∧ FrameEnd s o t L ({ frames := 0, cells := 0, slots := 0, locals := 0 } : Room).cells ({ frames := 0, cells := 0, slots := 0, locals := 0 } : Room).slots)
  rw [ef_rm_emp1_1 m d]
  have lt_Fh : h0.size > d := Fh.lt
  have lt_Ft : h0.size > d := Ft.lt
  refine own_by (fun _ k => XS.aloadN X0.here hx rfl (hb hby D19_0) rfl rfl k) ?_
  obtain ⟨T1, X1, e1, st1⟩ := getF X0 hx hZ hown (host := "") (Or.inl (own_w hw 93 rfl)) Via.refl e0 Fh (g := (mkF m 1 #[.val (.ref d)] [(.ref d)])) rfl rfl (hb hby D19_1)
  refine own_by st1 ?_
  refine own_by (fun _ k => XS.aloadN X1.here hx rfl (hb hby D19_4) rfl rfl k) ?_
  obtain ⟨T2, X2, e2, st2⟩ := getF X1 hx hZ hown (host := "") (Or.inl (own_w hw 90 rfl)) Via.refl e1 Ft (g := (mkF m 5 #[.val (.ref d)] [(.ref d), (.int (1 : Int32))])) rfl rfl (hb hby D19_5)
  refine own_by st2 ?_
  refine own_by (fun _ k => XS.icmpNo X2.here hx rfl (hb hby D19_8) rfl (teq (by decide : (1 : Int32) = (1 : Int32))).2 k) ?_
  show own_Go p e below (T2.setTop (mkF m 11 #[.val (.ref d)] [])) _
  refine own_by (fun _ k => XS.iconst X2.here hx rfl (hb hby D19_11) k) ?_
  refine own_by (fun _ k => XS.goto X2.here hx rfl (pc0 := 12) (pc' := 16) rfl (hb hby D19_12) (by decide) (by decide) k) ?_
  obtain ⟨fs, hr, hrun, hended, hW, hsame⟩ := X2.leave (v := some (.int (1 : Int32))) (fun h => by rw [Bd.returns] at h; cases h)
  refine ⟨_, _, retN X2 hx (t := .boolean) Bd.returns (by simp) (hb hby D19_16) hr, hrun, hended, _, _, rfl, ?_, ⟨_, rfl⟩, hW, hsame.mono (by decide) (by decide)⟩
  show Q_rm_emp1_1 Z d h0 n0 _ T2.heap _
  rw [e2]
  exact ⟨rfl, N0, rfl⟩
def Q_rm_deq_0_0_1_2_None_w1_w10 (Z : State) (en : Addr) (q : Addr) (d1 : Addr) (a1 : Addr) (kk1 : ClassId) (d2 : Addr) (a2 : Addr) (kk2 : ClassId) (w1 : Addr) (h0 : Heap) (n0 : Nat) (v : Option Value) (h : Heap) (L : List Loc) : Prop := v = none ∧ Fr n0 L ∧ Keep h0 h [en, d2, a2] ∧ Fld Z h en s2_ "queues" s11_ .null
theorem ef_rm_deq_0_0_1_2_None_w1_w10 (m : MethodId) (en : Addr) (q : Addr) (d1 : Addr) (a1 : Addr) (kk1 : ClassId) (d2 : Addr) (a2 : Addr) (kk2 : ClassId) (w1 : Addr) : entryFrame m #[(.ref en), (.ref w1)] 2 = mkF m 0 #[.val (.ref en), .val (.ref w1)] [] := by first | (simp [entryFrame, mkF, argsToLocals, Value.category]; done) | rfl
set_option maxRecDepth 65536 in
set_option maxHeartbeats 40000000 in
theorem rm_deq_0_0_1_2_None_w1_w10 (l : Launch) (Z : State) (a0 : Array Value) (hw : ∀ d ∈ tables_1, d.before a0 Z = true) (ws : List Jvm.Cond) (en : Addr) (q : Addr) (d1 : Addr) (a1 : Addr) (kk1 : ClassId) (d2 : Addr) (a2 : Addr) (kk2 : ClassId) (w1 : Addr) (h0 : Heap) (n0 : Nat) (O0 : Old Z n0 h0) (Fq : Fld Z h0 en s2_ "queues" s11_ (.ref q)) (Ee : Exa Z h0 en s2_) (Ew : Exa Z h0 w1 s5_) (Fw : Fld Z h0 w1 s5_ "conversion" "Z" (.int (0 : Int32))) (G0 : Exa Z h0 q s13_) (G1 : Fld Z h0 q s13_ "conversions" s17_ (.ref d1)) (G2 : Fld Z h0 q s13_ "requests" s17_ (.ref d2)) (G3 : Exa Z h0 d1 s14_) (G4 : Fld Z h0 d1 s14_ "elements" s16_ (.ref a1)) (G5 : Fld Z h0 d1 s14_ "head" "I" (.int (0 : Int32))) (G6 : Fld Z h0 d1 s14_ "tail" "I" (.int (0 : Int32))) (G7 : Arv Z h0 a1 kk1 (.object s3_) (17 : Int32) [] .null) (G8 : Exa Z h0 d2 s14_) (G9 : Fld Z h0 d2 s14_ "elements" s16_ (.ref a2)) (G10 : Fld Z h0 d2 s14_ "head" "I" (.int (1 : Int32))) (G11 : Fld Z h0 d2 s14_ "tail" "I" (.int (2 : Int32))) (G12 : Arv Z h0 a2 kk2 (.object s3_) (17 : Int32) [.null, (.ref w1)] .null) (ge : n0 ≤ en) (nwe : ¬ (@Eq Nat w1 en)) (nea : ¬ (@Eq Nat en a2)) (ned : ¬ (@Eq Nat en d2)) (o0 : @LT.lt Nat _ q d1) (o1 : @LT.lt Nat _ d1 a1) (o2 : @LT.lt Nat _ a1 d2) (o3 : @LT.lt Nat _ d2 a2) (gq : n0 ≤ q) (ov1 : Ovr Z kk1 s3_) (ov2 : Ovr Z kk2 s3_) :
    MetFree l (⟨s2_, "dequeue", s12_⟩ : MethodName) (head1 (Jvm.Cond.code (⟨s2_, "dequeue", s12_⟩ : MethodName) prog_11_method_11_code 2 none :: ws) ({ frames := 4, cells := 0, slots := 0, locals := 67 } : Room)) (fun a U => a = #[(.ref en), (.ref w1)] ∧ Z.Warmed39 U.vm ∧ U.heap = h0) (fun _ _ _ _ _ => True) (fun _ U o U' => ∃ v L, o = .returned v ∧ Q_rm_deq_0_0_1_2_None_w1_w10 Z en q d1 a1 kk1 d2 a2 kk2 w1 h0 n0 v U'.heap L ∧ FrameEnd U o U' L ({ frames := 4, cells := 0, slots := 0, locals := 67 } : Room).cells ({ frames := 4, cells := 0, slots := 0, locals := 67 } : Room).slots) := by
  refine MetFree.of_bodySF (plainFor_of_name own_pn_com_example_admit1_admit1_lock_LockEntry) hisR ?_
  intro p e s m args below meth c s₁ Bd hml0 hP hK
  obtain ⟨rfl, hZ, hh⟩ := hP
  have hx := Bd.exec
  have hby := Bd.bytes
  have hml : c.maxLocals = 2 := hml0
  have hown : s.vm.findClass s2_ = some m.cls := findClass_of_methodNamed Bd.named
  have hnm := (name_of_methodNamed Bd.named Bd.method).1
  have X0 : Stand p l e ({ frames := 4, cells := 0, slots := 0, locals := 67 } : Room) s m #[(.ref en), (.ref w1)] below meth c s₁ [] 0 0 := Stand.of_body Bd
  have e0 : s₁.heap = h0 := by rw [← hh, Bd.state]; rfl
  have N0 := Fr.nil n0
  have Z0 : n0 ≤ h0.size := by rw [← O0.1]; exact O0.2.1
  show own_Go p e below (s₁.setTop (entryFrame m #[(.ref en), (.ref w1)] 2)) (fun t o => ∃ v L, o = .returned v ∧ Q_rm_deq_0_0_1_2_None_w1_w10 Z en q d1 a1 kk1 d2 a2 kk2 w1 h0 n0 v t.heap L ∧ FrameEnd s o t L ({ frames := 4, cells := 0, slots := 0, locals := 67 } : Room).cells ({ frames := 4, cells := 0, slots := 0, locals := 67 } : Room).slots)
  rw [ef_rm_deq_0_0_1_2_None_w1_w10 m en q d1 a1 kk1 d2 a2 kk2 w1]
  have lt_Fq : h0.size > en := Fq.lt
  have lt_Ee : h0.size > en := Ee.lt
  have lt_Ew : h0.size > w1 := Ew.lt
  have lt_Fw : h0.size > w1 := Fw.lt
  have lt_G0 : h0.size > q := G0.lt
  have lt_G1 : h0.size > q := G1.lt
  have lt_G2 : h0.size > q := G2.lt
  have lt_G3 : h0.size > d1 := G3.lt
  have lt_G4 : h0.size > d1 := G4.lt
  have lt_G5 : h0.size > d1 := G5.lt
  have lt_G6 : h0.size > d1 := G6.lt
  have lt_G7 : h0.size > a1 := G7.lt
  have lt_G8 : h0.size > d2 := G8.lt
  have lt_G9 : h0.size > d2 := G9.lt
  have lt_G10 : h0.size > d2 := G10.lt
  have lt_G11 : h0.size > d2 := G11.lt
  have lt_G12 : h0.size > a2 := G12.lt
  refine own_by (fun _ k => XS.aloadN X0.here hx rfl (hb hby D12_0) rfl rfl k) ?_
  obtain ⟨T1, X1, e1, st1⟩ := getF X0 hx hZ hown (host := "") (Or.inl (own_w hw 44 rfl)) Via.refl e0 Fq (g := (mkF m 1 #[.val (.ref en), .val (.ref w1)] [(.ref en)])) rfl rfl (hb hby D12_1)
  refine own_by st1 ?_
  refine own_by (fun _ k => XS.aloadN X1.here hx rfl (hb hby D12_4) rfl rfl k) ?_
  obtain ⟨cq2, kq2, q2a, q2b, q2c⟩ := isOf hZ e1 G0
  obtain ⟨_, _, ⟨T2, L2, k2, n2⟩, -, X2, ⟨Lc2, hQ2, l2, y2, z2⟩, st2⟩ := X1.virtualBack hx (y := (⟨s13_, "of", s18_⟩ : MethodName)) (z := (⟨s13_, "of", s18_⟩ : MethodName)) hown (mvT hZ (own_w hw 79 rfl)) (mvT hZ (own_w hw 80 rfl)) (notFace_of_selects (args := #[]) (mvT hZ (own_w hw 82 rfl))) (mvT hZ (own_w hw 82 rfl)) (mvT hZ (own_w hw 81 rfl)) (by decide) (backOf (W := 0) (rm_of0 l Z a0 hw [] q w1 d1 d2 h0 n0 O0 Fw G1 G2) hZ (own_w hw 83 rfl) (own_w hw 53 rfl) (by decide) (by decide)) q2a q2c (g := (mkF m 5 #[.val (.ref en), .val (.ref w1)] [(.ref w1), (.ref q)])) rfl (by rw [hml]; rfl) (Steps.refl _) (argsL := [(.ref w1)]) (rest := []) (lenOf own_pd__28Lcom_2fexample_2fadmit1_2fadmit1_2flock_2fWait_3b_29Ljava_2futil_2fArrayDeque_3b rfl) rfl (by show 2 * 0 + _ ≤ _; exact Nat.le_of_eq rfl) (hb hby D12_5) (fun _ _ => ⟨rfl, e1, (by decide : 0 + 0 ≤ _), (by decide : 0 + 0 ≤ _)⟩)
  dsimp only [Pt.U, Pt.locs, Pt.cells, Pt.slots] at X2 l2 y2 z2 st2 hQ2
  subst l2 y2 z2
  obtain ⟨rfl, M2, K2⟩ := hQ2
  have N2 := Fr.app N0 M2
  refine own_by (fun _ k => st2.trans k) ?_
  refine own_by (fun _ k => XS.aloadN X2.here hx rfl (hb hby D12_8) rfl rfl k) ?_
  obtain ⟨cq3, kq3, q3a, q3b, q3c⟩ := isOf hZ K2 G8
  obtain ⟨_, _, ⟨T3, L3, k3, n3⟩, -, X3, ⟨Lc3, hQ3, l3, y3, z3⟩, st3⟩ := X2.virtualBack hx (y := (⟨s14_, "remove", s20_⟩ : MethodName)) (z := (⟨s14_, "remove", s20_⟩ : MethodName)) hown (mvT hZ (own_w hw 103 rfl)) (mvT hZ (own_w hw 104 rfl)) (notFace_of_selects (args := #[]) (mvT hZ (own_w hw 106 rfl))) (mvT hZ (own_w hw 106 rfl)) (mvT hZ (own_w hw 105 rfl)) (by decide) (backOf (W := 0) (rm_rem_1_2_None_w1_w1 l Z a0 hw [] d2 a2 kk2 w1 h0 n0 O0 G8 G9 G10 G11 G12 Ew (by first | assumption | omega | decide) (by first | assumption | omega | decide) (by first | assumption | omega | decide)) hZ (own_w hw 107 rfl) (own_w hw 60 rfl) (by decide) (by decide)) q3a q3c (g := (mkF m 9 #[.val (.ref en), .val (.ref w1)] [(.ref w1), (.ref d2)])) rfl (by rw [hml]; rfl) (Steps.refl _) (argsL := [(.ref w1)]) (rest := []) (lenOf own_pd__28Ljava_2flang_2fObject_3b_29Z rfl) rfl (by show 2 * 0 + _ ≤ _; exact Nat.le_of_eq rfl) (hb hby D12_9) (fun _ _ => ⟨rfl, K2, (by decide : 0 + 0 ≤ _), (by decide : 0 + 0 ≤ _)⟩)
  dsimp only [Pt.U, Pt.locs, Pt.cells, Pt.slots] at X3 l3 y3 z3 st3 hQ3
  subst l3 y3 z3
  obtain ⟨rfl, M3, K3, g3_0, g3_1, g3_2, g3_3, g3_4⟩ := hQ3
  have N3 := Fr.app N2 M3
  refine own_by (fun _ k => st3.trans k) ?_
  have z3 := K3.1
  have lt_g3_0 : T3.heap.size > d2 := g3_0.lt
  have lt_g3_1 : T3.heap.size > d2 := g3_1.lt
  have lt_g3_2 : T3.heap.size > d2 := g3_2.lt
  have lt_g3_3 : T3.heap.size > d2 := g3_3.lt
  have lt_g3_4 : T3.heap.size > a2 := g3_4.lt
  show own_Go p e below (T3.setTop (mkF m 12 #[.val (.ref en), .val (.ref w1)] [(.int (1 : Int32))])) _
  refine own_by (fun _ k => XS.pop X3.here hx rfl (hb hby D12_12) rfl rfl k) ?_
  refine own_by (fun _ k => XS.aloadN X3.here hx rfl (hb hby D12_13) rfl rfl k) ?_
  have fc4 : Fld Z T3.heap en s2_ "queues" s11_ (.ref q) := (Fq.keep K3 (ninS (own_ne (by omega)) (ninS (own_ne (by omega)) nin0)))
  obtain ⟨T5, X5, e5, st5⟩ := getF X3 hx hZ hown (host := "") (Or.inl (own_w hw 44 rfl)) Via.refl rfl fc4 (g := (mkF m 14 #[.val (.ref en), .val (.ref w1)] [(.ref en)])) rfl rfl (hb hby D12_14)
  refine own_by st5 ?_
  have fc6 : Fld Z T3.heap q s13_ "conversions" s17_ (.ref d1) := (G1.keep K3 (ninS (own_ne (by omega)) (ninS (own_ne (by omega)) nin0)))
  obtain ⟨T7, X7, e7, st7⟩ := getF X5 hx hZ hown (host := "") (Or.inl (own_w hw 133 rfl)) Via.refl e5 fc6 (g := (mkF m 17 #[.val (.ref en), .val (.ref w1)] [(.ref q)])) rfl rfl (hb hby D12_17)
  refine own_by st7 ?_
  have fc8 : Fld Z T3.heap d1 s14_ "head" "I" (.int (0 : Int32)) := (G5.keep K3 (ninS (own_ne (by omega)) (ninS (own_ne (by omega)) nin0)))
  have fc9 : Fld Z T3.heap d1 s14_ "tail" "I" (.int (0 : Int32)) := (G6.keep K3 (ninS (own_ne (by omega)) (ninS (own_ne (by omega)) nin0)))
  have O10 : Old Z n0 T3.heap := (O0.keep K3 (allS (by omega) (allS (by omega) all0)))
  have fc12 : Exa Z T3.heap d1 s14_ := (G3.keep K3)
  obtain ⟨cq11, kq11, q11a, q11b, q11c⟩ := isOf hZ e7 fc12
  obtain ⟨_, _, ⟨T11, L11, k11, n11⟩, -, X11, ⟨Lc11, hQ11, l11, y11, z11⟩, st11⟩ := X7.virtualBack hx (y := (⟨s14_, "isEmpty", "()Z"⟩ : MethodName)) (z := (⟨s14_, "isEmpty", "()Z"⟩ : MethodName)) hown (mvT hZ (own_w hw 134 rfl)) (mvT hZ (own_w hw 135 rfl)) (notFace_of_selects (args := #[]) (mvT hZ (own_w hw 137 rfl))) (mvT hZ (own_w hw 137 rfl)) (mvT hZ (own_w hw 136 rfl)) (by decide) (backOf (W := 0) (rm_emp0_0 l Z a0 hw [] d1 T3.heap n0 O10 fc8 fc9) hZ (own_w hw 138 rfl) (own_w hw 60 rfl) (by decide) (by decide)) q11a q11c (g := (mkF m 20 #[.val (.ref en), .val (.ref w1)] [(.ref d1)])) rfl (by rw [hml]; rfl) (Steps.refl _) (argsL := []) (rest := []) (lenOf own_pd__28_29Z rfl) rfl (by show 2 * 0 + _ ≤ _; exact Nat.le_of_eq rfl) (hb hby D12_20) (fun _ _ => ⟨rfl, e7, (by decide : 0 + 0 ≤ _), (by decide : 0 + 0 ≤ _)⟩)
  dsimp only [Pt.U, Pt.locs, Pt.cells, Pt.slots] at X11 l11 y11 z11 st11 hQ11
  subst l11 y11 z11
  obtain ⟨rfl, M11, K11⟩ := hQ11
  have N11 := Fr.app N3 M11
  refine own_by (fun _ k => st11.trans k) ?_
  refine own_by (fun _ k => XS.ifNo X11.here hx rfl (hb hby D12_23) rfl ((if0 _ _).trans (feq (by decide : ¬ ((1 : Int32) = (0 : Int32)))).1) k) ?_
  show own_Go p e below (T11.setTop (mkF m 26 #[.val (.ref en), .val (.ref w1)] [])) _
  refine own_by (fun _ k => XS.aloadN X11.here hx rfl (hb hby D12_26) rfl rfl k) ?_
  obtain ⟨T13, X13, e13, st13⟩ := getF X11 hx hZ hown (host := "") (Or.inl (own_w hw 44 rfl)) Via.refl K11 fc4 (g := (mkF m 27 #[.val (.ref en), .val (.ref w1)] [(.ref en)])) rfl rfl (hb hby D12_27)
  refine own_by st13 ?_
  have fc14 : Fld Z T3.heap q s13_ "requests" s17_ (.ref d2) := (G2.keep K3 (ninS (own_ne (by omega)) (ninS (own_ne (by omega)) nin0)))
  obtain ⟨T15, X15, e15, st15⟩ := getF X13 hx hZ hown (host := "") (Or.inl (own_w hw 139 rfl)) Via.refl e13 fc14 (g := (mkF m 30 #[.val (.ref en), .val (.ref w1)] [(.ref q)])) rfl rfl (hb hby D12_30)
  refine own_by st15 ?_
  obtain ⟨cq16, kq16, q16a, q16b, q16c⟩ := isOf hZ e15 g3_0
  obtain ⟨_, _, ⟨T16, L16, k16, n16⟩, -, X16, ⟨Lc16, hQ16, l16, y16, z16⟩, st16⟩ := X15.virtualBack hx (y := (⟨s14_, "isEmpty", "()Z"⟩ : MethodName)) (z := (⟨s14_, "isEmpty", "()Z"⟩ : MethodName)) hown (mvT hZ (own_w hw 134 rfl)) (mvT hZ (own_w hw 135 rfl)) (notFace_of_selects (args := #[]) (mvT hZ (own_w hw 137 rfl))) (mvT hZ (own_w hw 137 rfl)) (mvT hZ (own_w hw 136 rfl)) (by decide) (backOf (W := 0) (rm_emp1_1 l Z a0 hw [] d2 T3.heap n0 O10 g3_2 g3_3) hZ (own_w hw 138 rfl) (own_w hw 60 rfl) (by decide) (by decide)) q16a q16c (g := (mkF m 33 #[.val (.ref en), .val (.ref w1)] [(.ref d2)])) rfl (by rw [hml]; rfl) (Steps.refl _) (argsL := []) (rest := []) (lenOf own_pd__28_29Z rfl) rfl (by show 2 * 0 + _ ≤ _; exact Nat.le_of_eq rfl) (hb hby D12_33) (fun _ _ => ⟨rfl, e15, (by decide : 0 + 0 ≤ _), (by decide : 0 + 0 ≤ _)⟩)
  dsimp only [Pt.U, Pt.locs, Pt.cells, Pt.slots] at X16 l16 y16 z16 st16 hQ16
  subst l16 y16 z16
  obtain ⟨rfl, M16, K16⟩ := hQ16
  have N16 := Fr.app N11 M16
  refine own_by (fun _ k => st16.trans k) ?_
  refine own_by (fun _ k => XS.ifNo X16.here hx rfl (hb hby D12_36) rfl ((if0 _ _).trans (feq (by decide : ¬ ((1 : Int32) = (0 : Int32)))).1) k) ?_
  show own_Go p e below (T16.setTop (mkF m 39 #[.val (.ref en), .val (.ref w1)] [])) _
  refine own_by (fun _ k => XS.aloadN X16.here hx rfl (hb hby D12_39) rfl rfl k) ?_
  refine own_by (fun _ k => XS.aconstNull X16.here hx rfl (hb hby D12_40) k) ?_
  have fc17 : Exa Z T3.heap en s2_ := (Ee.keep K3)
  obtain ⟨T18, h18, X18, e18, W18, st18⟩ := putF X16 hx hZ hown (host := "") (Or.inl (own_w hw 44 rfl)) Via.refl K16 fc4 fc17 (Or.inl (own_w hw 45 rfl)) (own_w hw 1 rfl) (ty := (.object s13_)) (by decide) rfl rfl (g := (mkF m 41 #[.val (.ref en), .val (.ref w1)] [.null, (.ref en)])) rfl rfl (hb hby D12_41)
  refine own_by st18 ?_
  have z18 := W18.size
  have N18 := Fr.snoc X18 N16 (by omega)
  have Fw18 : Fld Z h18 en s2_ "queues" s11_ .null := fc4.same W18
  have K19 : Keep h0 h18 [en, d2, a2] := (((Keep.refl h0 [en, d2, a2]).trans K3 (allS (P := fun x => x ∈ [en, d2, a2] ∨ h0.size ≤ x) (Or.inl (List.mem_of_getElem? (i := 1) rfl)) (allS (P := fun x => x ∈ [en, d2, a2] ∨ h0.size ≤ x) (Or.inl (List.mem_of_getElem? (i := 2) rfl)) all0))).wr W18 (Or.inl (List.mem_of_getElem? (i := 0) rfl)))
  obtain ⟨fs, hr, hrun, hended, hW, hsame⟩ := X18.leave (v := none) (fun h => rfl)
  refine ⟨_, _, X18.returnOut hx Bd.returns (hb hby D12_44) hr, hrun, hended, _, _, rfl, ?_, ⟨_, rfl⟩, hW, hsame.mono (by decide) (by decide)⟩
  show Q_rm_deq_0_0_1_2_None_w1_w10 Z en q d1 a1 kk1 d2 a2 kk2 w1 h0 n0 _ T18.heap _
  rw [e18]
  exact ⟨rfl, N18, K19, Fw18⟩
def Q_rm_del_0_2_w1_w2_1 (Z : State) (d : Addr) (a1 : Addr) (kk1 : ClassId) (w1 : Addr) (w2 : Addr) (h0 : Heap) (n0 : Nat) (v : Option Value) (h : Heap) (L : List Loc) : Prop := v = some (.int (1 : Int32)) ∧ Fr n0 L ∧ Keep h0 h [d, a1] ∧ Exa Z h d s14_ ∧ Fld Z h d s14_ "elements" s16_ (.ref a1) ∧ Fld Z h d s14_ "head" "I" (.int (0 : Int32)) ∧ Fld Z h d s14_ "tail" "I" (.int (1 : Int32)) ∧ Arv Z h a1 kk1 (.object s3_) (17 : Int32) [(.ref w1)] .null
theorem ef_rm_del_0_2_w1_w2_1 (m : MethodId) (d : Addr) (a1 : Addr) (kk1 : ClassId) (w1 : Addr) (w2 : Addr) : entryFrame m #[(.ref d), (.int (1 : Int32))] 8 = mkF m 0 #[.val (.ref d), .val (.int (1 : Int32)), .unset, .unset, .unset, .unset, .unset, .unset] [] := by first | (simp [entryFrame, mkF, argsToLocals, Value.category]; done) | rfl
set_option maxRecDepth 65536 in
set_option maxHeartbeats 40000000 in
theorem rm_del_0_2_w1_w2_1 (l : Launch) (Z : State) (a0 : Array Value) (hw : ∀ d ∈ tables_1, d.before a0 Z = true) (ws : List Jvm.Cond) (d : Addr) (a1 : Addr) (kk1 : ClassId) (w1 : Addr) (w2 : Addr) (h0 : Heap) (n0 : Nat) (O0 : Old Z n0 h0) (Ed : Exa Z h0 d s14_) (Fe : Fld Z h0 d s14_ "elements" s16_ (.ref a1)) (Fh : Fld Z h0 d s14_ "head" "I" (.int (0 : Int32))) (Ft : Fld Z h0 d s14_ "tail" "I" (.int (2 : Int32))) (Va : Arv Z h0 a1 kk1 (.object s3_) (17 : Int32) [(.ref w1), (.ref w2)] .null) (gd : n0 ≤ d) (ga : n0 ≤ a1) (nda : ¬ (@Eq Nat d a1)) :
    MetFree l (⟨s14_, "delete", "(I)Z"⟩ : MethodName) (head1 (Jvm.Cond.code (⟨s14_, "delete", "(I)Z"⟩ : MethodName) jdk_21_method_36_code 8 (some .boolean) :: ws) ({ frames := 1, cells := 0, slots := 0, locals := 18 } : Room)) (fun a U => a = #[(.ref d), (.int (1 : Int32))] ∧ Z.Warmed39 U.vm ∧ U.heap = h0) (fun _ _ _ _ _ => True) (fun _ U o U' => ∃ v L, o = .returned v ∧ Q_rm_del_0_2_w1_w2_1 Z d a1 kk1 w1 w2 h0 n0 v U'.heap L ∧ FrameEnd U o U' L ({ frames := 1, cells := 0, slots := 0, locals := 18 } : Room).cells ({ frames := 1, cells := 0, slots := 0, locals := 18 } : Room).slots) := by
  refine MetFree.of_bodySF (plainFor_of_name own_pn_java_util_ArrayDeque) hisR ?_
  intro p e s m args below meth c s₁ Bd hml0 hP hK
  obtain ⟨rfl, hZ, hh⟩ := hP
  have hx := Bd.exec
  have hby := Bd.bytes
  have hml : c.maxLocals = 8 := hml0
  have hown : s.vm.findClass s14_ = some m.cls := findClass_of_methodNamed Bd.named
  have hnm := (name_of_methodNamed Bd.named Bd.method).1
  have X0 : Stand p l e ({ frames := 1, cells := 0, slots := 0, locals := 18 } : Room) s m #[(.ref d), (.int (1 : Int32))] below meth c s₁ [] 0 0 := Stand.of_body Bd
  have e0 : s₁.heap = h0 := by rw [← hh, Bd.state]; rfl
  have N0 := Fr.nil n0
  have Z0 : n0 ≤ h0.size := by rw [← O0.1]; exact O0.2.1
  show own_Go p e below (s₁.setTop (entryFrame m #[(.ref d), (.int (1 : Int32))] 8)) (fun t o => ∃ v L, o = .returned v ∧ Q_rm_del_0_2_w1_w2_1 Z d a1 kk1 w1 w2 h0 n0 v t.heap L ∧ FrameEnd s o t L ({ frames := 1, cells := 0, slots := 0, locals := 18 } : Room).cells ({ frames := 1, cells := 0, slots := 0, locals := 18 } : Room).slots)
  rw [ef_rm_del_0_2_w1_w2_1 m d a1 kk1 w1 w2]
  have lt_Ed : h0.size > d := Ed.lt
  have lt_Fe : h0.size > d := Fe.lt
  have lt_Fh : h0.size > d := Fh.lt
  have lt_Ft : h0.size > d := Ft.lt
  have lt_Va : h0.size > a1 := Va.lt
  refine own_by (fun _ k => XS.aloadN X0.here hx rfl (hb hby D16_0) rfl rfl k) ?_
  obtain ⟨T1, X1, e1, st1⟩ := getF X0 hx hZ hown (host := "") (Or.inl (own_w hw 73 rfl)) Via.refl e0 Fe (g := (mkF m 1 #[.val (.ref d), .val (.int (1 : Int32)), .unset, .unset, .unset, .unset, .unset, .unset] [(.ref d)])) rfl rfl (hb hby D16_1)
  refine own_by st1 ?_
  refine own_by (fun _ k => XS.astoreN X1.here hx rfl (hb hby D16_4) rfl rfl (l' := #[.val (.ref d), .val (.int (1 : Int32)), .val (.ref a1), .unset, .unset, .unset, .unset, .unset]) rfl k) ?_
  refine own_by (fun _ k => XS.aloadN X1.here hx rfl (hb hby D16_5) rfl rfl k) ?_
  obtain ⟨cl2, Ar2, q2, S2, M2, H2, G2⟩ := (id Va)
  refine own_by (X1.arraylength hx (by rw [e1]; exact Ar2.1) (State.isArrayOf_alike hZ.alike Ar2.2.1) (g := (mkF m 6 #[.val (.ref d), .val (.int (1 : Int32)), .val (.ref a1), .unset, .unset, .unset, .unset, .unset] [(.ref a1)])) rfl rfl (hb hby D16_6)) ?_
  rw [len_of S2 M2]
  refine own_by (fun _ k => XS.istoreN X1.here hx rfl (hb hby D16_7) rfl (l' := #[.val (.ref d), .val (.int (1 : Int32)), .val (.ref a1), .val (.int (17 : Int32)), .unset, .unset, .unset, .unset]) rfl k) ?_
  show own_Go p e below (T1.setTop (mkF m 8 #[.val (.ref d), .val (.int (1 : Int32)), .val (.ref a1), .val (.int (17 : Int32)), .unset, .unset, .unset, .unset] [])) _
  refine own_by (fun _ k => XS.iloadN X1.here hx rfl (hb hby D16_8) rfl k) ?_
  refine own_by (fun _ k => XS.aloadN X1.here hx rfl (hb hby D16_9) rfl rfl k) ?_
  obtain ⟨T3, X3, e3, st3⟩ := getF X1 hx hZ hown (host := "") (Or.inl (own_w hw 93 rfl)) Via.refl e1 Fh (g := (mkF m 10 #[.val (.ref d), .val (.int (1 : Int32)), .val (.ref a1), .val (.int (17 : Int32)), .unset, .unset, .unset, .unset] [(.ref d), (.int (1 : Int32))])) rfl rfl (hb hby D16_10)
  refine own_by st3 ?_
  refine own_by (fun _ k => XS.dup X3.here hx rfl (hb hby D16_13) rfl rfl k) ?_
  refine own_by (fun _ k => XS.istore X3.here hx rfl (hb hby D16_14) rfl (l' := #[.val (.ref d), .val (.int (1 : Int32)), .val (.ref a1), .val (.int (17 : Int32)), .val (.int (0 : Int32)), .unset, .unset, .unset]) rfl k) ?_
  refine own_by (fun _ k => XS.iloadN X3.here hx rfl (hb hby D16_16) rfl k) ?_
  show own_Go p e below (T3.setTop (mkF m 17 #[.val (.ref d), .val (.int (1 : Int32)), .val (.ref a1), .val (.int (17 : Int32)), .val (.int (0 : Int32)), .unset, .unset, .unset] [(.int (17 : Int32)), (.int (0 : Int32)), (.int (1 : Int32))])) _
  obtain ⟨_, _, ⟨T4, L4, k4, n4⟩, -, X4, ⟨Lc4, hQ4, l4, y4, z4⟩, st4⟩ := Jvm.LawKit.callS X3 hx (y := (⟨s14_, "sub", "(III)I"⟩ : MethodName)) hown (mvT hZ (own_w hw 123 rfl)) (mvT hZ (own_w hw 124 rfl)) (mvT hZ (own_w hw 60 rfl)) (mvT hZ (own_w hw 125 rfl)) (by decide) (backOf (W := 0) (rm_sub1_0 l Z a0 hw [] h0 n0 O0) hZ (own_w hw 125 rfl) (own_w hw 60 rfl) (by decide) (by decide)) (g := (mkF m 17 #[.val (.ref d), .val (.int (1 : Int32)), .val (.ref a1), .val (.int (17 : Int32)), .val (.int (0 : Int32)), .unset, .unset, .unset] [(.int (17 : Int32)), (.int (0 : Int32)), (.int (1 : Int32))])) rfl (by rw [hml]; rfl) (argsL := [(.int (1 : Int32)), (.int (0 : Int32)), (.int (17 : Int32))]) (rest := []) (lenOf own_pd__28III_29I rfl) rfl (by show 2 * 0 + _ ≤ _; exact Nat.le_of_eq rfl) (hb hby D16_17) (fun _ _ => ⟨rfl, e3, (by decide : 0 + 0 ≤ _), (by decide : 0 + 0 ≤ _)⟩)
  dsimp only [Pt.U, Pt.locs, Pt.cells, Pt.slots] at X4 l4 y4 z4 st4 hQ4
  subst l4 y4 z4
  obtain ⟨rfl, M4, K4⟩ := hQ4
  have N4 := Fr.app N0 M4
  refine own_by st4 ?_
  refine own_by (fun _ k => XS.istore X4.here hx rfl (hb hby D16_20) rfl (l' := #[.val (.ref d), .val (.int (1 : Int32)), .val (.ref a1), .val (.int (17 : Int32)), .val (.int (0 : Int32)), .unset, .val (.int (1 : Int32)), .unset]) rfl k) ?_
  refine own_by (fun _ k => XS.aloadN X4.here hx rfl (hb hby D16_22) rfl rfl k) ?_
  obtain ⟨T5, X5, e5, st5⟩ := getF X4 hx hZ hown (host := "") (Or.inl (own_w hw 90 rfl)) Via.refl K4 Ft (g := (mkF m 23 #[.val (.ref d), .val (.int (1 : Int32)), .val (.ref a1), .val (.int (17 : Int32)), .val (.int (0 : Int32)), .unset, .val (.int (1 : Int32)), .unset] [(.ref d)])) rfl rfl (hb hby D16_23)
  refine own_by st5 ?_
  refine own_by (fun _ k => XS.dup X5.here hx rfl (hb hby D16_26) rfl rfl k) ?_
  refine own_by (fun _ k => XS.istore X5.here hx rfl (hb hby D16_27) rfl (l' := #[.val (.ref d), .val (.int (1 : Int32)), .val (.ref a1), .val (.int (17 : Int32)), .val (.int (0 : Int32)), .val (.int (2 : Int32)), .val (.int (1 : Int32)), .unset]) rfl k) ?_
  show own_Go p e below (T5.setTop (mkF m 29 #[.val (.ref d), .val (.int (1 : Int32)), .val (.ref a1), .val (.int (17 : Int32)), .val (.int (0 : Int32)), .val (.int (2 : Int32)), .val (.int (1 : Int32)), .unset] [(.int (2 : Int32))])) _
  refine own_by (fun _ k => XS.iloadN X5.here hx rfl (hb hby D16_29) rfl k) ?_
  refine own_by (fun _ k => XS.iloadN X5.here hx rfl (hb hby D16_30) rfl k) ?_
  obtain ⟨_, _, ⟨T6, L6, k6, n6⟩, -, X6, ⟨Lc6, hQ6, l6, y6, z6⟩, st6⟩ := Jvm.LawKit.callS X5 hx (y := (⟨s14_, "sub", "(III)I"⟩ : MethodName)) hown (mvT hZ (own_w hw 123 rfl)) (mvT hZ (own_w hw 124 rfl)) (mvT hZ (own_w hw 60 rfl)) (mvT hZ (own_w hw 125 rfl)) (by decide) (backOf (W := 0) (rm_sub2_1 l Z a0 hw [] h0 n0 O0) hZ (own_w hw 125 rfl) (own_w hw 60 rfl) (by decide) (by decide)) (g := (mkF m 31 #[.val (.ref d), .val (.int (1 : Int32)), .val (.ref a1), .val (.int (17 : Int32)), .val (.int (0 : Int32)), .val (.int (2 : Int32)), .val (.int (1 : Int32)), .unset] [(.int (17 : Int32)), (.int (1 : Int32)), (.int (2 : Int32))])) rfl (by rw [hml]; rfl) (argsL := [(.int (2 : Int32)), (.int (1 : Int32)), (.int (17 : Int32))]) (rest := []) (lenOf own_pd__28III_29I rfl) rfl (by show 2 * 0 + _ ≤ _; exact Nat.le_of_eq rfl) (hb hby D16_31) (fun _ _ => ⟨rfl, e5, (by decide : 0 + 0 ≤ _), (by decide : 0 + 0 ≤ _)⟩)
  dsimp only [Pt.U, Pt.locs, Pt.cells, Pt.slots] at X6 l6 y6 z6 st6 hQ6
  subst l6 y6 z6
  obtain ⟨rfl, M6, K6⟩ := hQ6
  have N6 := Fr.app N4 M6
  refine own_by st6 ?_
  refine own_by (fun _ k => XS.iconst X6.here hx rfl (hb hby D16_34) k) ?_
  refine own_by (fun _ k => XS.isub X6.here hx rfl (hb hby D16_35) rfl k) ?_
  refine own_by (fun _ k => XS.istore X6.here hx rfl (hb hby D16_36) rfl (l' := #[.val (.ref d), .val (.int (1 : Int32)), .val (.ref a1), .val (.int (17 : Int32)), .val (.int (0 : Int32)), .val (.int (2 : Int32)), .val (.int (1 : Int32)), .val (.int (0 : Int32))]) rfl k) ?_
  show own_Go p e below (T6.setTop (mkF m 38 #[.val (.ref d), .val (.int (1 : Int32)), .val (.ref a1), .val (.int (17 : Int32)), .val (.int (0 : Int32)), .val (.int (2 : Int32)), .val (.int (1 : Int32)), .val (.int (0 : Int32))] [])) _
  refine own_by (fun _ k => XS.iload X6.here hx rfl (hb hby D16_38) rfl k) ?_
  refine own_by (fun _ k => XS.iload X6.here hx rfl (hb hby D16_40) rfl k) ?_
  refine own_by (fun _ k => XS.icmpYes X6.here hx rfl (pc0 := 42) (pc' := 117) rfl (hb hby D16_42) rfl (flt (by decide : ¬ ((1 : Int32) < (0 : Int32)))).2.1 (by decide) (by decide) k) ?_
  show own_Go p e below (T6.setTop (mkF m 117 #[.val (.ref d), .val (.int (1 : Int32)), .val (.ref a1), .val (.int (17 : Int32)), .val (.int (0 : Int32)), .val (.int (2 : Int32)), .val (.int (1 : Int32)), .val (.int (0 : Int32))] [])) _
  refine own_by (fun _ k => XS.aloadN X6.here hx rfl (hb hby D16_117) rfl rfl k) ?_
  refine own_by (fun _ k => XS.iload X6.here hx rfl (hb hby D16_118) rfl k) ?_
  refine own_by (fun _ k => XS.iloadN X6.here hx rfl (hb hby D16_120) rfl k) ?_
  obtain ⟨_, _, ⟨T7, L7, k7, n7⟩, -, X7, ⟨Lc7, hQ7, l7, y7, z7⟩, st7⟩ := Jvm.LawKit.callS X6 hx (y := (⟨s14_, "dec", "(II)I"⟩ : MethodName)) hown (mvT hZ (own_w hw 126 rfl)) (mvT hZ (own_w hw 127 rfl)) (mvT hZ (own_w hw 60 rfl)) (mvT hZ (own_w hw 128 rfl)) (by decide) (backOf (W := 1) (rm_dec2 l Z a0 hw [] h0 n0 O0) hZ (own_w hw 128 rfl) (own_w hw 60 rfl) (by decide) (by decide)) (g := (mkF m 121 #[.val (.ref d), .val (.int (1 : Int32)), .val (.ref a1), .val (.int (17 : Int32)), .val (.int (0 : Int32)), .val (.int (2 : Int32)), .val (.int (1 : Int32)), .val (.int (0 : Int32))] [(.int (17 : Int32)), (.int (2 : Int32)), (.ref d)])) rfl (by rw [hml]; rfl) (argsL := [(.int (2 : Int32)), (.int (17 : Int32))]) (rest := [(.ref d)]) (lenOf own_pd__28II_29I rfl) rfl (by show 2 * 0 + _ ≤ _; exact Nat.le_of_eq rfl) (hb hby D16_121) (fun _ _ => ⟨rfl, K6, (by decide : 0 + 0 ≤ _), (by decide : 0 + 0 ≤ _)⟩)
  dsimp only [Pt.U, Pt.locs, Pt.cells, Pt.slots] at X7 l7 y7 z7 st7 hQ7
  subst l7 y7 z7
  obtain ⟨rfl, M7, K7⟩ := hQ7
  have N7 := Fr.app N6 M7
  refine own_by st7 ?_
  obtain ⟨T8, h8, X8, e8, W8, st8⟩ := putF X7 hx hZ hown (host := "") (Or.inl (own_w hw 90 rfl)) Via.refl K7 Ft Ed (Or.inl (own_w hw 91 rfl)) (own_w hw 59 rfl) (ty := .int) (by decide) rfl rfl (g := (mkF m 124 #[.val (.ref d), .val (.int (1 : Int32)), .val (.ref a1), .val (.int (17 : Int32)), .val (.int (0 : Int32)), .val (.int (2 : Int32)), .val (.int (1 : Int32)), .val (.int (0 : Int32))] [(.int (1 : Int32)), (.ref d)])) rfl rfl (hb hby D16_124)
  refine own_by st8 ?_
  have z8 := W8.size
  have N8 := Fr.snoc X8 N7 (by omega)
  have Fw8 : Fld Z h8 d s14_ "tail" "I" (.int (1 : Int32)) := Ft.same W8
  refine own_by (fun _ k => XS.iloadN X8.here hx rfl (hb hby D16_127) rfl k) ?_
  show own_Go p e below (T8.setTop (mkF m 128 #[.val (.ref d), .val (.int (1 : Int32)), .val (.ref a1), .val (.int (17 : Int32)), .val (.int (0 : Int32)), .val (.int (2 : Int32)), .val (.int (1 : Int32)), .val (.int (0 : Int32))] [(.int (1 : Int32))])) _
  refine own_by (fun _ k => XS.aloadN X8.here hx rfl (hb hby D16_128) rfl rfl k) ?_
  obtain ⟨T9, X9, e9, st9⟩ := getF X8 hx hZ hown (host := "") (Or.inl (own_w hw 90 rfl)) Via.refl e8 Fw8 (g := (mkF m 129 #[.val (.ref d), .val (.int (1 : Int32)), .val (.ref a1), .val (.int (17 : Int32)), .val (.int (0 : Int32)), .val (.int (2 : Int32)), .val (.int (1 : Int32)), .val (.int (0 : Int32))] [(.ref d), (.int (1 : Int32))])) rfl rfl (hb hby D16_129)
  refine own_by st9 ?_
  refine own_by (fun _ k => XS.icmpNo X9.here hx rfl (hb hby D16_132) rfl (flt (by decide : ¬ ((1 : Int32) < (1 : Int32)))).2.2.1 k) ?_
  show own_Go p e below (T9.setTop (mkF m 135 #[.val (.ref d), .val (.int (1 : Int32)), .val (.ref a1), .val (.int (17 : Int32)), .val (.int (0 : Int32)), .val (.int (2 : Int32)), .val (.int (1 : Int32)), .val (.int (0 : Int32))] [])) _
  refine own_by (fun _ k => XS.aloadN X9.here hx rfl (hb hby D16_135) rfl rfl k) ?_
  refine own_by (fun _ k => XS.iloadN X9.here hx rfl (hb hby D16_136) rfl k) ?_
  refine own_by (fun _ k => XS.iconst X9.here hx rfl (hb hby D16_137) k) ?_
  refine own_by (fun _ k => XS.iadd X9.here hx rfl (hb hby D16_138) rfl k) ?_
  refine own_by (fun _ k => XS.aloadN X9.here hx rfl (hb hby D16_139) rfl rfl k) ?_
  refine own_by (fun _ k => XS.iloadN X9.here hx rfl (hb hby D16_140) rfl k) ?_
  show own_Go p e below (T9.setTop (mkF m 141 #[.val (.ref d), .val (.int (1 : Int32)), .val (.ref a1), .val (.int (17 : Int32)), .val (.int (0 : Int32)), .val (.int (2 : Int32)), .val (.int (1 : Int32)), .val (.int (0 : Int32))] [(.int (1 : Int32)), (.ref a1), (.int (2 : Int32)), (.ref a1)])) _
  refine own_by (fun _ k => XS.iload X9.here hx rfl (hb hby D16_141) rfl k) ?_
  have fc10 : Arv Z h8 a1 kk1 (.object s3_) (17 : Int32) [(.ref w1), (.ref w2)] .null := (Va.other W8 (own_ne (by omega)))
  obtain ⟨T11, h11, L11, X11, e11, N11, K11, Vr11, st11⟩ := cpA X9 hx hZ hown (own_w hw 129 rfl) (own_w hw 132 rfl) (own_w hw 130 rfl) (own_w hw 131 rfl) e9 fc10 fc10 (Or.inr ⟨rfl, rfl, trivial⟩) (sp := (2 : Int32)) (dp := (1 : Int32)) (nn := (0 : Int32)) (us := []) (by decide) (by decide) (by decide) (by decide) (by decide) rfl (Nat.le_of_ble_eq_true rfl) N8 (by omega) (g := (mkF m 143 #[.val (.ref d), .val (.int (1 : Int32)), .val (.ref a1), .val (.int (17 : Int32)), .val (.int (0 : Int32)), .val (.int (2 : Int32)), .val (.int (1 : Int32)), .val (.int (0 : Int32))] [(.int (0 : Int32)), (.int (1 : Int32)), (.ref a1), (.int (2 : Int32)), (.ref a1)])) rfl (by rw [hml]; rfl) rfl (hb hby D16_143) (by decide) (W := 0) (by show 2 * 0 + _ ≤ _; exact Nat.le_of_eq rfl) (by decide)
  refine own_by st11 ?_
  have z11 := K11.1
  have Vw11 : Arv Z h11 a1 kk1 (.object s3_) (17 : Int32) [(.ref w1), (.ref w2)] .null := Vr11
  refine own_by (fun _ k => XS.goto X11.here hx rfl (pc0 := 146) (pc' := 182) rfl (hb hby D16_146) (by decide) (by decide) k) ?_
  refine own_by (fun _ k => XS.aloadN X11.here hx rfl (hb hby D16_182) rfl rfl k) ?_
  refine own_by (fun _ k => XS.aloadN X11.here hx rfl (hb hby D16_183) rfl rfl k) ?_
  have fc12 : Fld Z h11 d s14_ "tail" "I" (.int (1 : Int32)) := (Fw8.keep K11 (ninS (own_ne (by omega)) nin0))
  obtain ⟨T13, X13, e13, st13⟩ := getF X11 hx hZ hown (host := "") (Or.inl (own_w hw 90 rfl)) Via.refl e11 fc12 (g := (mkF m 184 #[.val (.ref d), .val (.int (1 : Int32)), .val (.ref a1), .val (.int (17 : Int32)), .val (.int (0 : Int32)), .val (.int (2 : Int32)), .val (.int (1 : Int32)), .val (.int (0 : Int32))] [(.ref d), (.ref a1)])) rfl rfl (hb hby D16_184)
  refine own_by st13 ?_
  show own_Go p e below (T13.setTop (mkF m 187 #[.val (.ref d), .val (.int (1 : Int32)), .val (.ref a1), .val (.int (17 : Int32)), .val (.int (0 : Int32)), .val (.int (2 : Int32)), .val (.int (1 : Int32)), .val (.int (0 : Int32))] [(.int (1 : Int32)), (.ref a1)])) _
  refine own_by (fun _ k => XS.aconstNull X13.here hx rfl (hb hby D16_187) k) ?_
  obtain ⟨cl14, Ar14, q14, S14, M14, H14, G14⟩ := (id Vw11)
  have hin14 : ¬ ((1 : Int32) < 0 ∨ cl14.slots.size ≤ ((1 : Int32)).toNatClampNeg) := inb_of S14 ⟨by decide, by decide⟩
  obtain ⟨T14, h14, X14, e14, W14, st14⟩ := stR X13 hx hZ e13 Ar14 (j := (1 : Int32)) hin14 rfl (Or.inl rfl) (g := (mkF m 188 #[.val (.ref d), .val (.int (1 : Int32)), .val (.ref a1), .val (.int (17 : Int32)), .val (.int (0 : Int32)), .val (.int (2 : Int32)), .val (.int (1 : Int32)), .val (.int (0 : Int32))] [.null, (.int (1 : Int32)), (.ref a1)])) rfl rfl (hb hby D16_188)
  refine own_by st14 ?_
  have z14 := W14.size
  have N14 := Fr.snoc X14 N11 (by omega)
  have Vw14 : Arv Z h14 a1 kk1 (.object s3_) (17 : Int32) [(.ref w1), .null] .null := Arv.set Ar14 q14 S14 M14 H14 G14 rfl W14 1 rfl (Nat.le_of_ble_eq_true rfl)
  refine own_by (fun _ k => XS.iconst X14.here hx rfl (hb hby D16_189) k) ?_
  have fc15 : Exa Z h14 d s14_ := (((Ed.wr W8).keep K11).wr W14)
  have fc16 : Fld Z h14 d s14_ "elements" s16_ (.ref a1) := (((Fe.other W8 (Or.inr (slot_ne (a0 := a0) (Or.inl (own_w hw 74 rfl)) (Or.inl (own_w hw 91 rfl)) (by decide) (t := (.array (.object s3_))) (by decide) (t' := .int) (by decide)))).keep K11 (ninS (own_ne (by omega)) nin0)).other W14 (Or.inl (own_ne (by omega))))
  have fc17 : Fld Z h14 d s14_ "head" "I" (.int (0 : Int32)) := (((Fh.other W8 (Or.inr (slot_ne (a0 := a0) (Or.inl (own_w hw 94 rfl)) (Or.inl (own_w hw 91 rfl)) (by decide) (t := .int) (by decide) (t' := .int) (by decide)))).keep K11 (ninS (own_ne (by omega)) nin0)).other W14 (Or.inl (own_ne (by omega))))
  have fc18 : Fld Z h14 d s14_ "tail" "I" (.int (1 : Int32)) := (fc12.other W14 (Or.inl (own_ne (by omega))))
  have Vs19 : Arv Z h14 a1 kk1 (.object s3_) (17 : Int32) [(.ref w1)] .null := Vw14.pad (fun i => (pad_rep [(.ref w1)] .null 1 i).symm)
  have K20 : Keep h0 h14 [d, a1] := ((((Keep.refl h0 [d, a1]).wr W8 (Or.inl (List.mem_of_getElem? (i := 0) rfl))).trans K11 (allS (P := fun x => x ∈ [d, a1] ∨ h0.size ≤ x) (Or.inl (List.mem_of_getElem? (i := 1) rfl)) all0)).wr W14 (Or.inl (List.mem_of_getElem? (i := 1) rfl)))
  obtain ⟨fs, hr, hrun, hended, hW, hsame⟩ := X14.leave (v := some (.int (1 : Int32))) (fun h => by rw [Bd.returns] at h; cases h)
  refine ⟨_, _, retN X14 hx (t := .boolean) Bd.returns (by simp) (hb hby D16_190) hr, hrun, hended, _, _, rfl, ?_, ⟨_, rfl⟩, hW, hsame.mono (by decide) (by decide)⟩
  show Q_rm_del_0_2_w1_w2_1 Z d a1 kk1 w1 w2 h0 n0 _ T14.heap _
  rw [e14]
  exact ⟨rfl, N14, K20, fc15, fc16, fc17, fc18, Vs19⟩
theorem D14_59 : decode jdk_21_method_26_code 59 = .ok (.iinc 3 1, 3) := by decide +kernel
theorem D14_62 : decode jdk_21_method_26_code 62 = .ok (.goto (-27), 3) := by decide +kernel
def Q_rm_rfo_0_2_w1_w2_w2 (Z : State) (d : Addr) (a1 : Addr) (kk1 : ClassId) (w1 : Addr) (w2 : Addr) (h0 : Heap) (n0 : Nat) (v : Option Value) (h : Heap) (L : List Loc) : Prop := v = some (.int (1 : Int32)) ∧ Fr n0 L ∧ Keep h0 h [d, a1] ∧ Exa Z h d s14_ ∧ Fld Z h d s14_ "elements" s16_ (.ref a1) ∧ Fld Z h d s14_ "head" "I" (.int (0 : Int32)) ∧ Fld Z h d s14_ "tail" "I" (.int (1 : Int32)) ∧ Arv Z h a1 kk1 (.object s3_) (17 : Int32) [(.ref w1)] .null
theorem ef_rm_rfo_0_2_w1_w2_w2 (m : MethodId) (d : Addr) (a1 : Addr) (kk1 : ClassId) (w1 : Addr) (w2 : Addr) : entryFrame m #[(.ref d), (.ref w2)] 6 = mkF m 0 #[.val (.ref d), .val (.ref w2), .unset, .unset, .unset, .unset] [] := by first | (simp [entryFrame, mkF, argsToLocals, Value.category]; done) | rfl
set_option maxRecDepth 65536 in
set_option maxHeartbeats 40000000 in
theorem rm_rfo_0_2_w1_w2_w2 (l : Launch) (Z : State) (a0 : Array Value) (hw : ∀ d ∈ tables_1, d.before a0 Z = true) (ws : List Jvm.Cond) (d : Addr) (a1 : Addr) (kk1 : ClassId) (w1 : Addr) (w2 : Addr) (h0 : Heap) (n0 : Nat) (O0 : Old Z n0 h0) (Ed : Exa Z h0 d s14_) (Fe : Fld Z h0 d s14_ "elements" s16_ (.ref a1)) (Fh : Fld Z h0 d s14_ "head" "I" (.int (0 : Int32))) (Ft : Fld Z h0 d s14_ "tail" "I" (.int (2 : Int32))) (Va : Arv Z h0 a1 kk1 (.object s3_) (17 : Int32) [(.ref w1), (.ref w2)] .null) (Ew : Exa Z h0 w2 s5_) (gd : n0 ≤ d) (ga : n0 ≤ a1) (nda : ¬ (@Eq Nat d a1)) (n_w2_w1 : ¬ (w2 = w1)) :
    MetFree l (⟨s14_, s21_, s20_⟩ : MethodName) (head1 (Jvm.Cond.code (⟨s14_, s21_, s20_⟩ : MethodName) jdk_21_method_26_code 6 (some .boolean) :: ws) ({ frames := 2, cells := 0, slots := 0, locals := 37 } : Room)) (fun a U => a = #[(.ref d), (.ref w2)] ∧ Z.Warmed39 U.vm ∧ U.heap = h0) (fun _ _ _ _ _ => True) (fun _ U o U' => ∃ v L, o = .returned v ∧ Q_rm_rfo_0_2_w1_w2_w2 Z d a1 kk1 w1 w2 h0 n0 v U'.heap L ∧ FrameEnd U o U' L ({ frames := 2, cells := 0, slots := 0, locals := 37 } : Room).cells ({ frames := 2, cells := 0, slots := 0, locals := 37 } : Room).slots) := by
  refine MetFree.of_bodySF (plainFor_of_name own_pn_java_util_ArrayDeque) hisR ?_
  intro p e s m args below meth c s₁ Bd hml0 hP hK
  obtain ⟨rfl, hZ, hh⟩ := hP
  have hx := Bd.exec
  have hby := Bd.bytes
  have hml : c.maxLocals = 6 := hml0
  have hown : s.vm.findClass s14_ = some m.cls := findClass_of_methodNamed Bd.named
  have hnm := (name_of_methodNamed Bd.named Bd.method).1
  have X0 : Stand p l e ({ frames := 2, cells := 0, slots := 0, locals := 37 } : Room) s m #[(.ref d), (.ref w2)] below meth c s₁ [] 0 0 := Stand.of_body Bd
  have e0 : s₁.heap = h0 := by rw [← hh, Bd.state]; rfl
  have N0 := Fr.nil n0
  have Z0 : n0 ≤ h0.size := by rw [← O0.1]; exact O0.2.1
  show own_Go p e below (s₁.setTop (entryFrame m #[(.ref d), (.ref w2)] 6)) (fun t o => ∃ v L, o = .returned v ∧ Q_rm_rfo_0_2_w1_w2_w2 Z d a1 kk1 w1 w2 h0 n0 v t.heap L ∧ FrameEnd s o t L ({ frames := 2, cells := 0, slots := 0, locals := 37 } : Room).cells ({ frames := 2, cells := 0, slots := 0, locals := 37 } : Room).slots)
  rw [ef_rm_rfo_0_2_w1_w2_w2 m d a1 kk1 w1 w2]
  have lt_Ed : h0.size > d := Ed.lt
  have lt_Fe : h0.size > d := Fe.lt
  have lt_Fh : h0.size > d := Fh.lt
  have lt_Ft : h0.size > d := Ft.lt
  have lt_Va : h0.size > a1 := Va.lt
  have lt_Ew : h0.size > w2 := Ew.lt
  refine own_by (fun _ k => XS.aloadN X0.here hx rfl (hb hby D14_0) rfl rfl k) ?_
  refine own_by (fun _ k => XS.ifnullNo X0.here hx rfl (hb hby D14_1) rfl k) ?_
  refine own_by (fun _ k => XS.aloadN X0.here hx rfl (hb hby D14_4) rfl rfl k) ?_
  obtain ⟨T1, X1, e1, st1⟩ := getF X0 hx hZ hown (host := "") (Or.inl (own_w hw 73 rfl)) Via.refl e0 Fe (g := (mkF m 5 #[.val (.ref d), .val (.ref w2), .unset, .unset, .unset, .unset] [(.ref d)])) rfl rfl (hb hby D14_5)
  refine own_by st1 ?_
  refine own_by (fun _ k => XS.astoreN X1.here hx rfl (hb hby D14_8) rfl rfl (l' := #[.val (.ref d), .val (.ref w2), .val (.ref a1), .unset, .unset, .unset]) rfl k) ?_
  refine own_by (fun _ k => XS.aloadN X1.here hx rfl (hb hby D14_9) rfl rfl k) ?_
  show own_Go p e below (T1.setTop (mkF m 10 #[.val (.ref d), .val (.ref w2), .val (.ref a1), .unset, .unset, .unset] [(.ref d)])) _
  obtain ⟨T2, X2, e2, st2⟩ := getF X1 hx hZ hown (host := "") (Or.inl (own_w hw 93 rfl)) Via.refl e1 Fh (g := (mkF m 10 #[.val (.ref d), .val (.ref w2), .val (.ref a1), .unset, .unset, .unset] [(.ref d)])) rfl rfl (hb hby D14_10)
  refine own_by st2 ?_
  refine own_by (fun _ k => XS.istoreN X2.here hx rfl (hb hby D14_13) rfl (l' := #[.val (.ref d), .val (.ref w2), .val (.ref a1), .val (.int (0 : Int32)), .unset, .unset]) rfl k) ?_
  refine own_by (fun _ k => XS.aloadN X2.here hx rfl (hb hby D14_14) rfl rfl k) ?_
  obtain ⟨T3, X3, e3, st3⟩ := getF X2 hx hZ hown (host := "") (Or.inl (own_w hw 90 rfl)) Via.refl e2 Ft (g := (mkF m 15 #[.val (.ref d), .val (.ref w2), .val (.ref a1), .val (.int (0 : Int32)), .unset, .unset] [(.ref d)])) rfl rfl (hb hby D14_15)
  refine own_by st3 ?_
  refine own_by (fun _ k => XS.istore X3.here hx rfl (hb hby D14_18) rfl (l' := #[.val (.ref d), .val (.ref w2), .val (.ref a1), .val (.int (0 : Int32)), .val (.int (2 : Int32)), .unset]) rfl k) ?_
  refine own_by (fun _ k => XS.iloadN X3.here hx rfl (hb hby D14_20) rfl k) ?_
  show own_Go p e below (T3.setTop (mkF m 21 #[.val (.ref d), .val (.ref w2), .val (.ref a1), .val (.int (0 : Int32)), .val (.int (2 : Int32)), .unset] [(.int (0 : Int32))])) _
  refine own_by (fun _ k => XS.iload X3.here hx rfl (hb hby D14_21) rfl k) ?_
  refine own_by (fun _ k => XS.icmpNo X3.here hx rfl (hb hby D14_23) rfl (flt (by decide : ¬ ((2 : Int32) < (0 : Int32)))).2.2.1 k) ?_
  show own_Go p e below (T3.setTop (mkF m 26 #[.val (.ref d), .val (.ref w2), .val (.ref a1), .val (.int (0 : Int32)), .val (.int (2 : Int32)), .unset] [])) _
  refine own_by (fun _ k => XS.iload X3.here hx rfl (hb hby D14_26) rfl k) ?_
  refine own_by (fun _ k => XS.goto X3.here hx rfl (pc0 := 28) (pc' := 33) rfl (hb hby D14_28) (by decide) (by decide) k) ?_
  refine own_by (fun _ k => XS.istore X3.here hx rfl (hb hby D14_33) rfl (l' := #[.val (.ref d), .val (.ref w2), .val (.ref a1), .val (.int (0 : Int32)), .val (.int (2 : Int32)), .val (.int (2 : Int32))]) rfl k) ?_
  refine own_by (fun _ k => XS.iloadN X3.here hx rfl (hb hby D14_35) rfl k) ?_
  refine own_by (fun _ k => XS.iload X3.here hx rfl (hb hby D14_36) rfl k) ?_
  refine own_by (fun _ k => XS.icmpNo X3.here hx rfl (hb hby D14_38) rfl (tlt (by decide : (0 : Int32) < (2 : Int32))).2.1 k) ?_
  show own_Go p e below (T3.setTop (mkF m 41 #[.val (.ref d), .val (.ref w2), .val (.ref a1), .val (.int (0 : Int32)), .val (.int (2 : Int32)), .val (.int (2 : Int32))] [])) _
  refine own_by (fun _ k => XS.aloadN X3.here hx rfl (hb hby D14_41) rfl rfl k) ?_
  refine own_by (fun _ k => XS.aloadN X3.here hx rfl (hb hby D14_42) rfl rfl k) ?_
  refine own_by (fun _ k => XS.iloadN X3.here hx rfl (hb hby D14_43) rfl k) ?_
  obtain ⟨cl4, Ar4, q4, S4, M4, H4, G4⟩ := (id Va)
  have hin4 : ¬ ((0 : Int32) < 0 ∨ cl4.slots.size ≤ ((0 : Int32)).toNatClampNeg) := inb_of S4 ⟨by decide, by decide⟩
  refine own_by (X3.aaload hx (j := (0 : Int32)) (v := (.ref w1)) (by rw [e3]; exact Ar4.1) (State.isArrayOf_alike hZ.alike Ar4.2.1) rfl Ar4.2.2 hin4 (H4.at hin4 rfl) (g := (mkF m 44 #[.val (.ref d), .val (.ref w2), .val (.ref a1), .val (.int (0 : Int32)), .val (.int (2 : Int32)), .val (.int (2 : Int32))] [(.int (0 : Int32)), (.ref a1), (.ref w2)])) rfl rfl (hb hby D14_44)) ?_
  obtain ⟨cq5, kq5, q5a, q5b, q5c⟩ := isOf hZ e3 Ew
  obtain ⟨_, _, ⟨T5, L5, k5, n5⟩, -, X5, ⟨Lc5, hQ5, l5, y5, z5⟩, st5⟩ := X3.virtualBack hx (y := (⟨s3_, "equals", s20_⟩ : MethodName)) (z := (⟨s3_, "equals", s20_⟩ : MethodName)) hown (mvT hZ (own_w hw 113 rfl)) (mvT hZ (own_w hw 114 rfl)) (notFace_of_selects (args := #[]) (mvT hZ (own_w hw 116 rfl))) (mvT hZ (own_w hw 116 rfl)) (mvT hZ (own_w hw 115 rfl)) (by decide) (own_oeq (W := 0) (h0 := h0) (n0 := n0) hx w2 w1 hZ (own_w hw 117 rfl) (by decide) (by decide)) q5a q5c (g := (mkF m 45 #[.val (.ref d), .val (.ref w2), .val (.ref a1), .val (.int (0 : Int32)), .val (.int (2 : Int32)), .val (.int (2 : Int32))] [(.ref w1), (.ref w2)])) rfl (by rw [hml]; rfl) (Steps.refl _) (argsL := [(.ref w1)]) (rest := []) (lenOf own_pd__28Ljava_2flang_2fObject_3b_29Z rfl) rfl (by show 2 * 0 + _ ≤ _; exact Nat.le_of_eq rfl) (hb hby D14_45) (fun _ _ => ⟨rfl, e3, (by decide : 0 + 0 ≤ _), (by decide : 0 + 0 ≤ _)⟩)
  dsimp only [Pt.U, Pt.locs, Pt.cells, Pt.slots] at X5 l5 y5 z5 st5 hQ5
  subst l5 y5 z5
  obtain ⟨rfl, M5, K5⟩ := hQ5
  have N5 := Fr.app N0 M5
  refine own_by (fun _ k => st5.trans k) ?_
  refine own_by (fun _ k => XS.ifYes X5.here hx rfl (pc0 := 48) (pc' := 59) rfl (hb hby D14_48) rfl ((if0 _ _).trans (teq (if_neg n_w2_w1 : own_oeqV w2 w1 = 0)).1) (by decide) (by decide) k) ?_
  show own_Go p e below (T5.setTop (mkF m 59 #[.val (.ref d), .val (.ref w2), .val (.ref a1), .val (.int (0 : Int32)), .val (.int (2 : Int32)), .val (.int (2 : Int32))] [])) _
  refine own_by (fun _ k => XS.iinc X5.here hx rfl (hb hby D14_59) rfl (l' := #[.val (.ref d), .val (.ref w2), .val (.ref a1), .val (.int (1 : Int32)), .val (.int (2 : Int32)), .val (.int (2 : Int32))]) rfl k) ?_
  refine own_by (fun _ k => XS.goto X5.here hx rfl (pc0 := 62) (pc' := 35) rfl (hb hby D14_62) (by decide) (by decide) k) ?_
  refine own_by (fun _ k => XS.iloadN X5.here hx rfl (hb hby D14_35) rfl k) ?_
  refine own_by (fun _ k => XS.iload X5.here hx rfl (hb hby D14_36) rfl k) ?_
  refine own_by (fun _ k => XS.icmpNo X5.here hx rfl (hb hby D14_38) rfl (tlt (by decide : (1 : Int32) < (2 : Int32))).2.1 k) ?_
  show own_Go p e below (T5.setTop (mkF m 41 #[.val (.ref d), .val (.ref w2), .val (.ref a1), .val (.int (1 : Int32)), .val (.int (2 : Int32)), .val (.int (2 : Int32))] [])) _
  refine own_by (fun _ k => XS.aloadN X5.here hx rfl (hb hby D14_41) rfl rfl k) ?_
  refine own_by (fun _ k => XS.aloadN X5.here hx rfl (hb hby D14_42) rfl rfl k) ?_
  refine own_by (fun _ k => XS.iloadN X5.here hx rfl (hb hby D14_43) rfl k) ?_
  obtain ⟨cl6, Ar6, q6, S6, M6, H6, G6⟩ := (id Va)
  have hin6 : ¬ ((1 : Int32) < 0 ∨ cl6.slots.size ≤ ((1 : Int32)).toNatClampNeg) := inb_of S6 ⟨by decide, by decide⟩
  refine own_by (X5.aaload hx (j := (1 : Int32)) (v := (.ref w2)) (by rw [K5]; exact Ar6.1) (State.isArrayOf_alike hZ.alike Ar6.2.1) rfl Ar6.2.2 hin6 (H6.at hin6 rfl) (g := (mkF m 44 #[.val (.ref d), .val (.ref w2), .val (.ref a1), .val (.int (1 : Int32)), .val (.int (2 : Int32)), .val (.int (2 : Int32))] [(.int (1 : Int32)), (.ref a1), (.ref w2)])) rfl rfl (hb hby D14_44)) ?_
  obtain ⟨cq7, kq7, q7a, q7b, q7c⟩ := isOf hZ K5 Ew
  obtain ⟨_, _, ⟨T7, L7, k7, n7⟩, -, X7, ⟨Lc7, hQ7, l7, y7, z7⟩, st7⟩ := X5.virtualBack hx (y := (⟨s3_, "equals", s20_⟩ : MethodName)) (z := (⟨s3_, "equals", s20_⟩ : MethodName)) hown (mvT hZ (own_w hw 113 rfl)) (mvT hZ (own_w hw 114 rfl)) (notFace_of_selects (args := #[]) (mvT hZ (own_w hw 116 rfl))) (mvT hZ (own_w hw 116 rfl)) (mvT hZ (own_w hw 115 rfl)) (by decide) (own_oeq (W := 0) (h0 := h0) (n0 := n0) hx w2 w2 hZ (own_w hw 117 rfl) (by decide) (by decide)) q7a q7c (g := (mkF m 45 #[.val (.ref d), .val (.ref w2), .val (.ref a1), .val (.int (1 : Int32)), .val (.int (2 : Int32)), .val (.int (2 : Int32))] [(.ref w2), (.ref w2)])) rfl (by rw [hml]; rfl) (Steps.refl _) (argsL := [(.ref w2)]) (rest := []) (lenOf own_pd__28Ljava_2flang_2fObject_3b_29Z rfl) rfl (by show 2 * 0 + _ ≤ _; exact Nat.le_of_eq rfl) (hb hby D14_45) (fun _ _ => ⟨rfl, K5, (by decide : 0 + 0 ≤ _), (by decide : 0 + 0 ≤ _)⟩)
  dsimp only [Pt.U, Pt.locs, Pt.cells, Pt.slots] at X7 l7 y7 z7 st7 hQ7
  subst l7 y7 z7
  obtain ⟨rfl, M7, K7⟩ := hQ7
  have N7 := Fr.app N5 M7
  refine own_by (fun _ k => st7.trans k) ?_
  refine own_by (fun _ k => XS.ifNo X7.here hx rfl (hb hby D14_48) rfl ((if0 _ _).trans (feq (own_oeq_same w2)).1) k) ?_
  show own_Go p e below (T7.setTop (mkF m 51 #[.val (.ref d), .val (.ref w2), .val (.ref a1), .val (.int (1 : Int32)), .val (.int (2 : Int32)), .val (.int (2 : Int32))] [])) _
  refine own_by (fun _ k => XS.aloadN X7.here hx rfl (hb hby D14_51) rfl rfl k) ?_
  refine own_by (fun _ k => XS.iloadN X7.here hx rfl (hb hby D14_52) rfl k) ?_
  obtain ⟨cq8, kq8, q8a, q8b, q8c⟩ := isOf hZ K7 Ed
  obtain ⟨_, _, ⟨T8, L8, k8, n8⟩, -, X8, ⟨Lc8, hQ8, l8, y8, z8⟩, st8⟩ := X7.virtualBack hx (y := (⟨s14_, "delete", "(I)Z"⟩ : MethodName)) (z := (⟨s14_, "delete", "(I)Z"⟩ : MethodName)) hown (mvT hZ (own_w hw 118 rfl)) (mvT hZ (own_w hw 119 rfl)) (notFace_of_selects (args := #[]) (mvT hZ (own_w hw 121 rfl))) (mvT hZ (own_w hw 121 rfl)) (mvT hZ (own_w hw 120 rfl)) (by decide) (backOf (W := 0) (rm_del_0_2_w1_w2_1 l Z a0 hw [] d a1 kk1 w1 w2 h0 n0 O0 Ed Fe Fh Ft Va gd ga nda) hZ (own_w hw 122 rfl) (own_w hw 60 rfl) (by decide) (by decide)) q8a q8c (g := (mkF m 53 #[.val (.ref d), .val (.ref w2), .val (.ref a1), .val (.int (1 : Int32)), .val (.int (2 : Int32)), .val (.int (2 : Int32))] [(.int (1 : Int32)), (.ref d)])) rfl (by rw [hml]; rfl) (Steps.refl _) (argsL := [(.int (1 : Int32))]) (rest := []) (lenOf own_pd__28I_29Z rfl) rfl (by show 2 * 0 + _ ≤ _; exact Nat.le_of_eq rfl) (hb hby D14_53) (fun _ _ => ⟨rfl, K7, (by decide : 0 + 0 ≤ _), (by decide : 0 + 0 ≤ _)⟩)
  dsimp only [Pt.U, Pt.locs, Pt.cells, Pt.slots] at X8 l8 y8 z8 st8 hQ8
  subst l8 y8 z8
  obtain ⟨rfl, M8, K8, g8_0, g8_1, g8_2, g8_3, g8_4⟩ := hQ8
  have N8 := Fr.app N7 M8
  refine own_by (fun _ k => st8.trans k) ?_
  have z8 := K8.1
  have lt_g8_0 : T8.heap.size > d := g8_0.lt
  have lt_g8_1 : T8.heap.size > d := g8_1.lt
  have lt_g8_2 : T8.heap.size > d := g8_2.lt
  have lt_g8_3 : T8.heap.size > d := g8_3.lt
  have lt_g8_4 : T8.heap.size > a1 := g8_4.lt
  refine own_by (fun _ k => XS.pop X8.here hx rfl (hb hby D14_56) rfl rfl k) ?_
  refine own_by (fun _ k => XS.iconst X8.here hx rfl (hb hby D14_57) k) ?_
  have K9 : Keep h0 T8.heap [d, a1] := ((Keep.refl h0 [d, a1]).trans K8 (allS (P := fun x => x ∈ [d, a1] ∨ h0.size ≤ x) (Or.inl (List.mem_of_getElem? (i := 0) rfl)) (allS (P := fun x => x ∈ [d, a1] ∨ h0.size ≤ x) (Or.inl (List.mem_of_getElem? (i := 1) rfl)) all0)))
  obtain ⟨fs, hr, hrun, hended, hW, hsame⟩ := X8.leave (v := some (.int (1 : Int32))) (fun h => by rw [Bd.returns] at h; cases h)
  refine ⟨_, _, retN X8 hx (t := .boolean) Bd.returns (by simp) (hb hby D14_58) hr, hrun, hended, _, _, rfl, ?_, ⟨_, rfl⟩, hW, hsame.mono (by decide) (by decide)⟩
  show Q_rm_rfo_0_2_w1_w2_w2 Z d a1 kk1 w1 w2 h0 n0 _ T8.heap _
  exact ⟨rfl, N8, K9, g8_0, g8_1, g8_2, g8_3, g8_4⟩
def Q_rm_rem_0_2_w1_w2_w2 (Z : State) (d : Addr) (a1 : Addr) (kk1 : ClassId) (w1 : Addr) (w2 : Addr) (h0 : Heap) (n0 : Nat) (v : Option Value) (h : Heap) (L : List Loc) : Prop := v = some (.int (1 : Int32)) ∧ Fr n0 L ∧ Keep h0 h [d, a1] ∧ Exa Z h d s14_ ∧ Fld Z h d s14_ "elements" s16_ (.ref a1) ∧ Fld Z h d s14_ "head" "I" (.int (0 : Int32)) ∧ Fld Z h d s14_ "tail" "I" (.int (1 : Int32)) ∧ Arv Z h a1 kk1 (.object s3_) (17 : Int32) [(.ref w1)] .null
theorem ef_rm_rem_0_2_w1_w2_w2 (m : MethodId) (d : Addr) (a1 : Addr) (kk1 : ClassId) (w1 : Addr) (w2 : Addr) : entryFrame m #[(.ref d), (.ref w2)] 2 = mkF m 0 #[.val (.ref d), .val (.ref w2)] [] := by first | (simp [entryFrame, mkF, argsToLocals, Value.category]; done) | rfl
set_option maxRecDepth 65536 in
set_option maxHeartbeats 40000000 in
theorem rm_rem_0_2_w1_w2_w2 (l : Launch) (Z : State) (a0 : Array Value) (hw : ∀ d ∈ tables_1, d.before a0 Z = true) (ws : List Jvm.Cond) (d : Addr) (a1 : Addr) (kk1 : ClassId) (w1 : Addr) (w2 : Addr) (h0 : Heap) (n0 : Nat) (O0 : Old Z n0 h0) (Ed : Exa Z h0 d s14_) (Fe : Fld Z h0 d s14_ "elements" s16_ (.ref a1)) (Fh : Fld Z h0 d s14_ "head" "I" (.int (0 : Int32))) (Ft : Fld Z h0 d s14_ "tail" "I" (.int (2 : Int32))) (Va : Arv Z h0 a1 kk1 (.object s3_) (17 : Int32) [(.ref w1), (.ref w2)] .null) (Ew : Exa Z h0 w2 s5_) (gd : n0 ≤ d) (ga : n0 ≤ a1) (nda : ¬ (@Eq Nat d a1)) (n_w2_w1 : ¬ (w2 = w1)) :
    MetFree l (⟨s14_, "remove", s20_⟩ : MethodName) (head1 (Jvm.Cond.code (⟨s14_, "remove", s20_⟩ : MethodName) jdk_21_method_52_code 2 (some .boolean) :: ws) ({ frames := 3, cells := 0, slots := 0, locals := 54 } : Room)) (fun a U => a = #[(.ref d), (.ref w2)] ∧ Z.Warmed39 U.vm ∧ U.heap = h0) (fun _ _ _ _ _ => True) (fun _ U o U' => ∃ v L, o = .returned v ∧ Q_rm_rem_0_2_w1_w2_w2 Z d a1 kk1 w1 w2 h0 n0 v U'.heap L ∧ FrameEnd U o U' L ({ frames := 3, cells := 0, slots := 0, locals := 54 } : Room).cells ({ frames := 3, cells := 0, slots := 0, locals := 54 } : Room).slots) := by
  refine MetFree.of_bodySF (plainFor_of_name own_pn_java_util_ArrayDeque) hisR ?_
  intro p e s m args below meth c s₁ Bd hml0 hP hK
  obtain ⟨rfl, hZ, hh⟩ := hP
  have hx := Bd.exec
  have hby := Bd.bytes
  have hml : c.maxLocals = 2 := hml0
  have hown : s.vm.findClass s14_ = some m.cls := findClass_of_methodNamed Bd.named
  have hnm := (name_of_methodNamed Bd.named Bd.method).1
  have X0 : Stand p l e ({ frames := 3, cells := 0, slots := 0, locals := 54 } : Room) s m #[(.ref d), (.ref w2)] below meth c s₁ [] 0 0 := Stand.of_body Bd
  have e0 : s₁.heap = h0 := by rw [← hh, Bd.state]; rfl
  have N0 := Fr.nil n0
  have Z0 : n0 ≤ h0.size := by rw [← O0.1]; exact O0.2.1
  show own_Go p e below (s₁.setTop (entryFrame m #[(.ref d), (.ref w2)] 2)) (fun t o => ∃ v L, o = .returned v ∧ Q_rm_rem_0_2_w1_w2_w2 Z d a1 kk1 w1 w2 h0 n0 v t.heap L ∧ FrameEnd s o t L ({ frames := 3, cells := 0, slots := 0, locals := 54 } : Room).cells ({ frames := 3, cells := 0, slots := 0, locals := 54 } : Room).slots)
  rw [ef_rm_rem_0_2_w1_w2_w2 m d a1 kk1 w1 w2]
  have lt_Ed : h0.size > d := Ed.lt
  have lt_Fe : h0.size > d := Fe.lt
  have lt_Fh : h0.size > d := Fh.lt
  have lt_Ft : h0.size > d := Ft.lt
  have lt_Va : h0.size > a1 := Va.lt
  have lt_Ew : h0.size > w2 := Ew.lt
  refine own_by (fun _ k => XS.aloadN X0.here hx rfl (hb hby D13_0) rfl rfl k) ?_
  refine own_by (fun _ k => XS.aloadN X0.here hx rfl (hb hby D13_1) rfl rfl k) ?_
  obtain ⟨cq1, kq1, q1a, q1b, q1c⟩ := isOf hZ e0 Ed
  obtain ⟨_, _, ⟨T1, L1, k1, n1⟩, -, X1, ⟨Lc1, hQ1, l1, y1, z1⟩, st1⟩ := X0.virtualBack hx (y := (⟨s14_, s21_, s20_⟩ : MethodName)) (z := (⟨s14_, s21_, s20_⟩ : MethodName)) hown (mvT hZ (own_w hw 108 rfl)) (mvT hZ (own_w hw 109 rfl)) (notFace_of_selects (args := #[]) (mvT hZ (own_w hw 111 rfl))) (mvT hZ (own_w hw 111 rfl)) (mvT hZ (own_w hw 110 rfl)) (by decide) (backOf (W := 0) (rm_rfo_0_2_w1_w2_w2 l Z a0 hw [] d a1 kk1 w1 w2 h0 n0 O0 Ed Fe Fh Ft Va Ew gd ga nda n_w2_w1) hZ (own_w hw 112 rfl) (own_w hw 60 rfl) (by decide) (by decide)) q1a q1c (g := (mkF m 2 #[.val (.ref d), .val (.ref w2)] [(.ref w2), (.ref d)])) rfl (by rw [hml]; rfl) (Steps.refl _) (argsL := [(.ref w2)]) (rest := []) (lenOf own_pd__28Ljava_2flang_2fObject_3b_29Z rfl) rfl (by show 2 * 0 + _ ≤ _; exact Nat.le_of_eq rfl) (hb hby D13_2) (fun _ _ => ⟨rfl, e0, (by decide : 0 + 0 ≤ _), (by decide : 0 + 0 ≤ _)⟩)
  dsimp only [Pt.U, Pt.locs, Pt.cells, Pt.slots] at X1 l1 y1 z1 st1 hQ1
  subst l1 y1 z1
  obtain ⟨rfl, M1, K1, g1_0, g1_1, g1_2, g1_3, g1_4⟩ := hQ1
  have N1 := Fr.app N0 M1
  refine own_by (fun _ k => st1.trans k) ?_
  have z1 := K1.1
  have lt_g1_0 : T1.heap.size > d := g1_0.lt
  have lt_g1_1 : T1.heap.size > d := g1_1.lt
  have lt_g1_2 : T1.heap.size > d := g1_2.lt
  have lt_g1_3 : T1.heap.size > d := g1_3.lt
  have lt_g1_4 : T1.heap.size > a1 := g1_4.lt
  have K2 : Keep h0 T1.heap [d, a1] := ((Keep.refl h0 [d, a1]).trans K1 (allS (P := fun x => x ∈ [d, a1] ∨ h0.size ≤ x) (Or.inl (List.mem_of_getElem? (i := 0) rfl)) (allS (P := fun x => x ∈ [d, a1] ∨ h0.size ≤ x) (Or.inl (List.mem_of_getElem? (i := 1) rfl)) all0)))
  obtain ⟨fs, hr, hrun, hended, hW, hsame⟩ := X1.leave (v := some (.int (1 : Int32))) (fun h => by rw [Bd.returns] at h; cases h)
  refine ⟨_, _, retN X1 hx (t := .boolean) Bd.returns (by simp) (hb hby D13_5) hr, hrun, hended, _, _, rfl, ?_, ⟨_, rfl⟩, hW, hsame.mono (by decide) (by decide)⟩
  show Q_rm_rem_0_2_w1_w2_w2 Z d a1 kk1 w1 w2 h0 n0 _ T1.heap _
  exact ⟨rfl, N1, K2, g1_0, g1_1, g1_2, g1_3, g1_4⟩
def Q_rm_emp0_1 (Z : State) (d : Addr) (h0 : Heap) (n0 : Nat) (v : Option Value) (h : Heap) (L : List Loc) : Prop := v = some (.int (0 : Int32)) ∧ Fr n0 L ∧ h = h0
theorem ef_rm_emp0_1 (m : MethodId) (d : Addr) : entryFrame m #[(.ref d)] 1 = mkF m 0 #[.val (.ref d)] [] := by first | (simp [entryFrame, mkF, argsToLocals, Value.category]; done) | rfl
set_option maxRecDepth 65536 in
set_option maxHeartbeats 40000000 in
theorem rm_emp0_1 (l : Launch) (Z : State) (a0 : Array Value) (hw : ∀ d ∈ tables_1, d.before a0 Z = true) (ws : List Jvm.Cond) (d : Addr) (h0 : Heap) (n0 : Nat) (O0 : Old Z n0 h0) (Fh : Fld Z h0 d s14_ "head" "I" (.int (0 : Int32))) (Ft : Fld Z h0 d s14_ "tail" "I" (.int (1 : Int32))) :
    MetFree l (⟨s14_, "isEmpty", "()Z"⟩ : MethodName) (head1 (Jvm.Cond.code (⟨s14_, "isEmpty", "()Z"⟩ : MethodName) jdk_21_method_38_code 1 (some .boolean) :: ws) ({ frames := 0, cells := 0, slots := 0, locals := 0 } : Room)) (fun a U => a = #[(.ref d)] ∧ Z.Warmed39 U.vm ∧ U.heap = h0) (fun _ _ _ _ _ => True) (fun _ U o U' => ∃ v L, o = .returned v ∧ Q_rm_emp0_1 Z d h0 n0 v U'.heap L ∧ FrameEnd U o U' L ({ frames := 0, cells := 0, slots := 0, locals := 0 } : Room).cells ({ frames := 0, cells := 0, slots := 0, locals := 0 } : Room).slots) := by
  refine MetFree.of_bodySF (plainFor_of_name own_pn_java_util_ArrayDeque) hisR ?_
  intro p e s m args below meth c s₁ Bd hml0 hP hK
  obtain ⟨rfl, hZ, hh⟩ := hP
  have hx := Bd.exec
  have hby := Bd.bytes
  have hml : c.maxLocals = 1 := hml0
  have hown : s.vm.findClass s14_ = some m.cls := findClass_of_methodNamed Bd.named
  have hnm := (name_of_methodNamed Bd.named Bd.method).1
  have X0 : Stand p l e ({ frames := 0, cells := 0, slots := 0, locals := 0 } : Room) s m #[(.ref d)] below meth c s₁ [] 0 0 := Stand.of_body Bd
  have e0 : s₁.heap = h0 := by rw [← hh, Bd.state]; rfl
  have N0 := Fr.nil n0
  have Z0 : n0 ≤ h0.size := by rw [← O0.1]; exact O0.2.1
  show own_Go p e below (s₁.setTop (entryFrame m #[(.ref d)] 1)) (fun t o => ∃ v L, o = .returned v ∧ Q_rm_emp0_1 Z d h0 n0 v t.heap L ∧ FrameEnd s o t L ({ frames := 0, cells := 0, slots := 0, locals := 0 } : Room).cells ({ frames := 0, cells := 0, slots := 0, locals := 0 } : Room).slots)
  rw [ef_rm_emp0_1 m d]
  have lt_Fh : h0.size > d := Fh.lt
  have lt_Ft : h0.size > d := Ft.lt
  refine own_by (fun _ k => XS.aloadN X0.here hx rfl (hb hby D19_0) rfl rfl k) ?_
  obtain ⟨T1, X1, e1, st1⟩ := getF X0 hx hZ hown (host := "") (Or.inl (own_w hw 93 rfl)) Via.refl e0 Fh (g := (mkF m 1 #[.val (.ref d)] [(.ref d)])) rfl rfl (hb hby D19_1)
  refine own_by st1 ?_
  refine own_by (fun _ k => XS.aloadN X1.here hx rfl (hb hby D19_4) rfl rfl k) ?_
  obtain ⟨T2, X2, e2, st2⟩ := getF X1 hx hZ hown (host := "") (Or.inl (own_w hw 90 rfl)) Via.refl e1 Ft (g := (mkF m 5 #[.val (.ref d)] [(.ref d), (.int (0 : Int32))])) rfl rfl (hb hby D19_5)
  refine own_by st2 ?_
  refine own_by (fun _ k => XS.icmpYes X2.here hx rfl (pc0 := 8) (pc' := 15) rfl (hb hby D19_8) rfl (feq (by decide : ¬ ((0 : Int32) = (1 : Int32)))).2 (by decide) (by decide) k) ?_
  show own_Go p e below (T2.setTop (mkF m 15 #[.val (.ref d)] [])) _
  refine own_by (fun _ k => XS.iconst X2.here hx rfl (hb hby D19_15) k) ?_
  obtain ⟨fs, hr, hrun, hended, hW, hsame⟩ := X2.leave (v := some (.int (0 : Int32))) (fun h => by rw [Bd.returns] at h; cases h)
  refine ⟨_, _, retN X2 hx (t := .boolean) Bd.returns (by simp) (hb hby D19_16) hr, hrun, hended, _, _, rfl, ?_, ⟨_, rfl⟩, hW, hsame.mono (by decide) (by decide)⟩
  show Q_rm_emp0_1 Z d h0 n0 _ T2.heap _
  rw [e2]
  exact ⟨rfl, N0, rfl⟩
def Q_rm_deq_0_0_0_2_w1_w2_w20 (Z : State) (en : Addr) (q : Addr) (d1 : Addr) (a1 : Addr) (kk1 : ClassId) (d2 : Addr) (a2 : Addr) (kk2 : ClassId) (w1 : Addr) (w2 : Addr) (h0 : Heap) (n0 : Nat) (v : Option Value) (h : Heap) (L : List Loc) : Prop := v = none ∧ Fr n0 L ∧ Keep h0 h [en, d2, a2] ∧ Fld Z h en s2_ "queues" s11_ (.ref q) ∧ Exa Z h q s13_ ∧ Fld Z h q s13_ "conversions" s17_ (.ref d1) ∧ Fld Z h q s13_ "requests" s17_ (.ref d2) ∧ Exa Z h d1 s14_ ∧ Fld Z h d1 s14_ "elements" s16_ (.ref a1) ∧ Fld Z h d1 s14_ "head" "I" (.int (0 : Int32)) ∧ Fld Z h d1 s14_ "tail" "I" (.int (0 : Int32)) ∧ Arv Z h a1 kk1 (.object s3_) (17 : Int32) [] .null ∧ Exa Z h d2 s14_ ∧ Fld Z h d2 s14_ "elements" s16_ (.ref a2) ∧ Fld Z h d2 s14_ "head" "I" (.int (0 : Int32)) ∧ Fld Z h d2 s14_ "tail" "I" (.int (1 : Int32)) ∧ Arv Z h a2 kk2 (.object s3_) (17 : Int32) [(.ref w1)] .null
theorem ef_rm_deq_0_0_0_2_w1_w2_w20 (m : MethodId) (en : Addr) (q : Addr) (d1 : Addr) (a1 : Addr) (kk1 : ClassId) (d2 : Addr) (a2 : Addr) (kk2 : ClassId) (w1 : Addr) (w2 : Addr) : entryFrame m #[(.ref en), (.ref w2)] 2 = mkF m 0 #[.val (.ref en), .val (.ref w2)] [] := by first | (simp [entryFrame, mkF, argsToLocals, Value.category]; done) | rfl
set_option maxRecDepth 65536 in
set_option maxHeartbeats 40000000 in
theorem rm_deq_0_0_0_2_w1_w2_w20 (l : Launch) (Z : State) (a0 : Array Value) (hw : ∀ d ∈ tables_1, d.before a0 Z = true) (ws : List Jvm.Cond) (en : Addr) (q : Addr) (d1 : Addr) (a1 : Addr) (kk1 : ClassId) (d2 : Addr) (a2 : Addr) (kk2 : ClassId) (w1 : Addr) (w2 : Addr) (h0 : Heap) (n0 : Nat) (O0 : Old Z n0 h0) (Fq : Fld Z h0 en s2_ "queues" s11_ (.ref q)) (Ee : Exa Z h0 en s2_) (Ew : Exa Z h0 w2 s5_) (Fw : Fld Z h0 w2 s5_ "conversion" "Z" (.int (0 : Int32))) (G0 : Exa Z h0 q s13_) (G1 : Fld Z h0 q s13_ "conversions" s17_ (.ref d1)) (G2 : Fld Z h0 q s13_ "requests" s17_ (.ref d2)) (G3 : Exa Z h0 d1 s14_) (G4 : Fld Z h0 d1 s14_ "elements" s16_ (.ref a1)) (G5 : Fld Z h0 d1 s14_ "head" "I" (.int (0 : Int32))) (G6 : Fld Z h0 d1 s14_ "tail" "I" (.int (0 : Int32))) (G7 : Arv Z h0 a1 kk1 (.object s3_) (17 : Int32) [] .null) (G8 : Exa Z h0 d2 s14_) (G9 : Fld Z h0 d2 s14_ "elements" s16_ (.ref a2)) (G10 : Fld Z h0 d2 s14_ "head" "I" (.int (0 : Int32))) (G11 : Fld Z h0 d2 s14_ "tail" "I" (.int (2 : Int32))) (G12 : Arv Z h0 a2 kk2 (.object s3_) (17 : Int32) [(.ref w1), (.ref w2)] .null) (ge : n0 ≤ en) (nwe : ¬ (@Eq Nat w2 en)) (nea : ¬ (@Eq Nat en a2)) (ned : ¬ (@Eq Nat en d2)) (o0 : @LT.lt Nat _ q d1) (o1 : @LT.lt Nat _ d1 a1) (o2 : @LT.lt Nat _ a1 d2) (o3 : @LT.lt Nat _ d2 a2) (gq : n0 ≤ q) (ov1 : Ovr Z kk1 s3_) (ov2 : Ovr Z kk2 s3_) (n_w2_w1 : ¬ (w2 = w1)) :
    MetFree l (⟨s2_, "dequeue", s12_⟩ : MethodName) (head1 (Jvm.Cond.code (⟨s2_, "dequeue", s12_⟩ : MethodName) prog_11_method_11_code 2 none :: ws) ({ frames := 4, cells := 0, slots := 0, locals := 67 } : Room)) (fun a U => a = #[(.ref en), (.ref w2)] ∧ Z.Warmed39 U.vm ∧ U.heap = h0) (fun _ _ _ _ _ => True) (fun _ U o U' => ∃ v L, o = .returned v ∧ Q_rm_deq_0_0_0_2_w1_w2_w20 Z en q d1 a1 kk1 d2 a2 kk2 w1 w2 h0 n0 v U'.heap L ∧ FrameEnd U o U' L ({ frames := 4, cells := 0, slots := 0, locals := 67 } : Room).cells ({ frames := 4, cells := 0, slots := 0, locals := 67 } : Room).slots) := by
  refine MetFree.of_bodySF (plainFor_of_name own_pn_com_example_admit1_admit1_lock_LockEntry) hisR ?_
  intro p e s m args below meth c s₁ Bd hml0 hP hK
  obtain ⟨rfl, hZ, hh⟩ := hP
  have hx := Bd.exec
  have hby := Bd.bytes
  have hml : c.maxLocals = 2 := hml0
  have hown : s.vm.findClass s2_ = some m.cls := findClass_of_methodNamed Bd.named
  have hnm := (name_of_methodNamed Bd.named Bd.method).1
  have X0 : Stand p l e ({ frames := 4, cells := 0, slots := 0, locals := 67 } : Room) s m #[(.ref en), (.ref w2)] below meth c s₁ [] 0 0 := Stand.of_body Bd
  have e0 : s₁.heap = h0 := by rw [← hh, Bd.state]; rfl
  have N0 := Fr.nil n0
  have Z0 : n0 ≤ h0.size := by rw [← O0.1]; exact O0.2.1
  show own_Go p e below (s₁.setTop (entryFrame m #[(.ref en), (.ref w2)] 2)) (fun t o => ∃ v L, o = .returned v ∧ Q_rm_deq_0_0_0_2_w1_w2_w20 Z en q d1 a1 kk1 d2 a2 kk2 w1 w2 h0 n0 v t.heap L ∧ FrameEnd s o t L ({ frames := 4, cells := 0, slots := 0, locals := 67 } : Room).cells ({ frames := 4, cells := 0, slots := 0, locals := 67 } : Room).slots)
  rw [ef_rm_deq_0_0_0_2_w1_w2_w20 m en q d1 a1 kk1 d2 a2 kk2 w1 w2]
  have lt_Fq : h0.size > en := Fq.lt
  have lt_Ee : h0.size > en := Ee.lt
  have lt_Ew : h0.size > w2 := Ew.lt
  have lt_Fw : h0.size > w2 := Fw.lt
  have lt_G0 : h0.size > q := G0.lt
  have lt_G1 : h0.size > q := G1.lt
  have lt_G2 : h0.size > q := G2.lt
  have lt_G3 : h0.size > d1 := G3.lt
  have lt_G4 : h0.size > d1 := G4.lt
  have lt_G5 : h0.size > d1 := G5.lt
  have lt_G6 : h0.size > d1 := G6.lt
  have lt_G7 : h0.size > a1 := G7.lt
  have lt_G8 : h0.size > d2 := G8.lt
  have lt_G9 : h0.size > d2 := G9.lt
  have lt_G10 : h0.size > d2 := G10.lt
  have lt_G11 : h0.size > d2 := G11.lt
  have lt_G12 : h0.size > a2 := G12.lt
  refine own_by (fun _ k => XS.aloadN X0.here hx rfl (hb hby D12_0) rfl rfl k) ?_
  obtain ⟨T1, X1, e1, st1⟩ := getF X0 hx hZ hown (host := "") (Or.inl (own_w hw 44 rfl)) Via.refl e0 Fq (g := (mkF m 1 #[.val (.ref en), .val (.ref w2)] [(.ref en)])) rfl rfl (hb hby D12_1)
  refine own_by st1 ?_
  refine own_by (fun _ k => XS.aloadN X1.here hx rfl (hb hby D12_4) rfl rfl k) ?_
  obtain ⟨cq2, kq2, q2a, q2b, q2c⟩ := isOf hZ e1 G0
  obtain ⟨_, _, ⟨T2, L2, k2, n2⟩, -, X2, ⟨Lc2, hQ2, l2, y2, z2⟩, st2⟩ := X1.virtualBack hx (y := (⟨s13_, "of", s18_⟩ : MethodName)) (z := (⟨s13_, "of", s18_⟩ : MethodName)) hown (mvT hZ (own_w hw 79 rfl)) (mvT hZ (own_w hw 80 rfl)) (notFace_of_selects (args := #[]) (mvT hZ (own_w hw 82 rfl))) (mvT hZ (own_w hw 82 rfl)) (mvT hZ (own_w hw 81 rfl)) (by decide) (backOf (W := 0) (rm_of0 l Z a0 hw [] q w2 d1 d2 h0 n0 O0 Fw G1 G2) hZ (own_w hw 83 rfl) (own_w hw 53 rfl) (by decide) (by decide)) q2a q2c (g := (mkF m 5 #[.val (.ref en), .val (.ref w2)] [(.ref w2), (.ref q)])) rfl (by rw [hml]; rfl) (Steps.refl _) (argsL := [(.ref w2)]) (rest := []) (lenOf own_pd__28Lcom_2fexample_2fadmit1_2fadmit1_2flock_2fWait_3b_29Ljava_2futil_2fArrayDeque_3b rfl) rfl (by show 2 * 0 + _ ≤ _; exact Nat.le_of_eq rfl) (hb hby D12_5) (fun _ _ => ⟨rfl, e1, (by decide : 0 + 0 ≤ _), (by decide : 0 + 0 ≤ _)⟩)
  dsimp only [Pt.U, Pt.locs, Pt.cells, Pt.slots] at X2 l2 y2 z2 st2 hQ2
  subst l2 y2 z2
  obtain ⟨rfl, M2, K2⟩ := hQ2
  have N2 := Fr.app N0 M2
  refine own_by (fun _ k => st2.trans k) ?_
  refine own_by (fun _ k => XS.aloadN X2.here hx rfl (hb hby D12_8) rfl rfl k) ?_
  obtain ⟨cq3, kq3, q3a, q3b, q3c⟩ := isOf hZ K2 G8
  obtain ⟨_, _, ⟨T3, L3, k3, n3⟩, -, X3, ⟨Lc3, hQ3, l3, y3, z3⟩, st3⟩ := X2.virtualBack hx (y := (⟨s14_, "remove", s20_⟩ : MethodName)) (z := (⟨s14_, "remove", s20_⟩ : MethodName)) hown (mvT hZ (own_w hw 103 rfl)) (mvT hZ (own_w hw 104 rfl)) (notFace_of_selects (args := #[]) (mvT hZ (own_w hw 106 rfl))) (mvT hZ (own_w hw 106 rfl)) (mvT hZ (own_w hw 105 rfl)) (by decide) (backOf (W := 0) (rm_rem_0_2_w1_w2_w2 l Z a0 hw [] d2 a2 kk2 w1 w2 h0 n0 O0 G8 G9 G10 G11 G12 Ew (by first | assumption | omega | decide) (by first | assumption | omega | decide) (by first | assumption | omega | decide) n_w2_w1) hZ (own_w hw 107 rfl) (own_w hw 60 rfl) (by decide) (by decide)) q3a q3c (g := (mkF m 9 #[.val (.ref en), .val (.ref w2)] [(.ref w2), (.ref d2)])) rfl (by rw [hml]; rfl) (Steps.refl _) (argsL := [(.ref w2)]) (rest := []) (lenOf own_pd__28Ljava_2flang_2fObject_3b_29Z rfl) rfl (by show 2 * 0 + _ ≤ _; exact Nat.le_of_eq rfl) (hb hby D12_9) (fun _ _ => ⟨rfl, K2, (by decide : 0 + 0 ≤ _), (by decide : 0 + 0 ≤ _)⟩)
  dsimp only [Pt.U, Pt.locs, Pt.cells, Pt.slots] at X3 l3 y3 z3 st3 hQ3
  subst l3 y3 z3
  obtain ⟨rfl, M3, K3, g3_0, g3_1, g3_2, g3_3, g3_4⟩ := hQ3
  have N3 := Fr.app N2 M3
  refine own_by (fun _ k => st3.trans k) ?_
  have z3 := K3.1
  have lt_g3_0 : T3.heap.size > d2 := g3_0.lt
  have lt_g3_1 : T3.heap.size > d2 := g3_1.lt
  have lt_g3_2 : T3.heap.size > d2 := g3_2.lt
  have lt_g3_3 : T3.heap.size > d2 := g3_3.lt
  have lt_g3_4 : T3.heap.size > a2 := g3_4.lt
  show own_Go p e below (T3.setTop (mkF m 12 #[.val (.ref en), .val (.ref w2)] [(.int (1 : Int32))])) _
  refine own_by (fun _ k => XS.pop X3.here hx rfl (hb hby D12_12) rfl rfl k) ?_
  refine own_by (fun _ k => XS.aloadN X3.here hx rfl (hb hby D12_13) rfl rfl k) ?_
  have fc4 : Fld Z T3.heap en s2_ "queues" s11_ (.ref q) := (Fq.keep K3 (ninS (own_ne (by omega)) (ninS (own_ne (by omega)) nin0)))
  obtain ⟨T5, X5, e5, st5⟩ := getF X3 hx hZ hown (host := "") (Or.inl (own_w hw 44 rfl)) Via.refl rfl fc4 (g := (mkF m 14 #[.val (.ref en), .val (.ref w2)] [(.ref en)])) rfl rfl (hb hby D12_14)
  refine own_by st5 ?_
  have fc6 : Fld Z T3.heap q s13_ "conversions" s17_ (.ref d1) := (G1.keep K3 (ninS (own_ne (by omega)) (ninS (own_ne (by omega)) nin0)))
  obtain ⟨T7, X7, e7, st7⟩ := getF X5 hx hZ hown (host := "") (Or.inl (own_w hw 133 rfl)) Via.refl e5 fc6 (g := (mkF m 17 #[.val (.ref en), .val (.ref w2)] [(.ref q)])) rfl rfl (hb hby D12_17)
  refine own_by st7 ?_
  have fc8 : Fld Z T3.heap d1 s14_ "head" "I" (.int (0 : Int32)) := (G5.keep K3 (ninS (own_ne (by omega)) (ninS (own_ne (by omega)) nin0)))
  have fc9 : Fld Z T3.heap d1 s14_ "tail" "I" (.int (0 : Int32)) := (G6.keep K3 (ninS (own_ne (by omega)) (ninS (own_ne (by omega)) nin0)))
  have O10 : Old Z n0 T3.heap := (O0.keep K3 (allS (by omega) (allS (by omega) all0)))
  have fc12 : Exa Z T3.heap d1 s14_ := (G3.keep K3)
  obtain ⟨cq11, kq11, q11a, q11b, q11c⟩ := isOf hZ e7 fc12
  obtain ⟨_, _, ⟨T11, L11, k11, n11⟩, -, X11, ⟨Lc11, hQ11, l11, y11, z11⟩, st11⟩ := X7.virtualBack hx (y := (⟨s14_, "isEmpty", "()Z"⟩ : MethodName)) (z := (⟨s14_, "isEmpty", "()Z"⟩ : MethodName)) hown (mvT hZ (own_w hw 134 rfl)) (mvT hZ (own_w hw 135 rfl)) (notFace_of_selects (args := #[]) (mvT hZ (own_w hw 137 rfl))) (mvT hZ (own_w hw 137 rfl)) (mvT hZ (own_w hw 136 rfl)) (by decide) (backOf (W := 0) (rm_emp0_0 l Z a0 hw [] d1 T3.heap n0 O10 fc8 fc9) hZ (own_w hw 138 rfl) (own_w hw 60 rfl) (by decide) (by decide)) q11a q11c (g := (mkF m 20 #[.val (.ref en), .val (.ref w2)] [(.ref d1)])) rfl (by rw [hml]; rfl) (Steps.refl _) (argsL := []) (rest := []) (lenOf own_pd__28_29Z rfl) rfl (by show 2 * 0 + _ ≤ _; exact Nat.le_of_eq rfl) (hb hby D12_20) (fun _ _ => ⟨rfl, e7, (by decide : 0 + 0 ≤ _), (by decide : 0 + 0 ≤ _)⟩)
  dsimp only [Pt.U, Pt.locs, Pt.cells, Pt.slots] at X11 l11 y11 z11 st11 hQ11
  subst l11 y11 z11
  obtain ⟨rfl, M11, K11⟩ := hQ11
  have N11 := Fr.app N3 M11
  refine own_by (fun _ k => st11.trans k) ?_
  refine own_by (fun _ k => XS.ifNo X11.here hx rfl (hb hby D12_23) rfl ((if0 _ _).trans (feq (by decide : ¬ ((1 : Int32) = (0 : Int32)))).1) k) ?_
  show own_Go p e below (T11.setTop (mkF m 26 #[.val (.ref en), .val (.ref w2)] [])) _
  refine own_by (fun _ k => XS.aloadN X11.here hx rfl (hb hby D12_26) rfl rfl k) ?_
  obtain ⟨T13, X13, e13, st13⟩ := getF X11 hx hZ hown (host := "") (Or.inl (own_w hw 44 rfl)) Via.refl K11 fc4 (g := (mkF m 27 #[.val (.ref en), .val (.ref w2)] [(.ref en)])) rfl rfl (hb hby D12_27)
  refine own_by st13 ?_
  have fc14 : Fld Z T3.heap q s13_ "requests" s17_ (.ref d2) := (G2.keep K3 (ninS (own_ne (by omega)) (ninS (own_ne (by omega)) nin0)))
  obtain ⟨T15, X15, e15, st15⟩ := getF X13 hx hZ hown (host := "") (Or.inl (own_w hw 139 rfl)) Via.refl e13 fc14 (g := (mkF m 30 #[.val (.ref en), .val (.ref w2)] [(.ref q)])) rfl rfl (hb hby D12_30)
  refine own_by st15 ?_
  obtain ⟨cq16, kq16, q16a, q16b, q16c⟩ := isOf hZ e15 g3_0
  obtain ⟨_, _, ⟨T16, L16, k16, n16⟩, -, X16, ⟨Lc16, hQ16, l16, y16, z16⟩, st16⟩ := X15.virtualBack hx (y := (⟨s14_, "isEmpty", "()Z"⟩ : MethodName)) (z := (⟨s14_, "isEmpty", "()Z"⟩ : MethodName)) hown (mvT hZ (own_w hw 134 rfl)) (mvT hZ (own_w hw 135 rfl)) (notFace_of_selects (args := #[]) (mvT hZ (own_w hw 137 rfl))) (mvT hZ (own_w hw 137 rfl)) (mvT hZ (own_w hw 136 rfl)) (by decide) (backOf (W := 0) (rm_emp0_1 l Z a0 hw [] d2 T3.heap n0 O10 g3_2 g3_3) hZ (own_w hw 138 rfl) (own_w hw 60 rfl) (by decide) (by decide)) q16a q16c (g := (mkF m 33 #[.val (.ref en), .val (.ref w2)] [(.ref d2)])) rfl (by rw [hml]; rfl) (Steps.refl _) (argsL := []) (rest := []) (lenOf own_pd__28_29Z rfl) rfl (by show 2 * 0 + _ ≤ _; exact Nat.le_of_eq rfl) (hb hby D12_33) (fun _ _ => ⟨rfl, e15, (by decide : 0 + 0 ≤ _), (by decide : 0 + 0 ≤ _)⟩)
  dsimp only [Pt.U, Pt.locs, Pt.cells, Pt.slots] at X16 l16 y16 z16 st16 hQ16
  subst l16 y16 z16
  obtain ⟨rfl, M16, K16⟩ := hQ16
  have N16 := Fr.app N11 M16
  refine own_by (fun _ k => st16.trans k) ?_
  refine own_by (fun _ k => XS.ifYes X16.here hx rfl (pc0 := 36) (pc' := 44) rfl (hb hby D12_36) rfl ((if0 _ _).trans (teq (by decide : (0 : Int32) = (0 : Int32))).1) (by decide) (by decide) k) ?_
  show own_Go p e below (T16.setTop (mkF m 44 #[.val (.ref en), .val (.ref w2)] [])) _
  have fc17 : Exa Z T3.heap q s13_ := (G0.keep K3)
  have fc18 : Fld Z T3.heap d1 s14_ "elements" s16_ (.ref a1) := (G4.keep K3 (ninS (own_ne (by omega)) (ninS (own_ne (by omega)) nin0)))
  have fc19 : Arv Z T3.heap a1 kk1 (.object s3_) (17 : Int32) [] .null := (G7.keep K3 (ninS (own_ne (by omega)) (ninS (own_ne (by omega)) nin0)))
  have K20 : Keep h0 T3.heap [en, d2, a2] := ((Keep.refl h0 [en, d2, a2]).trans K3 (allS (P := fun x => x ∈ [en, d2, a2] ∨ h0.size ≤ x) (Or.inl (List.mem_of_getElem? (i := 1) rfl)) (allS (P := fun x => x ∈ [en, d2, a2] ∨ h0.size ≤ x) (Or.inl (List.mem_of_getElem? (i := 2) rfl)) all0)))
  obtain ⟨fs, hr, hrun, hended, hW, hsame⟩ := X16.leave (v := none) (fun h => rfl)
  refine ⟨_, _, X16.returnOut hx Bd.returns (hb hby D12_44) hr, hrun, hended, _, _, rfl, ?_, ⟨_, rfl⟩, hW, hsame.mono (by decide) (by decide)⟩
  show Q_rm_deq_0_0_0_2_w1_w2_w20 Z en q d1 a1 kk1 d2 a2 kk2 w1 w2 h0 n0 _ T16.heap _
  rw [K16]
  exact ⟨rfl, N16, K20, fc4, fc17, fc6, fc14, fc12, fc18, fc8, fc9, fc19, g3_0, g3_1, g3_2, g3_3, g3_4⟩
def Q_rm_winit1 (Z : State) (t1 : Addr) (en : Addr) (ar : Int64) (h0 : Heap) (n0 : Nat) (v : Option Value) (h : Heap) (L : List Loc) : Prop := v = none ∧ Fr n0 L ∧ Keep h0 h [t1] ∧ Exa Z h t1 s5_ ∧ Fld Z h t1 s5_ "conversion" "Z" (.int (1 : Int32))
theorem ef_rm_winit1 (m : MethodId) (t1 : Addr) (en : Addr) (ar : Int64) : entryFrame m #[(.ref t1), .null, (.ref en), .null, (.int (1 : Int32)), (.int (0 : Int32)), (.long (0 : Int64)), (.long (0 : Int64)), (.long ar)] 12 = mkF m 0 #[.val (.ref t1), .val .null, .val (.ref en), .val .null, .val (.int (1 : Int32)), .val (.int (0 : Int32)), .val (.long (0 : Int64)), .second, .val (.long (0 : Int64)), .second, .val (.long ar), .second] [] := by first | (simp [entryFrame, mkF, argsToLocals, Value.category]; done) | rfl
set_option maxRecDepth 65536 in
set_option maxHeartbeats 40000000 in
theorem rm_winit1 (l : Launch) (Z : State) (a0 : Array Value) (hw : ∀ d ∈ tables_1, d.before a0 Z = true) (ws : List Jvm.Cond) (t1 : Addr) (en : Addr) (ar : Int64) (h0 : Heap) (n0 : Nat) (O0 : Old Z n0 h0) (Et : Exa Z h0 t1 s5_) (Psession : Fld Z h0 t1 s5_ "session" s7_ .null) (Plock : Fld Z h0 t1 s5_ "lock" s8_ .null) (Pmode : Fld Z h0 t1 s5_ "mode" s9_ .null) (Pconversion : Fld Z h0 t1 s5_ "conversion" "Z" (.int (0 : Int32))) (PreleaseOnCommit : Fld Z h0 t1 s5_ s10_ "Z" (.int (0 : Int32))) (Psince : Fld Z h0 t1 s5_ "since" "J" (.long (0 : Int64))) (Pdeadline : Fld Z h0 t1 s5_ "deadline" "J" (.long (0 : Int64))) (Parrival : Fld Z h0 t1 s5_ "arrival" "J" (.long (0 : Int64))) (gt : n0 ≤ t1) :
    MetFree l (⟨s5_, "<init>", s6_⟩ : MethodName) (head1 (Jvm.Cond.code (⟨s5_, "<init>", s6_⟩ : MethodName) prog_21_method_1_code 12 none :: ws) ({ frames := 1, cells := 0, slots := 0, locals := 12 } : Room)) (fun a U => a = #[(.ref t1), .null, (.ref en), .null, (.int (1 : Int32)), (.int (0 : Int32)), (.long (0 : Int64)), (.long (0 : Int64)), (.long ar)] ∧ Z.Warmed39 U.vm ∧ U.heap = h0) (fun _ _ _ _ _ => True) (fun _ U o U' => ∃ v L, o = .returned v ∧ Q_rm_winit1 Z t1 en ar h0 n0 v U'.heap L ∧ FrameEnd U o U' L ({ frames := 1, cells := 0, slots := 0, locals := 12 } : Room).cells ({ frames := 1, cells := 0, slots := 0, locals := 12 } : Room).slots) := by
  refine MetFree.of_bodySF (plainFor_of_name own_pn_com_example_admit1_admit1_lock_Wait) hisR ?_
  intro p e s m args below meth c s₁ Bd hml0 hP hK
  obtain ⟨rfl, hZ, hh⟩ := hP
  have hx := Bd.exec
  have hby := Bd.bytes
  have hml : c.maxLocals = 12 := hml0
  have hown : s.vm.findClass s5_ = some m.cls := findClass_of_methodNamed Bd.named
  have hnm := (name_of_methodNamed Bd.named Bd.method).1
  have X0 : Stand p l e ({ frames := 1, cells := 0, slots := 0, locals := 12 } : Room) s m #[(.ref t1), .null, (.ref en), .null, (.int (1 : Int32)), (.int (0 : Int32)), (.long (0 : Int64)), (.long (0 : Int64)), (.long ar)] below meth c s₁ [] 0 0 := Stand.of_body Bd
  have e0 : s₁.heap = h0 := by rw [← hh, Bd.state]; rfl
  have N0 := Fr.nil n0
  have Z0 : n0 ≤ h0.size := by rw [← O0.1]; exact O0.2.1
  show own_Go p e below (s₁.setTop (entryFrame m #[(.ref t1), .null, (.ref en), .null, (.int (1 : Int32)), (.int (0 : Int32)), (.long (0 : Int64)), (.long (0 : Int64)), (.long ar)] 12)) (fun t o => ∃ v L, o = .returned v ∧ Q_rm_winit1 Z t1 en ar h0 n0 v t.heap L ∧ FrameEnd s o t L ({ frames := 1, cells := 0, slots := 0, locals := 12 } : Room).cells ({ frames := 1, cells := 0, slots := 0, locals := 12 } : Room).slots)
  rw [ef_rm_winit1 m t1 en ar]
  have lt_Et : h0.size > t1 := Et.lt
  have lt_Psession : h0.size > t1 := Psession.lt
  have lt_Plock : h0.size > t1 := Plock.lt
  have lt_Pmode : h0.size > t1 := Pmode.lt
  have lt_Pconversion : h0.size > t1 := Pconversion.lt
  have lt_PreleaseOnCommit : h0.size > t1 := PreleaseOnCommit.lt
  have lt_Psince : h0.size > t1 := Psince.lt
  have lt_Pdeadline : h0.size > t1 := Pdeadline.lt
  have lt_Parrival : h0.size > t1 := Parrival.lt
  refine own_by (fun _ k => XS.aloadN X0.here hx rfl (hb hby D3_0) rfl rfl k) ?_
  obtain ⟨T1, X1, e1, st1⟩ := initO X0 hx hZ hown (own_w hw 22 rfl) (own_w hw 7 rfl) (own_w hw 8 rfl) e0 (g := (mkF m 1 #[.val (.ref t1), .val .null, .val (.ref en), .val .null, .val (.int (1 : Int32)), .val (.int (0 : Int32)), .val (.long (0 : Int64)), .second, .val (.long (0 : Int64)), .second, .val (.long ar), .second] [(.ref t1)])) rfl (by rw [hml]; rfl) rfl (hb hby D3_1) (by decide) (W := 0) (by show 2 * 0 + _ ≤ _; exact Nat.le_of_eq rfl) (by decide)
  refine own_by st1 ?_
  refine own_by (fun _ k => XS.aloadN X1.here hx rfl (hb hby D3_4) rfl rfl k) ?_
  refine own_by (fun _ k => XS.aloadN X1.here hx rfl (hb hby D3_5) rfl rfl k) ?_
  obtain ⟨T2, h2, X2, e2, W2, st2⟩ := putF X1 hx hZ hown (host := "") (Or.inl (own_w hw 23 rfl)) Via.refl e1 Psession Et (Or.inr ⟨(own_w hw 24 rfl), rfl, hnm⟩) (own_w hw 17 rfl) (ty := (.object "com/example/admit1/admit1/lock/LockSession")) (by decide) rfl rfl (g := (mkF m 6 #[.val (.ref t1), .val .null, .val (.ref en), .val .null, .val (.int (1 : Int32)), .val (.int (0 : Int32)), .val (.long (0 : Int64)), .second, .val (.long (0 : Int64)), .second, .val (.long ar), .second] [.null, (.ref t1)])) rfl rfl (hb hby D3_6)
  refine own_by st2 ?_
  have z2 := W2.size
  have N2 := Fr.snoc X2 N0 (by omega)
  have Fw2 : Fld Z h2 t1 s5_ "session" s7_ .null := Psession.same W2
  refine own_by (fun _ k => XS.aloadN X2.here hx rfl (hb hby D3_9) rfl rfl k) ?_
  show own_Go p e below (T2.setTop (mkF m 10 #[.val (.ref t1), .val .null, .val (.ref en), .val .null, .val (.int (1 : Int32)), .val (.int (0 : Int32)), .val (.long (0 : Int64)), .second, .val (.long (0 : Int64)), .second, .val (.long ar), .second] [(.ref t1)])) _
  refine own_by (fun _ k => XS.aloadN X2.here hx rfl (hb hby D3_10) rfl rfl k) ?_
  have fc3 : Fld Z h2 t1 s5_ "lock" s8_ .null := (Plock.other W2 (Or.inr (slot_ne (a0 := a0) (Or.inr (own_w hw 26 rfl)) (Or.inr (own_w hw 24 rfl)) (by decide) (t := (.object s2_)) (by decide) (t' := (.object "com/example/admit1/admit1/lock/LockSession")) (by decide))))
  have fc4 : Exa Z h2 t1 s5_ := (Et.wr W2)
  obtain ⟨T5, h5, X5, e5, W5, st5⟩ := putF X2 hx hZ hown (host := "") (Or.inl (own_w hw 25 rfl)) Via.refl e2 fc3 fc4 (Or.inr ⟨(own_w hw 26 rfl), rfl, hnm⟩) (own_w hw 17 rfl) (ty := (.object s2_)) (by decide) rfl rfl (g := (mkF m 11 #[.val (.ref t1), .val .null, .val (.ref en), .val .null, .val (.int (1 : Int32)), .val (.int (0 : Int32)), .val (.long (0 : Int64)), .second, .val (.long (0 : Int64)), .second, .val (.long ar), .second] [(.ref en), (.ref t1)])) rfl rfl (hb hby D3_11)
  refine own_by st5 ?_
  have z5 := W5.size
  have N5 := Fr.snoc X5 N2 (by omega)
  have Fw5 : Fld Z h5 t1 s5_ "lock" s8_ (.ref en) := fc3.same W5
  refine own_by (fun _ k => XS.aloadN X5.here hx rfl (hb hby D3_14) rfl rfl k) ?_
  refine own_by (fun _ k => XS.aloadN X5.here hx rfl (hb hby D3_15) rfl rfl k) ?_
  have fc6 : Fld Z h5 t1 s5_ "mode" s9_ .null := ((Pmode.other W2 (Or.inr (slot_ne (a0 := a0) (Or.inr (own_w hw 28 rfl)) (Or.inr (own_w hw 24 rfl)) (by decide) (t := (.object "com/example/admit1/admit1/lock/LockMode")) (by decide) (t' := (.object "com/example/admit1/admit1/lock/LockSession")) (by decide)))).other W5 (Or.inr (slot_ne (a0 := a0) (Or.inr (own_w hw 28 rfl)) (Or.inr (own_w hw 26 rfl)) (by decide) (t := (.object "com/example/admit1/admit1/lock/LockMode")) (by decide) (t' := (.object s2_)) (by decide))))
  have fc7 : Exa Z h5 t1 s5_ := (fc4.wr W5)
  obtain ⟨T8, h8, X8, e8, W8, st8⟩ := putF X5 hx hZ hown (host := "") (Or.inl (own_w hw 27 rfl)) Via.refl e5 fc6 fc7 (Or.inr ⟨(own_w hw 28 rfl), rfl, hnm⟩) (own_w hw 17 rfl) (ty := (.object "com/example/admit1/admit1/lock/LockMode")) (by decide) rfl rfl (g := (mkF m 16 #[.val (.ref t1), .val .null, .val (.ref en), .val .null, .val (.int (1 : Int32)), .val (.int (0 : Int32)), .val (.long (0 : Int64)), .second, .val (.long (0 : Int64)), .second, .val (.long ar), .second] [.null, (.ref t1)])) rfl rfl (hb hby D3_16)
  refine own_by st8 ?_
  have z8 := W8.size
  have N8 := Fr.snoc X8 N5 (by omega)
  have Fw8 : Fld Z h8 t1 s5_ "mode" s9_ .null := fc6.same W8
  refine own_by (fun _ k => XS.aloadN X8.here hx rfl (hb hby D3_19) rfl rfl k) ?_
  show own_Go p e below (T8.setTop (mkF m 20 #[.val (.ref t1), .val .null, .val (.ref en), .val .null, .val (.int (1 : Int32)), .val (.int (0 : Int32)), .val (.long (0 : Int64)), .second, .val (.long (0 : Int64)), .second, .val (.long ar), .second] [(.ref t1)])) _
  refine own_by (fun _ k => XS.iload X8.here hx rfl (hb hby D3_20) rfl k) ?_
  have fc9 : Fld Z h8 t1 s5_ "conversion" "Z" (.int (0 : Int32)) := (((Pconversion.other W2 (Or.inr (slot_ne (a0 := a0) (Or.inr (own_w hw 30 rfl)) (Or.inr (own_w hw 24 rfl)) (by decide) (t := .boolean) (by decide) (t' := (.object "com/example/admit1/admit1/lock/LockSession")) (by decide)))).other W5 (Or.inr (slot_ne (a0 := a0) (Or.inr (own_w hw 30 rfl)) (Or.inr (own_w hw 26 rfl)) (by decide) (t := .boolean) (by decide) (t' := (.object s2_)) (by decide)))).other W8 (Or.inr (slot_ne (a0 := a0) (Or.inr (own_w hw 30 rfl)) (Or.inr (own_w hw 28 rfl)) (by decide) (t := .boolean) (by decide) (t' := (.object "com/example/admit1/admit1/lock/LockMode")) (by decide))))
  have fc10 : Exa Z h8 t1 s5_ := (fc7.wr W8)
  obtain ⟨T11, h11, X11, e11, W11, st11⟩ := putFN X8 hx hZ hown (own_w hw 29 rfl) Via.refl e8 fc9 fc10 (Or.inr ⟨(own_w hw 30 rfl), rfl, hnm⟩) (own_w hw 17 rfl) (ty := .boolean) (v' := (.int (1 : Int32))) (by decide) rfl rfl (g := (mkF m 22 #[.val (.ref t1), .val .null, .val (.ref en), .val .null, .val (.int (1 : Int32)), .val (.int (0 : Int32)), .val (.long (0 : Int64)), .second, .val (.long (0 : Int64)), .second, .val (.long ar), .second] [(.int (1 : Int32)), (.ref t1)])) rfl rfl (hb hby D3_22)
  refine own_by st11 ?_
  have z11 := W11.size
  have N11 := Fr.snoc X11 N8 (by omega)
  have Fw11 : Fld Z h11 t1 s5_ "conversion" "Z" (.int (1 : Int32)) := fc9.same W11
  refine own_by (fun _ k => XS.aloadN X11.here hx rfl (hb hby D3_25) rfl rfl k) ?_
  refine own_by (fun _ k => XS.iload X11.here hx rfl (hb hby D3_26) rfl k) ?_
  have fc12 : Fld Z h11 t1 s5_ s10_ "Z" (.int (0 : Int32)) := ((((PreleaseOnCommit.other W2 (Or.inr (slot_ne (a0 := a0) (Or.inr (own_w hw 32 rfl)) (Or.inr (own_w hw 24 rfl)) (by decide) (t := .boolean) (by decide) (t' := (.object "com/example/admit1/admit1/lock/LockSession")) (by decide)))).other W5 (Or.inr (slot_ne (a0 := a0) (Or.inr (own_w hw 32 rfl)) (Or.inr (own_w hw 26 rfl)) (by decide) (t := .boolean) (by decide) (t' := (.object s2_)) (by decide)))).other W8 (Or.inr (slot_ne (a0 := a0) (Or.inr (own_w hw 32 rfl)) (Or.inr (own_w hw 28 rfl)) (by decide) (t := .boolean) (by decide) (t' := (.object "com/example/admit1/admit1/lock/LockMode")) (by decide)))).other W11 (Or.inr (slot_ne (a0 := a0) (Or.inr (own_w hw 32 rfl)) (Or.inr (own_w hw 30 rfl)) (by decide) (t := .boolean) (by decide) (t' := .boolean) (by decide))))
  have fc13 : Exa Z h11 t1 s5_ := (fc10.wr W11)
  obtain ⟨T14, h14, X14, e14, W14, st14⟩ := putFN X11 hx hZ hown (own_w hw 31 rfl) Via.refl e11 fc12 fc13 (Or.inr ⟨(own_w hw 32 rfl), rfl, hnm⟩) (own_w hw 17 rfl) (ty := .boolean) (v' := (.int (0 : Int32))) (by decide) rfl rfl (g := (mkF m 28 #[.val (.ref t1), .val .null, .val (.ref en), .val .null, .val (.int (1 : Int32)), .val (.int (0 : Int32)), .val (.long (0 : Int64)), .second, .val (.long (0 : Int64)), .second, .val (.long ar), .second] [(.int (0 : Int32)), (.ref t1)])) rfl rfl (hb hby D3_28)
  refine own_by st14 ?_
  have z14 := W14.size
  have N14 := Fr.snoc X14 N11 (by omega)
  have Fw14 : Fld Z h14 t1 s5_ s10_ "Z" (.int (0 : Int32)) := fc12.same W14
  refine own_by (fun _ k => XS.aloadN X14.here hx rfl (hb hby D3_31) rfl rfl k) ?_
  show own_Go p e below (T14.setTop (mkF m 32 #[.val (.ref t1), .val .null, .val (.ref en), .val .null, .val (.int (1 : Int32)), .val (.int (0 : Int32)), .val (.long (0 : Int64)), .second, .val (.long (0 : Int64)), .second, .val (.long ar), .second] [(.ref t1)])) _
  refine own_by (fun _ k => XS.lload X14.here hx rfl (hb hby D3_32) rfl k) ?_
  have fc15 : Fld Z h14 t1 s5_ "since" "J" (.long (0 : Int64)) := (((((Psince.other W2 (Or.inr (slot_ne (a0 := a0) (Or.inr (own_w hw 34 rfl)) (Or.inr (own_w hw 24 rfl)) (by decide) (t := .long) (by decide) (t' := (.object "com/example/admit1/admit1/lock/LockSession")) (by decide)))).other W5 (Or.inr (slot_ne (a0 := a0) (Or.inr (own_w hw 34 rfl)) (Or.inr (own_w hw 26 rfl)) (by decide) (t := .long) (by decide) (t' := (.object s2_)) (by decide)))).other W8 (Or.inr (slot_ne (a0 := a0) (Or.inr (own_w hw 34 rfl)) (Or.inr (own_w hw 28 rfl)) (by decide) (t := .long) (by decide) (t' := (.object "com/example/admit1/admit1/lock/LockMode")) (by decide)))).other W11 (Or.inr (slot_ne (a0 := a0) (Or.inr (own_w hw 34 rfl)) (Or.inr (own_w hw 30 rfl)) (by decide) (t := .long) (by decide) (t' := .boolean) (by decide)))).other W14 (Or.inr (slot_ne (a0 := a0) (Or.inr (own_w hw 34 rfl)) (Or.inr (own_w hw 32 rfl)) (by decide) (t := .long) (by decide) (t' := .boolean) (by decide))))
  have fc16 : Exa Z h14 t1 s5_ := (fc13.wr W14)
  obtain ⟨T17, h17, X17, e17, W17, st17⟩ := putF X14 hx hZ hown (host := "") (Or.inl (own_w hw 33 rfl)) Via.refl e14 fc15 fc16 (Or.inr ⟨(own_w hw 34 rfl), rfl, hnm⟩) (own_w hw 17 rfl) (ty := .long) (by decide) rfl rfl (g := (mkF m 34 #[.val (.ref t1), .val .null, .val (.ref en), .val .null, .val (.int (1 : Int32)), .val (.int (0 : Int32)), .val (.long (0 : Int64)), .second, .val (.long (0 : Int64)), .second, .val (.long ar), .second] [(.long (0 : Int64)), (.ref t1)])) rfl rfl (hb hby D3_34)
  refine own_by st17 ?_
  have z17 := W17.size
  have N17 := Fr.snoc X17 N14 (by omega)
  have Fw17 : Fld Z h17 t1 s5_ "since" "J" (.long (0 : Int64)) := fc15.same W17
  refine own_by (fun _ k => XS.aloadN X17.here hx rfl (hb hby D3_37) rfl rfl k) ?_
  refine own_by (fun _ k => XS.lload X17.here hx rfl (hb hby D3_38) rfl k) ?_
  have fc18 : Fld Z h17 t1 s5_ "deadline" "J" (.long (0 : Int64)) := ((((((Pdeadline.other W2 (Or.inr (slot_ne (a0 := a0) (Or.inr (own_w hw 36 rfl)) (Or.inr (own_w hw 24 rfl)) (by decide) (t := .long) (by decide) (t' := (.object "com/example/admit1/admit1/lock/LockSession")) (by decide)))).other W5 (Or.inr (slot_ne (a0 := a0) (Or.inr (own_w hw 36 rfl)) (Or.inr (own_w hw 26 rfl)) (by decide) (t := .long) (by decide) (t' := (.object s2_)) (by decide)))).other W8 (Or.inr (slot_ne (a0 := a0) (Or.inr (own_w hw 36 rfl)) (Or.inr (own_w hw 28 rfl)) (by decide) (t := .long) (by decide) (t' := (.object "com/example/admit1/admit1/lock/LockMode")) (by decide)))).other W11 (Or.inr (slot_ne (a0 := a0) (Or.inr (own_w hw 36 rfl)) (Or.inr (own_w hw 30 rfl)) (by decide) (t := .long) (by decide) (t' := .boolean) (by decide)))).other W14 (Or.inr (slot_ne (a0 := a0) (Or.inr (own_w hw 36 rfl)) (Or.inr (own_w hw 32 rfl)) (by decide) (t := .long) (by decide) (t' := .boolean) (by decide)))).other W17 (Or.inr (slot_ne (a0 := a0) (Or.inr (own_w hw 36 rfl)) (Or.inr (own_w hw 34 rfl)) (by decide) (t := .long) (by decide) (t' := .long) (by decide))))
  have fc19 : Exa Z h17 t1 s5_ := (fc16.wr W17)
  obtain ⟨T20, h20, X20, e20, W20, st20⟩ := putF X17 hx hZ hown (host := "") (Or.inl (own_w hw 35 rfl)) Via.refl e17 fc18 fc19 (Or.inr ⟨(own_w hw 36 rfl), rfl, hnm⟩) (own_w hw 17 rfl) (ty := .long) (by decide) rfl rfl (g := (mkF m 40 #[.val (.ref t1), .val .null, .val (.ref en), .val .null, .val (.int (1 : Int32)), .val (.int (0 : Int32)), .val (.long (0 : Int64)), .second, .val (.long (0 : Int64)), .second, .val (.long ar), .second] [(.long (0 : Int64)), (.ref t1)])) rfl rfl (hb hby D3_40)
  refine own_by st20 ?_
  have z20 := W20.size
  have N20 := Fr.snoc X20 N17 (by omega)
  have Fw20 : Fld Z h20 t1 s5_ "deadline" "J" (.long (0 : Int64)) := fc18.same W20
  refine own_by (fun _ k => XS.aloadN X20.here hx rfl (hb hby D3_43) rfl rfl k) ?_
  show own_Go p e below (T20.setTop (mkF m 44 #[.val (.ref t1), .val .null, .val (.ref en), .val .null, .val (.int (1 : Int32)), .val (.int (0 : Int32)), .val (.long (0 : Int64)), .second, .val (.long (0 : Int64)), .second, .val (.long ar), .second] [(.ref t1)])) _
  refine own_by (fun _ k => XS.lload X20.here hx rfl (hb hby D3_44) rfl k) ?_
  have fc21 : Fld Z h20 t1 s5_ "arrival" "J" (.long (0 : Int64)) := (((((((Parrival.other W2 (Or.inr (slot_ne (a0 := a0) (Or.inr (own_w hw 38 rfl)) (Or.inr (own_w hw 24 rfl)) (by decide) (t := .long) (by decide) (t' := (.object "com/example/admit1/admit1/lock/LockSession")) (by decide)))).other W5 (Or.inr (slot_ne (a0 := a0) (Or.inr (own_w hw 38 rfl)) (Or.inr (own_w hw 26 rfl)) (by decide) (t := .long) (by decide) (t' := (.object s2_)) (by decide)))).other W8 (Or.inr (slot_ne (a0 := a0) (Or.inr (own_w hw 38 rfl)) (Or.inr (own_w hw 28 rfl)) (by decide) (t := .long) (by decide) (t' := (.object "com/example/admit1/admit1/lock/LockMode")) (by decide)))).other W11 (Or.inr (slot_ne (a0 := a0) (Or.inr (own_w hw 38 rfl)) (Or.inr (own_w hw 30 rfl)) (by decide) (t := .long) (by decide) (t' := .boolean) (by decide)))).other W14 (Or.inr (slot_ne (a0 := a0) (Or.inr (own_w hw 38 rfl)) (Or.inr (own_w hw 32 rfl)) (by decide) (t := .long) (by decide) (t' := .boolean) (by decide)))).other W17 (Or.inr (slot_ne (a0 := a0) (Or.inr (own_w hw 38 rfl)) (Or.inr (own_w hw 34 rfl)) (by decide) (t := .long) (by decide) (t' := .long) (by decide)))).other W20 (Or.inr (slot_ne (a0 := a0) (Or.inr (own_w hw 38 rfl)) (Or.inr (own_w hw 36 rfl)) (by decide) (t := .long) (by decide) (t' := .long) (by decide))))
  have fc22 : Exa Z h20 t1 s5_ := (fc19.wr W20)
  obtain ⟨T23, h23, X23, e23, W23, st23⟩ := putF X20 hx hZ hown (host := "") (Or.inl (own_w hw 37 rfl)) Via.refl e20 fc21 fc22 (Or.inr ⟨(own_w hw 38 rfl), rfl, hnm⟩) (own_w hw 17 rfl) (ty := .long) (by decide) rfl rfl (g := (mkF m 46 #[.val (.ref t1), .val .null, .val (.ref en), .val .null, .val (.int (1 : Int32)), .val (.int (0 : Int32)), .val (.long (0 : Int64)), .second, .val (.long (0 : Int64)), .second, .val (.long ar), .second] [(.long ar), (.ref t1)])) rfl rfl (hb hby D3_46)
  refine own_by st23 ?_
  have z23 := W23.size
  have N23 := Fr.snoc X23 N20 (by omega)
  have Fw23 : Fld Z h23 t1 s5_ "arrival" "J" (.long ar) := fc21.same W23
  have fc24 : Exa Z h23 t1 s5_ := (fc22.wr W23)
  have fc25 : Fld Z h23 t1 s5_ "conversion" "Z" (.int (1 : Int32)) := ((((Fw11.other W14 (Or.inr (slot_ne (a0 := a0) (Or.inr (own_w hw 30 rfl)) (Or.inr (own_w hw 32 rfl)) (by decide) (t := .boolean) (by decide) (t' := .boolean) (by decide)))).other W17 (Or.inr (slot_ne (a0 := a0) (Or.inr (own_w hw 30 rfl)) (Or.inr (own_w hw 34 rfl)) (by decide) (t := .boolean) (by decide) (t' := .long) (by decide)))).other W20 (Or.inr (slot_ne (a0 := a0) (Or.inr (own_w hw 30 rfl)) (Or.inr (own_w hw 36 rfl)) (by decide) (t := .boolean) (by decide) (t' := .long) (by decide)))).other W23 (Or.inr (slot_ne (a0 := a0) (Or.inr (own_w hw 30 rfl)) (Or.inr (own_w hw 38 rfl)) (by decide) (t := .boolean) (by decide) (t' := .long) (by decide))))
  have K26 : Keep h0 h23 [t1] := (((((((((Keep.refl h0 [t1]).wr W2 (Or.inl (List.mem_of_getElem? (i := 0) rfl))).wr W5 (Or.inl (List.mem_of_getElem? (i := 0) rfl))).wr W8 (Or.inl (List.mem_of_getElem? (i := 0) rfl))).wr W11 (Or.inl (List.mem_of_getElem? (i := 0) rfl))).wr W14 (Or.inl (List.mem_of_getElem? (i := 0) rfl))).wr W17 (Or.inl (List.mem_of_getElem? (i := 0) rfl))).wr W20 (Or.inl (List.mem_of_getElem? (i := 0) rfl))).wr W23 (Or.inl (List.mem_of_getElem? (i := 0) rfl)))
  obtain ⟨fs, hr, hrun, hended, hW, hsame⟩ := X23.leave (v := none) (fun h => rfl)
  refine ⟨_, _, X23.returnOut hx Bd.returns (hb hby D3_49) hr, hrun, hended, _, _, rfl, ?_, ⟨_, rfl⟩, hW, hsame.mono (by decide) (by decide)⟩
  show Q_rm_winit1 Z t1 en ar h0 n0 _ T23.heap _
  rw [e23]
  exact ⟨rfl, N23, K26, fc24, fc25⟩
theorem D9_7 : decode prog_12_method_2_code 7 = .ok (.aload_n 0, 1) := by decide +kernel
theorem D9_8 : decode prog_12_method_2_code 8 = .ok (.getfield 10, 3) := by decide +kernel
theorem D9_11 : decode prog_12_method_2_code 11 = .ok (.goto 7, 3) := by decide +kernel
def Q_rm_of1 (Z : State) (q : Addr) (w1 : Addr) (d1 : Addr) (d2 : Addr) (h0 : Heap) (n0 : Nat) (v : Option Value) (h : Heap) (L : List Loc) : Prop := v = some (.ref d1) ∧ Fr n0 L ∧ h = h0
theorem ef_rm_of1 (m : MethodId) (q : Addr) (w1 : Addr) (d1 : Addr) (d2 : Addr) : entryFrame m #[(.ref q), (.ref w1)] 2 = mkF m 0 #[.val (.ref q), .val (.ref w1)] [] := by first | (simp [entryFrame, mkF, argsToLocals, Value.category]; done) | rfl
set_option maxRecDepth 65536 in
set_option maxHeartbeats 40000000 in
theorem rm_of1 (l : Launch) (Z : State) (a0 : Array Value) (hw : ∀ d ∈ tables_1, d.before a0 Z = true) (ws : List Jvm.Cond) (q : Addr) (w1 : Addr) (d1 : Addr) (d2 : Addr) (h0 : Heap) (n0 : Nat) (O0 : Old Z n0 h0) (Fw : Fld Z h0 w1 s5_ "conversion" "Z" (.int (1 : Int32))) (F1 : Fld Z h0 q s13_ "conversions" s17_ (.ref d1)) (F2 : Fld Z h0 q s13_ "requests" s17_ (.ref d2)) :
    MetFree l (⟨s13_, "of", s18_⟩ : MethodName) (head1 (Jvm.Cond.code (⟨s13_, "of", s18_⟩ : MethodName) prog_12_method_2_code 2 (some (.object s14_)) :: ws) ({ frames := 0, cells := 0, slots := 0, locals := 0 } : Room)) (fun a U => a = #[(.ref q), (.ref w1)] ∧ Z.Warmed39 U.vm ∧ U.heap = h0) (fun _ _ _ _ _ => True) (fun _ U o U' => ∃ v L, o = .returned v ∧ Q_rm_of1 Z q w1 d1 d2 h0 n0 v U'.heap L ∧ FrameEnd U o U' L ({ frames := 0, cells := 0, slots := 0, locals := 0 } : Room).cells ({ frames := 0, cells := 0, slots := 0, locals := 0 } : Room).slots) := by
  refine MetFree.of_bodySF (plainFor_of_name own_pn_com_example_admit1_admit1_lock_LockEntry_Queues) hisR ?_
  intro p e s m args below meth c s₁ Bd hml0 hP hK
  obtain ⟨rfl, hZ, hh⟩ := hP
  have hx := Bd.exec
  have hby := Bd.bytes
  have hml : c.maxLocals = 2 := hml0
  have hown : s.vm.findClass s13_ = some m.cls := findClass_of_methodNamed Bd.named
  have hnm := (name_of_methodNamed Bd.named Bd.method).1
  have X0 : Stand p l e ({ frames := 0, cells := 0, slots := 0, locals := 0 } : Room) s m #[(.ref q), (.ref w1)] below meth c s₁ [] 0 0 := Stand.of_body Bd
  have e0 : s₁.heap = h0 := by rw [← hh, Bd.state]; rfl
  have N0 := Fr.nil n0
  have Z0 : n0 ≤ h0.size := by rw [← O0.1]; exact O0.2.1
  show own_Go p e below (s₁.setTop (entryFrame m #[(.ref q), (.ref w1)] 2)) (fun t o => ∃ v L, o = .returned v ∧ Q_rm_of1 Z q w1 d1 d2 h0 n0 v t.heap L ∧ FrameEnd s o t L ({ frames := 0, cells := 0, slots := 0, locals := 0 } : Room).cells ({ frames := 0, cells := 0, slots := 0, locals := 0 } : Room).slots)
  rw [ef_rm_of1 m q w1 d1 d2]
  have lt_Fw : h0.size > w1 := Fw.lt
  have lt_F1 : h0.size > q := F1.lt
  have lt_F2 : h0.size > q := F2.lt
  refine own_by (fun _ k => XS.aloadN X0.here hx rfl (hb hby D9_0) rfl rfl k) ?_
  obtain ⟨T1, X1, e1, st1⟩ := getF X0 hx hZ hown (host := "") (Or.inl (own_w hw 84 rfl)) Via.refl e0 Fw (g := (mkF m 1 #[.val (.ref q), .val (.ref w1)] [(.ref w1)])) rfl rfl (hb hby D9_1)
  refine own_by st1 ?_
  refine own_by (fun _ k => XS.ifNo X1.here hx rfl (hb hby D9_4) rfl ((if0 _ _).trans (feq (by decide : ¬ ((1 : Int32) = (0 : Int32)))).1) k) ?_
  show own_Go p e below (T1.setTop (mkF m 7 #[.val (.ref q), .val (.ref w1)] [])) _
  refine own_by (fun _ k => XS.aloadN X1.here hx rfl (hb hby D9_7) rfl rfl k) ?_
  obtain ⟨T2, X2, e2, st2⟩ := getF X1 hx hZ hown (host := "") (Or.inl (own_w hw 75 rfl)) Via.refl e1 F1 (g := (mkF m 8 #[.val (.ref q), .val (.ref w1)] [(.ref q)])) rfl rfl (hb hby D9_8)
  refine own_by st2 ?_
  refine own_by (fun _ k => XS.goto X2.here hx rfl (pc0 := 11) (pc' := 18) rfl (hb hby D9_11) (by decide) (by decide) k) ?_
  obtain ⟨fs, hr, hrun, hended, hW, hsame⟩ := X2.leave (v := some (.ref d1)) (fun h => by rw [Bd.returns] at h; cases h)
  refine ⟨_, _, retOut X2 hx Bd.returns (own_narrow_ref (by decide) rfl) (Or.inr (Or.inr (Or.inr (Or.inr ⟨rfl, by decide, rfl⟩)))) (hb hby D9_18) hr, hrun, hended, _, _, rfl, ?_, ⟨_, rfl⟩, hW, hsame.mono (by decide) (by decide)⟩
  show Q_rm_of1 Z q w1 d1 d2 h0 n0 _ T2.heap _
  rw [e2]
  exact ⟨rfl, N0, rfl⟩
def Q_rm_enq_None_w11 (Z : State) (en : Addr) (w1 : Addr) (h0 : Heap) (n0 : Nat) (v : Option Value) (h : Heap) (L : List Loc) : Prop := ∃ (q : Addr), ∃ (d1 : Addr), ∃ (a1 : Addr), ∃ (kk1 : ClassId), ∃ (d2 : Addr), ∃ (a2 : Addr), ∃ (kk2 : ClassId), v = none ∧ Fr n0 L ∧ Keep h0 h [en] ∧ Fld Z h en s2_ "queues" s11_ (.ref q) ∧ Exa Z h q s13_ ∧ Fld Z h q s13_ "conversions" s17_ (.ref d1) ∧ Fld Z h q s13_ "requests" s17_ (.ref d2) ∧ Exa Z h d1 s14_ ∧ Fld Z h d1 s14_ "elements" s16_ (.ref a1) ∧ Fld Z h d1 s14_ "head" "I" (.int (0 : Int32)) ∧ Fld Z h d1 s14_ "tail" "I" (.int (1 : Int32)) ∧ Arv Z h a1 kk1 (.object s3_) (17 : Int32) [(.ref w1)] .null ∧ Exa Z h d2 s14_ ∧ Fld Z h d2 s14_ "elements" s16_ (.ref a2) ∧ Fld Z h d2 s14_ "head" "I" (.int (0 : Int32)) ∧ Fld Z h d2 s14_ "tail" "I" (.int (0 : Int32)) ∧ Arv Z h a2 kk2 (.object s3_) (17 : Int32) [] .null ∧ @LT.lt Nat _ q d1 ∧ @LT.lt Nat _ d1 a1 ∧ @LT.lt Nat _ a1 d2 ∧ @LT.lt Nat _ d2 a2 ∧ n0 ≤ q ∧ Ovr Z kk1 s3_ ∧ Ovr Z kk2 s3_ ∧ h0.size ≤ q
theorem ef_rm_enq_None_w11 (m : MethodId) (en : Addr) (w1 : Addr) : entryFrame m #[(.ref en), (.ref w1)] 2 = mkF m 0 #[.val (.ref en), .val (.ref w1)] [] := by first | (simp [entryFrame, mkF, argsToLocals, Value.category]; done) | rfl
set_option maxRecDepth 65536 in
set_option maxHeartbeats 40000000 in
theorem rm_enq_None_w11 (l : Launch) (Z : State) (a0 : Array Value) (hw : ∀ d ∈ tables_1, d.before a0 Z = true) (ws : List Jvm.Cond) (en : Addr) (w1 : Addr) (h0 : Heap) (n0 : Nat) (O0 : Old Z n0 h0) (Fq : Fld Z h0 en s2_ "queues" s11_ .null) (Ee : Exa Z h0 en s2_) (Ew : Exa Z h0 w1 s5_) (Fw : Fld Z h0 w1 s5_ "conversion" "Z" (.int (1 : Int32))) (ge : n0 ≤ en) (nwe : ¬ (@Eq Nat w1 en)) :
    MetFree l (⟨s2_, "enqueue", s12_⟩ : MethodName) (head1 (Jvm.Cond.code (⟨s2_, "enqueue", s12_⟩ : MethodName) prog_11_method_10_code 2 none :: ws) ({ frames := 4, cells := 5, slots := 42, locals := 52 } : Room)) (fun a U => a = #[(.ref en), (.ref w1)] ∧ Z.Warmed39 U.vm ∧ U.heap = h0) (fun _ _ _ _ _ => True) (fun _ U o U' => ∃ v L, o = .returned v ∧ Q_rm_enq_None_w11 Z en w1 h0 n0 v U'.heap L ∧ FrameEnd U o U' L ({ frames := 4, cells := 5, slots := 42, locals := 52 } : Room).cells ({ frames := 4, cells := 5, slots := 42, locals := 52 } : Room).slots) := by
  refine MetFree.of_bodySF (plainFor_of_name own_pn_com_example_admit1_admit1_lock_LockEntry) hisR ?_
  intro p e s m args below meth c s₁ Bd hml0 hP hK
  obtain ⟨rfl, hZ, hh⟩ := hP
  have hx := Bd.exec
  have hby := Bd.bytes
  have hml : c.maxLocals = 2 := hml0
  have hown : s.vm.findClass s2_ = some m.cls := findClass_of_methodNamed Bd.named
  have hnm := (name_of_methodNamed Bd.named Bd.method).1
  have X0 : Stand p l e ({ frames := 4, cells := 5, slots := 42, locals := 52 } : Room) s m #[(.ref en), (.ref w1)] below meth c s₁ [] 0 0 := Stand.of_body Bd
  have e0 : s₁.heap = h0 := by rw [← hh, Bd.state]; rfl
  have N0 := Fr.nil n0
  have Z0 : n0 ≤ h0.size := by rw [← O0.1]; exact O0.2.1
  show own_Go p e below (s₁.setTop (entryFrame m #[(.ref en), (.ref w1)] 2)) (fun t o => ∃ v L, o = .returned v ∧ Q_rm_enq_None_w11 Z en w1 h0 n0 v t.heap L ∧ FrameEnd s o t L ({ frames := 4, cells := 5, slots := 42, locals := 52 } : Room).cells ({ frames := 4, cells := 5, slots := 42, locals := 52 } : Room).slots)
  rw [ef_rm_enq_None_w11 m en w1]
  have lt_Fq : h0.size > en := Fq.lt
  have lt_Ee : h0.size > en := Ee.lt
  have lt_Ew : h0.size > w1 := Ew.lt
  have lt_Fw : h0.size > w1 := Fw.lt
  refine own_by (fun _ k => XS.aloadN X0.here hx rfl (hb hby D5_0) rfl rfl k) ?_
  obtain ⟨T1, X1, e1, st1⟩ := getF X0 hx hZ hown (host := "") (Or.inl (own_w hw 44 rfl)) Via.refl e0 Fq (g := (mkF m 1 #[.val (.ref en), .val (.ref w1)] [(.ref en)])) rfl rfl (hb hby D5_1)
  refine own_by st1 ?_
  refine own_by (fun _ k => XS.ifnonnullNo X1.here hx rfl (hb hby D5_4) rfl k) ?_
  refine own_by (fun _ k => XS.aloadN X1.here hx rfl (hb hby D5_7) rfl rfl k) ?_
  obtain ⟨T2, h2, X2, e2, E2, A2, D2, U2, st2⟩ := newO X1 hx hZ hown (own_w hw 51 rfl) (own_w hw 52 rfl) (own_w hw 53 rfl) e1 (g := (mkF m 8 #[.val (.ref en), .val (.ref w1)] [(.ref en)])) rfl (hb hby D5_8) (by decide) (by decide)
  obtain ⟨ob2, g2⟩ : ∃ z, z = h0.size := ⟨_, rfl⟩
  rw [← g2] at A2 D2 U2 st2
  refine own_by st2 ?_
  have z2 := E2.1
  have lt2 : h2.size > ob2 := A2.lt
  refine own_by (fun _ k => XS.dup X2.here hx rfl (hb hby D5_11) rfl rfl k) ?_
  show own_Go p e below (T2.setTop (mkF m 12 #[.val (.ref en), .val (.ref w1)] [(.ref ob2), (.ref ob2), (.ref en)])) _
  have O3 : Old Z n0 h2 := (O0.ext E2)
  obtain ⟨_, _, ⟨T4, L4, k4, n4⟩, -, X4, ⟨Lc4, hQ4, l4, y4, z4⟩, st4⟩ := own_specialRef X2 hx (y := (⟨s13_, "<init>", "()V"⟩ : MethodName)) rfl hown (own_mvR hZ (own_w hw 55 rfl) (by decide) (own_w hw 54 rfl)) (mvT hZ (own_w hw 55 rfl)) (mvT hZ (own_w hw 56 rfl)) (by decide) (backOf (W := 2) (rm_qinit l Z a0 hw [] ob2 h2 n0 O3 A2 (show Fld Z h2 ob2 s13_ "conversions" s17_ .null from D2 (Or.inr (own_w hw 76 rfl)) (ty := (.object s14_)) (by decide)) (show Fld Z h2 ob2 s13_ "requests" s17_ .null from D2 (Or.inr (own_w hw 78 rfl)) (ty := (.object s14_)) (by decide)) (by first | assumption | omega | decide)) hZ (own_w hw 56 rfl) (own_w hw 53 rfl) (by decide) (by decide)) (g := (mkF m 12 #[.val (.ref en), .val (.ref w1)] [(.ref ob2), (.ref ob2), (.ref en)])) rfl (by rw [hml]; rfl) (Steps.refl _) (a := ob2) (argsL := []) (rest := [(.ref ob2), (.ref en)]) (lenOf own_pd__28_29V rfl) rfl (by show 2 * 0 + _ ≤ _; exact Nat.le_of_eq rfl) (hb hby D5_12) (fun _ _ => ⟨rfl, e2, (by decide : 1 + 4 ≤ _), (by decide : 2 + 40 ≤ _)⟩)
  dsimp only [Pt.U, Pt.locs, Pt.cells, Pt.slots] at X4 l4 y4 z4 st4 hQ4
  subst l4 y4 z4
  obtain ⟨d1_4, a1_4, kk1_4, d2_4, a2_4, kk2_4, rfl, M4, K4, g4_0, g4_1, g4_2, g4_3, g4_4, g4_5, g4_6, g4_7, g4_8, g4_9, g4_10, g4_11, g4_12, r4_0, r4_1, r4_2, r4_3, r4_4, r4_5⟩ := hQ4
  have N4 := Fr.app N0 M4
  refine own_by (fun _ k => st4.trans k) ?_
  have z4 := K4.1
  have lt_g4_0 : T4.heap.size > ob2 := g4_0.lt
  have lt_g4_1 : T4.heap.size > ob2 := g4_1.lt
  have lt_g4_2 : T4.heap.size > ob2 := g4_2.lt
  have lt_g4_3 : T4.heap.size > d1_4 := g4_3.lt
  have lt_g4_4 : T4.heap.size > d1_4 := g4_4.lt
  have lt_g4_5 : T4.heap.size > d1_4 := g4_5.lt
  have lt_g4_6 : T4.heap.size > d1_4 := g4_6.lt
  have lt_g4_7 : T4.heap.size > a1_4 := g4_7.lt
  have lt_g4_8 : T4.heap.size > d2_4 := g4_8.lt
  have lt_g4_9 : T4.heap.size > d2_4 := g4_9.lt
  have lt_g4_10 : T4.heap.size > d2_4 := g4_10.lt
  have lt_g4_11 : T4.heap.size > d2_4 := g4_11.lt
  have lt_g4_12 : T4.heap.size > a2_4 := g4_12.lt
  have fc5 : Fld Z T4.heap en s2_ "queues" s11_ .null := ((Fq.ext E2).keep K4 (ninS (own_ne (by omega)) nin0))
  have fc6 : Exa Z T4.heap en s2_ := ((Ee.ext E2).keep K4)
  obtain ⟨T7, h7, X7, e7, W7, st7⟩ := putF X4 hx hZ hown (host := "") (Or.inl (own_w hw 44 rfl)) Via.refl rfl fc5 fc6 (Or.inl (own_w hw 45 rfl)) (own_w hw 1 rfl) (ty := (.object s13_)) (by decide) rfl rfl (g := (mkF m 15 #[.val (.ref en), .val (.ref w1)] [(.ref ob2), (.ref en)])) rfl rfl (hb hby D5_15)
  refine own_by st7 ?_
  have z7 := W7.size
  have N7 := Fr.snoc X7 N4 (by omega)
  have Fw7 : Fld Z h7 en s2_ "queues" s11_ (.ref ob2) := fc5.same W7
  refine own_by (fun _ k => XS.aloadN X7.here hx rfl (hb hby D5_18) rfl rfl k) ?_
  obtain ⟨T8, X8, e8, st8⟩ := getF X7 hx hZ hown (host := "") (Or.inl (own_w hw 44 rfl)) Via.refl e7 Fw7 (g := (mkF m 19 #[.val (.ref en), .val (.ref w1)] [(.ref en)])) rfl rfl (hb hby D5_19)
  refine own_by st8 ?_
  refine own_by (fun _ k => XS.aloadN X8.here hx rfl (hb hby D5_22) rfl rfl k) ?_
  have fc9 : Fld Z h7 w1 s5_ "conversion" "Z" (.int (1 : Int32)) := (((Fw.ext E2).keep K4 (ninS (own_ne (by omega)) nin0)).other W7 (Or.inl (own_ne (by omega))))
  have fc10 : Fld Z h7 ob2 s13_ "conversions" s17_ (.ref d1_4) := (g4_1.other W7 (Or.inl (own_ne (by omega))))
  have fc11 : Fld Z h7 ob2 s13_ "requests" s17_ (.ref d2_4) := (g4_2.other W7 (Or.inl (own_ne (by omega))))
  have O12 : Old Z n0 h7 := ((O3.keep K4 (allS (by omega) all0)).wr W7 (by omega))
  have fc14 : Exa Z h7 ob2 s13_ := (g4_0.wr W7)
  obtain ⟨cq13, kq13, q13a, q13b, q13c⟩ := isOf hZ e8 fc14
  obtain ⟨_, _, ⟨T13, L13, k13, n13⟩, -, X13, ⟨Lc13, hQ13, l13, y13, z13⟩, st13⟩ := X8.virtualBack hx (y := (⟨s13_, "of", s18_⟩ : MethodName)) (z := (⟨s13_, "of", s18_⟩ : MethodName)) hown (mvT hZ (own_w hw 79 rfl)) (mvT hZ (own_w hw 80 rfl)) (notFace_of_selects (args := #[]) (mvT hZ (own_w hw 82 rfl))) (mvT hZ (own_w hw 82 rfl)) (mvT hZ (own_w hw 81 rfl)) (by decide) (backOf (W := 0) (rm_of1 l Z a0 hw [] ob2 w1 d1_4 d2_4 h7 n0 O12 fc9 fc10 fc11) hZ (own_w hw 83 rfl) (own_w hw 53 rfl) (by decide) (by decide)) q13a q13c (g := (mkF m 23 #[.val (.ref en), .val (.ref w1)] [(.ref w1), (.ref ob2)])) rfl (by rw [hml]; rfl) (Steps.refl _) (argsL := [(.ref w1)]) (rest := []) (lenOf own_pd__28Lcom_2fexample_2fadmit1_2fadmit1_2flock_2fWait_3b_29Ljava_2futil_2fArrayDeque_3b rfl) rfl (by show 2 * 0 + _ ≤ _; exact Nat.le_of_eq rfl) (hb hby D5_23) (fun _ _ => ⟨rfl, e8, (by decide : 5 + 0 ≤ _), (by decide : 42 + 0 ≤ _)⟩)
  dsimp only [Pt.U, Pt.locs, Pt.cells, Pt.slots] at X13 l13 y13 z13 st13 hQ13
  subst l13 y13 z13
  obtain ⟨rfl, M13, K13⟩ := hQ13
  have N13 := Fr.app N7 M13
  refine own_by (fun _ k => st13.trans k) ?_
  show own_Go p e below (T13.setTop (mkF m 26 #[.val (.ref en), .val (.ref w1)] [(.ref d1_4)])) _
  refine own_by (fun _ k => XS.aloadN X13.here hx rfl (hb hby D5_26) rfl rfl k) ?_
  have fc15 : Exa Z h7 d1_4 s14_ := (g4_3.wr W7)
  have fc16 : Fld Z h7 d1_4 s14_ "elements" s16_ (.ref a1_4) := (g4_4.other W7 (Or.inl (own_ne (by omega))))
  have fc17 : Fld Z h7 d1_4 s14_ "head" "I" (.int (0 : Int32)) := (g4_5.other W7 (Or.inl (own_ne (by omega))))
  have fc18 : Fld Z h7 d1_4 s14_ "tail" "I" (.int (0 : Int32)) := (g4_6.other W7 (Or.inl (own_ne (by omega))))
  have fc19 : Arv Z h7 a1_4 kk1_4 (.object s3_) (17 : Int32) [] .null := (g4_7.other W7 (own_ne (by omega)))
  have fc20 : Exa Z h7 w1 s5_ := (((Ew.ext E2).keep K4).wr W7)
  obtain ⟨cq21, kq21, q21a, q21b, q21c⟩ := isOf hZ K13 fc15
  obtain ⟨_, _, ⟨T21, L21, k21, n21⟩, -, X21, ⟨Lc21, hQ21, l21, y21, z21⟩, st21⟩ := X13.virtualBack hx (y := (⟨s14_, "addLast", s19_⟩ : MethodName)) (z := (⟨s14_, "addLast", s19_⟩ : MethodName)) hown (mvT hZ (own_w hw 85 rfl)) (mvT hZ (own_w hw 86 rfl)) (notFace_of_selects (args := #[]) (mvT hZ (own_w hw 88 rfl))) (mvT hZ (own_w hw 88 rfl)) (mvT hZ (own_w hw 87 rfl)) (by decide) (backOf (W := 0) (rm_add_0_0_w1 l Z a0 hw [] d1_4 a1_4 kk1_4 w1 h7 n0 O12 fc15 fc16 fc17 fc18 fc19 fc20 (by first | assumption | omega | decide) (by first | assumption | omega | decide) (by first | assumption | omega | decide) r4_0) hZ (own_w hw 89 rfl) (own_w hw 60 rfl) (by decide) (by decide)) q21a q21c (g := (mkF m 27 #[.val (.ref en), .val (.ref w1)] [(.ref w1), (.ref d1_4)])) rfl (by rw [hml]; rfl) (Steps.refl _) (argsL := [(.ref w1)]) (rest := []) (lenOf own_pd__28Ljava_2flang_2fObject_3b_29V rfl) rfl (by show 2 * 0 + _ ≤ _; exact Nat.le_of_eq rfl) (hb hby D5_27) (fun _ _ => ⟨rfl, K13, (by decide : 5 + 0 ≤ _), (by decide : 42 + 0 ≤ _)⟩)
  dsimp only [Pt.U, Pt.locs, Pt.cells, Pt.slots] at X21 l21 y21 z21 st21 hQ21
  subst l21 y21 z21
  obtain ⟨rfl, M21, K21, g21_0, g21_1, g21_2, g21_3, g21_4⟩ := hQ21
  have N21 := Fr.app N13 M21
  refine own_by (fun _ k => st21.trans k) ?_
  have z21 := K21.1
  have lt_g21_0 : T21.heap.size > d1_4 := g21_0.lt
  have lt_g21_1 : T21.heap.size > d1_4 := g21_1.lt
  have lt_g21_2 : T21.heap.size > d1_4 := g21_2.lt
  have lt_g21_3 : T21.heap.size > d1_4 := g21_3.lt
  have lt_g21_4 : T21.heap.size > a1_4 := g21_4.lt
  have fc22 : Fld Z T21.heap en s2_ "queues" s11_ (.ref ob2) := (Fw7.keep K21 (ninS (own_ne (by omega)) (ninS (own_ne (by omega)) nin0)))
  have fc23 : Exa Z T21.heap ob2 s13_ := (fc14.keep K21)
  have fc24 : Fld Z T21.heap ob2 s13_ "conversions" s17_ (.ref d1_4) := (fc10.keep K21 (ninS (own_ne (by omega)) (ninS (own_ne (by omega)) nin0)))
  have fc25 : Fld Z T21.heap ob2 s13_ "requests" s17_ (.ref d2_4) := (fc11.keep K21 (ninS (own_ne (by omega)) (ninS (own_ne (by omega)) nin0)))
  have fc26 : Exa Z T21.heap d2_4 s14_ := ((g4_8.wr W7).keep K21)
  have fc27 : Fld Z T21.heap d2_4 s14_ "elements" s16_ (.ref a2_4) := ((g4_9.other W7 (Or.inl (own_ne (by omega)))).keep K21 (ninS (own_ne (by omega)) (ninS (own_ne (by omega)) nin0)))
  have fc28 : Fld Z T21.heap d2_4 s14_ "head" "I" (.int (0 : Int32)) := ((g4_10.other W7 (Or.inl (own_ne (by omega)))).keep K21 (ninS (own_ne (by omega)) (ninS (own_ne (by omega)) nin0)))
  have fc29 : Fld Z T21.heap d2_4 s14_ "tail" "I" (.int (0 : Int32)) := ((g4_11.other W7 (Or.inl (own_ne (by omega)))).keep K21 (ninS (own_ne (by omega)) (ninS (own_ne (by omega)) nin0)))
  have fc30 : Arv Z T21.heap a2_4 kk2_4 (.object s3_) (17 : Int32) [] .null := ((g4_12.other W7 (own_ne (by omega))).keep K21 (ninS (own_ne (by omega)) (ninS (own_ne (by omega)) nin0)))
  have K31 : Keep h0 T21.heap [en] := (((((Keep.refl h0 [en]).ext E2).trans K4 (allS (P := fun x => x ∈ [en] ∨ h0.size ≤ x) (Or.inr (by omega)) all0)).wr W7 (Or.inl (List.mem_of_getElem? (i := 0) rfl))).trans K21 (allS (P := fun x => x ∈ [en] ∨ h0.size ≤ x) (Or.inr (by omega)) (allS (P := fun x => x ∈ [en] ∨ h0.size ≤ x) (Or.inr (by omega)) all0)))
  obtain ⟨fs, hr, hrun, hended, hW, hsame⟩ := X21.leave (v := none) (fun h => rfl)
  refine ⟨_, _, X21.returnOut hx Bd.returns (hb hby D5_30) hr, hrun, hended, _, _, rfl, ?_, ⟨_, rfl⟩, hW, hsame.mono (by decide) (by decide)⟩
  show Q_rm_enq_None_w11 Z en w1 h0 n0 _ T21.heap _
  exact ⟨ob2, d1_4, a1_4, kk1_4, d2_4, a2_4, kk2_4, rfl, N21, K31, fc22, fc23, fc24, fc25, g21_0, g21_1, g21_2, g21_3, g21_4, fc26, fc27, fc28, fc29, fc30, (by first | assumption | omega), (by first | assumption | omega), (by first | assumption | omega), (by first | assumption | omega), (by first | assumption | omega), (by first | assumption | omega), (by first | assumption | omega), (by first | assumption | omega)⟩
def Q_rm_deq_0_1_w1_0_0_w11 (Z : State) (en : Addr) (q : Addr) (d1 : Addr) (a1 : Addr) (kk1 : ClassId) (d2 : Addr) (a2 : Addr) (kk2 : ClassId) (w1 : Addr) (h0 : Heap) (n0 : Nat) (v : Option Value) (h : Heap) (L : List Loc) : Prop := v = none ∧ Fr n0 L ∧ Keep h0 h [en, d1, a1] ∧ Fld Z h en s2_ "queues" s11_ .null
theorem ef_rm_deq_0_1_w1_0_0_w11 (m : MethodId) (en : Addr) (q : Addr) (d1 : Addr) (a1 : Addr) (kk1 : ClassId) (d2 : Addr) (a2 : Addr) (kk2 : ClassId) (w1 : Addr) : entryFrame m #[(.ref en), (.ref w1)] 2 = mkF m 0 #[.val (.ref en), .val (.ref w1)] [] := by first | (simp [entryFrame, mkF, argsToLocals, Value.category]; done) | rfl
set_option maxRecDepth 65536 in
set_option maxHeartbeats 40000000 in
theorem rm_deq_0_1_w1_0_0_w11 (l : Launch) (Z : State) (a0 : Array Value) (hw : ∀ d ∈ tables_1, d.before a0 Z = true) (ws : List Jvm.Cond) (en : Addr) (q : Addr) (d1 : Addr) (a1 : Addr) (kk1 : ClassId) (d2 : Addr) (a2 : Addr) (kk2 : ClassId) (w1 : Addr) (h0 : Heap) (n0 : Nat) (O0 : Old Z n0 h0) (Fq : Fld Z h0 en s2_ "queues" s11_ (.ref q)) (Ee : Exa Z h0 en s2_) (Ew : Exa Z h0 w1 s5_) (Fw : Fld Z h0 w1 s5_ "conversion" "Z" (.int (1 : Int32))) (G0 : Exa Z h0 q s13_) (G1 : Fld Z h0 q s13_ "conversions" s17_ (.ref d1)) (G2 : Fld Z h0 q s13_ "requests" s17_ (.ref d2)) (G3 : Exa Z h0 d1 s14_) (G4 : Fld Z h0 d1 s14_ "elements" s16_ (.ref a1)) (G5 : Fld Z h0 d1 s14_ "head" "I" (.int (0 : Int32))) (G6 : Fld Z h0 d1 s14_ "tail" "I" (.int (1 : Int32))) (G7 : Arv Z h0 a1 kk1 (.object s3_) (17 : Int32) [(.ref w1)] .null) (G8 : Exa Z h0 d2 s14_) (G9 : Fld Z h0 d2 s14_ "elements" s16_ (.ref a2)) (G10 : Fld Z h0 d2 s14_ "head" "I" (.int (0 : Int32))) (G11 : Fld Z h0 d2 s14_ "tail" "I" (.int (0 : Int32))) (G12 : Arv Z h0 a2 kk2 (.object s3_) (17 : Int32) [] .null) (ge : n0 ≤ en) (nwe : ¬ (@Eq Nat w1 en)) (nea : ¬ (@Eq Nat en a1)) (ned : ¬ (@Eq Nat en d1)) (o0 : @LT.lt Nat _ q d1) (o1 : @LT.lt Nat _ d1 a1) (o2 : @LT.lt Nat _ a1 d2) (o3 : @LT.lt Nat _ d2 a2) (gq : n0 ≤ q) (ov1 : Ovr Z kk1 s3_) (ov2 : Ovr Z kk2 s3_) :
    MetFree l (⟨s2_, "dequeue", s12_⟩ : MethodName) (head1 (Jvm.Cond.code (⟨s2_, "dequeue", s12_⟩ : MethodName) prog_11_method_11_code 2 none :: ws) ({ frames := 4, cells := 0, slots := 0, locals := 67 } : Room)) (fun a U => a = #[(.ref en), (.ref w1)] ∧ Z.Warmed39 U.vm ∧ U.heap = h0) (fun _ _ _ _ _ => True) (fun _ U o U' => ∃ v L, o = .returned v ∧ Q_rm_deq_0_1_w1_0_0_w11 Z en q d1 a1 kk1 d2 a2 kk2 w1 h0 n0 v U'.heap L ∧ FrameEnd U o U' L ({ frames := 4, cells := 0, slots := 0, locals := 67 } : Room).cells ({ frames := 4, cells := 0, slots := 0, locals := 67 } : Room).slots) := by
  refine MetFree.of_bodySF (plainFor_of_name own_pn_com_example_admit1_admit1_lock_LockEntry) hisR ?_
  intro p e s m args below meth c s₁ Bd hml0 hP hK
  obtain ⟨rfl, hZ, hh⟩ := hP
  have hx := Bd.exec
  have hby := Bd.bytes
  have hml : c.maxLocals = 2 := hml0
  have hown : s.vm.findClass s2_ = some m.cls := findClass_of_methodNamed Bd.named
  have hnm := (name_of_methodNamed Bd.named Bd.method).1
  have X0 : Stand p l e ({ frames := 4, cells := 0, slots := 0, locals := 67 } : Room) s m #[(.ref en), (.ref w1)] below meth c s₁ [] 0 0 := Stand.of_body Bd
  have e0 : s₁.heap = h0 := by rw [← hh, Bd.state]; rfl
  have N0 := Fr.nil n0
  have Z0 : n0 ≤ h0.size := by rw [← O0.1]; exact O0.2.1
  show own_Go p e below (s₁.setTop (entryFrame m #[(.ref en), (.ref w1)] 2)) (fun t o => ∃ v L, o = .returned v ∧ Q_rm_deq_0_1_w1_0_0_w11 Z en q d1 a1 kk1 d2 a2 kk2 w1 h0 n0 v t.heap L ∧ FrameEnd s o t L ({ frames := 4, cells := 0, slots := 0, locals := 67 } : Room).cells ({ frames := 4, cells := 0, slots := 0, locals := 67 } : Room).slots)
  rw [ef_rm_deq_0_1_w1_0_0_w11 m en q d1 a1 kk1 d2 a2 kk2 w1]
  have lt_Fq : h0.size > en := Fq.lt
  have lt_Ee : h0.size > en := Ee.lt
  have lt_Ew : h0.size > w1 := Ew.lt
  have lt_Fw : h0.size > w1 := Fw.lt
  have lt_G0 : h0.size > q := G0.lt
  have lt_G1 : h0.size > q := G1.lt
  have lt_G2 : h0.size > q := G2.lt
  have lt_G3 : h0.size > d1 := G3.lt
  have lt_G4 : h0.size > d1 := G4.lt
  have lt_G5 : h0.size > d1 := G5.lt
  have lt_G6 : h0.size > d1 := G6.lt
  have lt_G7 : h0.size > a1 := G7.lt
  have lt_G8 : h0.size > d2 := G8.lt
  have lt_G9 : h0.size > d2 := G9.lt
  have lt_G10 : h0.size > d2 := G10.lt
  have lt_G11 : h0.size > d2 := G11.lt
  have lt_G12 : h0.size > a2 := G12.lt
  refine own_by (fun _ k => XS.aloadN X0.here hx rfl (hb hby D12_0) rfl rfl k) ?_
  obtain ⟨T1, X1, e1, st1⟩ := getF X0 hx hZ hown (host := "") (Or.inl (own_w hw 44 rfl)) Via.refl e0 Fq (g := (mkF m 1 #[.val (.ref en), .val (.ref w1)] [(.ref en)])) rfl rfl (hb hby D12_1)
  refine own_by st1 ?_
  refine own_by (fun _ k => XS.aloadN X1.here hx rfl (hb hby D12_4) rfl rfl k) ?_
  obtain ⟨cq2, kq2, q2a, q2b, q2c⟩ := isOf hZ e1 G0
  obtain ⟨_, _, ⟨T2, L2, k2, n2⟩, -, X2, ⟨Lc2, hQ2, l2, y2, z2⟩, st2⟩ := X1.virtualBack hx (y := (⟨s13_, "of", s18_⟩ : MethodName)) (z := (⟨s13_, "of", s18_⟩ : MethodName)) hown (mvT hZ (own_w hw 79 rfl)) (mvT hZ (own_w hw 80 rfl)) (notFace_of_selects (args := #[]) (mvT hZ (own_w hw 82 rfl))) (mvT hZ (own_w hw 82 rfl)) (mvT hZ (own_w hw 81 rfl)) (by decide) (backOf (W := 0) (rm_of1 l Z a0 hw [] q w1 d1 d2 h0 n0 O0 Fw G1 G2) hZ (own_w hw 83 rfl) (own_w hw 53 rfl) (by decide) (by decide)) q2a q2c (g := (mkF m 5 #[.val (.ref en), .val (.ref w1)] [(.ref w1), (.ref q)])) rfl (by rw [hml]; rfl) (Steps.refl _) (argsL := [(.ref w1)]) (rest := []) (lenOf own_pd__28Lcom_2fexample_2fadmit1_2fadmit1_2flock_2fWait_3b_29Ljava_2futil_2fArrayDeque_3b rfl) rfl (by show 2 * 0 + _ ≤ _; exact Nat.le_of_eq rfl) (hb hby D12_5) (fun _ _ => ⟨rfl, e1, (by decide : 0 + 0 ≤ _), (by decide : 0 + 0 ≤ _)⟩)
  dsimp only [Pt.U, Pt.locs, Pt.cells, Pt.slots] at X2 l2 y2 z2 st2 hQ2
  subst l2 y2 z2
  obtain ⟨rfl, M2, K2⟩ := hQ2
  have N2 := Fr.app N0 M2
  refine own_by (fun _ k => st2.trans k) ?_
  refine own_by (fun _ k => XS.aloadN X2.here hx rfl (hb hby D12_8) rfl rfl k) ?_
  obtain ⟨cq3, kq3, q3a, q3b, q3c⟩ := isOf hZ K2 G3
  obtain ⟨_, _, ⟨T3, L3, k3, n3⟩, -, X3, ⟨Lc3, hQ3, l3, y3, z3⟩, st3⟩ := X2.virtualBack hx (y := (⟨s14_, "remove", s20_⟩ : MethodName)) (z := (⟨s14_, "remove", s20_⟩ : MethodName)) hown (mvT hZ (own_w hw 103 rfl)) (mvT hZ (own_w hw 104 rfl)) (notFace_of_selects (args := #[]) (mvT hZ (own_w hw 106 rfl))) (mvT hZ (own_w hw 106 rfl)) (mvT hZ (own_w hw 105 rfl)) (by decide) (backOf (W := 0) (rm_rem_0_1_w1_w1 l Z a0 hw [] d1 a1 kk1 w1 h0 n0 O0 G3 G4 G5 G6 G7 Ew (by first | assumption | omega | decide) (by first | assumption | omega | decide) (by first | assumption | omega | decide)) hZ (own_w hw 107 rfl) (own_w hw 60 rfl) (by decide) (by decide)) q3a q3c (g := (mkF m 9 #[.val (.ref en), .val (.ref w1)] [(.ref w1), (.ref d1)])) rfl (by rw [hml]; rfl) (Steps.refl _) (argsL := [(.ref w1)]) (rest := []) (lenOf own_pd__28Ljava_2flang_2fObject_3b_29Z rfl) rfl (by show 2 * 0 + _ ≤ _; exact Nat.le_of_eq rfl) (hb hby D12_9) (fun _ _ => ⟨rfl, K2, (by decide : 0 + 0 ≤ _), (by decide : 0 + 0 ≤ _)⟩)
  dsimp only [Pt.U, Pt.locs, Pt.cells, Pt.slots] at X3 l3 y3 z3 st3 hQ3
  subst l3 y3 z3
  obtain ⟨rfl, M3, K3, g3_0, g3_1, g3_2, g3_3, g3_4⟩ := hQ3
  have N3 := Fr.app N2 M3
  refine own_by (fun _ k => st3.trans k) ?_
  have z3 := K3.1
  have lt_g3_0 : T3.heap.size > d1 := g3_0.lt
  have lt_g3_1 : T3.heap.size > d1 := g3_1.lt
  have lt_g3_2 : T3.heap.size > d1 := g3_2.lt
  have lt_g3_3 : T3.heap.size > d1 := g3_3.lt
  have lt_g3_4 : T3.heap.size > a1 := g3_4.lt
  show own_Go p e below (T3.setTop (mkF m 12 #[.val (.ref en), .val (.ref w1)] [(.int (1 : Int32))])) _
  refine own_by (fun _ k => XS.pop X3.here hx rfl (hb hby D12_12) rfl rfl k) ?_
  refine own_by (fun _ k => XS.aloadN X3.here hx rfl (hb hby D12_13) rfl rfl k) ?_
  have fc4 : Fld Z T3.heap en s2_ "queues" s11_ (.ref q) := (Fq.keep K3 (ninS (own_ne (by omega)) (ninS (own_ne (by omega)) nin0)))
  obtain ⟨T5, X5, e5, st5⟩ := getF X3 hx hZ hown (host := "") (Or.inl (own_w hw 44 rfl)) Via.refl rfl fc4 (g := (mkF m 14 #[.val (.ref en), .val (.ref w1)] [(.ref en)])) rfl rfl (hb hby D12_14)
  refine own_by st5 ?_
  have fc6 : Fld Z T3.heap q s13_ "conversions" s17_ (.ref d1) := (G1.keep K3 (ninS (own_ne (by omega)) (ninS (own_ne (by omega)) nin0)))
  obtain ⟨T7, X7, e7, st7⟩ := getF X5 hx hZ hown (host := "") (Or.inl (own_w hw 133 rfl)) Via.refl e5 fc6 (g := (mkF m 17 #[.val (.ref en), .val (.ref w1)] [(.ref q)])) rfl rfl (hb hby D12_17)
  refine own_by st7 ?_
  have O8 : Old Z n0 T3.heap := (O0.keep K3 (allS (by omega) (allS (by omega) all0)))
  obtain ⟨cq9, kq9, q9a, q9b, q9c⟩ := isOf hZ e7 g3_0
  obtain ⟨_, _, ⟨T9, L9, k9, n9⟩, -, X9, ⟨Lc9, hQ9, l9, y9, z9⟩, st9⟩ := X7.virtualBack hx (y := (⟨s14_, "isEmpty", "()Z"⟩ : MethodName)) (z := (⟨s14_, "isEmpty", "()Z"⟩ : MethodName)) hown (mvT hZ (own_w hw 134 rfl)) (mvT hZ (own_w hw 135 rfl)) (notFace_of_selects (args := #[]) (mvT hZ (own_w hw 137 rfl))) (mvT hZ (own_w hw 137 rfl)) (mvT hZ (own_w hw 136 rfl)) (by decide) (backOf (W := 0) (rm_emp0_0 l Z a0 hw [] d1 T3.heap n0 O8 g3_2 g3_3) hZ (own_w hw 138 rfl) (own_w hw 60 rfl) (by decide) (by decide)) q9a q9c (g := (mkF m 20 #[.val (.ref en), .val (.ref w1)] [(.ref d1)])) rfl (by rw [hml]; rfl) (Steps.refl _) (argsL := []) (rest := []) (lenOf own_pd__28_29Z rfl) rfl (by show 2 * 0 + _ ≤ _; exact Nat.le_of_eq rfl) (hb hby D12_20) (fun _ _ => ⟨rfl, e7, (by decide : 0 + 0 ≤ _), (by decide : 0 + 0 ≤ _)⟩)
  dsimp only [Pt.U, Pt.locs, Pt.cells, Pt.slots] at X9 l9 y9 z9 st9 hQ9
  subst l9 y9 z9
  obtain ⟨rfl, M9, K9⟩ := hQ9
  have N9 := Fr.app N3 M9
  refine own_by (fun _ k => st9.trans k) ?_
  refine own_by (fun _ k => XS.ifNo X9.here hx rfl (hb hby D12_23) rfl ((if0 _ _).trans (feq (by decide : ¬ ((1 : Int32) = (0 : Int32)))).1) k) ?_
  show own_Go p e below (T9.setTop (mkF m 26 #[.val (.ref en), .val (.ref w1)] [])) _
  refine own_by (fun _ k => XS.aloadN X9.here hx rfl (hb hby D12_26) rfl rfl k) ?_
  obtain ⟨T10, X10, e10, st10⟩ := getF X9 hx hZ hown (host := "") (Or.inl (own_w hw 44 rfl)) Via.refl K9 fc4 (g := (mkF m 27 #[.val (.ref en), .val (.ref w1)] [(.ref en)])) rfl rfl (hb hby D12_27)
  refine own_by st10 ?_
  have fc11 : Fld Z T3.heap q s13_ "requests" s17_ (.ref d2) := (G2.keep K3 (ninS (own_ne (by omega)) (ninS (own_ne (by omega)) nin0)))
  obtain ⟨T12, X12, e12, st12⟩ := getF X10 hx hZ hown (host := "") (Or.inl (own_w hw 139 rfl)) Via.refl e10 fc11 (g := (mkF m 30 #[.val (.ref en), .val (.ref w1)] [(.ref q)])) rfl rfl (hb hby D12_30)
  refine own_by st12 ?_
  have fc13 : Fld Z T3.heap d2 s14_ "head" "I" (.int (0 : Int32)) := (G10.keep K3 (ninS (own_ne (by omega)) (ninS (own_ne (by omega)) nin0)))
  have fc14 : Fld Z T3.heap d2 s14_ "tail" "I" (.int (0 : Int32)) := (G11.keep K3 (ninS (own_ne (by omega)) (ninS (own_ne (by omega)) nin0)))
  have fc16 : Exa Z T3.heap d2 s14_ := (G8.keep K3)
  obtain ⟨cq15, kq15, q15a, q15b, q15c⟩ := isOf hZ e12 fc16
  obtain ⟨_, _, ⟨T15, L15, k15, n15⟩, -, X15, ⟨Lc15, hQ15, l15, y15, z15⟩, st15⟩ := X12.virtualBack hx (y := (⟨s14_, "isEmpty", "()Z"⟩ : MethodName)) (z := (⟨s14_, "isEmpty", "()Z"⟩ : MethodName)) hown (mvT hZ (own_w hw 134 rfl)) (mvT hZ (own_w hw 135 rfl)) (notFace_of_selects (args := #[]) (mvT hZ (own_w hw 137 rfl))) (mvT hZ (own_w hw 137 rfl)) (mvT hZ (own_w hw 136 rfl)) (by decide) (backOf (W := 0) (rm_emp0_0 l Z a0 hw [] d2 T3.heap n0 O8 fc13 fc14) hZ (own_w hw 138 rfl) (own_w hw 60 rfl) (by decide) (by decide)) q15a q15c (g := (mkF m 33 #[.val (.ref en), .val (.ref w1)] [(.ref d2)])) rfl (by rw [hml]; rfl) (Steps.refl _) (argsL := []) (rest := []) (lenOf own_pd__28_29Z rfl) rfl (by show 2 * 0 + _ ≤ _; exact Nat.le_of_eq rfl) (hb hby D12_33) (fun _ _ => ⟨rfl, e12, (by decide : 0 + 0 ≤ _), (by decide : 0 + 0 ≤ _)⟩)
  dsimp only [Pt.U, Pt.locs, Pt.cells, Pt.slots] at X15 l15 y15 z15 st15 hQ15
  subst l15 y15 z15
  obtain ⟨rfl, M15, K15⟩ := hQ15
  have N15 := Fr.app N9 M15
  refine own_by (fun _ k => st15.trans k) ?_
  refine own_by (fun _ k => XS.ifNo X15.here hx rfl (hb hby D12_36) rfl ((if0 _ _).trans (feq (by decide : ¬ ((1 : Int32) = (0 : Int32)))).1) k) ?_
  show own_Go p e below (T15.setTop (mkF m 39 #[.val (.ref en), .val (.ref w1)] [])) _
  refine own_by (fun _ k => XS.aloadN X15.here hx rfl (hb hby D12_39) rfl rfl k) ?_
  refine own_by (fun _ k => XS.aconstNull X15.here hx rfl (hb hby D12_40) k) ?_
  have fc17 : Exa Z T3.heap en s2_ := (Ee.keep K3)
  obtain ⟨T18, h18, X18, e18, W18, st18⟩ := putF X15 hx hZ hown (host := "") (Or.inl (own_w hw 44 rfl)) Via.refl K15 fc4 fc17 (Or.inl (own_w hw 45 rfl)) (own_w hw 1 rfl) (ty := (.object s13_)) (by decide) rfl rfl (g := (mkF m 41 #[.val (.ref en), .val (.ref w1)] [.null, (.ref en)])) rfl rfl (hb hby D12_41)
  refine own_by st18 ?_
  have z18 := W18.size
  have N18 := Fr.snoc X18 N15 (by omega)
  have Fw18 : Fld Z h18 en s2_ "queues" s11_ .null := fc4.same W18
  have K19 : Keep h0 h18 [en, d1, a1] := (((Keep.refl h0 [en, d1, a1]).trans K3 (allS (P := fun x => x ∈ [en, d1, a1] ∨ h0.size ≤ x) (Or.inl (List.mem_of_getElem? (i := 1) rfl)) (allS (P := fun x => x ∈ [en, d1, a1] ∨ h0.size ≤ x) (Or.inl (List.mem_of_getElem? (i := 2) rfl)) all0))).wr W18 (Or.inl (List.mem_of_getElem? (i := 0) rfl)))
  obtain ⟨fs, hr, hrun, hended, hW, hsame⟩ := X18.leave (v := none) (fun h => rfl)
  refine ⟨_, _, X18.returnOut hx Bd.returns (hb hby D12_44) hr, hrun, hended, _, _, rfl, ?_, ⟨_, rfl⟩, hW, hsame.mono (by decide) (by decide)⟩
  show Q_rm_deq_0_1_w1_0_0_w11 Z en q d1 a1 kk1 d2 a2 kk2 w1 h0 n0 _ T18.heap _
  rw [e18]
  exact ⟨rfl, N18, K19, Fw18⟩
def Q_rm_enq_0_0_0_1_w1_w21 (Z : State) (en : Addr) (q : Addr) (d1 : Addr) (a1 : Addr) (kk1 : ClassId) (d2 : Addr) (a2 : Addr) (kk2 : ClassId) (w1 : Addr) (w2 : Addr) (h0 : Heap) (n0 : Nat) (v : Option Value) (h : Heap) (L : List Loc) : Prop := v = none ∧ Fr n0 L ∧ Keep h0 h [d1, a1] ∧ Fld Z h en s2_ "queues" s11_ (.ref q) ∧ Exa Z h q s13_ ∧ Fld Z h q s13_ "conversions" s17_ (.ref d1) ∧ Fld Z h q s13_ "requests" s17_ (.ref d2) ∧ Exa Z h d1 s14_ ∧ Fld Z h d1 s14_ "elements" s16_ (.ref a1) ∧ Fld Z h d1 s14_ "head" "I" (.int (0 : Int32)) ∧ Fld Z h d1 s14_ "tail" "I" (.int (1 : Int32)) ∧ Arv Z h a1 kk1 (.object s3_) (17 : Int32) [(.ref w2)] .null ∧ Exa Z h d2 s14_ ∧ Fld Z h d2 s14_ "elements" s16_ (.ref a2) ∧ Fld Z h d2 s14_ "head" "I" (.int (0 : Int32)) ∧ Fld Z h d2 s14_ "tail" "I" (.int (1 : Int32)) ∧ Arv Z h a2 kk2 (.object s3_) (17 : Int32) [(.ref w1)] .null
theorem ef_rm_enq_0_0_0_1_w1_w21 (m : MethodId) (en : Addr) (q : Addr) (d1 : Addr) (a1 : Addr) (kk1 : ClassId) (d2 : Addr) (a2 : Addr) (kk2 : ClassId) (w1 : Addr) (w2 : Addr) : entryFrame m #[(.ref en), (.ref w2)] 2 = mkF m 0 #[.val (.ref en), .val (.ref w2)] [] := by first | (simp [entryFrame, mkF, argsToLocals, Value.category]; done) | rfl
set_option maxRecDepth 65536 in
set_option maxHeartbeats 40000000 in
theorem rm_enq_0_0_0_1_w1_w21 (l : Launch) (Z : State) (a0 : Array Value) (hw : ∀ d ∈ tables_1, d.before a0 Z = true) (ws : List Jvm.Cond) (en : Addr) (q : Addr) (d1 : Addr) (a1 : Addr) (kk1 : ClassId) (d2 : Addr) (a2 : Addr) (kk2 : ClassId) (w1 : Addr) (w2 : Addr) (h0 : Heap) (n0 : Nat) (O0 : Old Z n0 h0) (Fq : Fld Z h0 en s2_ "queues" s11_ (.ref q)) (Ee : Exa Z h0 en s2_) (Ew : Exa Z h0 w2 s5_) (Fw : Fld Z h0 w2 s5_ "conversion" "Z" (.int (1 : Int32))) (G0 : Exa Z h0 q s13_) (G1 : Fld Z h0 q s13_ "conversions" s17_ (.ref d1)) (G2 : Fld Z h0 q s13_ "requests" s17_ (.ref d2)) (G3 : Exa Z h0 d1 s14_) (G4 : Fld Z h0 d1 s14_ "elements" s16_ (.ref a1)) (G5 : Fld Z h0 d1 s14_ "head" "I" (.int (0 : Int32))) (G6 : Fld Z h0 d1 s14_ "tail" "I" (.int (0 : Int32))) (G7 : Arv Z h0 a1 kk1 (.object s3_) (17 : Int32) [] .null) (G8 : Exa Z h0 d2 s14_) (G9 : Fld Z h0 d2 s14_ "elements" s16_ (.ref a2)) (G10 : Fld Z h0 d2 s14_ "head" "I" (.int (0 : Int32))) (G11 : Fld Z h0 d2 s14_ "tail" "I" (.int (1 : Int32))) (G12 : Arv Z h0 a2 kk2 (.object s3_) (17 : Int32) [(.ref w1)] .null) (ge : n0 ≤ en) (nwe : ¬ (@Eq Nat w2 en)) (nea : ¬ (@Eq Nat en a1)) (ned : ¬ (@Eq Nat en d1)) (o0 : @LT.lt Nat _ q d1) (o1 : @LT.lt Nat _ d1 a1) (o2 : @LT.lt Nat _ a1 d2) (o3 : @LT.lt Nat _ d2 a2) (gq : n0 ≤ q) (ov1 : Ovr Z kk1 s3_) (ov2 : Ovr Z kk2 s3_) :
    MetFree l (⟨s2_, "enqueue", s12_⟩ : MethodName) (head1 (Jvm.Cond.code (⟨s2_, "enqueue", s12_⟩ : MethodName) prog_11_method_10_code 2 none :: ws) ({ frames := 2, cells := 0, slots := 0, locals := 29 } : Room)) (fun a U => a = #[(.ref en), (.ref w2)] ∧ Z.Warmed39 U.vm ∧ U.heap = h0) (fun _ _ _ _ _ => True) (fun _ U o U' => ∃ v L, o = .returned v ∧ Q_rm_enq_0_0_0_1_w1_w21 Z en q d1 a1 kk1 d2 a2 kk2 w1 w2 h0 n0 v U'.heap L ∧ FrameEnd U o U' L ({ frames := 2, cells := 0, slots := 0, locals := 29 } : Room).cells ({ frames := 2, cells := 0, slots := 0, locals := 29 } : Room).slots) := by
  refine MetFree.of_bodySF (plainFor_of_name own_pn_com_example_admit1_admit1_lock_LockEntry) hisR ?_
  intro p e s m args below meth c s₁ Bd hml0 hP hK
  obtain ⟨rfl, hZ, hh⟩ := hP
  have hx := Bd.exec
  have hby := Bd.bytes
  have hml : c.maxLocals = 2 := hml0
  have hown : s.vm.findClass s2_ = some m.cls := findClass_of_methodNamed Bd.named
  have hnm := (name_of_methodNamed Bd.named Bd.method).1
  have X0 : Stand p l e ({ frames := 2, cells := 0, slots := 0, locals := 29 } : Room) s m #[(.ref en), (.ref w2)] below meth c s₁ [] 0 0 := Stand.of_body Bd
  have e0 : s₁.heap = h0 := by rw [← hh, Bd.state]; rfl
  have N0 := Fr.nil n0
  have Z0 : n0 ≤ h0.size := by rw [← O0.1]; exact O0.2.1
  show own_Go p e below (s₁.setTop (entryFrame m #[(.ref en), (.ref w2)] 2)) (fun t o => ∃ v L, o = .returned v ∧ Q_rm_enq_0_0_0_1_w1_w21 Z en q d1 a1 kk1 d2 a2 kk2 w1 w2 h0 n0 v t.heap L ∧ FrameEnd s o t L ({ frames := 2, cells := 0, slots := 0, locals := 29 } : Room).cells ({ frames := 2, cells := 0, slots := 0, locals := 29 } : Room).slots)
  rw [ef_rm_enq_0_0_0_1_w1_w21 m en q d1 a1 kk1 d2 a2 kk2 w1 w2]
  have lt_Fq : h0.size > en := Fq.lt
  have lt_Ee : h0.size > en := Ee.lt
  have lt_Ew : h0.size > w2 := Ew.lt
  have lt_Fw : h0.size > w2 := Fw.lt
  have lt_G0 : h0.size > q := G0.lt
  have lt_G1 : h0.size > q := G1.lt
  have lt_G2 : h0.size > q := G2.lt
  have lt_G3 : h0.size > d1 := G3.lt
  have lt_G4 : h0.size > d1 := G4.lt
  have lt_G5 : h0.size > d1 := G5.lt
  have lt_G6 : h0.size > d1 := G6.lt
  have lt_G7 : h0.size > a1 := G7.lt
  have lt_G8 : h0.size > d2 := G8.lt
  have lt_G9 : h0.size > d2 := G9.lt
  have lt_G10 : h0.size > d2 := G10.lt
  have lt_G11 : h0.size > d2 := G11.lt
  have lt_G12 : h0.size > a2 := G12.lt
  refine own_by (fun _ k => XS.aloadN X0.here hx rfl (hb hby D5_0) rfl rfl k) ?_
  obtain ⟨T1, X1, e1, st1⟩ := getF X0 hx hZ hown (host := "") (Or.inl (own_w hw 44 rfl)) Via.refl e0 Fq (g := (mkF m 1 #[.val (.ref en), .val (.ref w2)] [(.ref en)])) rfl rfl (hb hby D5_1)
  refine own_by st1 ?_
  refine own_by (fun _ k => XS.ifnonnullYes X1.here hx rfl (pc0 := 4) (pc' := 18) rfl (hb hby D5_4) rfl (by decide) (by decide) k) ?_
  show own_Go p e below (T1.setTop (mkF m 18 #[.val (.ref en), .val (.ref w2)] [])) _
  refine own_by (fun _ k => XS.aloadN X1.here hx rfl (hb hby D5_18) rfl rfl k) ?_
  obtain ⟨T2, X2, e2, st2⟩ := getF X1 hx hZ hown (host := "") (Or.inl (own_w hw 44 rfl)) Via.refl e1 Fq (g := (mkF m 19 #[.val (.ref en), .val (.ref w2)] [(.ref en)])) rfl rfl (hb hby D5_19)
  refine own_by st2 ?_
  refine own_by (fun _ k => XS.aloadN X2.here hx rfl (hb hby D5_22) rfl rfl k) ?_
  obtain ⟨cq3, kq3, q3a, q3b, q3c⟩ := isOf hZ e2 G0
  obtain ⟨_, _, ⟨T3, L3, k3, n3⟩, -, X3, ⟨Lc3, hQ3, l3, y3, z3⟩, st3⟩ := X2.virtualBack hx (y := (⟨s13_, "of", s18_⟩ : MethodName)) (z := (⟨s13_, "of", s18_⟩ : MethodName)) hown (mvT hZ (own_w hw 79 rfl)) (mvT hZ (own_w hw 80 rfl)) (notFace_of_selects (args := #[]) (mvT hZ (own_w hw 82 rfl))) (mvT hZ (own_w hw 82 rfl)) (mvT hZ (own_w hw 81 rfl)) (by decide) (backOf (W := 0) (rm_of1 l Z a0 hw [] q w2 d1 d2 h0 n0 O0 Fw G1 G2) hZ (own_w hw 83 rfl) (own_w hw 53 rfl) (by decide) (by decide)) q3a q3c (g := (mkF m 23 #[.val (.ref en), .val (.ref w2)] [(.ref w2), (.ref q)])) rfl (by rw [hml]; rfl) (Steps.refl _) (argsL := [(.ref w2)]) (rest := []) (lenOf own_pd__28Lcom_2fexample_2fadmit1_2fadmit1_2flock_2fWait_3b_29Ljava_2futil_2fArrayDeque_3b rfl) rfl (by show 2 * 0 + _ ≤ _; exact Nat.le_of_eq rfl) (hb hby D5_23) (fun _ _ => ⟨rfl, e2, (by decide : 0 + 0 ≤ _), (by decide : 0 + 0 ≤ _)⟩)
  dsimp only [Pt.U, Pt.locs, Pt.cells, Pt.slots] at X3 l3 y3 z3 st3 hQ3
  subst l3 y3 z3
  obtain ⟨rfl, M3, K3⟩ := hQ3
  have N3 := Fr.app N0 M3
  refine own_by (fun _ k => st3.trans k) ?_
  refine own_by (fun _ k => XS.aloadN X3.here hx rfl (hb hby D5_26) rfl rfl k) ?_
  obtain ⟨cq4, kq4, q4a, q4b, q4c⟩ := isOf hZ K3 G3
  obtain ⟨_, _, ⟨T4, L4, k4, n4⟩, -, X4, ⟨Lc4, hQ4, l4, y4, z4⟩, st4⟩ := X3.virtualBack hx (y := (⟨s14_, "addLast", s19_⟩ : MethodName)) (z := (⟨s14_, "addLast", s19_⟩ : MethodName)) hown (mvT hZ (own_w hw 85 rfl)) (mvT hZ (own_w hw 86 rfl)) (notFace_of_selects (args := #[]) (mvT hZ (own_w hw 88 rfl))) (mvT hZ (own_w hw 88 rfl)) (mvT hZ (own_w hw 87 rfl)) (by decide) (backOf (W := 0) (rm_add_0_0_w1 l Z a0 hw [] d1 a1 kk1 w2 h0 n0 O0 G3 G4 G5 G6 G7 Ew (by first | assumption | omega | decide) (by first | assumption | omega | decide) (by first | assumption | omega | decide) ov1) hZ (own_w hw 89 rfl) (own_w hw 60 rfl) (by decide) (by decide)) q4a q4c (g := (mkF m 27 #[.val (.ref en), .val (.ref w2)] [(.ref w2), (.ref d1)])) rfl (by rw [hml]; rfl) (Steps.refl _) (argsL := [(.ref w2)]) (rest := []) (lenOf own_pd__28Ljava_2flang_2fObject_3b_29V rfl) rfl (by show 2 * 0 + _ ≤ _; exact Nat.le_of_eq rfl) (hb hby D5_27) (fun _ _ => ⟨rfl, K3, (by decide : 0 + 0 ≤ _), (by decide : 0 + 0 ≤ _)⟩)
  dsimp only [Pt.U, Pt.locs, Pt.cells, Pt.slots] at X4 l4 y4 z4 st4 hQ4
  subst l4 y4 z4
  obtain ⟨rfl, M4, K4, g4_0, g4_1, g4_2, g4_3, g4_4⟩ := hQ4
  have N4 := Fr.app N3 M4
  refine own_by (fun _ k => st4.trans k) ?_
  have z4 := K4.1
  have lt_g4_0 : T4.heap.size > d1 := g4_0.lt
  have lt_g4_1 : T4.heap.size > d1 := g4_1.lt
  have lt_g4_2 : T4.heap.size > d1 := g4_2.lt
  have lt_g4_3 : T4.heap.size > d1 := g4_3.lt
  have lt_g4_4 : T4.heap.size > a1 := g4_4.lt
  show own_Go p e below (T4.setTop (mkF m 30 #[.val (.ref en), .val (.ref w2)] [])) _
  have fc5 : Fld Z T4.heap en s2_ "queues" s11_ (.ref q) := (Fq.keep K4 (ninS (own_ne (by omega)) (ninS (own_ne (by omega)) nin0)))
  have fc6 : Exa Z T4.heap q s13_ := (G0.keep K4)
  have fc7 : Fld Z T4.heap q s13_ "conversions" s17_ (.ref d1) := (G1.keep K4 (ninS (own_ne (by omega)) (ninS (own_ne (by omega)) nin0)))
  have fc8 : Fld Z T4.heap q s13_ "requests" s17_ (.ref d2) := (G2.keep K4 (ninS (own_ne (by omega)) (ninS (own_ne (by omega)) nin0)))
  have fc9 : Exa Z T4.heap d2 s14_ := (G8.keep K4)
  have fc10 : Fld Z T4.heap d2 s14_ "elements" s16_ (.ref a2) := (G9.keep K4 (ninS (own_ne (by omega)) (ninS (own_ne (by omega)) nin0)))
  have fc11 : Fld Z T4.heap d2 s14_ "head" "I" (.int (0 : Int32)) := (G10.keep K4 (ninS (own_ne (by omega)) (ninS (own_ne (by omega)) nin0)))
  have fc12 : Fld Z T4.heap d2 s14_ "tail" "I" (.int (1 : Int32)) := (G11.keep K4 (ninS (own_ne (by omega)) (ninS (own_ne (by omega)) nin0)))
  have fc13 : Arv Z T4.heap a2 kk2 (.object s3_) (17 : Int32) [(.ref w1)] .null := (G12.keep K4 (ninS (own_ne (by omega)) (ninS (own_ne (by omega)) nin0)))
  have K14 : Keep h0 T4.heap [d1, a1] := ((Keep.refl h0 [d1, a1]).trans K4 (allS (P := fun x => x ∈ [d1, a1] ∨ h0.size ≤ x) (Or.inl (List.mem_of_getElem? (i := 0) rfl)) (allS (P := fun x => x ∈ [d1, a1] ∨ h0.size ≤ x) (Or.inl (List.mem_of_getElem? (i := 1) rfl)) all0)))
  obtain ⟨fs, hr, hrun, hended, hW, hsame⟩ := X4.leave (v := none) (fun h => rfl)
  refine ⟨_, _, X4.returnOut hx Bd.returns (hb hby D5_30) hr, hrun, hended, _, _, rfl, ?_, ⟨_, rfl⟩, hW, hsame.mono (by decide) (by decide)⟩
  show Q_rm_enq_0_0_0_1_w1_w21 Z en q d1 a1 kk1 d2 a2 kk2 w1 w2 h0 n0 _ T4.heap _
  exact ⟨rfl, N4, K14, fc5, fc6, fc7, fc8, g4_0, g4_1, g4_2, g4_3, g4_4, fc9, fc10, fc11, fc12, fc13⟩
def Q_rm_deq_0_1_w1_0_1_w2_w20 (Z : State) (en : Addr) (q : Addr) (d1 : Addr) (a1 : Addr) (kk1 : ClassId) (d2 : Addr) (a2 : Addr) (kk2 : ClassId) (w1 : Addr) (w2 : Addr) (h0 : Heap) (n0 : Nat) (v : Option Value) (h : Heap) (L : List Loc) : Prop := v = none ∧ Fr n0 L ∧ Keep h0 h [en, d2, a2] ∧ Fld Z h en s2_ "queues" s11_ (.ref q) ∧ Exa Z h q s13_ ∧ Fld Z h q s13_ "conversions" s17_ (.ref d1) ∧ Fld Z h q s13_ "requests" s17_ (.ref d2) ∧ Exa Z h d1 s14_ ∧ Fld Z h d1 s14_ "elements" s16_ (.ref a1) ∧ Fld Z h d1 s14_ "head" "I" (.int (0 : Int32)) ∧ Fld Z h d1 s14_ "tail" "I" (.int (1 : Int32)) ∧ Arv Z h a1 kk1 (.object s3_) (17 : Int32) [(.ref w1)] .null ∧ Exa Z h d2 s14_ ∧ Fld Z h d2 s14_ "elements" s16_ (.ref a2) ∧ Fld Z h d2 s14_ "head" "I" (.int (0 : Int32)) ∧ Fld Z h d2 s14_ "tail" "I" (.int (0 : Int32)) ∧ Arv Z h a2 kk2 (.object s3_) (17 : Int32) [] .null
theorem ef_rm_deq_0_1_w1_0_1_w2_w20 (m : MethodId) (en : Addr) (q : Addr) (d1 : Addr) (a1 : Addr) (kk1 : ClassId) (d2 : Addr) (a2 : Addr) (kk2 : ClassId) (w1 : Addr) (w2 : Addr) : entryFrame m #[(.ref en), (.ref w2)] 2 = mkF m 0 #[.val (.ref en), .val (.ref w2)] [] := by first | (simp [entryFrame, mkF, argsToLocals, Value.category]; done) | rfl
set_option maxRecDepth 65536 in
set_option maxHeartbeats 40000000 in
theorem rm_deq_0_1_w1_0_1_w2_w20 (l : Launch) (Z : State) (a0 : Array Value) (hw : ∀ d ∈ tables_1, d.before a0 Z = true) (ws : List Jvm.Cond) (en : Addr) (q : Addr) (d1 : Addr) (a1 : Addr) (kk1 : ClassId) (d2 : Addr) (a2 : Addr) (kk2 : ClassId) (w1 : Addr) (w2 : Addr) (h0 : Heap) (n0 : Nat) (O0 : Old Z n0 h0) (Fq : Fld Z h0 en s2_ "queues" s11_ (.ref q)) (Ee : Exa Z h0 en s2_) (Ew : Exa Z h0 w2 s5_) (Fw : Fld Z h0 w2 s5_ "conversion" "Z" (.int (0 : Int32))) (G0 : Exa Z h0 q s13_) (G1 : Fld Z h0 q s13_ "conversions" s17_ (.ref d1)) (G2 : Fld Z h0 q s13_ "requests" s17_ (.ref d2)) (G3 : Exa Z h0 d1 s14_) (G4 : Fld Z h0 d1 s14_ "elements" s16_ (.ref a1)) (G5 : Fld Z h0 d1 s14_ "head" "I" (.int (0 : Int32))) (G6 : Fld Z h0 d1 s14_ "tail" "I" (.int (1 : Int32))) (G7 : Arv Z h0 a1 kk1 (.object s3_) (17 : Int32) [(.ref w1)] .null) (G8 : Exa Z h0 d2 s14_) (G9 : Fld Z h0 d2 s14_ "elements" s16_ (.ref a2)) (G10 : Fld Z h0 d2 s14_ "head" "I" (.int (0 : Int32))) (G11 : Fld Z h0 d2 s14_ "tail" "I" (.int (1 : Int32))) (G12 : Arv Z h0 a2 kk2 (.object s3_) (17 : Int32) [(.ref w2)] .null) (ge : n0 ≤ en) (nwe : ¬ (@Eq Nat w2 en)) (nea : ¬ (@Eq Nat en a2)) (ned : ¬ (@Eq Nat en d2)) (o0 : @LT.lt Nat _ q d1) (o1 : @LT.lt Nat _ d1 a1) (o2 : @LT.lt Nat _ a1 d2) (o3 : @LT.lt Nat _ d2 a2) (gq : n0 ≤ q) (ov1 : Ovr Z kk1 s3_) (ov2 : Ovr Z kk2 s3_) :
    MetFree l (⟨s2_, "dequeue", s12_⟩ : MethodName) (head1 (Jvm.Cond.code (⟨s2_, "dequeue", s12_⟩ : MethodName) prog_11_method_11_code 2 none :: ws) ({ frames := 4, cells := 0, slots := 0, locals := 67 } : Room)) (fun a U => a = #[(.ref en), (.ref w2)] ∧ Z.Warmed39 U.vm ∧ U.heap = h0) (fun _ _ _ _ _ => True) (fun _ U o U' => ∃ v L, o = .returned v ∧ Q_rm_deq_0_1_w1_0_1_w2_w20 Z en q d1 a1 kk1 d2 a2 kk2 w1 w2 h0 n0 v U'.heap L ∧ FrameEnd U o U' L ({ frames := 4, cells := 0, slots := 0, locals := 67 } : Room).cells ({ frames := 4, cells := 0, slots := 0, locals := 67 } : Room).slots) := by
  refine MetFree.of_bodySF (plainFor_of_name own_pn_com_example_admit1_admit1_lock_LockEntry) hisR ?_
  intro p e s m args below meth c s₁ Bd hml0 hP hK
  obtain ⟨rfl, hZ, hh⟩ := hP
  have hx := Bd.exec
  have hby := Bd.bytes
  have hml : c.maxLocals = 2 := hml0
  have hown : s.vm.findClass s2_ = some m.cls := findClass_of_methodNamed Bd.named
  have hnm := (name_of_methodNamed Bd.named Bd.method).1
  have X0 : Stand p l e ({ frames := 4, cells := 0, slots := 0, locals := 67 } : Room) s m #[(.ref en), (.ref w2)] below meth c s₁ [] 0 0 := Stand.of_body Bd
  have e0 : s₁.heap = h0 := by rw [← hh, Bd.state]; rfl
  have N0 := Fr.nil n0
  have Z0 : n0 ≤ h0.size := by rw [← O0.1]; exact O0.2.1
  show own_Go p e below (s₁.setTop (entryFrame m #[(.ref en), (.ref w2)] 2)) (fun t o => ∃ v L, o = .returned v ∧ Q_rm_deq_0_1_w1_0_1_w2_w20 Z en q d1 a1 kk1 d2 a2 kk2 w1 w2 h0 n0 v t.heap L ∧ FrameEnd s o t L ({ frames := 4, cells := 0, slots := 0, locals := 67 } : Room).cells ({ frames := 4, cells := 0, slots := 0, locals := 67 } : Room).slots)
  rw [ef_rm_deq_0_1_w1_0_1_w2_w20 m en q d1 a1 kk1 d2 a2 kk2 w1 w2]
  have lt_Fq : h0.size > en := Fq.lt
  have lt_Ee : h0.size > en := Ee.lt
  have lt_Ew : h0.size > w2 := Ew.lt
  have lt_Fw : h0.size > w2 := Fw.lt
  have lt_G0 : h0.size > q := G0.lt
  have lt_G1 : h0.size > q := G1.lt
  have lt_G2 : h0.size > q := G2.lt
  have lt_G3 : h0.size > d1 := G3.lt
  have lt_G4 : h0.size > d1 := G4.lt
  have lt_G5 : h0.size > d1 := G5.lt
  have lt_G6 : h0.size > d1 := G6.lt
  have lt_G7 : h0.size > a1 := G7.lt
  have lt_G8 : h0.size > d2 := G8.lt
  have lt_G9 : h0.size > d2 := G9.lt
  have lt_G10 : h0.size > d2 := G10.lt
  have lt_G11 : h0.size > d2 := G11.lt
  have lt_G12 : h0.size > a2 := G12.lt
  refine own_by (fun _ k => XS.aloadN X0.here hx rfl (hb hby D12_0) rfl rfl k) ?_
  obtain ⟨T1, X1, e1, st1⟩ := getF X0 hx hZ hown (host := "") (Or.inl (own_w hw 44 rfl)) Via.refl e0 Fq (g := (mkF m 1 #[.val (.ref en), .val (.ref w2)] [(.ref en)])) rfl rfl (hb hby D12_1)
  refine own_by st1 ?_
  refine own_by (fun _ k => XS.aloadN X1.here hx rfl (hb hby D12_4) rfl rfl k) ?_
  obtain ⟨cq2, kq2, q2a, q2b, q2c⟩ := isOf hZ e1 G0
  obtain ⟨_, _, ⟨T2, L2, k2, n2⟩, -, X2, ⟨Lc2, hQ2, l2, y2, z2⟩, st2⟩ := X1.virtualBack hx (y := (⟨s13_, "of", s18_⟩ : MethodName)) (z := (⟨s13_, "of", s18_⟩ : MethodName)) hown (mvT hZ (own_w hw 79 rfl)) (mvT hZ (own_w hw 80 rfl)) (notFace_of_selects (args := #[]) (mvT hZ (own_w hw 82 rfl))) (mvT hZ (own_w hw 82 rfl)) (mvT hZ (own_w hw 81 rfl)) (by decide) (backOf (W := 0) (rm_of0 l Z a0 hw [] q w2 d1 d2 h0 n0 O0 Fw G1 G2) hZ (own_w hw 83 rfl) (own_w hw 53 rfl) (by decide) (by decide)) q2a q2c (g := (mkF m 5 #[.val (.ref en), .val (.ref w2)] [(.ref w2), (.ref q)])) rfl (by rw [hml]; rfl) (Steps.refl _) (argsL := [(.ref w2)]) (rest := []) (lenOf own_pd__28Lcom_2fexample_2fadmit1_2fadmit1_2flock_2fWait_3b_29Ljava_2futil_2fArrayDeque_3b rfl) rfl (by show 2 * 0 + _ ≤ _; exact Nat.le_of_eq rfl) (hb hby D12_5) (fun _ _ => ⟨rfl, e1, (by decide : 0 + 0 ≤ _), (by decide : 0 + 0 ≤ _)⟩)
  dsimp only [Pt.U, Pt.locs, Pt.cells, Pt.slots] at X2 l2 y2 z2 st2 hQ2
  subst l2 y2 z2
  obtain ⟨rfl, M2, K2⟩ := hQ2
  have N2 := Fr.app N0 M2
  refine own_by (fun _ k => st2.trans k) ?_
  refine own_by (fun _ k => XS.aloadN X2.here hx rfl (hb hby D12_8) rfl rfl k) ?_
  obtain ⟨cq3, kq3, q3a, q3b, q3c⟩ := isOf hZ K2 G8
  obtain ⟨_, _, ⟨T3, L3, k3, n3⟩, -, X3, ⟨Lc3, hQ3, l3, y3, z3⟩, st3⟩ := X2.virtualBack hx (y := (⟨s14_, "remove", s20_⟩ : MethodName)) (z := (⟨s14_, "remove", s20_⟩ : MethodName)) hown (mvT hZ (own_w hw 103 rfl)) (mvT hZ (own_w hw 104 rfl)) (notFace_of_selects (args := #[]) (mvT hZ (own_w hw 106 rfl))) (mvT hZ (own_w hw 106 rfl)) (mvT hZ (own_w hw 105 rfl)) (by decide) (backOf (W := 0) (rm_rem_0_1_w1_w1 l Z a0 hw [] d2 a2 kk2 w2 h0 n0 O0 G8 G9 G10 G11 G12 Ew (by first | assumption | omega | decide) (by first | assumption | omega | decide) (by first | assumption | omega | decide)) hZ (own_w hw 107 rfl) (own_w hw 60 rfl) (by decide) (by decide)) q3a q3c (g := (mkF m 9 #[.val (.ref en), .val (.ref w2)] [(.ref w2), (.ref d2)])) rfl (by rw [hml]; rfl) (Steps.refl _) (argsL := [(.ref w2)]) (rest := []) (lenOf own_pd__28Ljava_2flang_2fObject_3b_29Z rfl) rfl (by show 2 * 0 + _ ≤ _; exact Nat.le_of_eq rfl) (hb hby D12_9) (fun _ _ => ⟨rfl, K2, (by decide : 0 + 0 ≤ _), (by decide : 0 + 0 ≤ _)⟩)
  dsimp only [Pt.U, Pt.locs, Pt.cells, Pt.slots] at X3 l3 y3 z3 st3 hQ3
  subst l3 y3 z3
  obtain ⟨rfl, M3, K3, g3_0, g3_1, g3_2, g3_3, g3_4⟩ := hQ3
  have N3 := Fr.app N2 M3
  refine own_by (fun _ k => st3.trans k) ?_
  have z3 := K3.1
  have lt_g3_0 : T3.heap.size > d2 := g3_0.lt
  have lt_g3_1 : T3.heap.size > d2 := g3_1.lt
  have lt_g3_2 : T3.heap.size > d2 := g3_2.lt
  have lt_g3_3 : T3.heap.size > d2 := g3_3.lt
  have lt_g3_4 : T3.heap.size > a2 := g3_4.lt
  show own_Go p e below (T3.setTop (mkF m 12 #[.val (.ref en), .val (.ref w2)] [(.int (1 : Int32))])) _
  refine own_by (fun _ k => XS.pop X3.here hx rfl (hb hby D12_12) rfl rfl k) ?_
  refine own_by (fun _ k => XS.aloadN X3.here hx rfl (hb hby D12_13) rfl rfl k) ?_
  have fc4 : Fld Z T3.heap en s2_ "queues" s11_ (.ref q) := (Fq.keep K3 (ninS (own_ne (by omega)) (ninS (own_ne (by omega)) nin0)))
  obtain ⟨T5, X5, e5, st5⟩ := getF X3 hx hZ hown (host := "") (Or.inl (own_w hw 44 rfl)) Via.refl rfl fc4 (g := (mkF m 14 #[.val (.ref en), .val (.ref w2)] [(.ref en)])) rfl rfl (hb hby D12_14)
  refine own_by st5 ?_
  have fc6 : Fld Z T3.heap q s13_ "conversions" s17_ (.ref d1) := (G1.keep K3 (ninS (own_ne (by omega)) (ninS (own_ne (by omega)) nin0)))
  obtain ⟨T7, X7, e7, st7⟩ := getF X5 hx hZ hown (host := "") (Or.inl (own_w hw 133 rfl)) Via.refl e5 fc6 (g := (mkF m 17 #[.val (.ref en), .val (.ref w2)] [(.ref q)])) rfl rfl (hb hby D12_17)
  refine own_by st7 ?_
  have fc8 : Fld Z T3.heap d1 s14_ "head" "I" (.int (0 : Int32)) := (G5.keep K3 (ninS (own_ne (by omega)) (ninS (own_ne (by omega)) nin0)))
  have fc9 : Fld Z T3.heap d1 s14_ "tail" "I" (.int (1 : Int32)) := (G6.keep K3 (ninS (own_ne (by omega)) (ninS (own_ne (by omega)) nin0)))
  have O10 : Old Z n0 T3.heap := (O0.keep K3 (allS (by omega) (allS (by omega) all0)))
  have fc12 : Exa Z T3.heap d1 s14_ := (G3.keep K3)
  obtain ⟨cq11, kq11, q11a, q11b, q11c⟩ := isOf hZ e7 fc12
  obtain ⟨_, _, ⟨T11, L11, k11, n11⟩, -, X11, ⟨Lc11, hQ11, l11, y11, z11⟩, st11⟩ := X7.virtualBack hx (y := (⟨s14_, "isEmpty", "()Z"⟩ : MethodName)) (z := (⟨s14_, "isEmpty", "()Z"⟩ : MethodName)) hown (mvT hZ (own_w hw 134 rfl)) (mvT hZ (own_w hw 135 rfl)) (notFace_of_selects (args := #[]) (mvT hZ (own_w hw 137 rfl))) (mvT hZ (own_w hw 137 rfl)) (mvT hZ (own_w hw 136 rfl)) (by decide) (backOf (W := 0) (rm_emp0_1 l Z a0 hw [] d1 T3.heap n0 O10 fc8 fc9) hZ (own_w hw 138 rfl) (own_w hw 60 rfl) (by decide) (by decide)) q11a q11c (g := (mkF m 20 #[.val (.ref en), .val (.ref w2)] [(.ref d1)])) rfl (by rw [hml]; rfl) (Steps.refl _) (argsL := []) (rest := []) (lenOf own_pd__28_29Z rfl) rfl (by show 2 * 0 + _ ≤ _; exact Nat.le_of_eq rfl) (hb hby D12_20) (fun _ _ => ⟨rfl, e7, (by decide : 0 + 0 ≤ _), (by decide : 0 + 0 ≤ _)⟩)
  dsimp only [Pt.U, Pt.locs, Pt.cells, Pt.slots] at X11 l11 y11 z11 st11 hQ11
  subst l11 y11 z11
  obtain ⟨rfl, M11, K11⟩ := hQ11
  have N11 := Fr.app N3 M11
  refine own_by (fun _ k => st11.trans k) ?_
  refine own_by (fun _ k => XS.ifYes X11.here hx rfl (pc0 := 23) (pc' := 44) rfl (hb hby D12_23) rfl ((if0 _ _).trans (teq (by decide : (0 : Int32) = (0 : Int32))).1) (by decide) (by decide) k) ?_
  show own_Go p e below (T11.setTop (mkF m 44 #[.val (.ref en), .val (.ref w2)] [])) _
  have fc13 : Exa Z T3.heap q s13_ := (G0.keep K3)
  have fc14 : Fld Z T3.heap q s13_ "requests" s17_ (.ref d2) := (G2.keep K3 (ninS (own_ne (by omega)) (ninS (own_ne (by omega)) nin0)))
  have fc15 : Fld Z T3.heap d1 s14_ "elements" s16_ (.ref a1) := (G4.keep K3 (ninS (own_ne (by omega)) (ninS (own_ne (by omega)) nin0)))
  have fc16 : Arv Z T3.heap a1 kk1 (.object s3_) (17 : Int32) [(.ref w1)] .null := (G7.keep K3 (ninS (own_ne (by omega)) (ninS (own_ne (by omega)) nin0)))
  have K17 : Keep h0 T3.heap [en, d2, a2] := ((Keep.refl h0 [en, d2, a2]).trans K3 (allS (P := fun x => x ∈ [en, d2, a2] ∨ h0.size ≤ x) (Or.inl (List.mem_of_getElem? (i := 1) rfl)) (allS (P := fun x => x ∈ [en, d2, a2] ∨ h0.size ≤ x) (Or.inl (List.mem_of_getElem? (i := 2) rfl)) all0)))
  obtain ⟨fs, hr, hrun, hended, hW, hsame⟩ := X11.leave (v := none) (fun h => rfl)
  refine ⟨_, _, X11.returnOut hx Bd.returns (hb hby D12_44) hr, hrun, hended, _, _, rfl, ?_, ⟨_, rfl⟩, hW, hsame.mono (by decide) (by decide)⟩
  show Q_rm_deq_0_1_w1_0_1_w2_w20 Z en q d1 a1 kk1 d2 a2 kk2 w1 w2 h0 n0 _ T11.heap _
  rw [K11]
  exact ⟨rfl, N11, K17, fc4, fc13, fc6, fc14, fc12, fc15, fc8, fc9, fc16, g3_0, g3_1, g3_2, g3_3, g3_4⟩
def Q_rm_deq_0_1_w1_0_1_w2_w11 (Z : State) (en : Addr) (q : Addr) (d1 : Addr) (a1 : Addr) (kk1 : ClassId) (d2 : Addr) (a2 : Addr) (kk2 : ClassId) (w1 : Addr) (w2 : Addr) (h0 : Heap) (n0 : Nat) (v : Option Value) (h : Heap) (L : List Loc) : Prop := v = none ∧ Fr n0 L ∧ Keep h0 h [en, d1, a1] ∧ Fld Z h en s2_ "queues" s11_ (.ref q) ∧ Exa Z h q s13_ ∧ Fld Z h q s13_ "conversions" s17_ (.ref d1) ∧ Fld Z h q s13_ "requests" s17_ (.ref d2) ∧ Exa Z h d1 s14_ ∧ Fld Z h d1 s14_ "elements" s16_ (.ref a1) ∧ Fld Z h d1 s14_ "head" "I" (.int (0 : Int32)) ∧ Fld Z h d1 s14_ "tail" "I" (.int (0 : Int32)) ∧ Arv Z h a1 kk1 (.object s3_) (17 : Int32) [] .null ∧ Exa Z h d2 s14_ ∧ Fld Z h d2 s14_ "elements" s16_ (.ref a2) ∧ Fld Z h d2 s14_ "head" "I" (.int (0 : Int32)) ∧ Fld Z h d2 s14_ "tail" "I" (.int (1 : Int32)) ∧ Arv Z h a2 kk2 (.object s3_) (17 : Int32) [(.ref w2)] .null
theorem ef_rm_deq_0_1_w1_0_1_w2_w11 (m : MethodId) (en : Addr) (q : Addr) (d1 : Addr) (a1 : Addr) (kk1 : ClassId) (d2 : Addr) (a2 : Addr) (kk2 : ClassId) (w1 : Addr) (w2 : Addr) : entryFrame m #[(.ref en), (.ref w1)] 2 = mkF m 0 #[.val (.ref en), .val (.ref w1)] [] := by first | (simp [entryFrame, mkF, argsToLocals, Value.category]; done) | rfl
set_option maxRecDepth 65536 in
set_option maxHeartbeats 40000000 in
theorem rm_deq_0_1_w1_0_1_w2_w11 (l : Launch) (Z : State) (a0 : Array Value) (hw : ∀ d ∈ tables_1, d.before a0 Z = true) (ws : List Jvm.Cond) (en : Addr) (q : Addr) (d1 : Addr) (a1 : Addr) (kk1 : ClassId) (d2 : Addr) (a2 : Addr) (kk2 : ClassId) (w1 : Addr) (w2 : Addr) (h0 : Heap) (n0 : Nat) (O0 : Old Z n0 h0) (Fq : Fld Z h0 en s2_ "queues" s11_ (.ref q)) (Ee : Exa Z h0 en s2_) (Ew : Exa Z h0 w1 s5_) (Fw : Fld Z h0 w1 s5_ "conversion" "Z" (.int (1 : Int32))) (G0 : Exa Z h0 q s13_) (G1 : Fld Z h0 q s13_ "conversions" s17_ (.ref d1)) (G2 : Fld Z h0 q s13_ "requests" s17_ (.ref d2)) (G3 : Exa Z h0 d1 s14_) (G4 : Fld Z h0 d1 s14_ "elements" s16_ (.ref a1)) (G5 : Fld Z h0 d1 s14_ "head" "I" (.int (0 : Int32))) (G6 : Fld Z h0 d1 s14_ "tail" "I" (.int (1 : Int32))) (G7 : Arv Z h0 a1 kk1 (.object s3_) (17 : Int32) [(.ref w1)] .null) (G8 : Exa Z h0 d2 s14_) (G9 : Fld Z h0 d2 s14_ "elements" s16_ (.ref a2)) (G10 : Fld Z h0 d2 s14_ "head" "I" (.int (0 : Int32))) (G11 : Fld Z h0 d2 s14_ "tail" "I" (.int (1 : Int32))) (G12 : Arv Z h0 a2 kk2 (.object s3_) (17 : Int32) [(.ref w2)] .null) (ge : n0 ≤ en) (nwe : ¬ (@Eq Nat w1 en)) (nea : ¬ (@Eq Nat en a1)) (ned : ¬ (@Eq Nat en d1)) (o0 : @LT.lt Nat _ q d1) (o1 : @LT.lt Nat _ d1 a1) (o2 : @LT.lt Nat _ a1 d2) (o3 : @LT.lt Nat _ d2 a2) (gq : n0 ≤ q) (ov1 : Ovr Z kk1 s3_) (ov2 : Ovr Z kk2 s3_) :
    MetFree l (⟨s2_, "dequeue", s12_⟩ : MethodName) (head1 (Jvm.Cond.code (⟨s2_, "dequeue", s12_⟩ : MethodName) prog_11_method_11_code 2 none :: ws) ({ frames := 4, cells := 0, slots := 0, locals := 67 } : Room)) (fun a U => a = #[(.ref en), (.ref w1)] ∧ Z.Warmed39 U.vm ∧ U.heap = h0) (fun _ _ _ _ _ => True) (fun _ U o U' => ∃ v L, o = .returned v ∧ Q_rm_deq_0_1_w1_0_1_w2_w11 Z en q d1 a1 kk1 d2 a2 kk2 w1 w2 h0 n0 v U'.heap L ∧ FrameEnd U o U' L ({ frames := 4, cells := 0, slots := 0, locals := 67 } : Room).cells ({ frames := 4, cells := 0, slots := 0, locals := 67 } : Room).slots) := by
  refine MetFree.of_bodySF (plainFor_of_name own_pn_com_example_admit1_admit1_lock_LockEntry) hisR ?_
  intro p e s m args below meth c s₁ Bd hml0 hP hK
  obtain ⟨rfl, hZ, hh⟩ := hP
  have hx := Bd.exec
  have hby := Bd.bytes
  have hml : c.maxLocals = 2 := hml0
  have hown : s.vm.findClass s2_ = some m.cls := findClass_of_methodNamed Bd.named
  have hnm := (name_of_methodNamed Bd.named Bd.method).1
  have X0 : Stand p l e ({ frames := 4, cells := 0, slots := 0, locals := 67 } : Room) s m #[(.ref en), (.ref w1)] below meth c s₁ [] 0 0 := Stand.of_body Bd
  have e0 : s₁.heap = h0 := by rw [← hh, Bd.state]; rfl
  have N0 := Fr.nil n0
  have Z0 : n0 ≤ h0.size := by rw [← O0.1]; exact O0.2.1
  show own_Go p e below (s₁.setTop (entryFrame m #[(.ref en), (.ref w1)] 2)) (fun t o => ∃ v L, o = .returned v ∧ Q_rm_deq_0_1_w1_0_1_w2_w11 Z en q d1 a1 kk1 d2 a2 kk2 w1 w2 h0 n0 v t.heap L ∧ FrameEnd s o t L ({ frames := 4, cells := 0, slots := 0, locals := 67 } : Room).cells ({ frames := 4, cells := 0, slots := 0, locals := 67 } : Room).slots)
  rw [ef_rm_deq_0_1_w1_0_1_w2_w11 m en q d1 a1 kk1 d2 a2 kk2 w1 w2]
  have lt_Fq : h0.size > en := Fq.lt
  have lt_Ee : h0.size > en := Ee.lt
  have lt_Ew : h0.size > w1 := Ew.lt
  have lt_Fw : h0.size > w1 := Fw.lt
  have lt_G0 : h0.size > q := G0.lt
  have lt_G1 : h0.size > q := G1.lt
  have lt_G2 : h0.size > q := G2.lt
  have lt_G3 : h0.size > d1 := G3.lt
  have lt_G4 : h0.size > d1 := G4.lt
  have lt_G5 : h0.size > d1 := G5.lt
  have lt_G6 : h0.size > d1 := G6.lt
  have lt_G7 : h0.size > a1 := G7.lt
  have lt_G8 : h0.size > d2 := G8.lt
  have lt_G9 : h0.size > d2 := G9.lt
  have lt_G10 : h0.size > d2 := G10.lt
  have lt_G11 : h0.size > d2 := G11.lt
  have lt_G12 : h0.size > a2 := G12.lt
  refine own_by (fun _ k => XS.aloadN X0.here hx rfl (hb hby D12_0) rfl rfl k) ?_
  obtain ⟨T1, X1, e1, st1⟩ := getF X0 hx hZ hown (host := "") (Or.inl (own_w hw 44 rfl)) Via.refl e0 Fq (g := (mkF m 1 #[.val (.ref en), .val (.ref w1)] [(.ref en)])) rfl rfl (hb hby D12_1)
  refine own_by st1 ?_
  refine own_by (fun _ k => XS.aloadN X1.here hx rfl (hb hby D12_4) rfl rfl k) ?_
  obtain ⟨cq2, kq2, q2a, q2b, q2c⟩ := isOf hZ e1 G0
  obtain ⟨_, _, ⟨T2, L2, k2, n2⟩, -, X2, ⟨Lc2, hQ2, l2, y2, z2⟩, st2⟩ := X1.virtualBack hx (y := (⟨s13_, "of", s18_⟩ : MethodName)) (z := (⟨s13_, "of", s18_⟩ : MethodName)) hown (mvT hZ (own_w hw 79 rfl)) (mvT hZ (own_w hw 80 rfl)) (notFace_of_selects (args := #[]) (mvT hZ (own_w hw 82 rfl))) (mvT hZ (own_w hw 82 rfl)) (mvT hZ (own_w hw 81 rfl)) (by decide) (backOf (W := 0) (rm_of1 l Z a0 hw [] q w1 d1 d2 h0 n0 O0 Fw G1 G2) hZ (own_w hw 83 rfl) (own_w hw 53 rfl) (by decide) (by decide)) q2a q2c (g := (mkF m 5 #[.val (.ref en), .val (.ref w1)] [(.ref w1), (.ref q)])) rfl (by rw [hml]; rfl) (Steps.refl _) (argsL := [(.ref w1)]) (rest := []) (lenOf own_pd__28Lcom_2fexample_2fadmit1_2fadmit1_2flock_2fWait_3b_29Ljava_2futil_2fArrayDeque_3b rfl) rfl (by show 2 * 0 + _ ≤ _; exact Nat.le_of_eq rfl) (hb hby D12_5) (fun _ _ => ⟨rfl, e1, (by decide : 0 + 0 ≤ _), (by decide : 0 + 0 ≤ _)⟩)
  dsimp only [Pt.U, Pt.locs, Pt.cells, Pt.slots] at X2 l2 y2 z2 st2 hQ2
  subst l2 y2 z2
  obtain ⟨rfl, M2, K2⟩ := hQ2
  have N2 := Fr.app N0 M2
  refine own_by (fun _ k => st2.trans k) ?_
  refine own_by (fun _ k => XS.aloadN X2.here hx rfl (hb hby D12_8) rfl rfl k) ?_
  obtain ⟨cq3, kq3, q3a, q3b, q3c⟩ := isOf hZ K2 G3
  obtain ⟨_, _, ⟨T3, L3, k3, n3⟩, -, X3, ⟨Lc3, hQ3, l3, y3, z3⟩, st3⟩ := X2.virtualBack hx (y := (⟨s14_, "remove", s20_⟩ : MethodName)) (z := (⟨s14_, "remove", s20_⟩ : MethodName)) hown (mvT hZ (own_w hw 103 rfl)) (mvT hZ (own_w hw 104 rfl)) (notFace_of_selects (args := #[]) (mvT hZ (own_w hw 106 rfl))) (mvT hZ (own_w hw 106 rfl)) (mvT hZ (own_w hw 105 rfl)) (by decide) (backOf (W := 0) (rm_rem_0_1_w1_w1 l Z a0 hw [] d1 a1 kk1 w1 h0 n0 O0 G3 G4 G5 G6 G7 Ew (by first | assumption | omega | decide) (by first | assumption | omega | decide) (by first | assumption | omega | decide)) hZ (own_w hw 107 rfl) (own_w hw 60 rfl) (by decide) (by decide)) q3a q3c (g := (mkF m 9 #[.val (.ref en), .val (.ref w1)] [(.ref w1), (.ref d1)])) rfl (by rw [hml]; rfl) (Steps.refl _) (argsL := [(.ref w1)]) (rest := []) (lenOf own_pd__28Ljava_2flang_2fObject_3b_29Z rfl) rfl (by show 2 * 0 + _ ≤ _; exact Nat.le_of_eq rfl) (hb hby D12_9) (fun _ _ => ⟨rfl, K2, (by decide : 0 + 0 ≤ _), (by decide : 0 + 0 ≤ _)⟩)
  dsimp only [Pt.U, Pt.locs, Pt.cells, Pt.slots] at X3 l3 y3 z3 st3 hQ3
  subst l3 y3 z3
  obtain ⟨rfl, M3, K3, g3_0, g3_1, g3_2, g3_3, g3_4⟩ := hQ3
  have N3 := Fr.app N2 M3
  refine own_by (fun _ k => st3.trans k) ?_
  have z3 := K3.1
  have lt_g3_0 : T3.heap.size > d1 := g3_0.lt
  have lt_g3_1 : T3.heap.size > d1 := g3_1.lt
  have lt_g3_2 : T3.heap.size > d1 := g3_2.lt
  have lt_g3_3 : T3.heap.size > d1 := g3_3.lt
  have lt_g3_4 : T3.heap.size > a1 := g3_4.lt
  show own_Go p e below (T3.setTop (mkF m 12 #[.val (.ref en), .val (.ref w1)] [(.int (1 : Int32))])) _
  refine own_by (fun _ k => XS.pop X3.here hx rfl (hb hby D12_12) rfl rfl k) ?_
  refine own_by (fun _ k => XS.aloadN X3.here hx rfl (hb hby D12_13) rfl rfl k) ?_
  have fc4 : Fld Z T3.heap en s2_ "queues" s11_ (.ref q) := (Fq.keep K3 (ninS (own_ne (by omega)) (ninS (own_ne (by omega)) nin0)))
  obtain ⟨T5, X5, e5, st5⟩ := getF X3 hx hZ hown (host := "") (Or.inl (own_w hw 44 rfl)) Via.refl rfl fc4 (g := (mkF m 14 #[.val (.ref en), .val (.ref w1)] [(.ref en)])) rfl rfl (hb hby D12_14)
  refine own_by st5 ?_
  have fc6 : Fld Z T3.heap q s13_ "conversions" s17_ (.ref d1) := (G1.keep K3 (ninS (own_ne (by omega)) (ninS (own_ne (by omega)) nin0)))
  obtain ⟨T7, X7, e7, st7⟩ := getF X5 hx hZ hown (host := "") (Or.inl (own_w hw 133 rfl)) Via.refl e5 fc6 (g := (mkF m 17 #[.val (.ref en), .val (.ref w1)] [(.ref q)])) rfl rfl (hb hby D12_17)
  refine own_by st7 ?_
  have O8 : Old Z n0 T3.heap := (O0.keep K3 (allS (by omega) (allS (by omega) all0)))
  obtain ⟨cq9, kq9, q9a, q9b, q9c⟩ := isOf hZ e7 g3_0
  obtain ⟨_, _, ⟨T9, L9, k9, n9⟩, -, X9, ⟨Lc9, hQ9, l9, y9, z9⟩, st9⟩ := X7.virtualBack hx (y := (⟨s14_, "isEmpty", "()Z"⟩ : MethodName)) (z := (⟨s14_, "isEmpty", "()Z"⟩ : MethodName)) hown (mvT hZ (own_w hw 134 rfl)) (mvT hZ (own_w hw 135 rfl)) (notFace_of_selects (args := #[]) (mvT hZ (own_w hw 137 rfl))) (mvT hZ (own_w hw 137 rfl)) (mvT hZ (own_w hw 136 rfl)) (by decide) (backOf (W := 0) (rm_emp0_0 l Z a0 hw [] d1 T3.heap n0 O8 g3_2 g3_3) hZ (own_w hw 138 rfl) (own_w hw 60 rfl) (by decide) (by decide)) q9a q9c (g := (mkF m 20 #[.val (.ref en), .val (.ref w1)] [(.ref d1)])) rfl (by rw [hml]; rfl) (Steps.refl _) (argsL := []) (rest := []) (lenOf own_pd__28_29Z rfl) rfl (by show 2 * 0 + _ ≤ _; exact Nat.le_of_eq rfl) (hb hby D12_20) (fun _ _ => ⟨rfl, e7, (by decide : 0 + 0 ≤ _), (by decide : 0 + 0 ≤ _)⟩)
  dsimp only [Pt.U, Pt.locs, Pt.cells, Pt.slots] at X9 l9 y9 z9 st9 hQ9
  subst l9 y9 z9
  obtain ⟨rfl, M9, K9⟩ := hQ9
  have N9 := Fr.app N3 M9
  refine own_by (fun _ k => st9.trans k) ?_
  refine own_by (fun _ k => XS.ifNo X9.here hx rfl (hb hby D12_23) rfl ((if0 _ _).trans (feq (by decide : ¬ ((1 : Int32) = (0 : Int32)))).1) k) ?_
  show own_Go p e below (T9.setTop (mkF m 26 #[.val (.ref en), .val (.ref w1)] [])) _
  refine own_by (fun _ k => XS.aloadN X9.here hx rfl (hb hby D12_26) rfl rfl k) ?_
  obtain ⟨T10, X10, e10, st10⟩ := getF X9 hx hZ hown (host := "") (Or.inl (own_w hw 44 rfl)) Via.refl K9 fc4 (g := (mkF m 27 #[.val (.ref en), .val (.ref w1)] [(.ref en)])) rfl rfl (hb hby D12_27)
  refine own_by st10 ?_
  have fc11 : Fld Z T3.heap q s13_ "requests" s17_ (.ref d2) := (G2.keep K3 (ninS (own_ne (by omega)) (ninS (own_ne (by omega)) nin0)))
  obtain ⟨T12, X12, e12, st12⟩ := getF X10 hx hZ hown (host := "") (Or.inl (own_w hw 139 rfl)) Via.refl e10 fc11 (g := (mkF m 30 #[.val (.ref en), .val (.ref w1)] [(.ref q)])) rfl rfl (hb hby D12_30)
  refine own_by st12 ?_
  have fc13 : Fld Z T3.heap d2 s14_ "head" "I" (.int (0 : Int32)) := (G10.keep K3 (ninS (own_ne (by omega)) (ninS (own_ne (by omega)) nin0)))
  have fc14 : Fld Z T3.heap d2 s14_ "tail" "I" (.int (1 : Int32)) := (G11.keep K3 (ninS (own_ne (by omega)) (ninS (own_ne (by omega)) nin0)))
  have fc16 : Exa Z T3.heap d2 s14_ := (G8.keep K3)
  obtain ⟨cq15, kq15, q15a, q15b, q15c⟩ := isOf hZ e12 fc16
  obtain ⟨_, _, ⟨T15, L15, k15, n15⟩, -, X15, ⟨Lc15, hQ15, l15, y15, z15⟩, st15⟩ := X12.virtualBack hx (y := (⟨s14_, "isEmpty", "()Z"⟩ : MethodName)) (z := (⟨s14_, "isEmpty", "()Z"⟩ : MethodName)) hown (mvT hZ (own_w hw 134 rfl)) (mvT hZ (own_w hw 135 rfl)) (notFace_of_selects (args := #[]) (mvT hZ (own_w hw 137 rfl))) (mvT hZ (own_w hw 137 rfl)) (mvT hZ (own_w hw 136 rfl)) (by decide) (backOf (W := 0) (rm_emp0_1 l Z a0 hw [] d2 T3.heap n0 O8 fc13 fc14) hZ (own_w hw 138 rfl) (own_w hw 60 rfl) (by decide) (by decide)) q15a q15c (g := (mkF m 33 #[.val (.ref en), .val (.ref w1)] [(.ref d2)])) rfl (by rw [hml]; rfl) (Steps.refl _) (argsL := []) (rest := []) (lenOf own_pd__28_29Z rfl) rfl (by show 2 * 0 + _ ≤ _; exact Nat.le_of_eq rfl) (hb hby D12_33) (fun _ _ => ⟨rfl, e12, (by decide : 0 + 0 ≤ _), (by decide : 0 + 0 ≤ _)⟩)
  dsimp only [Pt.U, Pt.locs, Pt.cells, Pt.slots] at X15 l15 y15 z15 st15 hQ15
  subst l15 y15 z15
  obtain ⟨rfl, M15, K15⟩ := hQ15
  have N15 := Fr.app N9 M15
  refine own_by (fun _ k => st15.trans k) ?_
  refine own_by (fun _ k => XS.ifYes X15.here hx rfl (pc0 := 36) (pc' := 44) rfl (hb hby D12_36) rfl ((if0 _ _).trans (teq (by decide : (0 : Int32) = (0 : Int32))).1) (by decide) (by decide) k) ?_
  show own_Go p e below (T15.setTop (mkF m 44 #[.val (.ref en), .val (.ref w1)] [])) _
  have fc17 : Exa Z T3.heap q s13_ := (G0.keep K3)
  have fc18 : Fld Z T3.heap d2 s14_ "elements" s16_ (.ref a2) := (G9.keep K3 (ninS (own_ne (by omega)) (ninS (own_ne (by omega)) nin0)))
  have fc19 : Arv Z T3.heap a2 kk2 (.object s3_) (17 : Int32) [(.ref w2)] .null := (G12.keep K3 (ninS (own_ne (by omega)) (ninS (own_ne (by omega)) nin0)))
  have K20 : Keep h0 T3.heap [en, d1, a1] := ((Keep.refl h0 [en, d1, a1]).trans K3 (allS (P := fun x => x ∈ [en, d1, a1] ∨ h0.size ≤ x) (Or.inl (List.mem_of_getElem? (i := 1) rfl)) (allS (P := fun x => x ∈ [en, d1, a1] ∨ h0.size ≤ x) (Or.inl (List.mem_of_getElem? (i := 2) rfl)) all0)))
  obtain ⟨fs, hr, hrun, hended, hW, hsame⟩ := X15.leave (v := none) (fun h => rfl)
  refine ⟨_, _, X15.returnOut hx Bd.returns (hb hby D12_44) hr, hrun, hended, _, _, rfl, ?_, ⟨_, rfl⟩, hW, hsame.mono (by decide) (by decide)⟩
  show Q_rm_deq_0_1_w1_0_1_w2_w11 Z en q d1 a1 kk1 d2 a2 kk2 w1 w2 h0 n0 _ T15.heap _
  rw [K15]
  exact ⟨rfl, N15, K20, fc4, fc17, fc6, fc11, g3_0, g3_1, g3_2, g3_3, g3_4, fc16, fc18, fc13, fc14, fc19⟩
def Q_rm_enq_0_1_w1_0_0_w20 (Z : State) (en : Addr) (q : Addr) (d1 : Addr) (a1 : Addr) (kk1 : ClassId) (d2 : Addr) (a2 : Addr) (kk2 : ClassId) (w1 : Addr) (w2 : Addr) (h0 : Heap) (n0 : Nat) (v : Option Value) (h : Heap) (L : List Loc) : Prop := v = none ∧ Fr n0 L ∧ Keep h0 h [d2, a2] ∧ Fld Z h en s2_ "queues" s11_ (.ref q) ∧ Exa Z h q s13_ ∧ Fld Z h q s13_ "conversions" s17_ (.ref d1) ∧ Fld Z h q s13_ "requests" s17_ (.ref d2) ∧ Exa Z h d1 s14_ ∧ Fld Z h d1 s14_ "elements" s16_ (.ref a1) ∧ Fld Z h d1 s14_ "head" "I" (.int (0 : Int32)) ∧ Fld Z h d1 s14_ "tail" "I" (.int (1 : Int32)) ∧ Arv Z h a1 kk1 (.object s3_) (17 : Int32) [(.ref w1)] .null ∧ Exa Z h d2 s14_ ∧ Fld Z h d2 s14_ "elements" s16_ (.ref a2) ∧ Fld Z h d2 s14_ "head" "I" (.int (0 : Int32)) ∧ Fld Z h d2 s14_ "tail" "I" (.int (1 : Int32)) ∧ Arv Z h a2 kk2 (.object s3_) (17 : Int32) [(.ref w2)] .null
theorem ef_rm_enq_0_1_w1_0_0_w20 (m : MethodId) (en : Addr) (q : Addr) (d1 : Addr) (a1 : Addr) (kk1 : ClassId) (d2 : Addr) (a2 : Addr) (kk2 : ClassId) (w1 : Addr) (w2 : Addr) : entryFrame m #[(.ref en), (.ref w2)] 2 = mkF m 0 #[.val (.ref en), .val (.ref w2)] [] := by first | (simp [entryFrame, mkF, argsToLocals, Value.category]; done) | rfl
set_option maxRecDepth 65536 in
set_option maxHeartbeats 40000000 in
theorem rm_enq_0_1_w1_0_0_w20 (l : Launch) (Z : State) (a0 : Array Value) (hw : ∀ d ∈ tables_1, d.before a0 Z = true) (ws : List Jvm.Cond) (en : Addr) (q : Addr) (d1 : Addr) (a1 : Addr) (kk1 : ClassId) (d2 : Addr) (a2 : Addr) (kk2 : ClassId) (w1 : Addr) (w2 : Addr) (h0 : Heap) (n0 : Nat) (O0 : Old Z n0 h0) (Fq : Fld Z h0 en s2_ "queues" s11_ (.ref q)) (Ee : Exa Z h0 en s2_) (Ew : Exa Z h0 w2 s5_) (Fw : Fld Z h0 w2 s5_ "conversion" "Z" (.int (0 : Int32))) (G0 : Exa Z h0 q s13_) (G1 : Fld Z h0 q s13_ "conversions" s17_ (.ref d1)) (G2 : Fld Z h0 q s13_ "requests" s17_ (.ref d2)) (G3 : Exa Z h0 d1 s14_) (G4 : Fld Z h0 d1 s14_ "elements" s16_ (.ref a1)) (G5 : Fld Z h0 d1 s14_ "head" "I" (.int (0 : Int32))) (G6 : Fld Z h0 d1 s14_ "tail" "I" (.int (1 : Int32))) (G7 : Arv Z h0 a1 kk1 (.object s3_) (17 : Int32) [(.ref w1)] .null) (G8 : Exa Z h0 d2 s14_) (G9 : Fld Z h0 d2 s14_ "elements" s16_ (.ref a2)) (G10 : Fld Z h0 d2 s14_ "head" "I" (.int (0 : Int32))) (G11 : Fld Z h0 d2 s14_ "tail" "I" (.int (0 : Int32))) (G12 : Arv Z h0 a2 kk2 (.object s3_) (17 : Int32) [] .null) (ge : n0 ≤ en) (nwe : ¬ (@Eq Nat w2 en)) (nea : ¬ (@Eq Nat en a2)) (ned : ¬ (@Eq Nat en d2)) (o0 : @LT.lt Nat _ q d1) (o1 : @LT.lt Nat _ d1 a1) (o2 : @LT.lt Nat _ a1 d2) (o3 : @LT.lt Nat _ d2 a2) (gq : n0 ≤ q) (ov1 : Ovr Z kk1 s3_) (ov2 : Ovr Z kk2 s3_) :
    MetFree l (⟨s2_, "enqueue", s12_⟩ : MethodName) (head1 (Jvm.Cond.code (⟨s2_, "enqueue", s12_⟩ : MethodName) prog_11_method_10_code 2 none :: ws) ({ frames := 2, cells := 0, slots := 0, locals := 29 } : Room)) (fun a U => a = #[(.ref en), (.ref w2)] ∧ Z.Warmed39 U.vm ∧ U.heap = h0) (fun _ _ _ _ _ => True) (fun _ U o U' => ∃ v L, o = .returned v ∧ Q_rm_enq_0_1_w1_0_0_w20 Z en q d1 a1 kk1 d2 a2 kk2 w1 w2 h0 n0 v U'.heap L ∧ FrameEnd U o U' L ({ frames := 2, cells := 0, slots := 0, locals := 29 } : Room).cells ({ frames := 2, cells := 0, slots := 0, locals := 29 } : Room).slots) := by
  refine MetFree.of_bodySF (plainFor_of_name own_pn_com_example_admit1_admit1_lock_LockEntry) hisR ?_
  intro p e s m args below meth c s₁ Bd hml0 hP hK
  obtain ⟨rfl, hZ, hh⟩ := hP
  have hx := Bd.exec
  have hby := Bd.bytes
  have hml : c.maxLocals = 2 := hml0
  have hown : s.vm.findClass s2_ = some m.cls := findClass_of_methodNamed Bd.named
  have hnm := (name_of_methodNamed Bd.named Bd.method).1
  have X0 : Stand p l e ({ frames := 2, cells := 0, slots := 0, locals := 29 } : Room) s m #[(.ref en), (.ref w2)] below meth c s₁ [] 0 0 := Stand.of_body Bd
  have e0 : s₁.heap = h0 := by rw [← hh, Bd.state]; rfl
  have N0 := Fr.nil n0
  have Z0 : n0 ≤ h0.size := by rw [← O0.1]; exact O0.2.1
  show own_Go p e below (s₁.setTop (entryFrame m #[(.ref en), (.ref w2)] 2)) (fun t o => ∃ v L, o = .returned v ∧ Q_rm_enq_0_1_w1_0_0_w20 Z en q d1 a1 kk1 d2 a2 kk2 w1 w2 h0 n0 v t.heap L ∧ FrameEnd s o t L ({ frames := 2, cells := 0, slots := 0, locals := 29 } : Room).cells ({ frames := 2, cells := 0, slots := 0, locals := 29 } : Room).slots)
  rw [ef_rm_enq_0_1_w1_0_0_w20 m en q d1 a1 kk1 d2 a2 kk2 w1 w2]
  have lt_Fq : h0.size > en := Fq.lt
  have lt_Ee : h0.size > en := Ee.lt
  have lt_Ew : h0.size > w2 := Ew.lt
  have lt_Fw : h0.size > w2 := Fw.lt
  have lt_G0 : h0.size > q := G0.lt
  have lt_G1 : h0.size > q := G1.lt
  have lt_G2 : h0.size > q := G2.lt
  have lt_G3 : h0.size > d1 := G3.lt
  have lt_G4 : h0.size > d1 := G4.lt
  have lt_G5 : h0.size > d1 := G5.lt
  have lt_G6 : h0.size > d1 := G6.lt
  have lt_G7 : h0.size > a1 := G7.lt
  have lt_G8 : h0.size > d2 := G8.lt
  have lt_G9 : h0.size > d2 := G9.lt
  have lt_G10 : h0.size > d2 := G10.lt
  have lt_G11 : h0.size > d2 := G11.lt
  have lt_G12 : h0.size > a2 := G12.lt
  refine own_by (fun _ k => XS.aloadN X0.here hx rfl (hb hby D5_0) rfl rfl k) ?_
  obtain ⟨T1, X1, e1, st1⟩ := getF X0 hx hZ hown (host := "") (Or.inl (own_w hw 44 rfl)) Via.refl e0 Fq (g := (mkF m 1 #[.val (.ref en), .val (.ref w2)] [(.ref en)])) rfl rfl (hb hby D5_1)
  refine own_by st1 ?_
  refine own_by (fun _ k => XS.ifnonnullYes X1.here hx rfl (pc0 := 4) (pc' := 18) rfl (hb hby D5_4) rfl (by decide) (by decide) k) ?_
  show own_Go p e below (T1.setTop (mkF m 18 #[.val (.ref en), .val (.ref w2)] [])) _
  refine own_by (fun _ k => XS.aloadN X1.here hx rfl (hb hby D5_18) rfl rfl k) ?_
  obtain ⟨T2, X2, e2, st2⟩ := getF X1 hx hZ hown (host := "") (Or.inl (own_w hw 44 rfl)) Via.refl e1 Fq (g := (mkF m 19 #[.val (.ref en), .val (.ref w2)] [(.ref en)])) rfl rfl (hb hby D5_19)
  refine own_by st2 ?_
  refine own_by (fun _ k => XS.aloadN X2.here hx rfl (hb hby D5_22) rfl rfl k) ?_
  obtain ⟨cq3, kq3, q3a, q3b, q3c⟩ := isOf hZ e2 G0
  obtain ⟨_, _, ⟨T3, L3, k3, n3⟩, -, X3, ⟨Lc3, hQ3, l3, y3, z3⟩, st3⟩ := X2.virtualBack hx (y := (⟨s13_, "of", s18_⟩ : MethodName)) (z := (⟨s13_, "of", s18_⟩ : MethodName)) hown (mvT hZ (own_w hw 79 rfl)) (mvT hZ (own_w hw 80 rfl)) (notFace_of_selects (args := #[]) (mvT hZ (own_w hw 82 rfl))) (mvT hZ (own_w hw 82 rfl)) (mvT hZ (own_w hw 81 rfl)) (by decide) (backOf (W := 0) (rm_of0 l Z a0 hw [] q w2 d1 d2 h0 n0 O0 Fw G1 G2) hZ (own_w hw 83 rfl) (own_w hw 53 rfl) (by decide) (by decide)) q3a q3c (g := (mkF m 23 #[.val (.ref en), .val (.ref w2)] [(.ref w2), (.ref q)])) rfl (by rw [hml]; rfl) (Steps.refl _) (argsL := [(.ref w2)]) (rest := []) (lenOf own_pd__28Lcom_2fexample_2fadmit1_2fadmit1_2flock_2fWait_3b_29Ljava_2futil_2fArrayDeque_3b rfl) rfl (by show 2 * 0 + _ ≤ _; exact Nat.le_of_eq rfl) (hb hby D5_23) (fun _ _ => ⟨rfl, e2, (by decide : 0 + 0 ≤ _), (by decide : 0 + 0 ≤ _)⟩)
  dsimp only [Pt.U, Pt.locs, Pt.cells, Pt.slots] at X3 l3 y3 z3 st3 hQ3
  subst l3 y3 z3
  obtain ⟨rfl, M3, K3⟩ := hQ3
  have N3 := Fr.app N0 M3
  refine own_by (fun _ k => st3.trans k) ?_
  refine own_by (fun _ k => XS.aloadN X3.here hx rfl (hb hby D5_26) rfl rfl k) ?_
  obtain ⟨cq4, kq4, q4a, q4b, q4c⟩ := isOf hZ K3 G8
  obtain ⟨_, _, ⟨T4, L4, k4, n4⟩, -, X4, ⟨Lc4, hQ4, l4, y4, z4⟩, st4⟩ := X3.virtualBack hx (y := (⟨s14_, "addLast", s19_⟩ : MethodName)) (z := (⟨s14_, "addLast", s19_⟩ : MethodName)) hown (mvT hZ (own_w hw 85 rfl)) (mvT hZ (own_w hw 86 rfl)) (notFace_of_selects (args := #[]) (mvT hZ (own_w hw 88 rfl))) (mvT hZ (own_w hw 88 rfl)) (mvT hZ (own_w hw 87 rfl)) (by decide) (backOf (W := 0) (rm_add_0_0_w1 l Z a0 hw [] d2 a2 kk2 w2 h0 n0 O0 G8 G9 G10 G11 G12 Ew (by first | assumption | omega | decide) (by first | assumption | omega | decide) (by first | assumption | omega | decide) ov2) hZ (own_w hw 89 rfl) (own_w hw 60 rfl) (by decide) (by decide)) q4a q4c (g := (mkF m 27 #[.val (.ref en), .val (.ref w2)] [(.ref w2), (.ref d2)])) rfl (by rw [hml]; rfl) (Steps.refl _) (argsL := [(.ref w2)]) (rest := []) (lenOf own_pd__28Ljava_2flang_2fObject_3b_29V rfl) rfl (by show 2 * 0 + _ ≤ _; exact Nat.le_of_eq rfl) (hb hby D5_27) (fun _ _ => ⟨rfl, K3, (by decide : 0 + 0 ≤ _), (by decide : 0 + 0 ≤ _)⟩)
  dsimp only [Pt.U, Pt.locs, Pt.cells, Pt.slots] at X4 l4 y4 z4 st4 hQ4
  subst l4 y4 z4
  obtain ⟨rfl, M4, K4, g4_0, g4_1, g4_2, g4_3, g4_4⟩ := hQ4
  have N4 := Fr.app N3 M4
  refine own_by (fun _ k => st4.trans k) ?_
  have z4 := K4.1
  have lt_g4_0 : T4.heap.size > d2 := g4_0.lt
  have lt_g4_1 : T4.heap.size > d2 := g4_1.lt
  have lt_g4_2 : T4.heap.size > d2 := g4_2.lt
  have lt_g4_3 : T4.heap.size > d2 := g4_3.lt
  have lt_g4_4 : T4.heap.size > a2 := g4_4.lt
  show own_Go p e below (T4.setTop (mkF m 30 #[.val (.ref en), .val (.ref w2)] [])) _
  have fc5 : Fld Z T4.heap en s2_ "queues" s11_ (.ref q) := (Fq.keep K4 (ninS (own_ne (by omega)) (ninS (own_ne (by omega)) nin0)))
  have fc6 : Exa Z T4.heap q s13_ := (G0.keep K4)
  have fc7 : Fld Z T4.heap q s13_ "conversions" s17_ (.ref d1) := (G1.keep K4 (ninS (own_ne (by omega)) (ninS (own_ne (by omega)) nin0)))
  have fc8 : Fld Z T4.heap q s13_ "requests" s17_ (.ref d2) := (G2.keep K4 (ninS (own_ne (by omega)) (ninS (own_ne (by omega)) nin0)))
  have fc9 : Exa Z T4.heap d1 s14_ := (G3.keep K4)
  have fc10 : Fld Z T4.heap d1 s14_ "elements" s16_ (.ref a1) := (G4.keep K4 (ninS (own_ne (by omega)) (ninS (own_ne (by omega)) nin0)))
  have fc11 : Fld Z T4.heap d1 s14_ "head" "I" (.int (0 : Int32)) := (G5.keep K4 (ninS (own_ne (by omega)) (ninS (own_ne (by omega)) nin0)))
  have fc12 : Fld Z T4.heap d1 s14_ "tail" "I" (.int (1 : Int32)) := (G6.keep K4 (ninS (own_ne (by omega)) (ninS (own_ne (by omega)) nin0)))
  have fc13 : Arv Z T4.heap a1 kk1 (.object s3_) (17 : Int32) [(.ref w1)] .null := (G7.keep K4 (ninS (own_ne (by omega)) (ninS (own_ne (by omega)) nin0)))
  have K14 : Keep h0 T4.heap [d2, a2] := ((Keep.refl h0 [d2, a2]).trans K4 (allS (P := fun x => x ∈ [d2, a2] ∨ h0.size ≤ x) (Or.inl (List.mem_of_getElem? (i := 0) rfl)) (allS (P := fun x => x ∈ [d2, a2] ∨ h0.size ≤ x) (Or.inl (List.mem_of_getElem? (i := 1) rfl)) all0)))
  obtain ⟨fs, hr, hrun, hended, hW, hsame⟩ := X4.leave (v := none) (fun h => rfl)
  refine ⟨_, _, X4.returnOut hx Bd.returns (hb hby D5_30) hr, hrun, hended, _, _, rfl, ?_, ⟨_, rfl⟩, hW, hsame.mono (by decide) (by decide)⟩
  show Q_rm_enq_0_1_w1_0_0_w20 Z en q d1 a1 kk1 d2 a2 kk2 w1 w2 h0 n0 _ T4.heap _
  exact ⟨rfl, N4, K14, fc5, fc6, fc7, fc8, fc9, fc10, fc11, fc12, fc13, g4_0, g4_1, g4_2, g4_3, g4_4⟩
def Q_rm_enq_0_1_w1_0_0_w21 (Z : State) (en : Addr) (q : Addr) (d1 : Addr) (a1 : Addr) (kk1 : ClassId) (d2 : Addr) (a2 : Addr) (kk2 : ClassId) (w1 : Addr) (w2 : Addr) (h0 : Heap) (n0 : Nat) (v : Option Value) (h : Heap) (L : List Loc) : Prop := v = none ∧ Fr n0 L ∧ Keep h0 h [d1, a1] ∧ Fld Z h en s2_ "queues" s11_ (.ref q) ∧ Exa Z h q s13_ ∧ Fld Z h q s13_ "conversions" s17_ (.ref d1) ∧ Fld Z h q s13_ "requests" s17_ (.ref d2) ∧ Exa Z h d1 s14_ ∧ Fld Z h d1 s14_ "elements" s16_ (.ref a1) ∧ Fld Z h d1 s14_ "head" "I" (.int (0 : Int32)) ∧ Fld Z h d1 s14_ "tail" "I" (.int (2 : Int32)) ∧ Arv Z h a1 kk1 (.object s3_) (17 : Int32) [(.ref w1), (.ref w2)] .null ∧ Exa Z h d2 s14_ ∧ Fld Z h d2 s14_ "elements" s16_ (.ref a2) ∧ Fld Z h d2 s14_ "head" "I" (.int (0 : Int32)) ∧ Fld Z h d2 s14_ "tail" "I" (.int (0 : Int32)) ∧ Arv Z h a2 kk2 (.object s3_) (17 : Int32) [] .null
theorem ef_rm_enq_0_1_w1_0_0_w21 (m : MethodId) (en : Addr) (q : Addr) (d1 : Addr) (a1 : Addr) (kk1 : ClassId) (d2 : Addr) (a2 : Addr) (kk2 : ClassId) (w1 : Addr) (w2 : Addr) : entryFrame m #[(.ref en), (.ref w2)] 2 = mkF m 0 #[.val (.ref en), .val (.ref w2)] [] := by first | (simp [entryFrame, mkF, argsToLocals, Value.category]; done) | rfl
set_option maxRecDepth 65536 in
set_option maxHeartbeats 40000000 in
theorem rm_enq_0_1_w1_0_0_w21 (l : Launch) (Z : State) (a0 : Array Value) (hw : ∀ d ∈ tables_1, d.before a0 Z = true) (ws : List Jvm.Cond) (en : Addr) (q : Addr) (d1 : Addr) (a1 : Addr) (kk1 : ClassId) (d2 : Addr) (a2 : Addr) (kk2 : ClassId) (w1 : Addr) (w2 : Addr) (h0 : Heap) (n0 : Nat) (O0 : Old Z n0 h0) (Fq : Fld Z h0 en s2_ "queues" s11_ (.ref q)) (Ee : Exa Z h0 en s2_) (Ew : Exa Z h0 w2 s5_) (Fw : Fld Z h0 w2 s5_ "conversion" "Z" (.int (1 : Int32))) (G0 : Exa Z h0 q s13_) (G1 : Fld Z h0 q s13_ "conversions" s17_ (.ref d1)) (G2 : Fld Z h0 q s13_ "requests" s17_ (.ref d2)) (G3 : Exa Z h0 d1 s14_) (G4 : Fld Z h0 d1 s14_ "elements" s16_ (.ref a1)) (G5 : Fld Z h0 d1 s14_ "head" "I" (.int (0 : Int32))) (G6 : Fld Z h0 d1 s14_ "tail" "I" (.int (1 : Int32))) (G7 : Arv Z h0 a1 kk1 (.object s3_) (17 : Int32) [(.ref w1)] .null) (G8 : Exa Z h0 d2 s14_) (G9 : Fld Z h0 d2 s14_ "elements" s16_ (.ref a2)) (G10 : Fld Z h0 d2 s14_ "head" "I" (.int (0 : Int32))) (G11 : Fld Z h0 d2 s14_ "tail" "I" (.int (0 : Int32))) (G12 : Arv Z h0 a2 kk2 (.object s3_) (17 : Int32) [] .null) (ge : n0 ≤ en) (nwe : ¬ (@Eq Nat w2 en)) (nea : ¬ (@Eq Nat en a1)) (ned : ¬ (@Eq Nat en d1)) (o0 : @LT.lt Nat _ q d1) (o1 : @LT.lt Nat _ d1 a1) (o2 : @LT.lt Nat _ a1 d2) (o3 : @LT.lt Nat _ d2 a2) (gq : n0 ≤ q) (ov1 : Ovr Z kk1 s3_) (ov2 : Ovr Z kk2 s3_) :
    MetFree l (⟨s2_, "enqueue", s12_⟩ : MethodName) (head1 (Jvm.Cond.code (⟨s2_, "enqueue", s12_⟩ : MethodName) prog_11_method_10_code 2 none :: ws) ({ frames := 2, cells := 0, slots := 0, locals := 29 } : Room)) (fun a U => a = #[(.ref en), (.ref w2)] ∧ Z.Warmed39 U.vm ∧ U.heap = h0) (fun _ _ _ _ _ => True) (fun _ U o U' => ∃ v L, o = .returned v ∧ Q_rm_enq_0_1_w1_0_0_w21 Z en q d1 a1 kk1 d2 a2 kk2 w1 w2 h0 n0 v U'.heap L ∧ FrameEnd U o U' L ({ frames := 2, cells := 0, slots := 0, locals := 29 } : Room).cells ({ frames := 2, cells := 0, slots := 0, locals := 29 } : Room).slots) := by
  refine MetFree.of_bodySF (plainFor_of_name own_pn_com_example_admit1_admit1_lock_LockEntry) hisR ?_
  intro p e s m args below meth c s₁ Bd hml0 hP hK
  obtain ⟨rfl, hZ, hh⟩ := hP
  have hx := Bd.exec
  have hby := Bd.bytes
  have hml : c.maxLocals = 2 := hml0
  have hown : s.vm.findClass s2_ = some m.cls := findClass_of_methodNamed Bd.named
  have hnm := (name_of_methodNamed Bd.named Bd.method).1
  have X0 : Stand p l e ({ frames := 2, cells := 0, slots := 0, locals := 29 } : Room) s m #[(.ref en), (.ref w2)] below meth c s₁ [] 0 0 := Stand.of_body Bd
  have e0 : s₁.heap = h0 := by rw [← hh, Bd.state]; rfl
  have N0 := Fr.nil n0
  have Z0 : n0 ≤ h0.size := by rw [← O0.1]; exact O0.2.1
  show own_Go p e below (s₁.setTop (entryFrame m #[(.ref en), (.ref w2)] 2)) (fun t o => ∃ v L, o = .returned v ∧ Q_rm_enq_0_1_w1_0_0_w21 Z en q d1 a1 kk1 d2 a2 kk2 w1 w2 h0 n0 v t.heap L ∧ FrameEnd s o t L ({ frames := 2, cells := 0, slots := 0, locals := 29 } : Room).cells ({ frames := 2, cells := 0, slots := 0, locals := 29 } : Room).slots)
  rw [ef_rm_enq_0_1_w1_0_0_w21 m en q d1 a1 kk1 d2 a2 kk2 w1 w2]
  have lt_Fq : h0.size > en := Fq.lt
  have lt_Ee : h0.size > en := Ee.lt
  have lt_Ew : h0.size > w2 := Ew.lt
  have lt_Fw : h0.size > w2 := Fw.lt
  have lt_G0 : h0.size > q := G0.lt
  have lt_G1 : h0.size > q := G1.lt
  have lt_G2 : h0.size > q := G2.lt
  have lt_G3 : h0.size > d1 := G3.lt
  have lt_G4 : h0.size > d1 := G4.lt
  have lt_G5 : h0.size > d1 := G5.lt
  have lt_G6 : h0.size > d1 := G6.lt
  have lt_G7 : h0.size > a1 := G7.lt
  have lt_G8 : h0.size > d2 := G8.lt
  have lt_G9 : h0.size > d2 := G9.lt
  have lt_G10 : h0.size > d2 := G10.lt
  have lt_G11 : h0.size > d2 := G11.lt
  have lt_G12 : h0.size > a2 := G12.lt
  refine own_by (fun _ k => XS.aloadN X0.here hx rfl (hb hby D5_0) rfl rfl k) ?_
  obtain ⟨T1, X1, e1, st1⟩ := getF X0 hx hZ hown (host := "") (Or.inl (own_w hw 44 rfl)) Via.refl e0 Fq (g := (mkF m 1 #[.val (.ref en), .val (.ref w2)] [(.ref en)])) rfl rfl (hb hby D5_1)
  refine own_by st1 ?_
  refine own_by (fun _ k => XS.ifnonnullYes X1.here hx rfl (pc0 := 4) (pc' := 18) rfl (hb hby D5_4) rfl (by decide) (by decide) k) ?_
  show own_Go p e below (T1.setTop (mkF m 18 #[.val (.ref en), .val (.ref w2)] [])) _
  refine own_by (fun _ k => XS.aloadN X1.here hx rfl (hb hby D5_18) rfl rfl k) ?_
  obtain ⟨T2, X2, e2, st2⟩ := getF X1 hx hZ hown (host := "") (Or.inl (own_w hw 44 rfl)) Via.refl e1 Fq (g := (mkF m 19 #[.val (.ref en), .val (.ref w2)] [(.ref en)])) rfl rfl (hb hby D5_19)
  refine own_by st2 ?_
  refine own_by (fun _ k => XS.aloadN X2.here hx rfl (hb hby D5_22) rfl rfl k) ?_
  obtain ⟨cq3, kq3, q3a, q3b, q3c⟩ := isOf hZ e2 G0
  obtain ⟨_, _, ⟨T3, L3, k3, n3⟩, -, X3, ⟨Lc3, hQ3, l3, y3, z3⟩, st3⟩ := X2.virtualBack hx (y := (⟨s13_, "of", s18_⟩ : MethodName)) (z := (⟨s13_, "of", s18_⟩ : MethodName)) hown (mvT hZ (own_w hw 79 rfl)) (mvT hZ (own_w hw 80 rfl)) (notFace_of_selects (args := #[]) (mvT hZ (own_w hw 82 rfl))) (mvT hZ (own_w hw 82 rfl)) (mvT hZ (own_w hw 81 rfl)) (by decide) (backOf (W := 0) (rm_of1 l Z a0 hw [] q w2 d1 d2 h0 n0 O0 Fw G1 G2) hZ (own_w hw 83 rfl) (own_w hw 53 rfl) (by decide) (by decide)) q3a q3c (g := (mkF m 23 #[.val (.ref en), .val (.ref w2)] [(.ref w2), (.ref q)])) rfl (by rw [hml]; rfl) (Steps.refl _) (argsL := [(.ref w2)]) (rest := []) (lenOf own_pd__28Lcom_2fexample_2fadmit1_2fadmit1_2flock_2fWait_3b_29Ljava_2futil_2fArrayDeque_3b rfl) rfl (by show 2 * 0 + _ ≤ _; exact Nat.le_of_eq rfl) (hb hby D5_23) (fun _ _ => ⟨rfl, e2, (by decide : 0 + 0 ≤ _), (by decide : 0 + 0 ≤ _)⟩)
  dsimp only [Pt.U, Pt.locs, Pt.cells, Pt.slots] at X3 l3 y3 z3 st3 hQ3
  subst l3 y3 z3
  obtain ⟨rfl, M3, K3⟩ := hQ3
  have N3 := Fr.app N0 M3
  refine own_by (fun _ k => st3.trans k) ?_
  refine own_by (fun _ k => XS.aloadN X3.here hx rfl (hb hby D5_26) rfl rfl k) ?_
  obtain ⟨cq4, kq4, q4a, q4b, q4c⟩ := isOf hZ K3 G3
  obtain ⟨_, _, ⟨T4, L4, k4, n4⟩, -, X4, ⟨Lc4, hQ4, l4, y4, z4⟩, st4⟩ := X3.virtualBack hx (y := (⟨s14_, "addLast", s19_⟩ : MethodName)) (z := (⟨s14_, "addLast", s19_⟩ : MethodName)) hown (mvT hZ (own_w hw 85 rfl)) (mvT hZ (own_w hw 86 rfl)) (notFace_of_selects (args := #[]) (mvT hZ (own_w hw 88 rfl))) (mvT hZ (own_w hw 88 rfl)) (mvT hZ (own_w hw 87 rfl)) (by decide) (backOf (W := 0) (rm_add_0_1_w1_w2 l Z a0 hw [] d1 a1 kk1 w1 w2 h0 n0 O0 G3 G4 G5 G6 G7 Ew (by first | assumption | omega | decide) (by first | assumption | omega | decide) (by first | assumption | omega | decide) ov1) hZ (own_w hw 89 rfl) (own_w hw 60 rfl) (by decide) (by decide)) q4a q4c (g := (mkF m 27 #[.val (.ref en), .val (.ref w2)] [(.ref w2), (.ref d1)])) rfl (by rw [hml]; rfl) (Steps.refl _) (argsL := [(.ref w2)]) (rest := []) (lenOf own_pd__28Ljava_2flang_2fObject_3b_29V rfl) rfl (by show 2 * 0 + _ ≤ _; exact Nat.le_of_eq rfl) (hb hby D5_27) (fun _ _ => ⟨rfl, K3, (by decide : 0 + 0 ≤ _), (by decide : 0 + 0 ≤ _)⟩)
  dsimp only [Pt.U, Pt.locs, Pt.cells, Pt.slots] at X4 l4 y4 z4 st4 hQ4
  subst l4 y4 z4
  obtain ⟨rfl, M4, K4, g4_0, g4_1, g4_2, g4_3, g4_4⟩ := hQ4
  have N4 := Fr.app N3 M4
  refine own_by (fun _ k => st4.trans k) ?_
  have z4 := K4.1
  have lt_g4_0 : T4.heap.size > d1 := g4_0.lt
  have lt_g4_1 : T4.heap.size > d1 := g4_1.lt
  have lt_g4_2 : T4.heap.size > d1 := g4_2.lt
  have lt_g4_3 : T4.heap.size > d1 := g4_3.lt
  have lt_g4_4 : T4.heap.size > a1 := g4_4.lt
  show own_Go p e below (T4.setTop (mkF m 30 #[.val (.ref en), .val (.ref w2)] [])) _
  have fc5 : Fld Z T4.heap en s2_ "queues" s11_ (.ref q) := (Fq.keep K4 (ninS (own_ne (by omega)) (ninS (own_ne (by omega)) nin0)))
  have fc6 : Exa Z T4.heap q s13_ := (G0.keep K4)
  have fc7 : Fld Z T4.heap q s13_ "conversions" s17_ (.ref d1) := (G1.keep K4 (ninS (own_ne (by omega)) (ninS (own_ne (by omega)) nin0)))
  have fc8 : Fld Z T4.heap q s13_ "requests" s17_ (.ref d2) := (G2.keep K4 (ninS (own_ne (by omega)) (ninS (own_ne (by omega)) nin0)))
  have fc9 : Exa Z T4.heap d2 s14_ := (G8.keep K4)
  have fc10 : Fld Z T4.heap d2 s14_ "elements" s16_ (.ref a2) := (G9.keep K4 (ninS (own_ne (by omega)) (ninS (own_ne (by omega)) nin0)))
  have fc11 : Fld Z T4.heap d2 s14_ "head" "I" (.int (0 : Int32)) := (G10.keep K4 (ninS (own_ne (by omega)) (ninS (own_ne (by omega)) nin0)))
  have fc12 : Fld Z T4.heap d2 s14_ "tail" "I" (.int (0 : Int32)) := (G11.keep K4 (ninS (own_ne (by omega)) (ninS (own_ne (by omega)) nin0)))
  have fc13 : Arv Z T4.heap a2 kk2 (.object s3_) (17 : Int32) [] .null := (G12.keep K4 (ninS (own_ne (by omega)) (ninS (own_ne (by omega)) nin0)))
  have K14 : Keep h0 T4.heap [d1, a1] := ((Keep.refl h0 [d1, a1]).trans K4 (allS (P := fun x => x ∈ [d1, a1] ∨ h0.size ≤ x) (Or.inl (List.mem_of_getElem? (i := 0) rfl)) (allS (P := fun x => x ∈ [d1, a1] ∨ h0.size ≤ x) (Or.inl (List.mem_of_getElem? (i := 1) rfl)) all0)))
  obtain ⟨fs, hr, hrun, hended, hW, hsame⟩ := X4.leave (v := none) (fun h => rfl)
  refine ⟨_, _, X4.returnOut hx Bd.returns (hb hby D5_30) hr, hrun, hended, _, _, rfl, ?_, ⟨_, rfl⟩, hW, hsame.mono (by decide) (by decide)⟩
  show Q_rm_enq_0_1_w1_0_0_w21 Z en q d1 a1 kk1 d2 a2 kk2 w1 w2 h0 n0 _ T4.heap _
  exact ⟨rfl, N4, K14, fc5, fc6, fc7, fc8, g4_0, g4_1, g4_2, g4_3, g4_4, fc9, fc10, fc11, fc12, fc13⟩
def Q_rm_deq_0_2_w1_w2_0_0_w11 (Z : State) (en : Addr) (q : Addr) (d1 : Addr) (a1 : Addr) (kk1 : ClassId) (d2 : Addr) (a2 : Addr) (kk2 : ClassId) (w1 : Addr) (w2 : Addr) (h0 : Heap) (n0 : Nat) (v : Option Value) (h : Heap) (L : List Loc) : Prop := v = none ∧ Fr n0 L ∧ Keep h0 h [en, d1, a1] ∧ Fld Z h en s2_ "queues" s11_ (.ref q) ∧ Exa Z h q s13_ ∧ Fld Z h q s13_ "conversions" s17_ (.ref d1) ∧ Fld Z h q s13_ "requests" s17_ (.ref d2) ∧ Exa Z h d1 s14_ ∧ Fld Z h d1 s14_ "elements" s16_ (.ref a1) ∧ Fld Z h d1 s14_ "head" "I" (.int (1 : Int32)) ∧ Fld Z h d1 s14_ "tail" "I" (.int (2 : Int32)) ∧ Arv Z h a1 kk1 (.object s3_) (17 : Int32) [.null, (.ref w2)] .null ∧ Exa Z h d2 s14_ ∧ Fld Z h d2 s14_ "elements" s16_ (.ref a2) ∧ Fld Z h d2 s14_ "head" "I" (.int (0 : Int32)) ∧ Fld Z h d2 s14_ "tail" "I" (.int (0 : Int32)) ∧ Arv Z h a2 kk2 (.object s3_) (17 : Int32) [] .null
theorem ef_rm_deq_0_2_w1_w2_0_0_w11 (m : MethodId) (en : Addr) (q : Addr) (d1 : Addr) (a1 : Addr) (kk1 : ClassId) (d2 : Addr) (a2 : Addr) (kk2 : ClassId) (w1 : Addr) (w2 : Addr) : entryFrame m #[(.ref en), (.ref w1)] 2 = mkF m 0 #[.val (.ref en), .val (.ref w1)] [] := by first | (simp [entryFrame, mkF, argsToLocals, Value.category]; done) | rfl
set_option maxRecDepth 65536 in
set_option maxHeartbeats 40000000 in
theorem rm_deq_0_2_w1_w2_0_0_w11 (l : Launch) (Z : State) (a0 : Array Value) (hw : ∀ d ∈ tables_1, d.before a0 Z = true) (ws : List Jvm.Cond) (en : Addr) (q : Addr) (d1 : Addr) (a1 : Addr) (kk1 : ClassId) (d2 : Addr) (a2 : Addr) (kk2 : ClassId) (w1 : Addr) (w2 : Addr) (h0 : Heap) (n0 : Nat) (O0 : Old Z n0 h0) (Fq : Fld Z h0 en s2_ "queues" s11_ (.ref q)) (Ee : Exa Z h0 en s2_) (Ew : Exa Z h0 w1 s5_) (Fw : Fld Z h0 w1 s5_ "conversion" "Z" (.int (1 : Int32))) (G0 : Exa Z h0 q s13_) (G1 : Fld Z h0 q s13_ "conversions" s17_ (.ref d1)) (G2 : Fld Z h0 q s13_ "requests" s17_ (.ref d2)) (G3 : Exa Z h0 d1 s14_) (G4 : Fld Z h0 d1 s14_ "elements" s16_ (.ref a1)) (G5 : Fld Z h0 d1 s14_ "head" "I" (.int (0 : Int32))) (G6 : Fld Z h0 d1 s14_ "tail" "I" (.int (2 : Int32))) (G7 : Arv Z h0 a1 kk1 (.object s3_) (17 : Int32) [(.ref w1), (.ref w2)] .null) (G8 : Exa Z h0 d2 s14_) (G9 : Fld Z h0 d2 s14_ "elements" s16_ (.ref a2)) (G10 : Fld Z h0 d2 s14_ "head" "I" (.int (0 : Int32))) (G11 : Fld Z h0 d2 s14_ "tail" "I" (.int (0 : Int32))) (G12 : Arv Z h0 a2 kk2 (.object s3_) (17 : Int32) [] .null) (ge : n0 ≤ en) (nwe : ¬ (@Eq Nat w1 en)) (nea : ¬ (@Eq Nat en a1)) (ned : ¬ (@Eq Nat en d1)) (o0 : @LT.lt Nat _ q d1) (o1 : @LT.lt Nat _ d1 a1) (o2 : @LT.lt Nat _ a1 d2) (o3 : @LT.lt Nat _ d2 a2) (gq : n0 ≤ q) (ov1 : Ovr Z kk1 s3_) (ov2 : Ovr Z kk2 s3_) (n_w1_w2 : ¬ (w1 = w2)) :
    MetFree l (⟨s2_, "dequeue", s12_⟩ : MethodName) (head1 (Jvm.Cond.code (⟨s2_, "dequeue", s12_⟩ : MethodName) prog_11_method_11_code 2 none :: ws) ({ frames := 4, cells := 0, slots := 0, locals := 67 } : Room)) (fun a U => a = #[(.ref en), (.ref w1)] ∧ Z.Warmed39 U.vm ∧ U.heap = h0) (fun _ _ _ _ _ => True) (fun _ U o U' => ∃ v L, o = .returned v ∧ Q_rm_deq_0_2_w1_w2_0_0_w11 Z en q d1 a1 kk1 d2 a2 kk2 w1 w2 h0 n0 v U'.heap L ∧ FrameEnd U o U' L ({ frames := 4, cells := 0, slots := 0, locals := 67 } : Room).cells ({ frames := 4, cells := 0, slots := 0, locals := 67 } : Room).slots) := by
  refine MetFree.of_bodySF (plainFor_of_name own_pn_com_example_admit1_admit1_lock_LockEntry) hisR ?_
  intro p e s m args below meth c s₁ Bd hml0 hP hK
  obtain ⟨rfl, hZ, hh⟩ := hP
  have hx := Bd.exec
  have hby := Bd.bytes
  have hml : c.maxLocals = 2 := hml0
  have hown : s.vm.findClass s2_ = some m.cls := findClass_of_methodNamed Bd.named
  have hnm := (name_of_methodNamed Bd.named Bd.method).1
  have X0 : Stand p l e ({ frames := 4, cells := 0, slots := 0, locals := 67 } : Room) s m #[(.ref en), (.ref w1)] below meth c s₁ [] 0 0 := Stand.of_body Bd
  have e0 : s₁.heap = h0 := by rw [← hh, Bd.state]; rfl
  have N0 := Fr.nil n0
  have Z0 : n0 ≤ h0.size := by rw [← O0.1]; exact O0.2.1
  show own_Go p e below (s₁.setTop (entryFrame m #[(.ref en), (.ref w1)] 2)) (fun t o => ∃ v L, o = .returned v ∧ Q_rm_deq_0_2_w1_w2_0_0_w11 Z en q d1 a1 kk1 d2 a2 kk2 w1 w2 h0 n0 v t.heap L ∧ FrameEnd s o t L ({ frames := 4, cells := 0, slots := 0, locals := 67 } : Room).cells ({ frames := 4, cells := 0, slots := 0, locals := 67 } : Room).slots)
  rw [ef_rm_deq_0_2_w1_w2_0_0_w11 m en q d1 a1 kk1 d2 a2 kk2 w1 w2]
  have lt_Fq : h0.size > en := Fq.lt
  have lt_Ee : h0.size > en := Ee.lt
  have lt_Ew : h0.size > w1 := Ew.lt
  have lt_Fw : h0.size > w1 := Fw.lt
  have lt_G0 : h0.size > q := G0.lt
  have lt_G1 : h0.size > q := G1.lt
  have lt_G2 : h0.size > q := G2.lt
  have lt_G3 : h0.size > d1 := G3.lt
  have lt_G4 : h0.size > d1 := G4.lt
  have lt_G5 : h0.size > d1 := G5.lt
  have lt_G6 : h0.size > d1 := G6.lt
  have lt_G7 : h0.size > a1 := G7.lt
  have lt_G8 : h0.size > d2 := G8.lt
  have lt_G9 : h0.size > d2 := G9.lt
  have lt_G10 : h0.size > d2 := G10.lt
  have lt_G11 : h0.size > d2 := G11.lt
  have lt_G12 : h0.size > a2 := G12.lt
  refine own_by (fun _ k => XS.aloadN X0.here hx rfl (hb hby D12_0) rfl rfl k) ?_
  obtain ⟨T1, X1, e1, st1⟩ := getF X0 hx hZ hown (host := "") (Or.inl (own_w hw 44 rfl)) Via.refl e0 Fq (g := (mkF m 1 #[.val (.ref en), .val (.ref w1)] [(.ref en)])) rfl rfl (hb hby D12_1)
  refine own_by st1 ?_
  refine own_by (fun _ k => XS.aloadN X1.here hx rfl (hb hby D12_4) rfl rfl k) ?_
  obtain ⟨cq2, kq2, q2a, q2b, q2c⟩ := isOf hZ e1 G0
  obtain ⟨_, _, ⟨T2, L2, k2, n2⟩, -, X2, ⟨Lc2, hQ2, l2, y2, z2⟩, st2⟩ := X1.virtualBack hx (y := (⟨s13_, "of", s18_⟩ : MethodName)) (z := (⟨s13_, "of", s18_⟩ : MethodName)) hown (mvT hZ (own_w hw 79 rfl)) (mvT hZ (own_w hw 80 rfl)) (notFace_of_selects (args := #[]) (mvT hZ (own_w hw 82 rfl))) (mvT hZ (own_w hw 82 rfl)) (mvT hZ (own_w hw 81 rfl)) (by decide) (backOf (W := 0) (rm_of1 l Z a0 hw [] q w1 d1 d2 h0 n0 O0 Fw G1 G2) hZ (own_w hw 83 rfl) (own_w hw 53 rfl) (by decide) (by decide)) q2a q2c (g := (mkF m 5 #[.val (.ref en), .val (.ref w1)] [(.ref w1), (.ref q)])) rfl (by rw [hml]; rfl) (Steps.refl _) (argsL := [(.ref w1)]) (rest := []) (lenOf own_pd__28Lcom_2fexample_2fadmit1_2fadmit1_2flock_2fWait_3b_29Ljava_2futil_2fArrayDeque_3b rfl) rfl (by show 2 * 0 + _ ≤ _; exact Nat.le_of_eq rfl) (hb hby D12_5) (fun _ _ => ⟨rfl, e1, (by decide : 0 + 0 ≤ _), (by decide : 0 + 0 ≤ _)⟩)
  dsimp only [Pt.U, Pt.locs, Pt.cells, Pt.slots] at X2 l2 y2 z2 st2 hQ2
  subst l2 y2 z2
  obtain ⟨rfl, M2, K2⟩ := hQ2
  have N2 := Fr.app N0 M2
  refine own_by (fun _ k => st2.trans k) ?_
  refine own_by (fun _ k => XS.aloadN X2.here hx rfl (hb hby D12_8) rfl rfl k) ?_
  obtain ⟨cq3, kq3, q3a, q3b, q3c⟩ := isOf hZ K2 G3
  obtain ⟨_, _, ⟨T3, L3, k3, n3⟩, -, X3, ⟨Lc3, hQ3, l3, y3, z3⟩, st3⟩ := X2.virtualBack hx (y := (⟨s14_, "remove", s20_⟩ : MethodName)) (z := (⟨s14_, "remove", s20_⟩ : MethodName)) hown (mvT hZ (own_w hw 103 rfl)) (mvT hZ (own_w hw 104 rfl)) (notFace_of_selects (args := #[]) (mvT hZ (own_w hw 106 rfl))) (mvT hZ (own_w hw 106 rfl)) (mvT hZ (own_w hw 105 rfl)) (by decide) (backOf (W := 0) (rm_rem_0_2_w1_w2_w1 l Z a0 hw [] d1 a1 kk1 w1 w2 h0 n0 O0 G3 G4 G5 G6 G7 Ew (by first | assumption | omega | decide) (by first | assumption | omega | decide) (by first | assumption | omega | decide) n_w1_w2) hZ (own_w hw 107 rfl) (own_w hw 60 rfl) (by decide) (by decide)) q3a q3c (g := (mkF m 9 #[.val (.ref en), .val (.ref w1)] [(.ref w1), (.ref d1)])) rfl (by rw [hml]; rfl) (Steps.refl _) (argsL := [(.ref w1)]) (rest := []) (lenOf own_pd__28Ljava_2flang_2fObject_3b_29Z rfl) rfl (by show 2 * 0 + _ ≤ _; exact Nat.le_of_eq rfl) (hb hby D12_9) (fun _ _ => ⟨rfl, K2, (by decide : 0 + 0 ≤ _), (by decide : 0 + 0 ≤ _)⟩)
  dsimp only [Pt.U, Pt.locs, Pt.cells, Pt.slots] at X3 l3 y3 z3 st3 hQ3
  subst l3 y3 z3
  obtain ⟨rfl, M3, K3, g3_0, g3_1, g3_2, g3_3, g3_4⟩ := hQ3
  have N3 := Fr.app N2 M3
  refine own_by (fun _ k => st3.trans k) ?_
  have z3 := K3.1
  have lt_g3_0 : T3.heap.size > d1 := g3_0.lt
  have lt_g3_1 : T3.heap.size > d1 := g3_1.lt
  have lt_g3_2 : T3.heap.size > d1 := g3_2.lt
  have lt_g3_3 : T3.heap.size > d1 := g3_3.lt
  have lt_g3_4 : T3.heap.size > a1 := g3_4.lt
  show own_Go p e below (T3.setTop (mkF m 12 #[.val (.ref en), .val (.ref w1)] [(.int (1 : Int32))])) _
  refine own_by (fun _ k => XS.pop X3.here hx rfl (hb hby D12_12) rfl rfl k) ?_
  refine own_by (fun _ k => XS.aloadN X3.here hx rfl (hb hby D12_13) rfl rfl k) ?_
  have fc4 : Fld Z T3.heap en s2_ "queues" s11_ (.ref q) := (Fq.keep K3 (ninS (own_ne (by omega)) (ninS (own_ne (by omega)) nin0)))
  obtain ⟨T5, X5, e5, st5⟩ := getF X3 hx hZ hown (host := "") (Or.inl (own_w hw 44 rfl)) Via.refl rfl fc4 (g := (mkF m 14 #[.val (.ref en), .val (.ref w1)] [(.ref en)])) rfl rfl (hb hby D12_14)
  refine own_by st5 ?_
  have fc6 : Fld Z T3.heap q s13_ "conversions" s17_ (.ref d1) := (G1.keep K3 (ninS (own_ne (by omega)) (ninS (own_ne (by omega)) nin0)))
  obtain ⟨T7, X7, e7, st7⟩ := getF X5 hx hZ hown (host := "") (Or.inl (own_w hw 133 rfl)) Via.refl e5 fc6 (g := (mkF m 17 #[.val (.ref en), .val (.ref w1)] [(.ref q)])) rfl rfl (hb hby D12_17)
  refine own_by st7 ?_
  have O8 : Old Z n0 T3.heap := (O0.keep K3 (allS (by omega) (allS (by omega) all0)))
  obtain ⟨cq9, kq9, q9a, q9b, q9c⟩ := isOf hZ e7 g3_0
  obtain ⟨_, _, ⟨T9, L9, k9, n9⟩, -, X9, ⟨Lc9, hQ9, l9, y9, z9⟩, st9⟩ := X7.virtualBack hx (y := (⟨s14_, "isEmpty", "()Z"⟩ : MethodName)) (z := (⟨s14_, "isEmpty", "()Z"⟩ : MethodName)) hown (mvT hZ (own_w hw 134 rfl)) (mvT hZ (own_w hw 135 rfl)) (notFace_of_selects (args := #[]) (mvT hZ (own_w hw 137 rfl))) (mvT hZ (own_w hw 137 rfl)) (mvT hZ (own_w hw 136 rfl)) (by decide) (backOf (W := 0) (rm_emp1_2 l Z a0 hw [] d1 T3.heap n0 O8 g3_2 g3_3) hZ (own_w hw 138 rfl) (own_w hw 60 rfl) (by decide) (by decide)) q9a q9c (g := (mkF m 20 #[.val (.ref en), .val (.ref w1)] [(.ref d1)])) rfl (by rw [hml]; rfl) (Steps.refl _) (argsL := []) (rest := []) (lenOf own_pd__28_29Z rfl) rfl (by show 2 * 0 + _ ≤ _; exact Nat.le_of_eq rfl) (hb hby D12_20) (fun _ _ => ⟨rfl, e7, (by decide : 0 + 0 ≤ _), (by decide : 0 + 0 ≤ _)⟩)
  dsimp only [Pt.U, Pt.locs, Pt.cells, Pt.slots] at X9 l9 y9 z9 st9 hQ9
  subst l9 y9 z9
  obtain ⟨rfl, M9, K9⟩ := hQ9
  have N9 := Fr.app N3 M9
  refine own_by (fun _ k => st9.trans k) ?_
  refine own_by (fun _ k => XS.ifYes X9.here hx rfl (pc0 := 23) (pc' := 44) rfl (hb hby D12_23) rfl ((if0 _ _).trans (teq (by decide : (0 : Int32) = (0 : Int32))).1) (by decide) (by decide) k) ?_
  show own_Go p e below (T9.setTop (mkF m 44 #[.val (.ref en), .val (.ref w1)] [])) _
  have fc10 : Exa Z T3.heap q s13_ := (G0.keep K3)
  have fc11 : Fld Z T3.heap q s13_ "requests" s17_ (.ref d2) := (G2.keep K3 (ninS (own_ne (by omega)) (ninS (own_ne (by omega)) nin0)))
  have fc12 : Exa Z T3.heap d2 s14_ := (G8.keep K3)
  have fc13 : Fld Z T3.heap d2 s14_ "elements" s16_ (.ref a2) := (G9.keep K3 (ninS (own_ne (by omega)) (ninS (own_ne (by omega)) nin0)))
  have fc14 : Fld Z T3.heap d2 s14_ "head" "I" (.int (0 : Int32)) := (G10.keep K3 (ninS (own_ne (by omega)) (ninS (own_ne (by omega)) nin0)))
  have fc15 : Fld Z T3.heap d2 s14_ "tail" "I" (.int (0 : Int32)) := (G11.keep K3 (ninS (own_ne (by omega)) (ninS (own_ne (by omega)) nin0)))
  have fc16 : Arv Z T3.heap a2 kk2 (.object s3_) (17 : Int32) [] .null := (G12.keep K3 (ninS (own_ne (by omega)) (ninS (own_ne (by omega)) nin0)))
  have K17 : Keep h0 T3.heap [en, d1, a1] := ((Keep.refl h0 [en, d1, a1]).trans K3 (allS (P := fun x => x ∈ [en, d1, a1] ∨ h0.size ≤ x) (Or.inl (List.mem_of_getElem? (i := 1) rfl)) (allS (P := fun x => x ∈ [en, d1, a1] ∨ h0.size ≤ x) (Or.inl (List.mem_of_getElem? (i := 2) rfl)) all0)))
  obtain ⟨fs, hr, hrun, hended, hW, hsame⟩ := X9.leave (v := none) (fun h => rfl)
  refine ⟨_, _, X9.returnOut hx Bd.returns (hb hby D12_44) hr, hrun, hended, _, _, rfl, ?_, ⟨_, rfl⟩, hW, hsame.mono (by decide) (by decide)⟩
  show Q_rm_deq_0_2_w1_w2_0_0_w11 Z en q d1 a1 kk1 d2 a2 kk2 w1 w2 h0 n0 _ T9.heap _
  rw [K9]
  exact ⟨rfl, N9, K17, fc4, fc10, fc6, fc11, g3_0, g3_1, g3_2, g3_3, g3_4, fc12, fc13, fc14, fc15, fc16⟩
def Q_rm_deq_1_2_None_w1_0_0_w11 (Z : State) (en : Addr) (q : Addr) (d1 : Addr) (a1 : Addr) (kk1 : ClassId) (d2 : Addr) (a2 : Addr) (kk2 : ClassId) (w1 : Addr) (h0 : Heap) (n0 : Nat) (v : Option Value) (h : Heap) (L : List Loc) : Prop := v = none ∧ Fr n0 L ∧ Keep h0 h [en, d1, a1] ∧ Fld Z h en s2_ "queues" s11_ .null
theorem ef_rm_deq_1_2_None_w1_0_0_w11 (m : MethodId) (en : Addr) (q : Addr) (d1 : Addr) (a1 : Addr) (kk1 : ClassId) (d2 : Addr) (a2 : Addr) (kk2 : ClassId) (w1 : Addr) : entryFrame m #[(.ref en), (.ref w1)] 2 = mkF m 0 #[.val (.ref en), .val (.ref w1)] [] := by first | (simp [entryFrame, mkF, argsToLocals, Value.category]; done) | rfl
set_option maxRecDepth 65536 in
set_option maxHeartbeats 40000000 in
theorem rm_deq_1_2_None_w1_0_0_w11 (l : Launch) (Z : State) (a0 : Array Value) (hw : ∀ d ∈ tables_1, d.before a0 Z = true) (ws : List Jvm.Cond) (en : Addr) (q : Addr) (d1 : Addr) (a1 : Addr) (kk1 : ClassId) (d2 : Addr) (a2 : Addr) (kk2 : ClassId) (w1 : Addr) (h0 : Heap) (n0 : Nat) (O0 : Old Z n0 h0) (Fq : Fld Z h0 en s2_ "queues" s11_ (.ref q)) (Ee : Exa Z h0 en s2_) (Ew : Exa Z h0 w1 s5_) (Fw : Fld Z h0 w1 s5_ "conversion" "Z" (.int (1 : Int32))) (G0 : Exa Z h0 q s13_) (G1 : Fld Z h0 q s13_ "conversions" s17_ (.ref d1)) (G2 : Fld Z h0 q s13_ "requests" s17_ (.ref d2)) (G3 : Exa Z h0 d1 s14_) (G4 : Fld Z h0 d1 s14_ "elements" s16_ (.ref a1)) (G5 : Fld Z h0 d1 s14_ "head" "I" (.int (1 : Int32))) (G6 : Fld Z h0 d1 s14_ "tail" "I" (.int (2 : Int32))) (G7 : Arv Z h0 a1 kk1 (.object s3_) (17 : Int32) [.null, (.ref w1)] .null) (G8 : Exa Z h0 d2 s14_) (G9 : Fld Z h0 d2 s14_ "elements" s16_ (.ref a2)) (G10 : Fld Z h0 d2 s14_ "head" "I" (.int (0 : Int32))) (G11 : Fld Z h0 d2 s14_ "tail" "I" (.int (0 : Int32))) (G12 : Arv Z h0 a2 kk2 (.object s3_) (17 : Int32) [] .null) (ge : n0 ≤ en) (nwe : ¬ (@Eq Nat w1 en)) (nea : ¬ (@Eq Nat en a1)) (ned : ¬ (@Eq Nat en d1)) (o0 : @LT.lt Nat _ q d1) (o1 : @LT.lt Nat _ d1 a1) (o2 : @LT.lt Nat _ a1 d2) (o3 : @LT.lt Nat _ d2 a2) (gq : n0 ≤ q) (ov1 : Ovr Z kk1 s3_) (ov2 : Ovr Z kk2 s3_) :
    MetFree l (⟨s2_, "dequeue", s12_⟩ : MethodName) (head1 (Jvm.Cond.code (⟨s2_, "dequeue", s12_⟩ : MethodName) prog_11_method_11_code 2 none :: ws) ({ frames := 4, cells := 0, slots := 0, locals := 67 } : Room)) (fun a U => a = #[(.ref en), (.ref w1)] ∧ Z.Warmed39 U.vm ∧ U.heap = h0) (fun _ _ _ _ _ => True) (fun _ U o U' => ∃ v L, o = .returned v ∧ Q_rm_deq_1_2_None_w1_0_0_w11 Z en q d1 a1 kk1 d2 a2 kk2 w1 h0 n0 v U'.heap L ∧ FrameEnd U o U' L ({ frames := 4, cells := 0, slots := 0, locals := 67 } : Room).cells ({ frames := 4, cells := 0, slots := 0, locals := 67 } : Room).slots) := by
  refine MetFree.of_bodySF (plainFor_of_name own_pn_com_example_admit1_admit1_lock_LockEntry) hisR ?_
  intro p e s m args below meth c s₁ Bd hml0 hP hK
  obtain ⟨rfl, hZ, hh⟩ := hP
  have hx := Bd.exec
  have hby := Bd.bytes
  have hml : c.maxLocals = 2 := hml0
  have hown : s.vm.findClass s2_ = some m.cls := findClass_of_methodNamed Bd.named
  have hnm := (name_of_methodNamed Bd.named Bd.method).1
  have X0 : Stand p l e ({ frames := 4, cells := 0, slots := 0, locals := 67 } : Room) s m #[(.ref en), (.ref w1)] below meth c s₁ [] 0 0 := Stand.of_body Bd
  have e0 : s₁.heap = h0 := by rw [← hh, Bd.state]; rfl
  have N0 := Fr.nil n0
  have Z0 : n0 ≤ h0.size := by rw [← O0.1]; exact O0.2.1
  show own_Go p e below (s₁.setTop (entryFrame m #[(.ref en), (.ref w1)] 2)) (fun t o => ∃ v L, o = .returned v ∧ Q_rm_deq_1_2_None_w1_0_0_w11 Z en q d1 a1 kk1 d2 a2 kk2 w1 h0 n0 v t.heap L ∧ FrameEnd s o t L ({ frames := 4, cells := 0, slots := 0, locals := 67 } : Room).cells ({ frames := 4, cells := 0, slots := 0, locals := 67 } : Room).slots)
  rw [ef_rm_deq_1_2_None_w1_0_0_w11 m en q d1 a1 kk1 d2 a2 kk2 w1]
  have lt_Fq : h0.size > en := Fq.lt
  have lt_Ee : h0.size > en := Ee.lt
  have lt_Ew : h0.size > w1 := Ew.lt
  have lt_Fw : h0.size > w1 := Fw.lt
  have lt_G0 : h0.size > q := G0.lt
  have lt_G1 : h0.size > q := G1.lt
  have lt_G2 : h0.size > q := G2.lt
  have lt_G3 : h0.size > d1 := G3.lt
  have lt_G4 : h0.size > d1 := G4.lt
  have lt_G5 : h0.size > d1 := G5.lt
  have lt_G6 : h0.size > d1 := G6.lt
  have lt_G7 : h0.size > a1 := G7.lt
  have lt_G8 : h0.size > d2 := G8.lt
  have lt_G9 : h0.size > d2 := G9.lt
  have lt_G10 : h0.size > d2 := G10.lt
  have lt_G11 : h0.size > d2 := G11.lt
  have lt_G12 : h0.size > a2 := G12.lt
  refine own_by (fun _ k => XS.aloadN X0.here hx rfl (hb hby D12_0) rfl rfl k) ?_
  obtain ⟨T1, X1, e1, st1⟩ := getF X0 hx hZ hown (host := "") (Or.inl (own_w hw 44 rfl)) Via.refl e0 Fq (g := (mkF m 1 #[.val (.ref en), .val (.ref w1)] [(.ref en)])) rfl rfl (hb hby D12_1)
  refine own_by st1 ?_
  refine own_by (fun _ k => XS.aloadN X1.here hx rfl (hb hby D12_4) rfl rfl k) ?_
  obtain ⟨cq2, kq2, q2a, q2b, q2c⟩ := isOf hZ e1 G0
  obtain ⟨_, _, ⟨T2, L2, k2, n2⟩, -, X2, ⟨Lc2, hQ2, l2, y2, z2⟩, st2⟩ := X1.virtualBack hx (y := (⟨s13_, "of", s18_⟩ : MethodName)) (z := (⟨s13_, "of", s18_⟩ : MethodName)) hown (mvT hZ (own_w hw 79 rfl)) (mvT hZ (own_w hw 80 rfl)) (notFace_of_selects (args := #[]) (mvT hZ (own_w hw 82 rfl))) (mvT hZ (own_w hw 82 rfl)) (mvT hZ (own_w hw 81 rfl)) (by decide) (backOf (W := 0) (rm_of1 l Z a0 hw [] q w1 d1 d2 h0 n0 O0 Fw G1 G2) hZ (own_w hw 83 rfl) (own_w hw 53 rfl) (by decide) (by decide)) q2a q2c (g := (mkF m 5 #[.val (.ref en), .val (.ref w1)] [(.ref w1), (.ref q)])) rfl (by rw [hml]; rfl) (Steps.refl _) (argsL := [(.ref w1)]) (rest := []) (lenOf own_pd__28Lcom_2fexample_2fadmit1_2fadmit1_2flock_2fWait_3b_29Ljava_2futil_2fArrayDeque_3b rfl) rfl (by show 2 * 0 + _ ≤ _; exact Nat.le_of_eq rfl) (hb hby D12_5) (fun _ _ => ⟨rfl, e1, (by decide : 0 + 0 ≤ _), (by decide : 0 + 0 ≤ _)⟩)
  dsimp only [Pt.U, Pt.locs, Pt.cells, Pt.slots] at X2 l2 y2 z2 st2 hQ2
  subst l2 y2 z2
  obtain ⟨rfl, M2, K2⟩ := hQ2
  have N2 := Fr.app N0 M2
  refine own_by (fun _ k => st2.trans k) ?_
  refine own_by (fun _ k => XS.aloadN X2.here hx rfl (hb hby D12_8) rfl rfl k) ?_
  obtain ⟨cq3, kq3, q3a, q3b, q3c⟩ := isOf hZ K2 G3
  obtain ⟨_, _, ⟨T3, L3, k3, n3⟩, -, X3, ⟨Lc3, hQ3, l3, y3, z3⟩, st3⟩ := X2.virtualBack hx (y := (⟨s14_, "remove", s20_⟩ : MethodName)) (z := (⟨s14_, "remove", s20_⟩ : MethodName)) hown (mvT hZ (own_w hw 103 rfl)) (mvT hZ (own_w hw 104 rfl)) (notFace_of_selects (args := #[]) (mvT hZ (own_w hw 106 rfl))) (mvT hZ (own_w hw 106 rfl)) (mvT hZ (own_w hw 105 rfl)) (by decide) (backOf (W := 0) (rm_rem_1_2_None_w1_w1 l Z a0 hw [] d1 a1 kk1 w1 h0 n0 O0 G3 G4 G5 G6 G7 Ew (by first | assumption | omega | decide) (by first | assumption | omega | decide) (by first | assumption | omega | decide)) hZ (own_w hw 107 rfl) (own_w hw 60 rfl) (by decide) (by decide)) q3a q3c (g := (mkF m 9 #[.val (.ref en), .val (.ref w1)] [(.ref w1), (.ref d1)])) rfl (by rw [hml]; rfl) (Steps.refl _) (argsL := [(.ref w1)]) (rest := []) (lenOf own_pd__28Ljava_2flang_2fObject_3b_29Z rfl) rfl (by show 2 * 0 + _ ≤ _; exact Nat.le_of_eq rfl) (hb hby D12_9) (fun _ _ => ⟨rfl, K2, (by decide : 0 + 0 ≤ _), (by decide : 0 + 0 ≤ _)⟩)
  dsimp only [Pt.U, Pt.locs, Pt.cells, Pt.slots] at X3 l3 y3 z3 st3 hQ3
  subst l3 y3 z3
  obtain ⟨rfl, M3, K3, g3_0, g3_1, g3_2, g3_3, g3_4⟩ := hQ3
  have N3 := Fr.app N2 M3
  refine own_by (fun _ k => st3.trans k) ?_
  have z3 := K3.1
  have lt_g3_0 : T3.heap.size > d1 := g3_0.lt
  have lt_g3_1 : T3.heap.size > d1 := g3_1.lt
  have lt_g3_2 : T3.heap.size > d1 := g3_2.lt
  have lt_g3_3 : T3.heap.size > d1 := g3_3.lt
  have lt_g3_4 : T3.heap.size > a1 := g3_4.lt
  show own_Go p e below (T3.setTop (mkF m 12 #[.val (.ref en), .val (.ref w1)] [(.int (1 : Int32))])) _
  refine own_by (fun _ k => XS.pop X3.here hx rfl (hb hby D12_12) rfl rfl k) ?_
  refine own_by (fun _ k => XS.aloadN X3.here hx rfl (hb hby D12_13) rfl rfl k) ?_
  have fc4 : Fld Z T3.heap en s2_ "queues" s11_ (.ref q) := (Fq.keep K3 (ninS (own_ne (by omega)) (ninS (own_ne (by omega)) nin0)))
  obtain ⟨T5, X5, e5, st5⟩ := getF X3 hx hZ hown (host := "") (Or.inl (own_w hw 44 rfl)) Via.refl rfl fc4 (g := (mkF m 14 #[.val (.ref en), .val (.ref w1)] [(.ref en)])) rfl rfl (hb hby D12_14)
  refine own_by st5 ?_
  have fc6 : Fld Z T3.heap q s13_ "conversions" s17_ (.ref d1) := (G1.keep K3 (ninS (own_ne (by omega)) (ninS (own_ne (by omega)) nin0)))
  obtain ⟨T7, X7, e7, st7⟩ := getF X5 hx hZ hown (host := "") (Or.inl (own_w hw 133 rfl)) Via.refl e5 fc6 (g := (mkF m 17 #[.val (.ref en), .val (.ref w1)] [(.ref q)])) rfl rfl (hb hby D12_17)
  refine own_by st7 ?_
  have O8 : Old Z n0 T3.heap := (O0.keep K3 (allS (by omega) (allS (by omega) all0)))
  obtain ⟨cq9, kq9, q9a, q9b, q9c⟩ := isOf hZ e7 g3_0
  obtain ⟨_, _, ⟨T9, L9, k9, n9⟩, -, X9, ⟨Lc9, hQ9, l9, y9, z9⟩, st9⟩ := X7.virtualBack hx (y := (⟨s14_, "isEmpty", "()Z"⟩ : MethodName)) (z := (⟨s14_, "isEmpty", "()Z"⟩ : MethodName)) hown (mvT hZ (own_w hw 134 rfl)) (mvT hZ (own_w hw 135 rfl)) (notFace_of_selects (args := #[]) (mvT hZ (own_w hw 137 rfl))) (mvT hZ (own_w hw 137 rfl)) (mvT hZ (own_w hw 136 rfl)) (by decide) (backOf (W := 0) (rm_emp1_1 l Z a0 hw [] d1 T3.heap n0 O8 g3_2 g3_3) hZ (own_w hw 138 rfl) (own_w hw 60 rfl) (by decide) (by decide)) q9a q9c (g := (mkF m 20 #[.val (.ref en), .val (.ref w1)] [(.ref d1)])) rfl (by rw [hml]; rfl) (Steps.refl _) (argsL := []) (rest := []) (lenOf own_pd__28_29Z rfl) rfl (by show 2 * 0 + _ ≤ _; exact Nat.le_of_eq rfl) (hb hby D12_20) (fun _ _ => ⟨rfl, e7, (by decide : 0 + 0 ≤ _), (by decide : 0 + 0 ≤ _)⟩)
  dsimp only [Pt.U, Pt.locs, Pt.cells, Pt.slots] at X9 l9 y9 z9 st9 hQ9
  subst l9 y9 z9
  obtain ⟨rfl, M9, K9⟩ := hQ9
  have N9 := Fr.app N3 M9
  refine own_by (fun _ k => st9.trans k) ?_
  refine own_by (fun _ k => XS.ifNo X9.here hx rfl (hb hby D12_23) rfl ((if0 _ _).trans (feq (by decide : ¬ ((1 : Int32) = (0 : Int32)))).1) k) ?_
  show own_Go p e below (T9.setTop (mkF m 26 #[.val (.ref en), .val (.ref w1)] [])) _
  refine own_by (fun _ k => XS.aloadN X9.here hx rfl (hb hby D12_26) rfl rfl k) ?_
  obtain ⟨T10, X10, e10, st10⟩ := getF X9 hx hZ hown (host := "") (Or.inl (own_w hw 44 rfl)) Via.refl K9 fc4 (g := (mkF m 27 #[.val (.ref en), .val (.ref w1)] [(.ref en)])) rfl rfl (hb hby D12_27)
  refine own_by st10 ?_
  have fc11 : Fld Z T3.heap q s13_ "requests" s17_ (.ref d2) := (G2.keep K3 (ninS (own_ne (by omega)) (ninS (own_ne (by omega)) nin0)))
  obtain ⟨T12, X12, e12, st12⟩ := getF X10 hx hZ hown (host := "") (Or.inl (own_w hw 139 rfl)) Via.refl e10 fc11 (g := (mkF m 30 #[.val (.ref en), .val (.ref w1)] [(.ref q)])) rfl rfl (hb hby D12_30)
  refine own_by st12 ?_
  have fc13 : Fld Z T3.heap d2 s14_ "head" "I" (.int (0 : Int32)) := (G10.keep K3 (ninS (own_ne (by omega)) (ninS (own_ne (by omega)) nin0)))
  have fc14 : Fld Z T3.heap d2 s14_ "tail" "I" (.int (0 : Int32)) := (G11.keep K3 (ninS (own_ne (by omega)) (ninS (own_ne (by omega)) nin0)))
  have fc16 : Exa Z T3.heap d2 s14_ := (G8.keep K3)
  obtain ⟨cq15, kq15, q15a, q15b, q15c⟩ := isOf hZ e12 fc16
  obtain ⟨_, _, ⟨T15, L15, k15, n15⟩, -, X15, ⟨Lc15, hQ15, l15, y15, z15⟩, st15⟩ := X12.virtualBack hx (y := (⟨s14_, "isEmpty", "()Z"⟩ : MethodName)) (z := (⟨s14_, "isEmpty", "()Z"⟩ : MethodName)) hown (mvT hZ (own_w hw 134 rfl)) (mvT hZ (own_w hw 135 rfl)) (notFace_of_selects (args := #[]) (mvT hZ (own_w hw 137 rfl))) (mvT hZ (own_w hw 137 rfl)) (mvT hZ (own_w hw 136 rfl)) (by decide) (backOf (W := 0) (rm_emp0_0 l Z a0 hw [] d2 T3.heap n0 O8 fc13 fc14) hZ (own_w hw 138 rfl) (own_w hw 60 rfl) (by decide) (by decide)) q15a q15c (g := (mkF m 33 #[.val (.ref en), .val (.ref w1)] [(.ref d2)])) rfl (by rw [hml]; rfl) (Steps.refl _) (argsL := []) (rest := []) (lenOf own_pd__28_29Z rfl) rfl (by show 2 * 0 + _ ≤ _; exact Nat.le_of_eq rfl) (hb hby D12_33) (fun _ _ => ⟨rfl, e12, (by decide : 0 + 0 ≤ _), (by decide : 0 + 0 ≤ _)⟩)
  dsimp only [Pt.U, Pt.locs, Pt.cells, Pt.slots] at X15 l15 y15 z15 st15 hQ15
  subst l15 y15 z15
  obtain ⟨rfl, M15, K15⟩ := hQ15
  have N15 := Fr.app N9 M15
  refine own_by (fun _ k => st15.trans k) ?_
  refine own_by (fun _ k => XS.ifNo X15.here hx rfl (hb hby D12_36) rfl ((if0 _ _).trans (feq (by decide : ¬ ((1 : Int32) = (0 : Int32)))).1) k) ?_
  show own_Go p e below (T15.setTop (mkF m 39 #[.val (.ref en), .val (.ref w1)] [])) _
  refine own_by (fun _ k => XS.aloadN X15.here hx rfl (hb hby D12_39) rfl rfl k) ?_
  refine own_by (fun _ k => XS.aconstNull X15.here hx rfl (hb hby D12_40) k) ?_
  have fc17 : Exa Z T3.heap en s2_ := (Ee.keep K3)
  obtain ⟨T18, h18, X18, e18, W18, st18⟩ := putF X15 hx hZ hown (host := "") (Or.inl (own_w hw 44 rfl)) Via.refl K15 fc4 fc17 (Or.inl (own_w hw 45 rfl)) (own_w hw 1 rfl) (ty := (.object s13_)) (by decide) rfl rfl (g := (mkF m 41 #[.val (.ref en), .val (.ref w1)] [.null, (.ref en)])) rfl rfl (hb hby D12_41)
  refine own_by st18 ?_
  have z18 := W18.size
  have N18 := Fr.snoc X18 N15 (by omega)
  have Fw18 : Fld Z h18 en s2_ "queues" s11_ .null := fc4.same W18
  have K19 : Keep h0 h18 [en, d1, a1] := (((Keep.refl h0 [en, d1, a1]).trans K3 (allS (P := fun x => x ∈ [en, d1, a1] ∨ h0.size ≤ x) (Or.inl (List.mem_of_getElem? (i := 1) rfl)) (allS (P := fun x => x ∈ [en, d1, a1] ∨ h0.size ≤ x) (Or.inl (List.mem_of_getElem? (i := 2) rfl)) all0))).wr W18 (Or.inl (List.mem_of_getElem? (i := 0) rfl)))
  obtain ⟨fs, hr, hrun, hended, hW, hsame⟩ := X18.leave (v := none) (fun h => rfl)
  refine ⟨_, _, X18.returnOut hx Bd.returns (hb hby D12_44) hr, hrun, hended, _, _, rfl, ?_, ⟨_, rfl⟩, hW, hsame.mono (by decide) (by decide)⟩
  show Q_rm_deq_1_2_None_w1_0_0_w11 Z en q d1 a1 kk1 d2 a2 kk2 w1 h0 n0 _ T18.heap _
  rw [e18]
  exact ⟨rfl, N18, K19, Fw18⟩
def Q_rm_deq_0_2_w1_w2_0_0_w21 (Z : State) (en : Addr) (q : Addr) (d1 : Addr) (a1 : Addr) (kk1 : ClassId) (d2 : Addr) (a2 : Addr) (kk2 : ClassId) (w1 : Addr) (w2 : Addr) (h0 : Heap) (n0 : Nat) (v : Option Value) (h : Heap) (L : List Loc) : Prop := v = none ∧ Fr n0 L ∧ Keep h0 h [en, d1, a1] ∧ Fld Z h en s2_ "queues" s11_ (.ref q) ∧ Exa Z h q s13_ ∧ Fld Z h q s13_ "conversions" s17_ (.ref d1) ∧ Fld Z h q s13_ "requests" s17_ (.ref d2) ∧ Exa Z h d1 s14_ ∧ Fld Z h d1 s14_ "elements" s16_ (.ref a1) ∧ Fld Z h d1 s14_ "head" "I" (.int (0 : Int32)) ∧ Fld Z h d1 s14_ "tail" "I" (.int (1 : Int32)) ∧ Arv Z h a1 kk1 (.object s3_) (17 : Int32) [(.ref w1)] .null ∧ Exa Z h d2 s14_ ∧ Fld Z h d2 s14_ "elements" s16_ (.ref a2) ∧ Fld Z h d2 s14_ "head" "I" (.int (0 : Int32)) ∧ Fld Z h d2 s14_ "tail" "I" (.int (0 : Int32)) ∧ Arv Z h a2 kk2 (.object s3_) (17 : Int32) [] .null
theorem ef_rm_deq_0_2_w1_w2_0_0_w21 (m : MethodId) (en : Addr) (q : Addr) (d1 : Addr) (a1 : Addr) (kk1 : ClassId) (d2 : Addr) (a2 : Addr) (kk2 : ClassId) (w1 : Addr) (w2 : Addr) : entryFrame m #[(.ref en), (.ref w2)] 2 = mkF m 0 #[.val (.ref en), .val (.ref w2)] [] := by first | (simp [entryFrame, mkF, argsToLocals, Value.category]; done) | rfl
set_option maxRecDepth 65536 in
set_option maxHeartbeats 40000000 in
theorem rm_deq_0_2_w1_w2_0_0_w21 (l : Launch) (Z : State) (a0 : Array Value) (hw : ∀ d ∈ tables_1, d.before a0 Z = true) (ws : List Jvm.Cond) (en : Addr) (q : Addr) (d1 : Addr) (a1 : Addr) (kk1 : ClassId) (d2 : Addr) (a2 : Addr) (kk2 : ClassId) (w1 : Addr) (w2 : Addr) (h0 : Heap) (n0 : Nat) (O0 : Old Z n0 h0) (Fq : Fld Z h0 en s2_ "queues" s11_ (.ref q)) (Ee : Exa Z h0 en s2_) (Ew : Exa Z h0 w2 s5_) (Fw : Fld Z h0 w2 s5_ "conversion" "Z" (.int (1 : Int32))) (G0 : Exa Z h0 q s13_) (G1 : Fld Z h0 q s13_ "conversions" s17_ (.ref d1)) (G2 : Fld Z h0 q s13_ "requests" s17_ (.ref d2)) (G3 : Exa Z h0 d1 s14_) (G4 : Fld Z h0 d1 s14_ "elements" s16_ (.ref a1)) (G5 : Fld Z h0 d1 s14_ "head" "I" (.int (0 : Int32))) (G6 : Fld Z h0 d1 s14_ "tail" "I" (.int (2 : Int32))) (G7 : Arv Z h0 a1 kk1 (.object s3_) (17 : Int32) [(.ref w1), (.ref w2)] .null) (G8 : Exa Z h0 d2 s14_) (G9 : Fld Z h0 d2 s14_ "elements" s16_ (.ref a2)) (G10 : Fld Z h0 d2 s14_ "head" "I" (.int (0 : Int32))) (G11 : Fld Z h0 d2 s14_ "tail" "I" (.int (0 : Int32))) (G12 : Arv Z h0 a2 kk2 (.object s3_) (17 : Int32) [] .null) (ge : n0 ≤ en) (nwe : ¬ (@Eq Nat w2 en)) (nea : ¬ (@Eq Nat en a1)) (ned : ¬ (@Eq Nat en d1)) (o0 : @LT.lt Nat _ q d1) (o1 : @LT.lt Nat _ d1 a1) (o2 : @LT.lt Nat _ a1 d2) (o3 : @LT.lt Nat _ d2 a2) (gq : n0 ≤ q) (ov1 : Ovr Z kk1 s3_) (ov2 : Ovr Z kk2 s3_) (n_w2_w1 : ¬ (w2 = w1)) :
    MetFree l (⟨s2_, "dequeue", s12_⟩ : MethodName) (head1 (Jvm.Cond.code (⟨s2_, "dequeue", s12_⟩ : MethodName) prog_11_method_11_code 2 none :: ws) ({ frames := 4, cells := 0, slots := 0, locals := 67 } : Room)) (fun a U => a = #[(.ref en), (.ref w2)] ∧ Z.Warmed39 U.vm ∧ U.heap = h0) (fun _ _ _ _ _ => True) (fun _ U o U' => ∃ v L, o = .returned v ∧ Q_rm_deq_0_2_w1_w2_0_0_w21 Z en q d1 a1 kk1 d2 a2 kk2 w1 w2 h0 n0 v U'.heap L ∧ FrameEnd U o U' L ({ frames := 4, cells := 0, slots := 0, locals := 67 } : Room).cells ({ frames := 4, cells := 0, slots := 0, locals := 67 } : Room).slots) := by
  refine MetFree.of_bodySF (plainFor_of_name own_pn_com_example_admit1_admit1_lock_LockEntry) hisR ?_
  intro p e s m args below meth c s₁ Bd hml0 hP hK
  obtain ⟨rfl, hZ, hh⟩ := hP
  have hx := Bd.exec
  have hby := Bd.bytes
  have hml : c.maxLocals = 2 := hml0
  have hown : s.vm.findClass s2_ = some m.cls := findClass_of_methodNamed Bd.named
  have hnm := (name_of_methodNamed Bd.named Bd.method).1
  have X0 : Stand p l e ({ frames := 4, cells := 0, slots := 0, locals := 67 } : Room) s m #[(.ref en), (.ref w2)] below meth c s₁ [] 0 0 := Stand.of_body Bd
  have e0 : s₁.heap = h0 := by rw [← hh, Bd.state]; rfl
  have N0 := Fr.nil n0
  have Z0 : n0 ≤ h0.size := by rw [← O0.1]; exact O0.2.1
  show own_Go p e below (s₁.setTop (entryFrame m #[(.ref en), (.ref w2)] 2)) (fun t o => ∃ v L, o = .returned v ∧ Q_rm_deq_0_2_w1_w2_0_0_w21 Z en q d1 a1 kk1 d2 a2 kk2 w1 w2 h0 n0 v t.heap L ∧ FrameEnd s o t L ({ frames := 4, cells := 0, slots := 0, locals := 67 } : Room).cells ({ frames := 4, cells := 0, slots := 0, locals := 67 } : Room).slots)
  rw [ef_rm_deq_0_2_w1_w2_0_0_w21 m en q d1 a1 kk1 d2 a2 kk2 w1 w2]
  have lt_Fq : h0.size > en := Fq.lt
  have lt_Ee : h0.size > en := Ee.lt
  have lt_Ew : h0.size > w2 := Ew.lt
  have lt_Fw : h0.size > w2 := Fw.lt
  have lt_G0 : h0.size > q := G0.lt
  have lt_G1 : h0.size > q := G1.lt
  have lt_G2 : h0.size > q := G2.lt
  have lt_G3 : h0.size > d1 := G3.lt
  have lt_G4 : h0.size > d1 := G4.lt
  have lt_G5 : h0.size > d1 := G5.lt
  have lt_G6 : h0.size > d1 := G6.lt
  have lt_G7 : h0.size > a1 := G7.lt
  have lt_G8 : h0.size > d2 := G8.lt
  have lt_G9 : h0.size > d2 := G9.lt
  have lt_G10 : h0.size > d2 := G10.lt
  have lt_G11 : h0.size > d2 := G11.lt
  have lt_G12 : h0.size > a2 := G12.lt
  refine own_by (fun _ k => XS.aloadN X0.here hx rfl (hb hby D12_0) rfl rfl k) ?_
  obtain ⟨T1, X1, e1, st1⟩ := getF X0 hx hZ hown (host := "") (Or.inl (own_w hw 44 rfl)) Via.refl e0 Fq (g := (mkF m 1 #[.val (.ref en), .val (.ref w2)] [(.ref en)])) rfl rfl (hb hby D12_1)
  refine own_by st1 ?_
  refine own_by (fun _ k => XS.aloadN X1.here hx rfl (hb hby D12_4) rfl rfl k) ?_
  obtain ⟨cq2, kq2, q2a, q2b, q2c⟩ := isOf hZ e1 G0
  obtain ⟨_, _, ⟨T2, L2, k2, n2⟩, -, X2, ⟨Lc2, hQ2, l2, y2, z2⟩, st2⟩ := X1.virtualBack hx (y := (⟨s13_, "of", s18_⟩ : MethodName)) (z := (⟨s13_, "of", s18_⟩ : MethodName)) hown (mvT hZ (own_w hw 79 rfl)) (mvT hZ (own_w hw 80 rfl)) (notFace_of_selects (args := #[]) (mvT hZ (own_w hw 82 rfl))) (mvT hZ (own_w hw 82 rfl)) (mvT hZ (own_w hw 81 rfl)) (by decide) (backOf (W := 0) (rm_of1 l Z a0 hw [] q w2 d1 d2 h0 n0 O0 Fw G1 G2) hZ (own_w hw 83 rfl) (own_w hw 53 rfl) (by decide) (by decide)) q2a q2c (g := (mkF m 5 #[.val (.ref en), .val (.ref w2)] [(.ref w2), (.ref q)])) rfl (by rw [hml]; rfl) (Steps.refl _) (argsL := [(.ref w2)]) (rest := []) (lenOf own_pd__28Lcom_2fexample_2fadmit1_2fadmit1_2flock_2fWait_3b_29Ljava_2futil_2fArrayDeque_3b rfl) rfl (by show 2 * 0 + _ ≤ _; exact Nat.le_of_eq rfl) (hb hby D12_5) (fun _ _ => ⟨rfl, e1, (by decide : 0 + 0 ≤ _), (by decide : 0 + 0 ≤ _)⟩)
  dsimp only [Pt.U, Pt.locs, Pt.cells, Pt.slots] at X2 l2 y2 z2 st2 hQ2
  subst l2 y2 z2
  obtain ⟨rfl, M2, K2⟩ := hQ2
  have N2 := Fr.app N0 M2
  refine own_by (fun _ k => st2.trans k) ?_
  refine own_by (fun _ k => XS.aloadN X2.here hx rfl (hb hby D12_8) rfl rfl k) ?_
  obtain ⟨cq3, kq3, q3a, q3b, q3c⟩ := isOf hZ K2 G3
  obtain ⟨_, _, ⟨T3, L3, k3, n3⟩, -, X3, ⟨Lc3, hQ3, l3, y3, z3⟩, st3⟩ := X2.virtualBack hx (y := (⟨s14_, "remove", s20_⟩ : MethodName)) (z := (⟨s14_, "remove", s20_⟩ : MethodName)) hown (mvT hZ (own_w hw 103 rfl)) (mvT hZ (own_w hw 104 rfl)) (notFace_of_selects (args := #[]) (mvT hZ (own_w hw 106 rfl))) (mvT hZ (own_w hw 106 rfl)) (mvT hZ (own_w hw 105 rfl)) (by decide) (backOf (W := 0) (rm_rem_0_2_w1_w2_w2 l Z a0 hw [] d1 a1 kk1 w1 w2 h0 n0 O0 G3 G4 G5 G6 G7 Ew (by first | assumption | omega | decide) (by first | assumption | omega | decide) (by first | assumption | omega | decide) n_w2_w1) hZ (own_w hw 107 rfl) (own_w hw 60 rfl) (by decide) (by decide)) q3a q3c (g := (mkF m 9 #[.val (.ref en), .val (.ref w2)] [(.ref w2), (.ref d1)])) rfl (by rw [hml]; rfl) (Steps.refl _) (argsL := [(.ref w2)]) (rest := []) (lenOf own_pd__28Ljava_2flang_2fObject_3b_29Z rfl) rfl (by show 2 * 0 + _ ≤ _; exact Nat.le_of_eq rfl) (hb hby D12_9) (fun _ _ => ⟨rfl, K2, (by decide : 0 + 0 ≤ _), (by decide : 0 + 0 ≤ _)⟩)
  dsimp only [Pt.U, Pt.locs, Pt.cells, Pt.slots] at X3 l3 y3 z3 st3 hQ3
  subst l3 y3 z3
  obtain ⟨rfl, M3, K3, g3_0, g3_1, g3_2, g3_3, g3_4⟩ := hQ3
  have N3 := Fr.app N2 M3
  refine own_by (fun _ k => st3.trans k) ?_
  have z3 := K3.1
  have lt_g3_0 : T3.heap.size > d1 := g3_0.lt
  have lt_g3_1 : T3.heap.size > d1 := g3_1.lt
  have lt_g3_2 : T3.heap.size > d1 := g3_2.lt
  have lt_g3_3 : T3.heap.size > d1 := g3_3.lt
  have lt_g3_4 : T3.heap.size > a1 := g3_4.lt
  show own_Go p e below (T3.setTop (mkF m 12 #[.val (.ref en), .val (.ref w2)] [(.int (1 : Int32))])) _
  refine own_by (fun _ k => XS.pop X3.here hx rfl (hb hby D12_12) rfl rfl k) ?_
  refine own_by (fun _ k => XS.aloadN X3.here hx rfl (hb hby D12_13) rfl rfl k) ?_
  have fc4 : Fld Z T3.heap en s2_ "queues" s11_ (.ref q) := (Fq.keep K3 (ninS (own_ne (by omega)) (ninS (own_ne (by omega)) nin0)))
  obtain ⟨T5, X5, e5, st5⟩ := getF X3 hx hZ hown (host := "") (Or.inl (own_w hw 44 rfl)) Via.refl rfl fc4 (g := (mkF m 14 #[.val (.ref en), .val (.ref w2)] [(.ref en)])) rfl rfl (hb hby D12_14)
  refine own_by st5 ?_
  have fc6 : Fld Z T3.heap q s13_ "conversions" s17_ (.ref d1) := (G1.keep K3 (ninS (own_ne (by omega)) (ninS (own_ne (by omega)) nin0)))
  obtain ⟨T7, X7, e7, st7⟩ := getF X5 hx hZ hown (host := "") (Or.inl (own_w hw 133 rfl)) Via.refl e5 fc6 (g := (mkF m 17 #[.val (.ref en), .val (.ref w2)] [(.ref q)])) rfl rfl (hb hby D12_17)
  refine own_by st7 ?_
  have O8 : Old Z n0 T3.heap := (O0.keep K3 (allS (by omega) (allS (by omega) all0)))
  obtain ⟨cq9, kq9, q9a, q9b, q9c⟩ := isOf hZ e7 g3_0
  obtain ⟨_, _, ⟨T9, L9, k9, n9⟩, -, X9, ⟨Lc9, hQ9, l9, y9, z9⟩, st9⟩ := X7.virtualBack hx (y := (⟨s14_, "isEmpty", "()Z"⟩ : MethodName)) (z := (⟨s14_, "isEmpty", "()Z"⟩ : MethodName)) hown (mvT hZ (own_w hw 134 rfl)) (mvT hZ (own_w hw 135 rfl)) (notFace_of_selects (args := #[]) (mvT hZ (own_w hw 137 rfl))) (mvT hZ (own_w hw 137 rfl)) (mvT hZ (own_w hw 136 rfl)) (by decide) (backOf (W := 0) (rm_emp0_1 l Z a0 hw [] d1 T3.heap n0 O8 g3_2 g3_3) hZ (own_w hw 138 rfl) (own_w hw 60 rfl) (by decide) (by decide)) q9a q9c (g := (mkF m 20 #[.val (.ref en), .val (.ref w2)] [(.ref d1)])) rfl (by rw [hml]; rfl) (Steps.refl _) (argsL := []) (rest := []) (lenOf own_pd__28_29Z rfl) rfl (by show 2 * 0 + _ ≤ _; exact Nat.le_of_eq rfl) (hb hby D12_20) (fun _ _ => ⟨rfl, e7, (by decide : 0 + 0 ≤ _), (by decide : 0 + 0 ≤ _)⟩)
  dsimp only [Pt.U, Pt.locs, Pt.cells, Pt.slots] at X9 l9 y9 z9 st9 hQ9
  subst l9 y9 z9
  obtain ⟨rfl, M9, K9⟩ := hQ9
  have N9 := Fr.app N3 M9
  refine own_by (fun _ k => st9.trans k) ?_
  refine own_by (fun _ k => XS.ifYes X9.here hx rfl (pc0 := 23) (pc' := 44) rfl (hb hby D12_23) rfl ((if0 _ _).trans (teq (by decide : (0 : Int32) = (0 : Int32))).1) (by decide) (by decide) k) ?_
  show own_Go p e below (T9.setTop (mkF m 44 #[.val (.ref en), .val (.ref w2)] [])) _
  have fc10 : Exa Z T3.heap q s13_ := (G0.keep K3)
  have fc11 : Fld Z T3.heap q s13_ "requests" s17_ (.ref d2) := (G2.keep K3 (ninS (own_ne (by omega)) (ninS (own_ne (by omega)) nin0)))
  have fc12 : Exa Z T3.heap d2 s14_ := (G8.keep K3)
  have fc13 : Fld Z T3.heap d2 s14_ "elements" s16_ (.ref a2) := (G9.keep K3 (ninS (own_ne (by omega)) (ninS (own_ne (by omega)) nin0)))
  have fc14 : Fld Z T3.heap d2 s14_ "head" "I" (.int (0 : Int32)) := (G10.keep K3 (ninS (own_ne (by omega)) (ninS (own_ne (by omega)) nin0)))
  have fc15 : Fld Z T3.heap d2 s14_ "tail" "I" (.int (0 : Int32)) := (G11.keep K3 (ninS (own_ne (by omega)) (ninS (own_ne (by omega)) nin0)))
  have fc16 : Arv Z T3.heap a2 kk2 (.object s3_) (17 : Int32) [] .null := (G12.keep K3 (ninS (own_ne (by omega)) (ninS (own_ne (by omega)) nin0)))
  have K17 : Keep h0 T3.heap [en, d1, a1] := ((Keep.refl h0 [en, d1, a1]).trans K3 (allS (P := fun x => x ∈ [en, d1, a1] ∨ h0.size ≤ x) (Or.inl (List.mem_of_getElem? (i := 1) rfl)) (allS (P := fun x => x ∈ [en, d1, a1] ∨ h0.size ≤ x) (Or.inl (List.mem_of_getElem? (i := 2) rfl)) all0)))
  obtain ⟨fs, hr, hrun, hended, hW, hsame⟩ := X9.leave (v := none) (fun h => rfl)
  refine ⟨_, _, X9.returnOut hx Bd.returns (hb hby D12_44) hr, hrun, hended, _, _, rfl, ?_, ⟨_, rfl⟩, hW, hsame.mono (by decide) (by decide)⟩
  show Q_rm_deq_0_2_w1_w2_0_0_w21 Z en q d1 a1 kk1 d2 a2 kk2 w1 w2 h0 n0 _ T9.heap _
  rw [K9]
  exact ⟨rfl, N9, K17, fc4, fc10, fc6, fc11, g3_0, g3_1, g3_2, g3_3, g3_4, fc12, fc13, fc14, fc15, fc16⟩
def Q_rm_law (Z : State) (q1 : Int64) (f1 : Int32) (mo : Addr) (cm : Cell) (h0 : Heap) (n0 : Nat) (v : Option Value) (h : Heap) (L : List Loc) : Prop := v = some (.int (1 : Int32)) ∧ Fr n0 L ∧ Keep h0 h []
theorem ef_rm_law (m : MethodId) (q1 : Int64) (f1 : Int32) (mo : Addr) (cm : Cell) : entryFrame m #[(.long q1), (.int f1)] maxLocals = mkF m 0 #[.val (.long q1), .second, .val (.int f1), .unset, .unset, .unset, .unset, .unset, .unset, .unset, .unset, .unset] [] := by first | (simp [entryFrame, mkF, argsToLocals, Value.category, maxLocals]; done) | rfl
set_option maxRecDepth 65536 in
set_option maxHeartbeats 40000000 in
theorem rm_law (l : Launch) (Z : State) (a0 : Array Value) (hw : ∀ d ∈ tables_1, d.before a0 Z = true) (ws : List Jvm.Cond) (q1 : Int64) (f1 : Int32) (mo : Addr) (cm : Cell) (h0 : Heap) (n0 : Nat) (O0 : Old Z n0 h0) (S_MODES : Sta Z Z.heap s2_ "MODES" s4_ (.ref mo)) (A_mo : Arr Z Z.heap mo cm (.object "com/example/admit1/admit1/lock/LockMode")) (L_mo : cm.slots.size = (6 : Int32).toNatClampNeg) :
    MetFree l x (head1 (Jvm.Cond.code x code maxLocals ret :: ws) room_1) (fun a U => a = #[(.long q1), (.int f1)] ∧ Z.Warmed39 U.vm ∧ U.heap = h0) (fun _ _ _ _ _ => True) (fun _ U o U' => ∃ v L, o = .returned v ∧ Q_rm_law Z q1 f1 mo cm h0 n0 v U'.heap L ∧ FrameEnd U o U' L room_1.cells room_1.slots) := by
  refine MetFree.of_bodySF (plainFor_of_name own_pn_com_example_admit1_admit1_lock_LockEntryHasWaitingPinLaw) hisR ?_
  intro p e s m args below meth c s₁ Bd hml0 hP hK
  obtain ⟨rfl, hZ, hh⟩ := hP
  have hx := Bd.exec
  have hby := Bd.bytes
  have hml : c.maxLocals = 12 := hml0
  have hown : s.vm.findClass s1_ = some m.cls := findClass_of_methodNamed Bd.named
  have hnm := (name_of_methodNamed Bd.named Bd.method).1
  have X0 : Stand p l e room_1 s m #[(.long q1), (.int f1)] below meth c s₁ [] 0 0 := Stand.of_body Bd
  have e0 : s₁.heap = h0 := by rw [← hh, Bd.state]; rfl
  have N0 := Fr.nil n0
  have Z0 : n0 ≤ h0.size := by rw [← O0.1]; exact O0.2.1
  show own_Go p e below (s₁.setTop (entryFrame m #[(.long q1), (.int f1)] maxLocals)) (fun t o => ∃ v L, o = .returned v ∧ Q_rm_law Z q1 f1 mo cm h0 n0 v t.heap L ∧ FrameEnd s o t L room_1.cells room_1.slots)
  rw [ef_rm_law m q1 f1 mo cm]
  refine own_by (fun _ k => XS.iloadN X0.here hx rfl (hb hby at_0) rfl k) ?_
  refine own_by (fun _ k => XS.iconst X0.here hx rfl (hb hby at_1) k) ?_
  refine own_by (fun _ k => XS.iand X0.here hx rfl (hb hby at_2) rfl k) ?_
  show own_Go p e below (s₁.setTop (mkF m 3 #[.val (.long q1), .second, .val (.int f1), .unset, .unset, .unset, .unset, .unset, .unset, .unset, .unset, .unset] [(.int (f1 &&& (1 : Int32)))])) _
  have jn1 : ∀ (Tj1 : State), (∃ lc, Stand p l e room_1 s m #[(.long q1), (.int f1)] below meth c Tj1 lc 0 0 ∧ Fr n0 lc) → Tj1.heap = h0 → ∀ (c1 : Int32), (c1 = 0 ∨ c1 = 1) → own_Go p e below (Tj1.setTop (mkF m 11 #[.val (.long q1), .second, .val (.int f1), .unset, .unset, .unset, .unset, .unset, .unset, .unset, .unset, .unset] [(.int c1)])) (fun t o => ∃ v L, o = .returned v ∧ Q_rm_law Z q1 f1 mo cm h0 n0 v t.heap L ∧ FrameEnd s o t L room_1.cells room_1.slots) := by
    rintro Tj1 ⟨lc1, Xj1, Nj1⟩ ej1 c1 hj1
    refine own_by (fun _ k => XS.istoreN Xj1.here hx rfl (hb hby at_11) rfl (l' := #[.val (.long q1), .second, .val (.int f1), .val (.int c1), .unset, .unset, .unset, .unset, .unset, .unset, .unset, .unset]) rfl k) ?_
    refine own_by (fun _ k => XS.iloadN Xj1.here hx rfl (hb hby at_12) rfl k) ?_
    refine own_by (fun _ k => XS.iconst Xj1.here hx rfl (hb hby at_13) k) ?_
    refine own_by (fun _ k => XS.iand Xj1.here hx rfl (hb hby at_14) rfl k) ?_
    show own_Go p e below (Tj1.setTop (mkF m 15 #[.val (.long q1), .second, .val (.int f1), .val (.int c1), .unset, .unset, .unset, .unset, .unset, .unset, .unset, .unset] [(.int (f1 &&& (2 : Int32)))])) _
    have jn2 : ∀ (Tj2 : State), (∃ lc, Stand p l e room_1 s m #[(.long q1), (.int f1)] below meth c Tj2 lc 0 0 ∧ Fr n0 lc) → Tj2.heap = h0 → ∀ (c2 : Int32), (c2 = 0 ∨ c2 = 1) → own_Go p e below (Tj2.setTop (mkF m 23 #[.val (.long q1), .second, .val (.int f1), .val (.int c1), .unset, .unset, .unset, .unset, .unset, .unset, .unset, .unset] [(.int c2)])) (fun t o => ∃ v L, o = .returned v ∧ Q_rm_law Z q1 f1 mo cm h0 n0 v t.heap L ∧ FrameEnd s o t L room_1.cells room_1.slots) := by
      rintro Tj2 ⟨lc2, Xj2, Nj2⟩ ej2 c2 hj2
      refine own_by (fun _ k => XS.istore Xj2.here hx rfl (hb hby at_23) rfl (l' := #[.val (.long q1), .second, .val (.int f1), .val (.int c1), .val (.int c2), .unset, .unset, .unset, .unset, .unset, .unset, .unset]) rfl k) ?_
      refine own_by (fun _ k => XS.iloadN Xj2.here hx rfl (hb hby at_25) rfl k) ?_
      refine own_by (fun _ k => XS.iconst Xj2.here hx rfl (hb hby at_26) k) ?_
      refine own_by (fun _ k => XS.iand Xj2.here hx rfl (hb hby at_27) rfl k) ?_
      show own_Go p e below (Tj2.setTop (mkF m 28 #[.val (.long q1), .second, .val (.int f1), .val (.int c1), .val (.int c2), .unset, .unset, .unset, .unset, .unset, .unset, .unset] [(.int (f1 &&& (4 : Int32)))])) _
      have jn3 : ∀ (Tj3 : State), (∃ lc, Stand p l e room_1 s m #[(.long q1), (.int f1)] below meth c Tj3 lc 0 0 ∧ Fr n0 lc) → Tj3.heap = h0 → ∀ (tw : Int32), (tw = 0 ∨ tw = 1) → own_Go p e below (Tj3.setTop (mkF m 36 #[.val (.long q1), .second, .val (.int f1), .val (.int c1), .val (.int c2), .unset, .unset, .unset, .unset, .unset, .unset, .unset] [(.int tw)])) (fun t o => ∃ v L, o = .returned v ∧ Q_rm_law Z q1 f1 mo cm h0 n0 v t.heap L ∧ FrameEnd s o t L room_1.cells room_1.slots) := by
        rintro Tj3 ⟨lc3, Xj3, Nj3⟩ ej3 tw hj3
        refine own_by (fun _ k => XS.istore Xj3.here hx rfl (hb hby at_36) rfl (l' := #[.val (.long q1), .second, .val (.int f1), .val (.int c1), .val (.int c2), .val (.int tw), .unset, .unset, .unset, .unset, .unset, .unset]) rfl k) ?_
        refine own_by (fun _ k => XS.iloadN Xj3.here hx rfl (hb hby at_38) rfl k) ?_
        refine own_by (fun _ k => XS.bipush Xj3.here hx rfl (hb hby at_39) k) ?_
        refine own_by (fun _ k => XS.iand Xj3.here hx rfl (hb hby at_41) rfl k) ?_
        show own_Go p e below (Tj3.setTop (mkF m 42 #[.val (.long q1), .second, .val (.int f1), .val (.int c1), .val (.int c2), .val (.int tw), .unset, .unset, .unset, .unset, .unset, .unset] [(.int (f1 &&& (8 : Int32)))])) _
        have jn4 : ∀ (Tj4 : State), (∃ lc, Stand p l e room_1 s m #[(.long q1), (.int f1)] below meth c Tj4 lc 0 0 ∧ Fr n0 lc) → Tj4.heap = h0 → ∀ (sf : Int32), (sf = 0 ∨ sf = 1) → own_Go p e below (Tj4.setTop (mkF m 50 #[.val (.long q1), .second, .val (.int f1), .val (.int c1), .val (.int c2), .val (.int tw), .unset, .unset, .unset, .unset, .unset, .unset] [(.int sf)])) (fun t o => ∃ v L, o = .returned v ∧ Q_rm_law Z q1 f1 mo cm h0 n0 v t.heap L ∧ FrameEnd s o t L room_1.cells room_1.slots) := by
          rintro Tj4 ⟨lc4, Xj4, Nj4⟩ ej4 sf hj4
          refine own_by (fun _ k => XS.istore Xj4.here hx rfl (hb hby at_50) rfl (l' := #[.val (.long q1), .second, .val (.int f1), .val (.int c1), .val (.int c2), .val (.int tw), .val (.int sf), .unset, .unset, .unset, .unset, .unset]) rfl k) ?_
          refine own_by (fun _ k => XS.iloadN Xj4.here hx rfl (hb hby at_52) rfl k) ?_
          refine own_by (fun _ k => XS.bipush Xj4.here hx rfl (hb hby at_53) k) ?_
          refine own_by (fun _ k => XS.iand Xj4.here hx rfl (hb hby at_55) rfl k) ?_
          show own_Go p e below (Tj4.setTop (mkF m 56 #[.val (.long q1), .second, .val (.int f1), .val (.int c1), .val (.int c2), .val (.int tw), .val (.int sf), .unset, .unset, .unset, .unset, .unset] [(.int (f1 &&& (16 : Int32)))])) _
          have jn5 : ∀ (Tj5 : State), (∃ lc, Stand p l e room_1 s m #[(.long q1), (.int f1)] below meth c Tj5 lc 0 0 ∧ Fr n0 lc) → Tj5.heap = h0 → ∀ (ag : Int32), (ag = 0 ∨ ag = 1) → own_Go p e below (Tj5.setTop (mkF m 64 #[.val (.long q1), .second, .val (.int f1), .val (.int c1), .val (.int c2), .val (.int tw), .val (.int sf), .unset, .unset, .unset, .unset, .unset] [(.int ag)])) (fun t o => ∃ v L, o = .returned v ∧ Q_rm_law Z q1 f1 mo cm h0 n0 v t.heap L ∧ FrameEnd s o t L room_1.cells room_1.slots) := by
            rintro Tj5 ⟨lc5, Xj5, Nj5⟩ ej5 ag hj5
            refine own_by (fun _ k => XS.istore Xj5.here hx rfl (hb hby at_64) rfl (l' := #[.val (.long q1), .second, .val (.int f1), .val (.int c1), .val (.int c2), .val (.int tw), .val (.int sf), .val (.int ag), .unset, .unset, .unset, .unset]) rfl k) ?_
            show own_Go p e below (Tj5.setTop (mkF m 66 #[.val (.long q1), .second, .val (.int f1), .val (.int c1), .val (.int c2), .val (.int tw), .val (.int sf), .val (.int ag), .unset, .unset, .unset, .unset] [])) _
            rcases hj1 with rfl | rfl
            · skip
              show own_Go p e below (Tj5.setTop (mkF m 66 #[.val (.long q1), .second, .val (.int f1), .val (.int (0 : Int32)), .val (.int c2), .val (.int tw), .val (.int sf), .val (.int ag), .unset, .unset, .unset, .unset] [])) _
              rcases hj2 with rfl | rfl
              · skip
                show own_Go p e below (Tj5.setTop (mkF m 66 #[.val (.long q1), .second, .val (.int f1), .val (.int (0 : Int32)), .val (.int (0 : Int32)), .val (.int tw), .val (.int sf), .val (.int ag), .unset, .unset, .unset, .unset] [])) _
                obtain ⟨T6, h6, X6, e6, E6, A6, D6, U6, st6⟩ := newO Xj5 hx hZ hown (own_w hw 0 rfl) (own_w hw 1 rfl) (own_w hw 2 rfl) ej5 (g := (mkF m 66 #[.val (.long q1), .second, .val (.int f1), .val (.int (0 : Int32)), .val (.int (0 : Int32)), .val (.int tw), .val (.int sf), .val (.int ag), .unset, .unset, .unset, .unset] [])) rfl (hb hby at_66) (by decide) (by decide)
                obtain ⟨ob6, g6⟩ : ∃ z, z = h0.size := ⟨_, rfl⟩
                rw [← g6] at A6 D6 U6 st6
                refine own_by st6 ?_
                have z6 := E6.1
                have lt6 : h6.size > ob6 := A6.lt
                refine own_by (fun _ k => XS.dup X6.here hx rfl (hb hby at_69) rfl rfl k) ?_
                refine own_by (fun _ k => XS.lloadN X6.here hx rfl (hb hby at_70) rfl k) ?_
                have O7 : Old Z n0 h6 := (O0.ext E6)
                obtain ⟨_, _, ⟨T8, L8, k8, n8⟩, -, X8, ⟨Lc8, hQ8, l8, y8, z8⟩, st8⟩ := X6.specialBack hx (y := (⟨s2_, "<init>", "(J)V"⟩ : MethodName)) rfl hown (mvT hZ (own_w hw 3 rfl)) (mvT hZ (own_w hw 4 rfl)) (mvT hZ (own_w hw 5 rfl)) (by decide) (backOf (W := 1) (rm_leinit l Z a0 hw [] ob6 q1 mo cm h6 n0 O7 S_MODES A_mo L_mo A6 (show Fld Z h6 ob6 s2_ "queues" s11_ .null from D6 (Or.inl (own_w hw 45 rfl)) (ty := (.object s13_)) (by decide)) (show Fld Z h6 ob6 s2_ "holdersByMode" "[I" .null from D6 (Or.inr (own_w hw 13 rfl)) (ty := (.array .int)) (by decide)) (show Fld Z h6 ob6 s2_ "id" "J" (.long (0 : Int64)) from D6 (Or.inr (own_w hw 15 rfl)) (ty := .long) (by decide)) (by first | assumption | omega | decide)) hZ (own_w hw 5 rfl) (own_w hw 2 rfl) (by decide) (by decide)) (g := (mkF m 71 #[.val (.long q1), .second, .val (.int f1), .val (.int (0 : Int32)), .val (.int (0 : Int32)), .val (.int tw), .val (.int sf), .val (.int ag), .unset, .unset, .unset, .unset] [(.long q1), (.ref ob6), (.ref ob6)])) rfl (by rw [hml]; rfl) (Steps.refl _) (a := ob6) (argsL := [(.long q1)]) (rest := [(.ref ob6)]) (lenOf own_pd__28J_29V rfl) rfl (by show 2 * 0 + _ ≤ _; exact Nat.le_of_eq rfl) (hb hby at_71) (fun _ _ => ⟨rfl, e6, (by decide : 1 + 1 ≤ _), (by decide : 6 + 6 ≤ _)⟩)
                dsimp only [Pt.U, Pt.locs, Pt.cells, Pt.slots] at X8 l8 y8 z8 st8 hQ8
                subst l8 y8 z8
                obtain ⟨rfl, M8, K8, g8_0, g8_1⟩ := hQ8
                have N8 := Fr.app Nj5 M8
                refine own_by (fun _ k => st8.trans k) ?_
                have z8 := K8.1
                have lt_g8_0 : T8.heap.size > ob6 := g8_0.lt
                have lt_g8_1 : T8.heap.size > ob6 := g8_1.lt
                refine own_by (fun _ k => XS.astore X8.here hx rfl (hb hby at_74) rfl rfl (l' := #[.val (.long q1), .second, .val (.int f1), .val (.int (0 : Int32)), .val (.int (0 : Int32)), .val (.int tw), .val (.int sf), .val (.int ag), .val (.ref ob6), .unset, .unset, .unset]) rfl k) ?_
                obtain ⟨T9, h9, X9, e9, E9, A9, D9, U9, st9⟩ := newO X8 hx hZ hown (own_w hw 16 rfl) (own_w hw 17 rfl) (own_w hw 18 rfl) rfl (g := (mkF m 76 #[.val (.long q1), .second, .val (.int f1), .val (.int (0 : Int32)), .val (.int (0 : Int32)), .val (.int tw), .val (.int sf), .val (.int ag), .val (.ref ob6), .unset, .unset, .unset] [])) rfl (hb hby at_76) (by decide) (by decide)
                obtain ⟨ob9, g9⟩ : ∃ z, z = T8.heap.size := ⟨_, rfl⟩
                rw [← g9] at A9 D9 U9 st9
                refine own_by st9 ?_
                have z9 := E9.1
                have lt9 : h9.size > ob9 := A9.lt
                show own_Go p e below (T9.setTop (mkF m 79 #[.val (.long q1), .second, .val (.int f1), .val (.int (0 : Int32)), .val (.int (0 : Int32)), .val (.int tw), .val (.int sf), .val (.int ag), .val (.ref ob6), .unset, .unset, .unset] [(.ref ob9)])) _
                refine own_by (fun _ k => XS.dup X9.here hx rfl (hb hby at_79) rfl rfl k) ?_
                refine own_by (fun _ k => XS.aconstNull X9.here hx rfl (hb hby at_80) k) ?_
                refine own_by (fun _ k => XS.aload X9.here hx rfl (hb hby at_81) rfl rfl k) ?_
                refine own_by (fun _ k => XS.aconstNull X9.here hx rfl (hb hby at_83) k) ?_
                refine own_by (fun _ k => XS.iloadN X9.here hx rfl (hb hby at_84) rfl k) ?_
                refine own_by (fun _ k => XS.iconst X9.here hx rfl (hb hby at_85) k) ?_
                show own_Go p e below (T9.setTop (mkF m 86 #[.val (.long q1), .second, .val (.int f1), .val (.int (0 : Int32)), .val (.int (0 : Int32)), .val (.int tw), .val (.int sf), .val (.int ag), .val (.ref ob6), .unset, .unset, .unset] [(.int (0 : Int32)), (.int (0 : Int32)), .null, (.ref ob6), .null, (.ref ob9), (.ref ob9)])) _
                refine own_by (fun _ k => XS.lconst X9.here hx rfl (hb hby at_86) k) ?_
                refine own_by (fun _ k => XS.lconst X9.here hx rfl (hb hby at_87) k) ?_
                refine own_by (fun _ k => XS.lconst X9.here hx rfl (hb hby at_88) k) ?_
                have O10 : Old Z n0 h9 := ((O7.keep K8 (allS (by omega) all0)).ext E9)
                obtain ⟨_, _, ⟨T11, L11, k11, n11⟩, -, X11, ⟨Lc11, hQ11, l11, y11, z11⟩, st11⟩ := X9.specialBack hx (y := (⟨s5_, "<init>", s6_⟩ : MethodName)) rfl hown (mvT hZ (own_w hw 19 rfl)) (mvT hZ (own_w hw 20 rfl)) (mvT hZ (own_w hw 21 rfl)) (by decide) (backOf (W := 1) (rm_winit0 l Z a0 hw [] ob9 ob6 (0 : Int64) h9 n0 O10 A9 (show Fld Z h9 ob9 s5_ "session" s7_ .null from D9 (Or.inr (own_w hw 24 rfl)) (ty := (.object "com/example/admit1/admit1/lock/LockSession")) (by decide)) (show Fld Z h9 ob9 s5_ "lock" s8_ .null from D9 (Or.inr (own_w hw 26 rfl)) (ty := (.object s2_)) (by decide)) (show Fld Z h9 ob9 s5_ "mode" s9_ .null from D9 (Or.inr (own_w hw 28 rfl)) (ty := (.object "com/example/admit1/admit1/lock/LockMode")) (by decide)) (show Fld Z h9 ob9 s5_ "conversion" "Z" (.int (0 : Int32)) from D9 (Or.inr (own_w hw 30 rfl)) (ty := .boolean) (by decide)) (show Fld Z h9 ob9 s5_ s10_ "Z" (.int (0 : Int32)) from D9 (Or.inr (own_w hw 32 rfl)) (ty := .boolean) (by decide)) (show Fld Z h9 ob9 s5_ "since" "J" (.long (0 : Int64)) from D9 (Or.inr (own_w hw 34 rfl)) (ty := .long) (by decide)) (show Fld Z h9 ob9 s5_ "deadline" "J" (.long (0 : Int64)) from D9 (Or.inr (own_w hw 36 rfl)) (ty := .long) (by decide)) (show Fld Z h9 ob9 s5_ "arrival" "J" (.long (0 : Int64)) from D9 (Or.inr (own_w hw 38 rfl)) (ty := .long) (by decide)) (by first | assumption | omega | decide)) hZ (own_w hw 21 rfl) (own_w hw 18 rfl) (by decide) (by decide)) (g := (mkF m 89 #[.val (.long q1), .second, .val (.int f1), .val (.int (0 : Int32)), .val (.int (0 : Int32)), .val (.int tw), .val (.int sf), .val (.int ag), .val (.ref ob6), .unset, .unset, .unset] [(.long (0 : Int64)), (.long (0 : Int64)), (.long (0 : Int64)), (.int (0 : Int32)), (.int (0 : Int32)), .null, (.ref ob6), .null, (.ref ob9), (.ref ob9)])) rfl (by rw [hml]; rfl) (Steps.refl _) (a := ob9) (argsL := [.null, (.ref ob6), .null, (.int (0 : Int32)), (.int (0 : Int32)), (.long (0 : Int64)), (.long (0 : Int64)), (.long (0 : Int64))]) (rest := [(.ref ob9)]) (lenOf own_pd__28Lcom_2fexample_2fadmit1_2fadmit1_2flock_2fLockSession_3bLcom_2fexample_2fadmit1_2fadmit1_2flock_2fLockEntry_3bLcom_2fexample_2fadmit1_2fadmit1_2flock_2fLockMode_3bZZJJJ_29V rfl) rfl (by show 2 * 0 + _ ≤ _; exact Nat.le_of_eq rfl) (hb hby at_89) (fun _ _ => ⟨rfl, e9, (by decide : 3 + 0 ≤ _), (by decide : 20 + 0 ≤ _)⟩)
                dsimp only [Pt.U, Pt.locs, Pt.cells, Pt.slots] at X11 l11 y11 z11 st11 hQ11
                subst l11 y11 z11
                obtain ⟨rfl, M11, K11, g11_0, g11_1⟩ := hQ11
                have N11 := Fr.app N8 M11
                refine own_by (fun _ k => st11.trans k) ?_
                have z11 := K11.1
                have lt_g11_0 : T11.heap.size > ob9 := g11_0.lt
                have lt_g11_1 : T11.heap.size > ob9 := g11_1.lt
                refine own_by (fun _ k => XS.astore X11.here hx rfl (hb hby at_92) rfl rfl (l' := #[.val (.long q1), .second, .val (.int f1), .val (.int (0 : Int32)), .val (.int (0 : Int32)), .val (.int tw), .val (.int sf), .val (.int ag), .val (.ref ob6), .val (.ref ob9), .unset, .unset]) rfl k) ?_
                obtain ⟨T12, h12, X12, e12, E12, A12, D12, U12, st12⟩ := newO X11 hx hZ hown (own_w hw 16 rfl) (own_w hw 17 rfl) (own_w hw 18 rfl) rfl (g := (mkF m 94 #[.val (.long q1), .second, .val (.int f1), .val (.int (0 : Int32)), .val (.int (0 : Int32)), .val (.int tw), .val (.int sf), .val (.int ag), .val (.ref ob6), .val (.ref ob9), .unset, .unset] [])) rfl (hb hby at_94) (by decide) (by decide)
                obtain ⟨ob12, g12⟩ : ∃ z, z = T11.heap.size := ⟨_, rfl⟩
                rw [← g12] at A12 D12 U12 st12
                refine own_by st12 ?_
                have z12 := E12.1
                have lt12 : h12.size > ob12 := A12.lt
                show own_Go p e below (T12.setTop (mkF m 97 #[.val (.long q1), .second, .val (.int f1), .val (.int (0 : Int32)), .val (.int (0 : Int32)), .val (.int tw), .val (.int sf), .val (.int ag), .val (.ref ob6), .val (.ref ob9), .unset, .unset] [(.ref ob12)])) _
                refine own_by (fun _ k => XS.dup X12.here hx rfl (hb hby at_97) rfl rfl k) ?_
                refine own_by (fun _ k => XS.aconstNull X12.here hx rfl (hb hby at_98) k) ?_
                refine own_by (fun _ k => XS.aload X12.here hx rfl (hb hby at_99) rfl rfl k) ?_
                refine own_by (fun _ k => XS.aconstNull X12.here hx rfl (hb hby at_101) k) ?_
                refine own_by (fun _ k => XS.iload X12.here hx rfl (hb hby at_102) rfl k) ?_
                refine own_by (fun _ k => XS.iconst X12.here hx rfl (hb hby at_104) k) ?_
                show own_Go p e below (T12.setTop (mkF m 105 #[.val (.long q1), .second, .val (.int f1), .val (.int (0 : Int32)), .val (.int (0 : Int32)), .val (.int tw), .val (.int sf), .val (.int ag), .val (.ref ob6), .val (.ref ob9), .unset, .unset] [(.int (0 : Int32)), (.int (0 : Int32)), .null, (.ref ob6), .null, (.ref ob12), (.ref ob12)])) _
                refine own_by (fun _ k => XS.lconst X12.here hx rfl (hb hby at_105) k) ?_
                refine own_by (fun _ k => XS.lconst X12.here hx rfl (hb hby at_106) k) ?_
                refine own_by (fun _ k => XS.lconst X12.here hx rfl (hb hby at_107) k) ?_
                have O13 : Old Z n0 h12 := ((O10.keep K11 (allS (by omega) all0)).ext E12)
                obtain ⟨_, _, ⟨T14, L14, k14, n14⟩, -, X14, ⟨Lc14, hQ14, l14, y14, z14⟩, st14⟩ := X12.specialBack hx (y := (⟨s5_, "<init>", s6_⟩ : MethodName)) rfl hown (mvT hZ (own_w hw 19 rfl)) (mvT hZ (own_w hw 20 rfl)) (mvT hZ (own_w hw 21 rfl)) (by decide) (backOf (W := 1) (rm_winit0 l Z a0 hw [] ob12 ob6 (1 : Int64) h12 n0 O13 A12 (show Fld Z h12 ob12 s5_ "session" s7_ .null from D12 (Or.inr (own_w hw 24 rfl)) (ty := (.object "com/example/admit1/admit1/lock/LockSession")) (by decide)) (show Fld Z h12 ob12 s5_ "lock" s8_ .null from D12 (Or.inr (own_w hw 26 rfl)) (ty := (.object s2_)) (by decide)) (show Fld Z h12 ob12 s5_ "mode" s9_ .null from D12 (Or.inr (own_w hw 28 rfl)) (ty := (.object "com/example/admit1/admit1/lock/LockMode")) (by decide)) (show Fld Z h12 ob12 s5_ "conversion" "Z" (.int (0 : Int32)) from D12 (Or.inr (own_w hw 30 rfl)) (ty := .boolean) (by decide)) (show Fld Z h12 ob12 s5_ s10_ "Z" (.int (0 : Int32)) from D12 (Or.inr (own_w hw 32 rfl)) (ty := .boolean) (by decide)) (show Fld Z h12 ob12 s5_ "since" "J" (.long (0 : Int64)) from D12 (Or.inr (own_w hw 34 rfl)) (ty := .long) (by decide)) (show Fld Z h12 ob12 s5_ "deadline" "J" (.long (0 : Int64)) from D12 (Or.inr (own_w hw 36 rfl)) (ty := .long) (by decide)) (show Fld Z h12 ob12 s5_ "arrival" "J" (.long (0 : Int64)) from D12 (Or.inr (own_w hw 38 rfl)) (ty := .long) (by decide)) (by first | assumption | omega | decide)) hZ (own_w hw 21 rfl) (own_w hw 18 rfl) (by decide) (by decide)) (g := (mkF m 108 #[.val (.long q1), .second, .val (.int f1), .val (.int (0 : Int32)), .val (.int (0 : Int32)), .val (.int tw), .val (.int sf), .val (.int ag), .val (.ref ob6), .val (.ref ob9), .unset, .unset] [(.long (1 : Int64)), (.long (0 : Int64)), (.long (0 : Int64)), (.int (0 : Int32)), (.int (0 : Int32)), .null, (.ref ob6), .null, (.ref ob12), (.ref ob12)])) rfl (by rw [hml]; rfl) (Steps.refl _) (a := ob12) (argsL := [.null, (.ref ob6), .null, (.int (0 : Int32)), (.int (0 : Int32)), (.long (0 : Int64)), (.long (0 : Int64)), (.long (1 : Int64))]) (rest := [(.ref ob12)]) (lenOf own_pd__28Lcom_2fexample_2fadmit1_2fadmit1_2flock_2fLockSession_3bLcom_2fexample_2fadmit1_2fadmit1_2flock_2fLockEntry_3bLcom_2fexample_2fadmit1_2fadmit1_2flock_2fLockMode_3bZZJJJ_29V rfl) rfl (by show 2 * 0 + _ ≤ _; exact Nat.le_of_eq rfl) (hb hby at_108) (fun _ _ => ⟨rfl, e12, (by decide : 4 + 0 ≤ _), (by decide : 28 + 0 ≤ _)⟩)
                dsimp only [Pt.U, Pt.locs, Pt.cells, Pt.slots] at X14 l14 y14 z14 st14 hQ14
                subst l14 y14 z14
                obtain ⟨rfl, M14, K14, g14_0, g14_1⟩ := hQ14
                have N14 := Fr.app N11 M14
                refine own_by (fun _ k => st14.trans k) ?_
                have z14 := K14.1
                have lt_g14_0 : T14.heap.size > ob12 := g14_0.lt
                have lt_g14_1 : T14.heap.size > ob12 := g14_1.lt
                refine own_by (fun _ k => XS.astore X14.here hx rfl (hb hby at_111) rfl rfl (l' := #[.val (.long q1), .second, .val (.int f1), .val (.int (0 : Int32)), .val (.int (0 : Int32)), .val (.int tw), .val (.int sf), .val (.int ag), .val (.ref ob6), .val (.ref ob9), .val (.ref ob12), .unset]) rfl k) ?_
                refine own_by (fun _ k => XS.aload X14.here hx rfl (hb hby at_113) rfl rfl k) ?_
                show own_Go p e below (T14.setTop (mkF m 115 #[.val (.long q1), .second, .val (.int f1), .val (.int (0 : Int32)), .val (.int (0 : Int32)), .val (.int tw), .val (.int sf), .val (.int ag), .val (.ref ob6), .val (.ref ob9), .val (.ref ob12), .unset] [(.ref ob6)])) _
                have fc15 : Fld Z T14.heap ob6 s2_ "queues" s11_ .null := ((((g8_1.ext E9).keep K11 (ninS (own_ne (by omega)) nin0)).ext E12).keep K14 (ninS (own_ne (by omega)) nin0))
                have O16 : Old Z n0 T14.heap := (O13.keep K14 (allS (by omega) all0))
                have fc18 : Exa Z T14.heap ob6 s2_ := ((((g8_0.ext E9).keep K11).ext E12).keep K14)
                obtain ⟨cq17, kq17, q17a, q17b, q17c⟩ := isOf hZ rfl fc18
                obtain ⟨_, _, ⟨T17, L17, k17, n17⟩, -, X17, ⟨Lc17, hQ17, l17, y17, z17⟩, st17⟩ := X14.virtualBack hx (y := (⟨s2_, "hasWaiting", "()Z"⟩ : MethodName)) (z := (⟨s2_, "hasWaiting", "()Z"⟩ : MethodName)) hown (mvT hZ (own_w hw 39 rfl)) (mvT hZ (own_w hw 40 rfl)) (notFace_of_selects (args := #[]) (mvT hZ (own_w hw 42 rfl))) (mvT hZ (own_w hw 42 rfl)) (mvT hZ (own_w hw 41 rfl)) (by decide) (backOf (W := 0) (rm_hw0 l Z a0 hw [] ob6 T14.heap n0 O16 fc15) hZ (own_w hw 43 rfl) (own_w hw 2 rfl) (by decide) (by decide)) q17a q17c (g := (mkF m 115 #[.val (.long q1), .second, .val (.int f1), .val (.int (0 : Int32)), .val (.int (0 : Int32)), .val (.int tw), .val (.int sf), .val (.int ag), .val (.ref ob6), .val (.ref ob9), .val (.ref ob12), .unset] [(.ref ob6)])) rfl (by rw [hml]; rfl) (Steps.refl _) (argsL := []) (rest := []) (lenOf own_pd__28_29Z rfl) rfl (by show 2 * 0 + _ ≤ _; exact Nat.le_of_eq rfl) (hb hby at_115) (fun _ _ => ⟨rfl, rfl, (by decide : 4 + 0 ≤ _), (by decide : 28 + 0 ≤ _)⟩)
                dsimp only [Pt.U, Pt.locs, Pt.cells, Pt.slots] at X17 l17 y17 z17 st17 hQ17
                subst l17 y17 z17
                obtain ⟨rfl, M17, K17⟩ := hQ17
                have N17 := Fr.app N14 M17
                refine own_by (fun _ k => st17.trans k) ?_
                refine own_by (fun _ k => XS.ifNo X17.here hx rfl (hb hby at_118) rfl ((if0 _ _).trans (teq (by decide : (0 : Int32) = (0 : Int32))).2) k) ?_
                show own_Go p e below (T17.setTop (mkF m 121 #[.val (.long q1), .second, .val (.int f1), .val (.int (0 : Int32)), .val (.int (0 : Int32)), .val (.int tw), .val (.int sf), .val (.int ag), .val (.ref ob6), .val (.ref ob9), .val (.ref ob12), .unset] [])) _
                refine own_by (fun _ k => XS.iconst X17.here hx rfl (hb hby at_121) k) ?_
                refine own_by (fun _ k => XS.goto X17.here hx rfl (pc0 := 122) (pc' := 126) rfl (hb hby at_122) (by decide) (by decide) k) ?_
                refine own_by (fun _ k => XS.istore X17.here hx rfl (hb hby at_126) rfl (l' := #[.val (.long q1), .second, .val (.int f1), .val (.int (0 : Int32)), .val (.int (0 : Int32)), .val (.int tw), .val (.int sf), .val (.int ag), .val (.ref ob6), .val (.ref ob9), .val (.ref ob12), .val (.int (1 : Int32))]) rfl k) ?_
                refine own_by (fun _ k => XS.aload X17.here hx rfl (hb hby at_128) rfl rfl k) ?_
                refine own_by (fun _ k => XS.aload X17.here hx rfl (hb hby at_130) rfl rfl k) ?_
                have fc19 : Exa Z T14.heap ob9 s5_ := ((g11_0.ext E12).keep K14)
                have fc20 : Fld Z T14.heap ob9 s5_ "conversion" "Z" (.int (0 : Int32)) := ((g11_1.ext E12).keep K14 (ninS (own_ne (by omega)) nin0))
                obtain ⟨cq21, kq21, q21a, q21b, q21c⟩ := isOf hZ K17 fc18
                obtain ⟨_, _, ⟨T21, L21, k21, n21⟩, -, X21, ⟨Lc21, hQ21, l21, y21, z21⟩, st21⟩ := X17.virtualBack hx (y := (⟨s2_, "enqueue", s12_⟩ : MethodName)) (z := (⟨s2_, "enqueue", s12_⟩ : MethodName)) hown (mvT hZ (own_w hw 46 rfl)) (mvT hZ (own_w hw 47 rfl)) (notFace_of_selects (args := #[]) (mvT hZ (own_w hw 49 rfl))) (mvT hZ (own_w hw 49 rfl)) (mvT hZ (own_w hw 48 rfl)) (by decide) (backOf (W := 0) (rm_enq_None_w10 l Z a0 hw [] ob6 ob9 T14.heap n0 O16 fc15 fc18 fc19 fc20 (by first | assumption | omega | decide) (by first | assumption | omega | decide)) hZ (own_w hw 50 rfl) (own_w hw 2 rfl) (by decide) (by decide)) q21a q21c (g := (mkF m 132 #[.val (.long q1), .second, .val (.int f1), .val (.int (0 : Int32)), .val (.int (0 : Int32)), .val (.int tw), .val (.int sf), .val (.int ag), .val (.ref ob6), .val (.ref ob9), .val (.ref ob12), .val (.int (1 : Int32))] [(.ref ob9), (.ref ob6)])) rfl (by rw [hml]; rfl) (Steps.refl _) (argsL := [(.ref ob9)]) (rest := []) (lenOf own_pd__28Lcom_2fexample_2fadmit1_2fadmit1_2flock_2fWait_3b_29V rfl) rfl (by show 2 * 0 + _ ≤ _; exact Nat.le_of_eq rfl) (hb hby at_132) (fun _ _ => ⟨rfl, K17, (by decide : 4 + 5 ≤ _), (by decide : 28 + 42 ≤ _)⟩)
                dsimp only [Pt.U, Pt.locs, Pt.cells, Pt.slots] at X21 l21 y21 z21 st21 hQ21
                subst l21 y21 z21
                obtain ⟨q_21, d1_21, a1_21, kk1_21, d2_21, a2_21, kk2_21, rfl, M21, K21, g21_0, g21_1, g21_2, g21_3, g21_4, g21_5, g21_6, g21_7, g21_8, g21_9, g21_10, g21_11, g21_12, g21_13, r21_0, r21_1, r21_2, r21_3, r21_4, r21_5, r21_6, r21_7⟩ := hQ21
                have N21 := Fr.app N17 M21
                refine own_by (fun _ k => st21.trans k) ?_
                have z21 := K21.1
                have lt_g21_0 : T21.heap.size > ob6 := g21_0.lt
                have lt_g21_1 : T21.heap.size > q_21 := g21_1.lt
                have lt_g21_2 : T21.heap.size > q_21 := g21_2.lt
                have lt_g21_3 : T21.heap.size > q_21 := g21_3.lt
                have lt_g21_4 : T21.heap.size > d1_21 := g21_4.lt
                have lt_g21_5 : T21.heap.size > d1_21 := g21_5.lt
                have lt_g21_6 : T21.heap.size > d1_21 := g21_6.lt
                have lt_g21_7 : T21.heap.size > d1_21 := g21_7.lt
                have lt_g21_8 : T21.heap.size > a1_21 := g21_8.lt
                have lt_g21_9 : T21.heap.size > d2_21 := g21_9.lt
                have lt_g21_10 : T21.heap.size > d2_21 := g21_10.lt
                have lt_g21_11 : T21.heap.size > d2_21 := g21_11.lt
                have lt_g21_12 : T21.heap.size > d2_21 := g21_12.lt
                have lt_g21_13 : T21.heap.size > a2_21 := g21_13.lt
                show own_Go p e below (T21.setTop (mkF m 135 #[.val (.long q1), .second, .val (.int f1), .val (.int (0 : Int32)), .val (.int (0 : Int32)), .val (.int tw), .val (.int sf), .val (.int ag), .val (.ref ob6), .val (.ref ob9), .val (.ref ob12), .val (.int (1 : Int32))] [])) _
                refine own_by (fun _ k => XS.iload X21.here hx rfl (hb hby at_135) rfl k) ?_
                refine own_by (fun _ k => XS.ifNo X21.here hx rfl (hb hby at_137) rfl ((if0 _ _).trans (feq (by decide : ¬ ((1 : Int32) = (0 : Int32)))).1) k) ?_
                show own_Go p e below (T21.setTop (mkF m 140 #[.val (.long q1), .second, .val (.int f1), .val (.int (0 : Int32)), .val (.int (0 : Int32)), .val (.int tw), .val (.int sf), .val (.int ag), .val (.ref ob6), .val (.ref ob9), .val (.ref ob12), .val (.int (1 : Int32))] [])) _
                refine own_by (fun _ k => XS.aload X21.here hx rfl (hb hby at_140) rfl rfl k) ?_
                have O22 : Old Z n0 T21.heap := (O16.keep K21 (allS (by omega) all0))
                have fc24 : Exa Z T21.heap ob6 s2_ := (fc18.keep K21)
                obtain ⟨cq23, kq23, q23a, q23b, q23c⟩ := isOf hZ rfl fc24
                obtain ⟨_, _, ⟨T23, L23, k23, n23⟩, -, X23, ⟨Lc23, hQ23, l23, y23, z23⟩, st23⟩ := X21.virtualBack hx (y := (⟨s2_, "hasWaiting", "()Z"⟩ : MethodName)) (z := (⟨s2_, "hasWaiting", "()Z"⟩ : MethodName)) hown (mvT hZ (own_w hw 39 rfl)) (mvT hZ (own_w hw 40 rfl)) (notFace_of_selects (args := #[]) (mvT hZ (own_w hw 42 rfl))) (mvT hZ (own_w hw 42 rfl)) (mvT hZ (own_w hw 41 rfl)) (by decide) (backOf (W := 0) (rm_hw1 l Z a0 hw [] ob6 q_21 T21.heap n0 O22 g21_0) hZ (own_w hw 43 rfl) (own_w hw 2 rfl) (by decide) (by decide)) q23a q23c (g := (mkF m 142 #[.val (.long q1), .second, .val (.int f1), .val (.int (0 : Int32)), .val (.int (0 : Int32)), .val (.int tw), .val (.int sf), .val (.int ag), .val (.ref ob6), .val (.ref ob9), .val (.ref ob12), .val (.int (1 : Int32))] [(.ref ob6)])) rfl (by rw [hml]; rfl) (Steps.refl _) (argsL := []) (rest := []) (lenOf own_pd__28_29Z rfl) rfl (by show 2 * 0 + _ ≤ _; exact Nat.le_of_eq rfl) (hb hby at_142) (fun _ _ => ⟨rfl, rfl, (by decide : 9 + 0 ≤ _), (by decide : 70 + 0 ≤ _)⟩)
                dsimp only [Pt.U, Pt.locs, Pt.cells, Pt.slots] at X23 l23 y23 z23 st23 hQ23
                subst l23 y23 z23
                obtain ⟨rfl, M23, K23⟩ := hQ23
                have N23 := Fr.app N21 M23
                refine own_by (fun _ k => st23.trans k) ?_
                refine own_by (fun _ k => XS.ifNo X23.here hx rfl (hb hby at_145) rfl ((if0 _ _).trans (feq (by decide : ¬ ((1 : Int32) = (0 : Int32)))).1) k) ?_
                show own_Go p e below (T23.setTop (mkF m 148 #[.val (.long q1), .second, .val (.int f1), .val (.int (0 : Int32)), .val (.int (0 : Int32)), .val (.int tw), .val (.int sf), .val (.int ag), .val (.ref ob6), .val (.ref ob9), .val (.ref ob12), .val (.int (1 : Int32))] [])) _
                refine own_by (fun _ k => XS.iconst X23.here hx rfl (hb hby at_148) k) ?_
                refine own_by (fun _ k => XS.goto X23.here hx rfl (pc0 := 149) (pc' := 153) rfl (hb hby at_149) (by decide) (by decide) k) ?_
                refine own_by (fun _ k => XS.istore X23.here hx rfl (hb hby at_153) rfl (l' := #[.val (.long q1), .second, .val (.int f1), .val (.int (0 : Int32)), .val (.int (0 : Int32)), .val (.int tw), .val (.int sf), .val (.int ag), .val (.ref ob6), .val (.ref ob9), .val (.ref ob12), .val (.int (1 : Int32))]) rfl k) ?_
                show own_Go p e below (T23.setTop (mkF m 155 #[.val (.long q1), .second, .val (.int f1), .val (.int (0 : Int32)), .val (.int (0 : Int32)), .val (.int tw), .val (.int sf), .val (.int ag), .val (.ref ob6), .val (.ref ob9), .val (.ref ob12), .val (.int (1 : Int32))] [])) _
                have jn25 : ∀ (Tj25 : State) (Hj25 : Heap), (∃ lc, Stand p l e room_1 s m #[(.long q1), (.int f1)] below meth c Tj25 lc 9 70 ∧ Fr n0 lc) → Tj25.heap = Hj25 → (Keep h0 Hj25 []) → (Exa Z Hj25 ob6 s2_) → (Fld Z Hj25 ob6 s2_ "queues" s11_ .null) → (Exa Z Hj25 ob9 s5_) → (Fld Z Hj25 ob9 s5_ "conversion" "Z" (.int (0 : Int32))) → (Exa Z Hj25 ob12 s5_) → (Fld Z Hj25 ob12 s5_ "conversion" "Z" (.int (0 : Int32))) → own_Go p e below (Tj25.setTop (mkF m 313 #[.val (.long q1), .second, .val (.int f1), .val (.int (0 : Int32)), .val (.int (0 : Int32)), .val (.int tw), .val (.int sf), .val (.int ag), .val (.ref ob6), .val (.ref ob9), .val (.ref ob12), .val (.int (1 : Int32))] [])) (fun t o => ∃ v L, o = .returned v ∧ Q_rm_law Z q1 f1 mo cm h0 n0 v t.heap L ∧ FrameEnd s o t L room_1.cells room_1.slots) := by
                  rintro Tj25 Hj25 ⟨lc25, Xj25, Nj25⟩ ej25 Kj25 fj25_0 fj25_1 fj25_2 fj25_3 fj25_4 fj25_5
                  have zj25 := Kj25.1
                  have lt_fj25_0 : Hj25.size > ob6 := fj25_0.lt
                  have lt_fj25_1 : Hj25.size > ob6 := fj25_1.lt
                  have lt_fj25_2 : Hj25.size > ob9 := fj25_2.lt
                  have lt_fj25_3 : Hj25.size > ob9 := fj25_3.lt
                  have lt_fj25_4 : Hj25.size > ob12 := fj25_4.lt
                  have lt_fj25_5 : Hj25.size > ob12 := fj25_5.lt
                  refine own_by (fun _ k => XS.iload Xj25.here hx rfl (hb hby at_313) rfl k) ?_
                  by_cases hc26 : ag = (0 : Int32)
                  · skip
                    refine own_by (fun _ k => XS.ifYes Xj25.here hx rfl (pc0 := 315) (pc' := 372) rfl (hb hby at_315) rfl ((if0 _ _).trans (teq hc26).1) (by decide) (by decide) k) ?_
                    show own_Go p e below (Tj25.setTop (mkF m 372 #[.val (.long q1), .second, .val (.int f1), .val (.int (0 : Int32)), .val (.int (0 : Int32)), .val (.int tw), .val (.int sf), .val (.int ag), .val (.ref ob6), .val (.ref ob9), .val (.ref ob12), .val (.int (1 : Int32))] [])) _
                    refine own_by (fun _ k => XS.iload Xj25.here hx rfl (hb hby at_372) rfl k) ?_
                    have K27 : Keep h0 Hj25 [] := ((Keep.refl h0 []).trans Kj25 all0)
                    obtain ⟨fs, hr, hrun, hended, hW, hsame⟩ := Xj25.leave (v := some (.int (1 : Int32))) (fun h => by rw [Bd.returns] at h; cases h)
                    refine ⟨_, _, retN Xj25 hx (t := .boolean) Bd.returns (by simp) (hb hby at_374) hr, hrun, hended, _, _, rfl, ?_, ⟨_, rfl⟩, hW, hsame.mono (by decide) (by decide)⟩
                    show Q_rm_law Z q1 f1 mo cm h0 n0 _ Tj25.heap _
                    rw [ej25]
                    exact ⟨rfl, Nj25, K27⟩
                  · skip
                    refine own_by (fun _ k => XS.ifNo Xj25.here hx rfl (hb hby at_315) rfl ((if0 _ _).trans (feq hc26).1) k) ?_
                    show own_Go p e below (Tj25.setTop (mkF m 318 #[.val (.long q1), .second, .val (.int f1), .val (.int (0 : Int32)), .val (.int (0 : Int32)), .val (.int tw), .val (.int sf), .val (.int ag), .val (.ref ob6), .val (.ref ob9), .val (.ref ob12), .val (.int (1 : Int32))] [])) _
                    refine own_by (fun _ k => XS.aload Xj25.here hx rfl (hb hby at_318) rfl rfl k) ?_
                    refine own_by (fun _ k => XS.aload Xj25.here hx rfl (hb hby at_320) rfl rfl k) ?_
                    have O28 : Old Z n0 Hj25 := (O0.keep Kj25 all0)
                    obtain ⟨cq29, kq29, q29a, q29b, q29c⟩ := isOf hZ ej25 fj25_0
                    obtain ⟨_, _, ⟨T29, L29, k29, n29⟩, -, X29, ⟨Lc29, hQ29, l29, y29, z29⟩, st29⟩ := Xj25.virtualBack hx (y := (⟨s2_, "enqueue", s12_⟩ : MethodName)) (z := (⟨s2_, "enqueue", s12_⟩ : MethodName)) hown (mvT hZ (own_w hw 46 rfl)) (mvT hZ (own_w hw 47 rfl)) (notFace_of_selects (args := #[]) (mvT hZ (own_w hw 49 rfl))) (mvT hZ (own_w hw 49 rfl)) (mvT hZ (own_w hw 48 rfl)) (by decide) (backOf (W := 0) (rm_enq_None_w10 l Z a0 hw [] ob6 ob12 Hj25 n0 O28 fj25_1 fj25_0 fj25_4 fj25_5 (by first | assumption | omega | decide) (by first | assumption | omega | decide)) hZ (own_w hw 50 rfl) (own_w hw 2 rfl) (by decide) (by decide)) q29a q29c (g := (mkF m 322 #[.val (.long q1), .second, .val (.int f1), .val (.int (0 : Int32)), .val (.int (0 : Int32)), .val (.int tw), .val (.int sf), .val (.int ag), .val (.ref ob6), .val (.ref ob9), .val (.ref ob12), .val (.int (1 : Int32))] [(.ref ob12), (.ref ob6)])) rfl (by rw [hml]; rfl) (Steps.refl _) (argsL := [(.ref ob12)]) (rest := []) (lenOf own_pd__28Lcom_2fexample_2fadmit1_2fadmit1_2flock_2fWait_3b_29V rfl) rfl (by show 2 * 0 + _ ≤ _; exact Nat.le_of_eq rfl) (hb hby at_322) (fun _ _ => ⟨rfl, ej25, (by decide : 9 + 5 ≤ _), (by decide : 70 + 42 ≤ _)⟩)
                    dsimp only [Pt.U, Pt.locs, Pt.cells, Pt.slots] at X29 l29 y29 z29 st29 hQ29
                    subst l29 y29 z29
                    obtain ⟨q_29, d1_29, a1_29, kk1_29, d2_29, a2_29, kk2_29, rfl, M29, K29, g29_0, g29_1, g29_2, g29_3, g29_4, g29_5, g29_6, g29_7, g29_8, g29_9, g29_10, g29_11, g29_12, g29_13, r29_0, r29_1, r29_2, r29_3, r29_4, r29_5, r29_6, r29_7⟩ := hQ29
                    have N29 := Fr.app Nj25 M29
                    refine own_by (fun _ k => st29.trans k) ?_
                    have z29 := K29.1
                    have lt_g29_0 : T29.heap.size > ob6 := g29_0.lt
                    have lt_g29_1 : T29.heap.size > q_29 := g29_1.lt
                    have lt_g29_2 : T29.heap.size > q_29 := g29_2.lt
                    have lt_g29_3 : T29.heap.size > q_29 := g29_3.lt
                    have lt_g29_4 : T29.heap.size > d1_29 := g29_4.lt
                    have lt_g29_5 : T29.heap.size > d1_29 := g29_5.lt
                    have lt_g29_6 : T29.heap.size > d1_29 := g29_6.lt
                    have lt_g29_7 : T29.heap.size > d1_29 := g29_7.lt
                    have lt_g29_8 : T29.heap.size > a1_29 := g29_8.lt
                    have lt_g29_9 : T29.heap.size > d2_29 := g29_9.lt
                    have lt_g29_10 : T29.heap.size > d2_29 := g29_10.lt
                    have lt_g29_11 : T29.heap.size > d2_29 := g29_11.lt
                    have lt_g29_12 : T29.heap.size > d2_29 := g29_12.lt
                    have lt_g29_13 : T29.heap.size > a2_29 := g29_13.lt
                    refine own_by (fun _ k => XS.iload X29.here hx rfl (hb hby at_325) rfl k) ?_
                    refine own_by (fun _ k => XS.ifNo X29.here hx rfl (hb hby at_327) rfl ((if0 _ _).trans (feq (by decide : ¬ ((1 : Int32) = (0 : Int32)))).1) k) ?_
                    show own_Go p e below (T29.setTop (mkF m 330 #[.val (.long q1), .second, .val (.int f1), .val (.int (0 : Int32)), .val (.int (0 : Int32)), .val (.int tw), .val (.int sf), .val (.int ag), .val (.ref ob6), .val (.ref ob9), .val (.ref ob12), .val (.int (1 : Int32))] [])) _
                    refine own_by (fun _ k => XS.aload X29.here hx rfl (hb hby at_330) rfl rfl k) ?_
                    have O30 : Old Z n0 T29.heap := (O28.keep K29 (allS (by omega) all0))
                    have fc32 : Exa Z T29.heap ob6 s2_ := (fj25_0.keep K29)
                    obtain ⟨cq31, kq31, q31a, q31b, q31c⟩ := isOf hZ rfl fc32
                    obtain ⟨_, _, ⟨T31, L31, k31, n31⟩, -, X31, ⟨Lc31, hQ31, l31, y31, z31⟩, st31⟩ := X29.virtualBack hx (y := (⟨s2_, "hasWaiting", "()Z"⟩ : MethodName)) (z := (⟨s2_, "hasWaiting", "()Z"⟩ : MethodName)) hown (mvT hZ (own_w hw 39 rfl)) (mvT hZ (own_w hw 40 rfl)) (notFace_of_selects (args := #[]) (mvT hZ (own_w hw 42 rfl))) (mvT hZ (own_w hw 42 rfl)) (mvT hZ (own_w hw 41 rfl)) (by decide) (backOf (W := 0) (rm_hw1 l Z a0 hw [] ob6 q_29 T29.heap n0 O30 g29_0) hZ (own_w hw 43 rfl) (own_w hw 2 rfl) (by decide) (by decide)) q31a q31c (g := (mkF m 332 #[.val (.long q1), .second, .val (.int f1), .val (.int (0 : Int32)), .val (.int (0 : Int32)), .val (.int tw), .val (.int sf), .val (.int ag), .val (.ref ob6), .val (.ref ob9), .val (.ref ob12), .val (.int (1 : Int32))] [(.ref ob6)])) rfl (by rw [hml]; rfl) (Steps.refl _) (argsL := []) (rest := []) (lenOf own_pd__28_29Z rfl) rfl (by show 2 * 0 + _ ≤ _; exact Nat.le_of_eq rfl) (hb hby at_332) (fun _ _ => ⟨rfl, rfl, (by decide : 14 + 0 ≤ _), (by decide : 112 + 0 ≤ _)⟩)
                    dsimp only [Pt.U, Pt.locs, Pt.cells, Pt.slots] at X31 l31 y31 z31 st31 hQ31
                    subst l31 y31 z31
                    obtain ⟨rfl, M31, K31⟩ := hQ31
                    have N31 := Fr.app N29 M31
                    refine own_by (fun _ k => st31.trans k) ?_
                    refine own_by (fun _ k => XS.ifNo X31.here hx rfl (hb hby at_335) rfl ((if0 _ _).trans (feq (by decide : ¬ ((1 : Int32) = (0 : Int32)))).1) k) ?_
                    show own_Go p e below (T31.setTop (mkF m 338 #[.val (.long q1), .second, .val (.int f1), .val (.int (0 : Int32)), .val (.int (0 : Int32)), .val (.int tw), .val (.int sf), .val (.int ag), .val (.ref ob6), .val (.ref ob9), .val (.ref ob12), .val (.int (1 : Int32))] [])) _
                    refine own_by (fun _ k => XS.iconst X31.here hx rfl (hb hby at_338) k) ?_
                    refine own_by (fun _ k => XS.goto X31.here hx rfl (pc0 := 339) (pc' := 343) rfl (hb hby at_339) (by decide) (by decide) k) ?_
                    refine own_by (fun _ k => XS.istore X31.here hx rfl (hb hby at_343) rfl (l' := #[.val (.long q1), .second, .val (.int f1), .val (.int (0 : Int32)), .val (.int (0 : Int32)), .val (.int tw), .val (.int sf), .val (.int ag), .val (.ref ob6), .val (.ref ob9), .val (.ref ob12), .val (.int (1 : Int32))]) rfl k) ?_
                    refine own_by (fun _ k => XS.aload X31.here hx rfl (hb hby at_345) rfl rfl k) ?_
                    refine own_by (fun _ k => XS.aload X31.here hx rfl (hb hby at_347) rfl rfl k) ?_
                    have fc33 : Exa Z T29.heap ob12 s5_ := (fj25_4.keep K29)
                    have fc34 : Fld Z T29.heap ob12 s5_ "conversion" "Z" (.int (0 : Int32)) := (fj25_5.keep K29 (ninS (own_ne (by omega)) nin0))
                    obtain ⟨cq35, kq35, q35a, q35b, q35c⟩ := isOf hZ K31 fc32
                    obtain ⟨_, _, ⟨T35, L35, k35, n35⟩, -, X35, ⟨Lc35, hQ35, l35, y35, z35⟩, st35⟩ := X31.virtualBack hx (y := (⟨s2_, "dequeue", s12_⟩ : MethodName)) (z := (⟨s2_, "dequeue", s12_⟩ : MethodName)) hown (mvT hZ (own_w hw 98 rfl)) (mvT hZ (own_w hw 99 rfl)) (notFace_of_selects (args := #[]) (mvT hZ (own_w hw 101 rfl))) (mvT hZ (own_w hw 101 rfl)) (mvT hZ (own_w hw 100 rfl)) (by decide) (backOf (W := 0) (rm_deq_0_0_0_1_w1_w10 l Z a0 hw [] ob6 q_29 d1_29 a1_29 kk1_29 d2_29 a2_29 kk2_29 ob12 T29.heap n0 O30 g29_0 fc32 fc33 fc34 g29_1 g29_2 g29_3 g29_4 g29_5 g29_6 g29_7 g29_8 g29_9 g29_10 g29_11 g29_12 g29_13 (by first | assumption | omega | decide) (by first | assumption | omega | decide) (own_ne (by omega)) (own_ne (by omega)) r29_0 r29_1 r29_2 r29_3 r29_4 r29_5 r29_6) hZ (own_w hw 102 rfl) (own_w hw 2 rfl) (by decide) (by decide)) q35a q35c (g := (mkF m 349 #[.val (.long q1), .second, .val (.int f1), .val (.int (0 : Int32)), .val (.int (0 : Int32)), .val (.int tw), .val (.int sf), .val (.int ag), .val (.ref ob6), .val (.ref ob9), .val (.ref ob12), .val (.int (1 : Int32))] [(.ref ob12), (.ref ob6)])) rfl (by rw [hml]; rfl) (Steps.refl _) (argsL := [(.ref ob12)]) (rest := []) (lenOf own_pd__28Lcom_2fexample_2fadmit1_2fadmit1_2flock_2fWait_3b_29V rfl) rfl (by show 2 * 0 + _ ≤ _; exact Nat.le_of_eq rfl) (hb hby at_349) (fun _ _ => ⟨rfl, K31, (by decide : 14 + 0 ≤ _), (by decide : 112 + 0 ≤ _)⟩)
                    dsimp only [Pt.U, Pt.locs, Pt.cells, Pt.slots] at X35 l35 y35 z35 st35 hQ35
                    subst l35 y35 z35
                    obtain ⟨rfl, M35, K35, g35_0⟩ := hQ35
                    have N35 := Fr.app N31 M35
                    refine own_by (fun _ k => st35.trans k) ?_
                    have z35 := K35.1
                    have lt_g35_0 : T35.heap.size > ob6 := g35_0.lt
                    show own_Go p e below (T35.setTop (mkF m 352 #[.val (.long q1), .second, .val (.int f1), .val (.int (0 : Int32)), .val (.int (0 : Int32)), .val (.int tw), .val (.int sf), .val (.int ag), .val (.ref ob6), .val (.ref ob9), .val (.ref ob12), .val (.int (1 : Int32))] [])) _
                    refine own_by (fun _ k => XS.iload X35.here hx rfl (hb hby at_352) rfl k) ?_
                    refine own_by (fun _ k => XS.ifNo X35.here hx rfl (hb hby at_354) rfl ((if0 _ _).trans (feq (by decide : ¬ ((1 : Int32) = (0 : Int32)))).1) k) ?_
                    show own_Go p e below (T35.setTop (mkF m 357 #[.val (.long q1), .second, .val (.int f1), .val (.int (0 : Int32)), .val (.int (0 : Int32)), .val (.int tw), .val (.int sf), .val (.int ag), .val (.ref ob6), .val (.ref ob9), .val (.ref ob12), .val (.int (1 : Int32))] [])) _
                    refine own_by (fun _ k => XS.aload X35.here hx rfl (hb hby at_357) rfl rfl k) ?_
                    have O36 : Old Z n0 T35.heap := (O30.keep K35 (allS (by omega) (allS (by omega) (allS (by omega) all0))))
                    have fc38 : Exa Z T35.heap ob6 s2_ := (fc32.keep K35)
                    obtain ⟨cq37, kq37, q37a, q37b, q37c⟩ := isOf hZ rfl fc38
                    obtain ⟨_, _, ⟨T37, L37, k37, n37⟩, -, X37, ⟨Lc37, hQ37, l37, y37, z37⟩, st37⟩ := X35.virtualBack hx (y := (⟨s2_, "hasWaiting", "()Z"⟩ : MethodName)) (z := (⟨s2_, "hasWaiting", "()Z"⟩ : MethodName)) hown (mvT hZ (own_w hw 39 rfl)) (mvT hZ (own_w hw 40 rfl)) (notFace_of_selects (args := #[]) (mvT hZ (own_w hw 42 rfl))) (mvT hZ (own_w hw 42 rfl)) (mvT hZ (own_w hw 41 rfl)) (by decide) (backOf (W := 0) (rm_hw0 l Z a0 hw [] ob6 T35.heap n0 O36 g35_0) hZ (own_w hw 43 rfl) (own_w hw 2 rfl) (by decide) (by decide)) q37a q37c (g := (mkF m 359 #[.val (.long q1), .second, .val (.int f1), .val (.int (0 : Int32)), .val (.int (0 : Int32)), .val (.int tw), .val (.int sf), .val (.int ag), .val (.ref ob6), .val (.ref ob9), .val (.ref ob12), .val (.int (1 : Int32))] [(.ref ob6)])) rfl (by rw [hml]; rfl) (Steps.refl _) (argsL := []) (rest := []) (lenOf own_pd__28_29Z rfl) rfl (by show 2 * 0 + _ ≤ _; exact Nat.le_of_eq rfl) (hb hby at_359) (fun _ _ => ⟨rfl, rfl, (by decide : 14 + 0 ≤ _), (by decide : 112 + 0 ≤ _)⟩)
                    dsimp only [Pt.U, Pt.locs, Pt.cells, Pt.slots] at X37 l37 y37 z37 st37 hQ37
                    subst l37 y37 z37
                    obtain ⟨rfl, M37, K37⟩ := hQ37
                    have N37 := Fr.app N35 M37
                    refine own_by (fun _ k => st37.trans k) ?_
                    refine own_by (fun _ k => XS.ifNo X37.here hx rfl (hb hby at_362) rfl ((if0 _ _).trans (teq (by decide : (0 : Int32) = (0 : Int32))).2) k) ?_
                    show own_Go p e below (T37.setTop (mkF m 365 #[.val (.long q1), .second, .val (.int f1), .val (.int (0 : Int32)), .val (.int (0 : Int32)), .val (.int tw), .val (.int sf), .val (.int ag), .val (.ref ob6), .val (.ref ob9), .val (.ref ob12), .val (.int (1 : Int32))] [])) _
                    refine own_by (fun _ k => XS.iconst X37.here hx rfl (hb hby at_365) k) ?_
                    refine own_by (fun _ k => XS.goto X37.here hx rfl (pc0 := 366) (pc' := 370) rfl (hb hby at_366) (by decide) (by decide) k) ?_
                    refine own_by (fun _ k => XS.istore X37.here hx rfl (hb hby at_370) rfl (l' := #[.val (.long q1), .second, .val (.int f1), .val (.int (0 : Int32)), .val (.int (0 : Int32)), .val (.int tw), .val (.int sf), .val (.int ag), .val (.ref ob6), .val (.ref ob9), .val (.ref ob12), .val (.int (1 : Int32))]) rfl k) ?_
                    refine own_by (fun _ k => XS.iload X37.here hx rfl (hb hby at_372) rfl k) ?_
                    have K39 : Keep h0 T35.heap [] := ((((Keep.refl h0 []).trans Kj25 all0).trans K29 (allS (P := fun x => x ∈ [] ∨ h0.size ≤ x) (Or.inr (by omega)) all0)).trans K35 (allS (P := fun x => x ∈ [] ∨ h0.size ≤ x) (Or.inr (by omega)) (allS (P := fun x => x ∈ [] ∨ h0.size ≤ x) (Or.inr (by omega)) (allS (P := fun x => x ∈ [] ∨ h0.size ≤ x) (Or.inr (by omega)) all0))))
                    obtain ⟨fs, hr, hrun, hended, hW, hsame⟩ := X37.leave (v := some (.int (1 : Int32))) (fun h => by rw [Bd.returns] at h; cases h)
                    refine ⟨_, _, retN X37 hx (t := .boolean) Bd.returns (by simp) (hb hby at_374) hr, hrun, hended, _, _, rfl, ?_, ⟨_, rfl⟩, hW, hsame.mono (by decide) (by decide)⟩
                    show Q_rm_law Z q1 f1 mo cm h0 n0 _ T37.heap _
                    rw [K37]
                    exact ⟨rfl, N37, K39⟩
                refine own_by (fun _ k => XS.iload X23.here hx rfl (hb hby at_155) rfl k) ?_
                by_cases hc40 : tw = (0 : Int32)
                · skip
                  refine own_by (fun _ k => XS.ifYes X23.here hx rfl (pc0 := 157) (pc' := 286) rfl (hb hby at_157) rfl ((if0 _ _).trans (teq hc40).1) (by decide) (by decide) k) ?_
                  show own_Go p e below (T23.setTop (mkF m 286 #[.val (.long q1), .second, .val (.int f1), .val (.int (0 : Int32)), .val (.int (0 : Int32)), .val (.int tw), .val (.int sf), .val (.int ag), .val (.ref ob6), .val (.ref ob9), .val (.ref ob12), .val (.int (1 : Int32))] [])) _
                  refine own_by (fun _ k => XS.aload X23.here hx rfl (hb hby at_286) rfl rfl k) ?_
                  refine own_by (fun _ k => XS.aload X23.here hx rfl (hb hby at_288) rfl rfl k) ?_
                  have fc41 : Exa Z T21.heap ob9 s5_ := (fc19.keep K21)
                  have fc42 : Fld Z T21.heap ob9 s5_ "conversion" "Z" (.int (0 : Int32)) := (fc20.keep K21 (ninS (own_ne (by omega)) nin0))
                  obtain ⟨cq43, kq43, q43a, q43b, q43c⟩ := isOf hZ K23 fc24
                  obtain ⟨_, _, ⟨T43, L43, k43, n43⟩, -, X43, ⟨Lc43, hQ43, l43, y43, z43⟩, st43⟩ := X23.virtualBack hx (y := (⟨s2_, "dequeue", s12_⟩ : MethodName)) (z := (⟨s2_, "dequeue", s12_⟩ : MethodName)) hown (mvT hZ (own_w hw 98 rfl)) (mvT hZ (own_w hw 99 rfl)) (notFace_of_selects (args := #[]) (mvT hZ (own_w hw 101 rfl))) (mvT hZ (own_w hw 101 rfl)) (mvT hZ (own_w hw 100 rfl)) (by decide) (backOf (W := 0) (rm_deq_0_0_0_1_w1_w10 l Z a0 hw [] ob6 q_21 d1_21 a1_21 kk1_21 d2_21 a2_21 kk2_21 ob9 T21.heap n0 O22 g21_0 fc24 fc41 fc42 g21_1 g21_2 g21_3 g21_4 g21_5 g21_6 g21_7 g21_8 g21_9 g21_10 g21_11 g21_12 g21_13 (by first | assumption | omega | decide) (by first | assumption | omega | decide) (own_ne (by omega)) (own_ne (by omega)) r21_0 r21_1 r21_2 r21_3 r21_4 r21_5 r21_6) hZ (own_w hw 102 rfl) (own_w hw 2 rfl) (by decide) (by decide)) q43a q43c (g := (mkF m 290 #[.val (.long q1), .second, .val (.int f1), .val (.int (0 : Int32)), .val (.int (0 : Int32)), .val (.int tw), .val (.int sf), .val (.int ag), .val (.ref ob6), .val (.ref ob9), .val (.ref ob12), .val (.int (1 : Int32))] [(.ref ob9), (.ref ob6)])) rfl (by rw [hml]; rfl) (Steps.refl _) (argsL := [(.ref ob9)]) (rest := []) (lenOf own_pd__28Lcom_2fexample_2fadmit1_2fadmit1_2flock_2fWait_3b_29V rfl) rfl (by show 2 * 0 + _ ≤ _; exact Nat.le_of_eq rfl) (hb hby at_290) (fun _ _ => ⟨rfl, K23, (by decide : 9 + 0 ≤ _), (by decide : 70 + 0 ≤ _)⟩)
                  dsimp only [Pt.U, Pt.locs, Pt.cells, Pt.slots] at X43 l43 y43 z43 st43 hQ43
                  subst l43 y43 z43
                  obtain ⟨rfl, M43, K43, g43_0⟩ := hQ43
                  have N43 := Fr.app N23 M43
                  refine own_by (fun _ k => st43.trans k) ?_
                  have z43 := K43.1
                  have lt_g43_0 : T43.heap.size > ob6 := g43_0.lt
                  refine own_by (fun _ k => XS.iload X43.here hx rfl (hb hby at_293) rfl k) ?_
                  refine own_by (fun _ k => XS.ifNo X43.here hx rfl (hb hby at_295) rfl ((if0 _ _).trans (feq (by decide : ¬ ((1 : Int32) = (0 : Int32)))).1) k) ?_
                  show own_Go p e below (T43.setTop (mkF m 298 #[.val (.long q1), .second, .val (.int f1), .val (.int (0 : Int32)), .val (.int (0 : Int32)), .val (.int tw), .val (.int sf), .val (.int ag), .val (.ref ob6), .val (.ref ob9), .val (.ref ob12), .val (.int (1 : Int32))] [])) _
                  refine own_by (fun _ k => XS.aload X43.here hx rfl (hb hby at_298) rfl rfl k) ?_
                  have O44 : Old Z n0 T43.heap := (O22.keep K43 (allS (by omega) (allS (by omega) (allS (by omega) all0))))
                  have fc46 : Exa Z T43.heap ob6 s2_ := (fc24.keep K43)
                  obtain ⟨cq45, kq45, q45a, q45b, q45c⟩ := isOf hZ rfl fc46
                  obtain ⟨_, _, ⟨T45, L45, k45, n45⟩, -, X45, ⟨Lc45, hQ45, l45, y45, z45⟩, st45⟩ := X43.virtualBack hx (y := (⟨s2_, "hasWaiting", "()Z"⟩ : MethodName)) (z := (⟨s2_, "hasWaiting", "()Z"⟩ : MethodName)) hown (mvT hZ (own_w hw 39 rfl)) (mvT hZ (own_w hw 40 rfl)) (notFace_of_selects (args := #[]) (mvT hZ (own_w hw 42 rfl))) (mvT hZ (own_w hw 42 rfl)) (mvT hZ (own_w hw 41 rfl)) (by decide) (backOf (W := 0) (rm_hw0 l Z a0 hw [] ob6 T43.heap n0 O44 g43_0) hZ (own_w hw 43 rfl) (own_w hw 2 rfl) (by decide) (by decide)) q45a q45c (g := (mkF m 300 #[.val (.long q1), .second, .val (.int f1), .val (.int (0 : Int32)), .val (.int (0 : Int32)), .val (.int tw), .val (.int sf), .val (.int ag), .val (.ref ob6), .val (.ref ob9), .val (.ref ob12), .val (.int (1 : Int32))] [(.ref ob6)])) rfl (by rw [hml]; rfl) (Steps.refl _) (argsL := []) (rest := []) (lenOf own_pd__28_29Z rfl) rfl (by show 2 * 0 + _ ≤ _; exact Nat.le_of_eq rfl) (hb hby at_300) (fun _ _ => ⟨rfl, rfl, (by decide : 9 + 0 ≤ _), (by decide : 70 + 0 ≤ _)⟩)
                  dsimp only [Pt.U, Pt.locs, Pt.cells, Pt.slots] at X45 l45 y45 z45 st45 hQ45
                  subst l45 y45 z45
                  obtain ⟨rfl, M45, K45⟩ := hQ45
                  have N45 := Fr.app N43 M45
                  refine own_by (fun _ k => st45.trans k) ?_
                  refine own_by (fun _ k => XS.ifNo X45.here hx rfl (hb hby at_303) rfl ((if0 _ _).trans (teq (by decide : (0 : Int32) = (0 : Int32))).2) k) ?_
                  show own_Go p e below (T45.setTop (mkF m 306 #[.val (.long q1), .second, .val (.int f1), .val (.int (0 : Int32)), .val (.int (0 : Int32)), .val (.int tw), .val (.int sf), .val (.int ag), .val (.ref ob6), .val (.ref ob9), .val (.ref ob12), .val (.int (1 : Int32))] [])) _
                  refine own_by (fun _ k => XS.iconst X45.here hx rfl (hb hby at_306) k) ?_
                  refine own_by (fun _ k => XS.goto X45.here hx rfl (pc0 := 307) (pc' := 311) rfl (hb hby at_307) (by decide) (by decide) k) ?_
                  refine own_by (fun _ k => XS.istore X45.here hx rfl (hb hby at_311) rfl (l' := #[.val (.long q1), .second, .val (.int f1), .val (.int (0 : Int32)), .val (.int (0 : Int32)), .val (.int tw), .val (.int sf), .val (.int ag), .val (.ref ob6), .val (.ref ob9), .val (.ref ob12), .val (.int (1 : Int32))]) rfl k) ?_
                  show own_Go p e below (T45.setTop (mkF m 313 #[.val (.long q1), .second, .val (.int f1), .val (.int (0 : Int32)), .val (.int (0 : Int32)), .val (.int tw), .val (.int sf), .val (.int ag), .val (.ref ob6), .val (.ref ob9), .val (.ref ob12), .val (.int (1 : Int32))] [])) _
                  have fc47 : Exa Z T43.heap ob9 s5_ := (fc41.keep K43)
                  have fc48 : Fld Z T43.heap ob9 s5_ "conversion" "Z" (.int (0 : Int32)) := (fc42.keep K43 (ninS (own_ne (by omega)) (ninS (own_ne (by omega)) (ninS (own_ne (by omega)) nin0))))
                  have fc49 : Exa Z T43.heap ob12 s5_ := ((g14_0.keep K21).keep K43)
                  have fc50 : Fld Z T43.heap ob12 s5_ "conversion" "Z" (.int (0 : Int32)) := ((g14_1.keep K21 (ninS (own_ne (by omega)) nin0)).keep K43 (ninS (own_ne (by omega)) (ninS (own_ne (by omega)) (ninS (own_ne (by omega)) nin0))))
                  have K51 : Keep h0 T43.heap [] := (((((((((Keep.refl h0 []).ext E6).trans K8 (allS (P := fun x => x ∈ [] ∨ h0.size ≤ x) (Or.inr (by omega)) all0)).ext E9).trans K11 (allS (P := fun x => x ∈ [] ∨ h0.size ≤ x) (Or.inr (by omega)) all0)).ext E12).trans K14 (allS (P := fun x => x ∈ [] ∨ h0.size ≤ x) (Or.inr (by omega)) all0)).trans K21 (allS (P := fun x => x ∈ [] ∨ h0.size ≤ x) (Or.inr (by omega)) all0)).trans K43 (allS (P := fun x => x ∈ [] ∨ h0.size ≤ x) (Or.inr (by omega)) (allS (P := fun x => x ∈ [] ∨ h0.size ≤ x) (Or.inr (by omega)) (allS (P := fun x => x ∈ [] ∨ h0.size ≤ x) (Or.inr (by omega)) all0))))
                  exact jn25 _ _ ⟨_, X45, N45⟩ K45 K51 fc46 g43_0 fc47 fc48 fc49 fc50
                · skip
                  refine own_by (fun _ k => XS.ifNo X23.here hx rfl (hb hby at_157) rfl ((if0 _ _).trans (feq hc40).1) k) ?_
                  show own_Go p e below (T23.setTop (mkF m 160 #[.val (.long q1), .second, .val (.int f1), .val (.int (0 : Int32)), .val (.int (0 : Int32)), .val (.int tw), .val (.int sf), .val (.int ag), .val (.ref ob6), .val (.ref ob9), .val (.ref ob12), .val (.int (1 : Int32))] [])) _
                  refine own_by (fun _ k => XS.aload X23.here hx rfl (hb hby at_160) rfl rfl k) ?_
                  refine own_by (fun _ k => XS.aload X23.here hx rfl (hb hby at_162) rfl rfl k) ?_
                  have fc52 : Exa Z T21.heap ob12 s5_ := (g14_0.keep K21)
                  have fc53 : Fld Z T21.heap ob12 s5_ "conversion" "Z" (.int (0 : Int32)) := (g14_1.keep K21 (ninS (own_ne (by omega)) nin0))
                  obtain ⟨cq54, kq54, q54a, q54b, q54c⟩ := isOf hZ K23 fc24
                  obtain ⟨_, _, ⟨T54, L54, k54, n54⟩, -, X54, ⟨Lc54, hQ54, l54, y54, z54⟩, st54⟩ := X23.virtualBack hx (y := (⟨s2_, "enqueue", s12_⟩ : MethodName)) (z := (⟨s2_, "enqueue", s12_⟩ : MethodName)) hown (mvT hZ (own_w hw 46 rfl)) (mvT hZ (own_w hw 47 rfl)) (notFace_of_selects (args := #[]) (mvT hZ (own_w hw 49 rfl))) (mvT hZ (own_w hw 49 rfl)) (mvT hZ (own_w hw 48 rfl)) (by decide) (backOf (W := 0) (rm_enq_0_0_0_1_w1_w20 l Z a0 hw [] ob6 q_21 d1_21 a1_21 kk1_21 d2_21 a2_21 kk2_21 ob9 ob12 T21.heap n0 O22 g21_0 fc24 fc52 fc53 g21_1 g21_2 g21_3 g21_4 g21_5 g21_6 g21_7 g21_8 g21_9 g21_10 g21_11 g21_12 g21_13 (by first | assumption | omega | decide) (by first | assumption | omega | decide) (by first | assumption | omega | decide) (by first | assumption | omega | decide) r21_0 r21_1 r21_2 r21_3 r21_4 r21_5 r21_6) hZ (own_w hw 50 rfl) (own_w hw 2 rfl) (by decide) (by decide)) q54a q54c (g := (mkF m 164 #[.val (.long q1), .second, .val (.int f1), .val (.int (0 : Int32)), .val (.int (0 : Int32)), .val (.int tw), .val (.int sf), .val (.int ag), .val (.ref ob6), .val (.ref ob9), .val (.ref ob12), .val (.int (1 : Int32))] [(.ref ob12), (.ref ob6)])) rfl (by rw [hml]; rfl) (Steps.refl _) (argsL := [(.ref ob12)]) (rest := []) (lenOf own_pd__28Lcom_2fexample_2fadmit1_2fadmit1_2flock_2fWait_3b_29V rfl) rfl (by show 2 * 0 + _ ≤ _; exact Nat.le_of_eq rfl) (hb hby at_164) (fun _ _ => ⟨rfl, K23, (by decide : 9 + 0 ≤ _), (by decide : 70 + 0 ≤ _)⟩)
                  dsimp only [Pt.U, Pt.locs, Pt.cells, Pt.slots] at X54 l54 y54 z54 st54 hQ54
                  subst l54 y54 z54
                  obtain ⟨rfl, M54, K54, g54_0, g54_1, g54_2, g54_3, g54_4, g54_5, g54_6, g54_7, g54_8, g54_9, g54_10, g54_11, g54_12, g54_13⟩ := hQ54
                  have N54 := Fr.app N23 M54
                  refine own_by (fun _ k => st54.trans k) ?_
                  have z54 := K54.1
                  have lt_g54_0 : T54.heap.size > ob6 := g54_0.lt
                  have lt_g54_1 : T54.heap.size > q_21 := g54_1.lt
                  have lt_g54_2 : T54.heap.size > q_21 := g54_2.lt
                  have lt_g54_3 : T54.heap.size > q_21 := g54_3.lt
                  have lt_g54_4 : T54.heap.size > d1_21 := g54_4.lt
                  have lt_g54_5 : T54.heap.size > d1_21 := g54_5.lt
                  have lt_g54_6 : T54.heap.size > d1_21 := g54_6.lt
                  have lt_g54_7 : T54.heap.size > d1_21 := g54_7.lt
                  have lt_g54_8 : T54.heap.size > a1_21 := g54_8.lt
                  have lt_g54_9 : T54.heap.size > d2_21 := g54_9.lt
                  have lt_g54_10 : T54.heap.size > d2_21 := g54_10.lt
                  have lt_g54_11 : T54.heap.size > d2_21 := g54_11.lt
                  have lt_g54_12 : T54.heap.size > d2_21 := g54_12.lt
                  have lt_g54_13 : T54.heap.size > a2_21 := g54_13.lt
                  refine own_by (fun _ k => XS.iload X54.here hx rfl (hb hby at_167) rfl k) ?_
                  refine own_by (fun _ k => XS.ifNo X54.here hx rfl (hb hby at_169) rfl ((if0 _ _).trans (feq (by decide : ¬ ((1 : Int32) = (0 : Int32)))).1) k) ?_
                  show own_Go p e below (T54.setTop (mkF m 172 #[.val (.long q1), .second, .val (.int f1), .val (.int (0 : Int32)), .val (.int (0 : Int32)), .val (.int tw), .val (.int sf), .val (.int ag), .val (.ref ob6), .val (.ref ob9), .val (.ref ob12), .val (.int (1 : Int32))] [])) _
                  refine own_by (fun _ k => XS.aload X54.here hx rfl (hb hby at_172) rfl rfl k) ?_
                  have O55 : Old Z n0 T54.heap := (O22.keep K54 (allS (by omega) (allS (by omega) all0)))
                  have fc57 : Exa Z T54.heap ob6 s2_ := (fc24.keep K54)
                  obtain ⟨cq56, kq56, q56a, q56b, q56c⟩ := isOf hZ rfl fc57
                  obtain ⟨_, _, ⟨T56, L56, k56, n56⟩, -, X56, ⟨Lc56, hQ56, l56, y56, z56⟩, st56⟩ := X54.virtualBack hx (y := (⟨s2_, "hasWaiting", "()Z"⟩ : MethodName)) (z := (⟨s2_, "hasWaiting", "()Z"⟩ : MethodName)) hown (mvT hZ (own_w hw 39 rfl)) (mvT hZ (own_w hw 40 rfl)) (notFace_of_selects (args := #[]) (mvT hZ (own_w hw 42 rfl))) (mvT hZ (own_w hw 42 rfl)) (mvT hZ (own_w hw 41 rfl)) (by decide) (backOf (W := 0) (rm_hw1 l Z a0 hw [] ob6 q_21 T54.heap n0 O55 g54_0) hZ (own_w hw 43 rfl) (own_w hw 2 rfl) (by decide) (by decide)) q56a q56c (g := (mkF m 174 #[.val (.long q1), .second, .val (.int f1), .val (.int (0 : Int32)), .val (.int (0 : Int32)), .val (.int tw), .val (.int sf), .val (.int ag), .val (.ref ob6), .val (.ref ob9), .val (.ref ob12), .val (.int (1 : Int32))] [(.ref ob6)])) rfl (by rw [hml]; rfl) (Steps.refl _) (argsL := []) (rest := []) (lenOf own_pd__28_29Z rfl) rfl (by show 2 * 0 + _ ≤ _; exact Nat.le_of_eq rfl) (hb hby at_174) (fun _ _ => ⟨rfl, rfl, (by decide : 9 + 0 ≤ _), (by decide : 70 + 0 ≤ _)⟩)
                  dsimp only [Pt.U, Pt.locs, Pt.cells, Pt.slots] at X56 l56 y56 z56 st56 hQ56
                  subst l56 y56 z56
                  obtain ⟨rfl, M56, K56⟩ := hQ56
                  have N56 := Fr.app N54 M56
                  refine own_by (fun _ k => st56.trans k) ?_
                  refine own_by (fun _ k => XS.ifNo X56.here hx rfl (hb hby at_177) rfl ((if0 _ _).trans (feq (by decide : ¬ ((1 : Int32) = (0 : Int32)))).1) k) ?_
                  show own_Go p e below (T56.setTop (mkF m 180 #[.val (.long q1), .second, .val (.int f1), .val (.int (0 : Int32)), .val (.int (0 : Int32)), .val (.int tw), .val (.int sf), .val (.int ag), .val (.ref ob6), .val (.ref ob9), .val (.ref ob12), .val (.int (1 : Int32))] [])) _
                  refine own_by (fun _ k => XS.iconst X56.here hx rfl (hb hby at_180) k) ?_
                  refine own_by (fun _ k => XS.goto X56.here hx rfl (pc0 := 181) (pc' := 185) rfl (hb hby at_181) (by decide) (by decide) k) ?_
                  refine own_by (fun _ k => XS.istore X56.here hx rfl (hb hby at_185) rfl (l' := #[.val (.long q1), .second, .val (.int f1), .val (.int (0 : Int32)), .val (.int (0 : Int32)), .val (.int tw), .val (.int sf), .val (.int ag), .val (.ref ob6), .val (.ref ob9), .val (.ref ob12), .val (.int (1 : Int32))]) rfl k) ?_
                  refine own_by (fun _ k => XS.iload X56.here hx rfl (hb hby at_187) rfl k) ?_
                  by_cases hc58 : sf = (0 : Int32)
                  · skip
                    refine own_by (fun _ k => XS.ifYes X56.here hx rfl (pc0 := 189) (pc' := 229) rfl (hb hby at_189) rfl ((if0 _ _).trans (teq hc58).1) (by decide) (by decide) k) ?_
                    show own_Go p e below (T56.setTop (mkF m 229 #[.val (.long q1), .second, .val (.int f1), .val (.int (0 : Int32)), .val (.int (0 : Int32)), .val (.int tw), .val (.int sf), .val (.int ag), .val (.ref ob6), .val (.ref ob9), .val (.ref ob12), .val (.int (1 : Int32))] [])) _
                    refine own_by (fun _ k => XS.aload X56.here hx rfl (hb hby at_229) rfl rfl k) ?_
                    refine own_by (fun _ k => XS.aload X56.here hx rfl (hb hby at_231) rfl rfl k) ?_
                    have fc59 : Exa Z T54.heap ob9 s5_ := ((fc19.keep K21).keep K54)
                    have fc60 : Fld Z T54.heap ob9 s5_ "conversion" "Z" (.int (0 : Int32)) := ((fc20.keep K21 (ninS (own_ne (by omega)) nin0)).keep K54 (ninS (own_ne (by omega)) (ninS (own_ne (by omega)) nin0)))
                    obtain ⟨cq61, kq61, q61a, q61b, q61c⟩ := isOf hZ K56 fc57
                    obtain ⟨_, _, ⟨T61, L61, k61, n61⟩, -, X61, ⟨Lc61, hQ61, l61, y61, z61⟩, st61⟩ := X56.virtualBack hx (y := (⟨s2_, "dequeue", s12_⟩ : MethodName)) (z := (⟨s2_, "dequeue", s12_⟩ : MethodName)) hown (mvT hZ (own_w hw 98 rfl)) (mvT hZ (own_w hw 99 rfl)) (notFace_of_selects (args := #[]) (mvT hZ (own_w hw 101 rfl))) (mvT hZ (own_w hw 101 rfl)) (mvT hZ (own_w hw 100 rfl)) (by decide) (backOf (W := 0) (rm_deq_0_0_0_2_w1_w2_w10 l Z a0 hw [] ob6 q_21 d1_21 a1_21 kk1_21 d2_21 a2_21 kk2_21 ob9 ob12 T54.heap n0 O55 g54_0 fc57 fc59 fc60 g54_1 g54_2 g54_3 g54_4 g54_5 g54_6 g54_7 g54_8 g54_9 g54_10 g54_11 g54_12 g54_13 (by first | assumption | omega | decide) (by first | assumption | omega | decide) (own_ne (by omega)) (own_ne (by omega)) r21_0 r21_1 r21_2 r21_3 r21_4 r21_5 r21_6 (own_ne (by omega))) hZ (own_w hw 102 rfl) (own_w hw 2 rfl) (by decide) (by decide)) q61a q61c (g := (mkF m 233 #[.val (.long q1), .second, .val (.int f1), .val (.int (0 : Int32)), .val (.int (0 : Int32)), .val (.int tw), .val (.int sf), .val (.int ag), .val (.ref ob6), .val (.ref ob9), .val (.ref ob12), .val (.int (1 : Int32))] [(.ref ob9), (.ref ob6)])) rfl (by rw [hml]; rfl) (Steps.refl _) (argsL := [(.ref ob9)]) (rest := []) (lenOf own_pd__28Lcom_2fexample_2fadmit1_2fadmit1_2flock_2fWait_3b_29V rfl) rfl (by show 2 * 0 + _ ≤ _; exact Nat.le_of_eq rfl) (hb hby at_233) (fun _ _ => ⟨rfl, K56, (by decide : 9 + 0 ≤ _), (by decide : 70 + 0 ≤ _)⟩)
                    dsimp only [Pt.U, Pt.locs, Pt.cells, Pt.slots] at X61 l61 y61 z61 st61 hQ61
                    subst l61 y61 z61
                    obtain ⟨rfl, M61, K61, g61_0, g61_1, g61_2, g61_3, g61_4, g61_5, g61_6, g61_7, g61_8, g61_9, g61_10, g61_11, g61_12, g61_13⟩ := hQ61
                    have N61 := Fr.app N56 M61
                    refine own_by (fun _ k => st61.trans k) ?_
                    have z61 := K61.1
                    have lt_g61_0 : T61.heap.size > ob6 := g61_0.lt
                    have lt_g61_1 : T61.heap.size > q_21 := g61_1.lt
                    have lt_g61_2 : T61.heap.size > q_21 := g61_2.lt
                    have lt_g61_3 : T61.heap.size > q_21 := g61_3.lt
                    have lt_g61_4 : T61.heap.size > d1_21 := g61_4.lt
                    have lt_g61_5 : T61.heap.size > d1_21 := g61_5.lt
                    have lt_g61_6 : T61.heap.size > d1_21 := g61_6.lt
                    have lt_g61_7 : T61.heap.size > d1_21 := g61_7.lt
                    have lt_g61_8 : T61.heap.size > a1_21 := g61_8.lt
                    have lt_g61_9 : T61.heap.size > d2_21 := g61_9.lt
                    have lt_g61_10 : T61.heap.size > d2_21 := g61_10.lt
                    have lt_g61_11 : T61.heap.size > d2_21 := g61_11.lt
                    have lt_g61_12 : T61.heap.size > d2_21 := g61_12.lt
                    have lt_g61_13 : T61.heap.size > a2_21 := g61_13.lt
                    refine own_by (fun _ k => XS.iload X61.here hx rfl (hb hby at_236) rfl k) ?_
                    refine own_by (fun _ k => XS.ifNo X61.here hx rfl (hb hby at_238) rfl ((if0 _ _).trans (feq (by decide : ¬ ((1 : Int32) = (0 : Int32)))).1) k) ?_
                    show own_Go p e below (T61.setTop (mkF m 241 #[.val (.long q1), .second, .val (.int f1), .val (.int (0 : Int32)), .val (.int (0 : Int32)), .val (.int tw), .val (.int sf), .val (.int ag), .val (.ref ob6), .val (.ref ob9), .val (.ref ob12), .val (.int (1 : Int32))] [])) _
                    refine own_by (fun _ k => XS.aload X61.here hx rfl (hb hby at_241) rfl rfl k) ?_
                    have O62 : Old Z n0 T61.heap := (O55.keep K61 (allS (by omega) (allS (by omega) (allS (by omega) all0))))
                    have fc64 : Exa Z T61.heap ob6 s2_ := (fc57.keep K61)
                    obtain ⟨cq63, kq63, q63a, q63b, q63c⟩ := isOf hZ rfl fc64
                    obtain ⟨_, _, ⟨T63, L63, k63, n63⟩, -, X63, ⟨Lc63, hQ63, l63, y63, z63⟩, st63⟩ := X61.virtualBack hx (y := (⟨s2_, "hasWaiting", "()Z"⟩ : MethodName)) (z := (⟨s2_, "hasWaiting", "()Z"⟩ : MethodName)) hown (mvT hZ (own_w hw 39 rfl)) (mvT hZ (own_w hw 40 rfl)) (notFace_of_selects (args := #[]) (mvT hZ (own_w hw 42 rfl))) (mvT hZ (own_w hw 42 rfl)) (mvT hZ (own_w hw 41 rfl)) (by decide) (backOf (W := 0) (rm_hw1 l Z a0 hw [] ob6 q_21 T61.heap n0 O62 g61_0) hZ (own_w hw 43 rfl) (own_w hw 2 rfl) (by decide) (by decide)) q63a q63c (g := (mkF m 243 #[.val (.long q1), .second, .val (.int f1), .val (.int (0 : Int32)), .val (.int (0 : Int32)), .val (.int tw), .val (.int sf), .val (.int ag), .val (.ref ob6), .val (.ref ob9), .val (.ref ob12), .val (.int (1 : Int32))] [(.ref ob6)])) rfl (by rw [hml]; rfl) (Steps.refl _) (argsL := []) (rest := []) (lenOf own_pd__28_29Z rfl) rfl (by show 2 * 0 + _ ≤ _; exact Nat.le_of_eq rfl) (hb hby at_243) (fun _ _ => ⟨rfl, rfl, (by decide : 9 + 0 ≤ _), (by decide : 70 + 0 ≤ _)⟩)
                    dsimp only [Pt.U, Pt.locs, Pt.cells, Pt.slots] at X63 l63 y63 z63 st63 hQ63
                    subst l63 y63 z63
                    obtain ⟨rfl, M63, K63⟩ := hQ63
                    have N63 := Fr.app N61 M63
                    refine own_by (fun _ k => st63.trans k) ?_
                    refine own_by (fun _ k => XS.ifNo X63.here hx rfl (hb hby at_246) rfl ((if0 _ _).trans (feq (by decide : ¬ ((1 : Int32) = (0 : Int32)))).1) k) ?_
                    show own_Go p e below (T63.setTop (mkF m 249 #[.val (.long q1), .second, .val (.int f1), .val (.int (0 : Int32)), .val (.int (0 : Int32)), .val (.int tw), .val (.int sf), .val (.int ag), .val (.ref ob6), .val (.ref ob9), .val (.ref ob12), .val (.int (1 : Int32))] [])) _
                    refine own_by (fun _ k => XS.iconst X63.here hx rfl (hb hby at_249) k) ?_
                    refine own_by (fun _ k => XS.goto X63.here hx rfl (pc0 := 250) (pc' := 254) rfl (hb hby at_250) (by decide) (by decide) k) ?_
                    refine own_by (fun _ k => XS.istore X63.here hx rfl (hb hby at_254) rfl (l' := #[.val (.long q1), .second, .val (.int f1), .val (.int (0 : Int32)), .val (.int (0 : Int32)), .val (.int tw), .val (.int sf), .val (.int ag), .val (.ref ob6), .val (.ref ob9), .val (.ref ob12), .val (.int (1 : Int32))]) rfl k) ?_
                    refine own_by (fun _ k => XS.aload X63.here hx rfl (hb hby at_256) rfl rfl k) ?_
                    refine own_by (fun _ k => XS.aload X63.here hx rfl (hb hby at_258) rfl rfl k) ?_
                    have fc65 : Exa Z T61.heap ob12 s5_ := ((fc52.keep K54).keep K61)
                    have fc66 : Fld Z T61.heap ob12 s5_ "conversion" "Z" (.int (0 : Int32)) := ((fc53.keep K54 (ninS (own_ne (by omega)) (ninS (own_ne (by omega)) nin0))).keep K61 (ninS (own_ne (by omega)) (ninS (own_ne (by omega)) (ninS (own_ne (by omega)) nin0))))
                    obtain ⟨cq67, kq67, q67a, q67b, q67c⟩ := isOf hZ K63 fc64
                    obtain ⟨_, _, ⟨T67, L67, k67, n67⟩, -, X67, ⟨Lc67, hQ67, l67, y67, z67⟩, st67⟩ := X63.virtualBack hx (y := (⟨s2_, "dequeue", s12_⟩ : MethodName)) (z := (⟨s2_, "dequeue", s12_⟩ : MethodName)) hown (mvT hZ (own_w hw 98 rfl)) (mvT hZ (own_w hw 99 rfl)) (notFace_of_selects (args := #[]) (mvT hZ (own_w hw 101 rfl))) (mvT hZ (own_w hw 101 rfl)) (mvT hZ (own_w hw 100 rfl)) (by decide) (backOf (W := 0) (rm_deq_0_0_1_2_None_w1_w10 l Z a0 hw [] ob6 q_21 d1_21 a1_21 kk1_21 d2_21 a2_21 kk2_21 ob12 T61.heap n0 O62 g61_0 fc64 fc65 fc66 g61_1 g61_2 g61_3 g61_4 g61_5 g61_6 g61_7 g61_8 g61_9 g61_10 g61_11 g61_12 g61_13 (by first | assumption | omega | decide) (by first | assumption | omega | decide) (own_ne (by omega)) (own_ne (by omega)) r21_0 r21_1 r21_2 r21_3 r21_4 r21_5 r21_6) hZ (own_w hw 102 rfl) (own_w hw 2 rfl) (by decide) (by decide)) q67a q67c (g := (mkF m 260 #[.val (.long q1), .second, .val (.int f1), .val (.int (0 : Int32)), .val (.int (0 : Int32)), .val (.int tw), .val (.int sf), .val (.int ag), .val (.ref ob6), .val (.ref ob9), .val (.ref ob12), .val (.int (1 : Int32))] [(.ref ob12), (.ref ob6)])) rfl (by rw [hml]; rfl) (Steps.refl _) (argsL := [(.ref ob12)]) (rest := []) (lenOf own_pd__28Lcom_2fexample_2fadmit1_2fadmit1_2flock_2fWait_3b_29V rfl) rfl (by show 2 * 0 + _ ≤ _; exact Nat.le_of_eq rfl) (hb hby at_260) (fun _ _ => ⟨rfl, K63, (by decide : 9 + 0 ≤ _), (by decide : 70 + 0 ≤ _)⟩)
                    dsimp only [Pt.U, Pt.locs, Pt.cells, Pt.slots] at X67 l67 y67 z67 st67 hQ67
                    subst l67 y67 z67
                    obtain ⟨rfl, M67, K67, g67_0⟩ := hQ67
                    have N67 := Fr.app N63 M67
                    refine own_by (fun _ k => st67.trans k) ?_
                    have z67 := K67.1
                    have lt_g67_0 : T67.heap.size > ob6 := g67_0.lt
                    show own_Go p e below (T67.setTop (mkF m 263 #[.val (.long q1), .second, .val (.int f1), .val (.int (0 : Int32)), .val (.int (0 : Int32)), .val (.int tw), .val (.int sf), .val (.int ag), .val (.ref ob6), .val (.ref ob9), .val (.ref ob12), .val (.int (1 : Int32))] [])) _
                    refine own_by (fun _ k => XS.iload X67.here hx rfl (hb hby at_263) rfl k) ?_
                    refine own_by (fun _ k => XS.ifNo X67.here hx rfl (hb hby at_265) rfl ((if0 _ _).trans (feq (by decide : ¬ ((1 : Int32) = (0 : Int32)))).1) k) ?_
                    show own_Go p e below (T67.setTop (mkF m 268 #[.val (.long q1), .second, .val (.int f1), .val (.int (0 : Int32)), .val (.int (0 : Int32)), .val (.int tw), .val (.int sf), .val (.int ag), .val (.ref ob6), .val (.ref ob9), .val (.ref ob12), .val (.int (1 : Int32))] [])) _
                    refine own_by (fun _ k => XS.aload X67.here hx rfl (hb hby at_268) rfl rfl k) ?_
                    have O68 : Old Z n0 T67.heap := (O62.keep K67 (allS (by omega) (allS (by omega) (allS (by omega) all0))))
                    have fc70 : Exa Z T67.heap ob6 s2_ := (fc64.keep K67)
                    obtain ⟨cq69, kq69, q69a, q69b, q69c⟩ := isOf hZ rfl fc70
                    obtain ⟨_, _, ⟨T69, L69, k69, n69⟩, -, X69, ⟨Lc69, hQ69, l69, y69, z69⟩, st69⟩ := X67.virtualBack hx (y := (⟨s2_, "hasWaiting", "()Z"⟩ : MethodName)) (z := (⟨s2_, "hasWaiting", "()Z"⟩ : MethodName)) hown (mvT hZ (own_w hw 39 rfl)) (mvT hZ (own_w hw 40 rfl)) (notFace_of_selects (args := #[]) (mvT hZ (own_w hw 42 rfl))) (mvT hZ (own_w hw 42 rfl)) (mvT hZ (own_w hw 41 rfl)) (by decide) (backOf (W := 0) (rm_hw0 l Z a0 hw [] ob6 T67.heap n0 O68 g67_0) hZ (own_w hw 43 rfl) (own_w hw 2 rfl) (by decide) (by decide)) q69a q69c (g := (mkF m 270 #[.val (.long q1), .second, .val (.int f1), .val (.int (0 : Int32)), .val (.int (0 : Int32)), .val (.int tw), .val (.int sf), .val (.int ag), .val (.ref ob6), .val (.ref ob9), .val (.ref ob12), .val (.int (1 : Int32))] [(.ref ob6)])) rfl (by rw [hml]; rfl) (Steps.refl _) (argsL := []) (rest := []) (lenOf own_pd__28_29Z rfl) rfl (by show 2 * 0 + _ ≤ _; exact Nat.le_of_eq rfl) (hb hby at_270) (fun _ _ => ⟨rfl, rfl, (by decide : 9 + 0 ≤ _), (by decide : 70 + 0 ≤ _)⟩)
                    dsimp only [Pt.U, Pt.locs, Pt.cells, Pt.slots] at X69 l69 y69 z69 st69 hQ69
                    subst l69 y69 z69
                    obtain ⟨rfl, M69, K69⟩ := hQ69
                    have N69 := Fr.app N67 M69
                    refine own_by (fun _ k => st69.trans k) ?_
                    refine own_by (fun _ k => XS.ifNo X69.here hx rfl (hb hby at_273) rfl ((if0 _ _).trans (teq (by decide : (0 : Int32) = (0 : Int32))).2) k) ?_
                    show own_Go p e below (T69.setTop (mkF m 276 #[.val (.long q1), .second, .val (.int f1), .val (.int (0 : Int32)), .val (.int (0 : Int32)), .val (.int tw), .val (.int sf), .val (.int ag), .val (.ref ob6), .val (.ref ob9), .val (.ref ob12), .val (.int (1 : Int32))] [])) _
                    refine own_by (fun _ k => XS.iconst X69.here hx rfl (hb hby at_276) k) ?_
                    refine own_by (fun _ k => XS.goto X69.here hx rfl (pc0 := 277) (pc' := 281) rfl (hb hby at_277) (by decide) (by decide) k) ?_
                    refine own_by (fun _ k => XS.istore X69.here hx rfl (hb hby at_281) rfl (l' := #[.val (.long q1), .second, .val (.int f1), .val (.int (0 : Int32)), .val (.int (0 : Int32)), .val (.int tw), .val (.int sf), .val (.int ag), .val (.ref ob6), .val (.ref ob9), .val (.ref ob12), .val (.int (1 : Int32))]) rfl k) ?_
                    refine own_by (fun _ k => XS.goto X69.here hx rfl (pc0 := 283) (pc' := 313) rfl (hb hby at_283) (by decide) (by decide) k) ?_
                    show own_Go p e below (T69.setTop (mkF m 313 #[.val (.long q1), .second, .val (.int f1), .val (.int (0 : Int32)), .val (.int (0 : Int32)), .val (.int tw), .val (.int sf), .val (.int ag), .val (.ref ob6), .val (.ref ob9), .val (.ref ob12), .val (.int (1 : Int32))] [])) _
                    have fc71 : Exa Z T67.heap ob9 s5_ := ((fc59.keep K61).keep K67)
                    have fc72 : Fld Z T67.heap ob9 s5_ "conversion" "Z" (.int (0 : Int32)) := ((fc60.keep K61 (ninS (own_ne (by omega)) (ninS (own_ne (by omega)) (ninS (own_ne (by omega)) nin0)))).keep K67 (ninS (own_ne (by omega)) (ninS (own_ne (by omega)) (ninS (own_ne (by omega)) nin0))))
                    have fc73 : Exa Z T67.heap ob12 s5_ := (fc65.keep K67)
                    have fc74 : Fld Z T67.heap ob12 s5_ "conversion" "Z" (.int (0 : Int32)) := (fc66.keep K67 (ninS (own_ne (by omega)) (ninS (own_ne (by omega)) (ninS (own_ne (by omega)) nin0))))
                    have K75 : Keep h0 T67.heap [] := (((((((((((Keep.refl h0 []).ext E6).trans K8 (allS (P := fun x => x ∈ [] ∨ h0.size ≤ x) (Or.inr (by omega)) all0)).ext E9).trans K11 (allS (P := fun x => x ∈ [] ∨ h0.size ≤ x) (Or.inr (by omega)) all0)).ext E12).trans K14 (allS (P := fun x => x ∈ [] ∨ h0.size ≤ x) (Or.inr (by omega)) all0)).trans K21 (allS (P := fun x => x ∈ [] ∨ h0.size ≤ x) (Or.inr (by omega)) all0)).trans K54 (allS (P := fun x => x ∈ [] ∨ h0.size ≤ x) (Or.inr (by omega)) (allS (P := fun x => x ∈ [] ∨ h0.size ≤ x) (Or.inr (by omega)) all0))).trans K61 (allS (P := fun x => x ∈ [] ∨ h0.size ≤ x) (Or.inr (by omega)) (allS (P := fun x => x ∈ [] ∨ h0.size ≤ x) (Or.inr (by omega)) (allS (P := fun x => x ∈ [] ∨ h0.size ≤ x) (Or.inr (by omega)) all0)))).trans K67 (allS (P := fun x => x ∈ [] ∨ h0.size ≤ x) (Or.inr (by omega)) (allS (P := fun x => x ∈ [] ∨ h0.size ≤ x) (Or.inr (by omega)) (allS (P := fun x => x ∈ [] ∨ h0.size ≤ x) (Or.inr (by omega)) all0))))
                    exact jn25 _ _ ⟨_, X69, N69⟩ K69 K75 fc70 g67_0 fc71 fc72 fc73 fc74
                  · skip
                    refine own_by (fun _ k => XS.ifNo X56.here hx rfl (hb hby at_189) rfl ((if0 _ _).trans (feq hc58).1) k) ?_
                    show own_Go p e below (T56.setTop (mkF m 192 #[.val (.long q1), .second, .val (.int f1), .val (.int (0 : Int32)), .val (.int (0 : Int32)), .val (.int tw), .val (.int sf), .val (.int ag), .val (.ref ob6), .val (.ref ob9), .val (.ref ob12), .val (.int (1 : Int32))] [])) _
                    refine own_by (fun _ k => XS.aload X56.here hx rfl (hb hby at_192) rfl rfl k) ?_
                    refine own_by (fun _ k => XS.aload X56.here hx rfl (hb hby at_194) rfl rfl k) ?_
                    have fc76 : Exa Z T54.heap ob12 s5_ := (fc52.keep K54)
                    have fc77 : Fld Z T54.heap ob12 s5_ "conversion" "Z" (.int (0 : Int32)) := (fc53.keep K54 (ninS (own_ne (by omega)) (ninS (own_ne (by omega)) nin0)))
                    obtain ⟨cq78, kq78, q78a, q78b, q78c⟩ := isOf hZ K56 fc57
                    obtain ⟨_, _, ⟨T78, L78, k78, n78⟩, -, X78, ⟨Lc78, hQ78, l78, y78, z78⟩, st78⟩ := X56.virtualBack hx (y := (⟨s2_, "dequeue", s12_⟩ : MethodName)) (z := (⟨s2_, "dequeue", s12_⟩ : MethodName)) hown (mvT hZ (own_w hw 98 rfl)) (mvT hZ (own_w hw 99 rfl)) (notFace_of_selects (args := #[]) (mvT hZ (own_w hw 101 rfl))) (mvT hZ (own_w hw 101 rfl)) (mvT hZ (own_w hw 100 rfl)) (by decide) (backOf (W := 0) (rm_deq_0_0_0_2_w1_w2_w20 l Z a0 hw [] ob6 q_21 d1_21 a1_21 kk1_21 d2_21 a2_21 kk2_21 ob9 ob12 T54.heap n0 O55 g54_0 fc57 fc76 fc77 g54_1 g54_2 g54_3 g54_4 g54_5 g54_6 g54_7 g54_8 g54_9 g54_10 g54_11 g54_12 g54_13 (by first | assumption | omega | decide) (by first | assumption | omega | decide) (own_ne (by omega)) (own_ne (by omega)) r21_0 r21_1 r21_2 r21_3 r21_4 r21_5 r21_6 (own_ne (by omega))) hZ (own_w hw 102 rfl) (own_w hw 2 rfl) (by decide) (by decide)) q78a q78c (g := (mkF m 196 #[.val (.long q1), .second, .val (.int f1), .val (.int (0 : Int32)), .val (.int (0 : Int32)), .val (.int tw), .val (.int sf), .val (.int ag), .val (.ref ob6), .val (.ref ob9), .val (.ref ob12), .val (.int (1 : Int32))] [(.ref ob12), (.ref ob6)])) rfl (by rw [hml]; rfl) (Steps.refl _) (argsL := [(.ref ob12)]) (rest := []) (lenOf own_pd__28Lcom_2fexample_2fadmit1_2fadmit1_2flock_2fWait_3b_29V rfl) rfl (by show 2 * 0 + _ ≤ _; exact Nat.le_of_eq rfl) (hb hby at_196) (fun _ _ => ⟨rfl, K56, (by decide : 9 + 0 ≤ _), (by decide : 70 + 0 ≤ _)⟩)
                    dsimp only [Pt.U, Pt.locs, Pt.cells, Pt.slots] at X78 l78 y78 z78 st78 hQ78
                    subst l78 y78 z78
                    obtain ⟨rfl, M78, K78, g78_0, g78_1, g78_2, g78_3, g78_4, g78_5, g78_6, g78_7, g78_8, g78_9, g78_10, g78_11, g78_12, g78_13⟩ := hQ78
                    have N78 := Fr.app N56 M78
                    refine own_by (fun _ k => st78.trans k) ?_
                    have z78 := K78.1
                    have lt_g78_0 : T78.heap.size > ob6 := g78_0.lt
                    have lt_g78_1 : T78.heap.size > q_21 := g78_1.lt
                    have lt_g78_2 : T78.heap.size > q_21 := g78_2.lt
                    have lt_g78_3 : T78.heap.size > q_21 := g78_3.lt
                    have lt_g78_4 : T78.heap.size > d1_21 := g78_4.lt
                    have lt_g78_5 : T78.heap.size > d1_21 := g78_5.lt
                    have lt_g78_6 : T78.heap.size > d1_21 := g78_6.lt
                    have lt_g78_7 : T78.heap.size > d1_21 := g78_7.lt
                    have lt_g78_8 : T78.heap.size > a1_21 := g78_8.lt
                    have lt_g78_9 : T78.heap.size > d2_21 := g78_9.lt
                    have lt_g78_10 : T78.heap.size > d2_21 := g78_10.lt
                    have lt_g78_11 : T78.heap.size > d2_21 := g78_11.lt
                    have lt_g78_12 : T78.heap.size > d2_21 := g78_12.lt
                    have lt_g78_13 : T78.heap.size > a2_21 := g78_13.lt
                    refine own_by (fun _ k => XS.iload X78.here hx rfl (hb hby at_199) rfl k) ?_
                    refine own_by (fun _ k => XS.ifNo X78.here hx rfl (hb hby at_201) rfl ((if0 _ _).trans (feq (by decide : ¬ ((1 : Int32) = (0 : Int32)))).1) k) ?_
                    show own_Go p e below (T78.setTop (mkF m 204 #[.val (.long q1), .second, .val (.int f1), .val (.int (0 : Int32)), .val (.int (0 : Int32)), .val (.int tw), .val (.int sf), .val (.int ag), .val (.ref ob6), .val (.ref ob9), .val (.ref ob12), .val (.int (1 : Int32))] [])) _
                    refine own_by (fun _ k => XS.aload X78.here hx rfl (hb hby at_204) rfl rfl k) ?_
                    have O79 : Old Z n0 T78.heap := (O55.keep K78 (allS (by omega) (allS (by omega) (allS (by omega) all0))))
                    have fc81 : Exa Z T78.heap ob6 s2_ := (fc57.keep K78)
                    obtain ⟨cq80, kq80, q80a, q80b, q80c⟩ := isOf hZ rfl fc81
                    obtain ⟨_, _, ⟨T80, L80, k80, n80⟩, -, X80, ⟨Lc80, hQ80, l80, y80, z80⟩, st80⟩ := X78.virtualBack hx (y := (⟨s2_, "hasWaiting", "()Z"⟩ : MethodName)) (z := (⟨s2_, "hasWaiting", "()Z"⟩ : MethodName)) hown (mvT hZ (own_w hw 39 rfl)) (mvT hZ (own_w hw 40 rfl)) (notFace_of_selects (args := #[]) (mvT hZ (own_w hw 42 rfl))) (mvT hZ (own_w hw 42 rfl)) (mvT hZ (own_w hw 41 rfl)) (by decide) (backOf (W := 0) (rm_hw1 l Z a0 hw [] ob6 q_21 T78.heap n0 O79 g78_0) hZ (own_w hw 43 rfl) (own_w hw 2 rfl) (by decide) (by decide)) q80a q80c (g := (mkF m 206 #[.val (.long q1), .second, .val (.int f1), .val (.int (0 : Int32)), .val (.int (0 : Int32)), .val (.int tw), .val (.int sf), .val (.int ag), .val (.ref ob6), .val (.ref ob9), .val (.ref ob12), .val (.int (1 : Int32))] [(.ref ob6)])) rfl (by rw [hml]; rfl) (Steps.refl _) (argsL := []) (rest := []) (lenOf own_pd__28_29Z rfl) rfl (by show 2 * 0 + _ ≤ _; exact Nat.le_of_eq rfl) (hb hby at_206) (fun _ _ => ⟨rfl, rfl, (by decide : 9 + 0 ≤ _), (by decide : 70 + 0 ≤ _)⟩)
                    dsimp only [Pt.U, Pt.locs, Pt.cells, Pt.slots] at X80 l80 y80 z80 st80 hQ80
                    subst l80 y80 z80
                    obtain ⟨rfl, M80, K80⟩ := hQ80
                    have N80 := Fr.app N78 M80
                    refine own_by (fun _ k => st80.trans k) ?_
                    refine own_by (fun _ k => XS.ifNo X80.here hx rfl (hb hby at_209) rfl ((if0 _ _).trans (feq (by decide : ¬ ((1 : Int32) = (0 : Int32)))).1) k) ?_
                    show own_Go p e below (T80.setTop (mkF m 212 #[.val (.long q1), .second, .val (.int f1), .val (.int (0 : Int32)), .val (.int (0 : Int32)), .val (.int tw), .val (.int sf), .val (.int ag), .val (.ref ob6), .val (.ref ob9), .val (.ref ob12), .val (.int (1 : Int32))] [])) _
                    refine own_by (fun _ k => XS.iconst X80.here hx rfl (hb hby at_212) k) ?_
                    refine own_by (fun _ k => XS.goto X80.here hx rfl (pc0 := 213) (pc' := 217) rfl (hb hby at_213) (by decide) (by decide) k) ?_
                    refine own_by (fun _ k => XS.istore X80.here hx rfl (hb hby at_217) rfl (l' := #[.val (.long q1), .second, .val (.int f1), .val (.int (0 : Int32)), .val (.int (0 : Int32)), .val (.int tw), .val (.int sf), .val (.int ag), .val (.ref ob6), .val (.ref ob9), .val (.ref ob12), .val (.int (1 : Int32))]) rfl k) ?_
                    refine own_by (fun _ k => XS.aload X80.here hx rfl (hb hby at_219) rfl rfl k) ?_
                    refine own_by (fun _ k => XS.aload X80.here hx rfl (hb hby at_221) rfl rfl k) ?_
                    have fc82 : Exa Z T78.heap ob9 s5_ := (((fc19.keep K21).keep K54).keep K78)
                    have fc83 : Fld Z T78.heap ob9 s5_ "conversion" "Z" (.int (0 : Int32)) := (((fc20.keep K21 (ninS (own_ne (by omega)) nin0)).keep K54 (ninS (own_ne (by omega)) (ninS (own_ne (by omega)) nin0))).keep K78 (ninS (own_ne (by omega)) (ninS (own_ne (by omega)) (ninS (own_ne (by omega)) nin0))))
                    obtain ⟨cq84, kq84, q84a, q84b, q84c⟩ := isOf hZ K80 fc81
                    obtain ⟨_, _, ⟨T84, L84, k84, n84⟩, -, X84, ⟨Lc84, hQ84, l84, y84, z84⟩, st84⟩ := X80.virtualBack hx (y := (⟨s2_, "dequeue", s12_⟩ : MethodName)) (z := (⟨s2_, "dequeue", s12_⟩ : MethodName)) hown (mvT hZ (own_w hw 98 rfl)) (mvT hZ (own_w hw 99 rfl)) (notFace_of_selects (args := #[]) (mvT hZ (own_w hw 101 rfl))) (mvT hZ (own_w hw 101 rfl)) (mvT hZ (own_w hw 100 rfl)) (by decide) (backOf (W := 0) (rm_deq_0_0_0_1_w1_w10 l Z a0 hw [] ob6 q_21 d1_21 a1_21 kk1_21 d2_21 a2_21 kk2_21 ob9 T78.heap n0 O79 g78_0 fc81 fc82 fc83 g78_1 g78_2 g78_3 g78_4 g78_5 g78_6 g78_7 g78_8 g78_9 g78_10 g78_11 g78_12 g78_13 (by first | assumption | omega | decide) (by first | assumption | omega | decide) (own_ne (by omega)) (own_ne (by omega)) r21_0 r21_1 r21_2 r21_3 r21_4 r21_5 r21_6) hZ (own_w hw 102 rfl) (own_w hw 2 rfl) (by decide) (by decide)) q84a q84c (g := (mkF m 223 #[.val (.long q1), .second, .val (.int f1), .val (.int (0 : Int32)), .val (.int (0 : Int32)), .val (.int tw), .val (.int sf), .val (.int ag), .val (.ref ob6), .val (.ref ob9), .val (.ref ob12), .val (.int (1 : Int32))] [(.ref ob9), (.ref ob6)])) rfl (by rw [hml]; rfl) (Steps.refl _) (argsL := [(.ref ob9)]) (rest := []) (lenOf own_pd__28Lcom_2fexample_2fadmit1_2fadmit1_2flock_2fWait_3b_29V rfl) rfl (by show 2 * 0 + _ ≤ _; exact Nat.le_of_eq rfl) (hb hby at_223) (fun _ _ => ⟨rfl, K80, (by decide : 9 + 0 ≤ _), (by decide : 70 + 0 ≤ _)⟩)
                    dsimp only [Pt.U, Pt.locs, Pt.cells, Pt.slots] at X84 l84 y84 z84 st84 hQ84
                    subst l84 y84 z84
                    obtain ⟨rfl, M84, K84, g84_0⟩ := hQ84
                    have N84 := Fr.app N80 M84
                    refine own_by (fun _ k => st84.trans k) ?_
                    have z84 := K84.1
                    have lt_g84_0 : T84.heap.size > ob6 := g84_0.lt
                    show own_Go p e below (T84.setTop (mkF m 226 #[.val (.long q1), .second, .val (.int f1), .val (.int (0 : Int32)), .val (.int (0 : Int32)), .val (.int tw), .val (.int sf), .val (.int ag), .val (.ref ob6), .val (.ref ob9), .val (.ref ob12), .val (.int (1 : Int32))] [])) _
                    refine own_by (fun _ k => XS.goto X84.here hx rfl (pc0 := 226) (pc' := 263) rfl (hb hby at_226) (by decide) (by decide) k) ?_
                    refine own_by (fun _ k => XS.iload X84.here hx rfl (hb hby at_263) rfl k) ?_
                    refine own_by (fun _ k => XS.ifNo X84.here hx rfl (hb hby at_265) rfl ((if0 _ _).trans (feq (by decide : ¬ ((1 : Int32) = (0 : Int32)))).1) k) ?_
                    show own_Go p e below (T84.setTop (mkF m 268 #[.val (.long q1), .second, .val (.int f1), .val (.int (0 : Int32)), .val (.int (0 : Int32)), .val (.int tw), .val (.int sf), .val (.int ag), .val (.ref ob6), .val (.ref ob9), .val (.ref ob12), .val (.int (1 : Int32))] [])) _
                    refine own_by (fun _ k => XS.aload X84.here hx rfl (hb hby at_268) rfl rfl k) ?_
                    have O85 : Old Z n0 T84.heap := (O79.keep K84 (allS (by omega) (allS (by omega) (allS (by omega) all0))))
                    have fc87 : Exa Z T84.heap ob6 s2_ := (fc81.keep K84)
                    obtain ⟨cq86, kq86, q86a, q86b, q86c⟩ := isOf hZ rfl fc87
                    obtain ⟨_, _, ⟨T86, L86, k86, n86⟩, -, X86, ⟨Lc86, hQ86, l86, y86, z86⟩, st86⟩ := X84.virtualBack hx (y := (⟨s2_, "hasWaiting", "()Z"⟩ : MethodName)) (z := (⟨s2_, "hasWaiting", "()Z"⟩ : MethodName)) hown (mvT hZ (own_w hw 39 rfl)) (mvT hZ (own_w hw 40 rfl)) (notFace_of_selects (args := #[]) (mvT hZ (own_w hw 42 rfl))) (mvT hZ (own_w hw 42 rfl)) (mvT hZ (own_w hw 41 rfl)) (by decide) (backOf (W := 0) (rm_hw0 l Z a0 hw [] ob6 T84.heap n0 O85 g84_0) hZ (own_w hw 43 rfl) (own_w hw 2 rfl) (by decide) (by decide)) q86a q86c (g := (mkF m 270 #[.val (.long q1), .second, .val (.int f1), .val (.int (0 : Int32)), .val (.int (0 : Int32)), .val (.int tw), .val (.int sf), .val (.int ag), .val (.ref ob6), .val (.ref ob9), .val (.ref ob12), .val (.int (1 : Int32))] [(.ref ob6)])) rfl (by rw [hml]; rfl) (Steps.refl _) (argsL := []) (rest := []) (lenOf own_pd__28_29Z rfl) rfl (by show 2 * 0 + _ ≤ _; exact Nat.le_of_eq rfl) (hb hby at_270) (fun _ _ => ⟨rfl, rfl, (by decide : 9 + 0 ≤ _), (by decide : 70 + 0 ≤ _)⟩)
                    dsimp only [Pt.U, Pt.locs, Pt.cells, Pt.slots] at X86 l86 y86 z86 st86 hQ86
                    subst l86 y86 z86
                    obtain ⟨rfl, M86, K86⟩ := hQ86
                    have N86 := Fr.app N84 M86
                    refine own_by (fun _ k => st86.trans k) ?_
                    refine own_by (fun _ k => XS.ifNo X86.here hx rfl (hb hby at_273) rfl ((if0 _ _).trans (teq (by decide : (0 : Int32) = (0 : Int32))).2) k) ?_
                    show own_Go p e below (T86.setTop (mkF m 276 #[.val (.long q1), .second, .val (.int f1), .val (.int (0 : Int32)), .val (.int (0 : Int32)), .val (.int tw), .val (.int sf), .val (.int ag), .val (.ref ob6), .val (.ref ob9), .val (.ref ob12), .val (.int (1 : Int32))] [])) _
                    refine own_by (fun _ k => XS.iconst X86.here hx rfl (hb hby at_276) k) ?_
                    refine own_by (fun _ k => XS.goto X86.here hx rfl (pc0 := 277) (pc' := 281) rfl (hb hby at_277) (by decide) (by decide) k) ?_
                    refine own_by (fun _ k => XS.istore X86.here hx rfl (hb hby at_281) rfl (l' := #[.val (.long q1), .second, .val (.int f1), .val (.int (0 : Int32)), .val (.int (0 : Int32)), .val (.int tw), .val (.int sf), .val (.int ag), .val (.ref ob6), .val (.ref ob9), .val (.ref ob12), .val (.int (1 : Int32))]) rfl k) ?_
                    refine own_by (fun _ k => XS.goto X86.here hx rfl (pc0 := 283) (pc' := 313) rfl (hb hby at_283) (by decide) (by decide) k) ?_
                    show own_Go p e below (T86.setTop (mkF m 313 #[.val (.long q1), .second, .val (.int f1), .val (.int (0 : Int32)), .val (.int (0 : Int32)), .val (.int tw), .val (.int sf), .val (.int ag), .val (.ref ob6), .val (.ref ob9), .val (.ref ob12), .val (.int (1 : Int32))] [])) _
                    have fc88 : Exa Z T84.heap ob9 s5_ := (fc82.keep K84)
                    have fc89 : Fld Z T84.heap ob9 s5_ "conversion" "Z" (.int (0 : Int32)) := (fc83.keep K84 (ninS (own_ne (by omega)) (ninS (own_ne (by omega)) (ninS (own_ne (by omega)) nin0))))
                    have fc90 : Exa Z T84.heap ob12 s5_ := ((fc76.keep K78).keep K84)
                    have fc91 : Fld Z T84.heap ob12 s5_ "conversion" "Z" (.int (0 : Int32)) := ((fc77.keep K78 (ninS (own_ne (by omega)) (ninS (own_ne (by omega)) (ninS (own_ne (by omega)) nin0)))).keep K84 (ninS (own_ne (by omega)) (ninS (own_ne (by omega)) (ninS (own_ne (by omega)) nin0))))
                    have K92 : Keep h0 T84.heap [] := (((((((((((Keep.refl h0 []).ext E6).trans K8 (allS (P := fun x => x ∈ [] ∨ h0.size ≤ x) (Or.inr (by omega)) all0)).ext E9).trans K11 (allS (P := fun x => x ∈ [] ∨ h0.size ≤ x) (Or.inr (by omega)) all0)).ext E12).trans K14 (allS (P := fun x => x ∈ [] ∨ h0.size ≤ x) (Or.inr (by omega)) all0)).trans K21 (allS (P := fun x => x ∈ [] ∨ h0.size ≤ x) (Or.inr (by omega)) all0)).trans K54 (allS (P := fun x => x ∈ [] ∨ h0.size ≤ x) (Or.inr (by omega)) (allS (P := fun x => x ∈ [] ∨ h0.size ≤ x) (Or.inr (by omega)) all0))).trans K78 (allS (P := fun x => x ∈ [] ∨ h0.size ≤ x) (Or.inr (by omega)) (allS (P := fun x => x ∈ [] ∨ h0.size ≤ x) (Or.inr (by omega)) (allS (P := fun x => x ∈ [] ∨ h0.size ≤ x) (Or.inr (by omega)) all0)))).trans K84 (allS (P := fun x => x ∈ [] ∨ h0.size ≤ x) (Or.inr (by omega)) (allS (P := fun x => x ∈ [] ∨ h0.size ≤ x) (Or.inr (by omega)) (allS (P := fun x => x ∈ [] ∨ h0.size ≤ x) (Or.inr (by omega)) all0))))
                    exact jn25 _ _ ⟨_, X86, N86⟩ K86 K92 fc87 g84_0 fc88 fc89 fc90 fc91
              · skip
                show own_Go p e below (Tj5.setTop (mkF m 66 #[.val (.long q1), .second, .val (.int f1), .val (.int (0 : Int32)), .val (.int (1 : Int32)), .val (.int tw), .val (.int sf), .val (.int ag), .unset, .unset, .unset, .unset] [])) _
                obtain ⟨T93, h93, X93, e93, E93, A93, D93, U93, st93⟩ := newO Xj5 hx hZ hown (own_w hw 0 rfl) (own_w hw 1 rfl) (own_w hw 2 rfl) ej5 (g := (mkF m 66 #[.val (.long q1), .second, .val (.int f1), .val (.int (0 : Int32)), .val (.int (1 : Int32)), .val (.int tw), .val (.int sf), .val (.int ag), .unset, .unset, .unset, .unset] [])) rfl (hb hby at_66) (by decide) (by decide)
                obtain ⟨ob93, g93⟩ : ∃ z, z = h0.size := ⟨_, rfl⟩
                rw [← g93] at A93 D93 U93 st93
                refine own_by st93 ?_
                have z93 := E93.1
                have lt93 : h93.size > ob93 := A93.lt
                refine own_by (fun _ k => XS.dup X93.here hx rfl (hb hby at_69) rfl rfl k) ?_
                refine own_by (fun _ k => XS.lloadN X93.here hx rfl (hb hby at_70) rfl k) ?_
                have O94 : Old Z n0 h93 := (O0.ext E93)
                obtain ⟨_, _, ⟨T95, L95, k95, n95⟩, -, X95, ⟨Lc95, hQ95, l95, y95, z95⟩, st95⟩ := X93.specialBack hx (y := (⟨s2_, "<init>", "(J)V"⟩ : MethodName)) rfl hown (mvT hZ (own_w hw 3 rfl)) (mvT hZ (own_w hw 4 rfl)) (mvT hZ (own_w hw 5 rfl)) (by decide) (backOf (W := 1) (rm_leinit l Z a0 hw [] ob93 q1 mo cm h93 n0 O94 S_MODES A_mo L_mo A93 (show Fld Z h93 ob93 s2_ "queues" s11_ .null from D93 (Or.inl (own_w hw 45 rfl)) (ty := (.object s13_)) (by decide)) (show Fld Z h93 ob93 s2_ "holdersByMode" "[I" .null from D93 (Or.inr (own_w hw 13 rfl)) (ty := (.array .int)) (by decide)) (show Fld Z h93 ob93 s2_ "id" "J" (.long (0 : Int64)) from D93 (Or.inr (own_w hw 15 rfl)) (ty := .long) (by decide)) (by first | assumption | omega | decide)) hZ (own_w hw 5 rfl) (own_w hw 2 rfl) (by decide) (by decide)) (g := (mkF m 71 #[.val (.long q1), .second, .val (.int f1), .val (.int (0 : Int32)), .val (.int (1 : Int32)), .val (.int tw), .val (.int sf), .val (.int ag), .unset, .unset, .unset, .unset] [(.long q1), (.ref ob93), (.ref ob93)])) rfl (by rw [hml]; rfl) (Steps.refl _) (a := ob93) (argsL := [(.long q1)]) (rest := [(.ref ob93)]) (lenOf own_pd__28J_29V rfl) rfl (by show 2 * 0 + _ ≤ _; exact Nat.le_of_eq rfl) (hb hby at_71) (fun _ _ => ⟨rfl, e93, (by decide : 1 + 1 ≤ _), (by decide : 6 + 6 ≤ _)⟩)
                dsimp only [Pt.U, Pt.locs, Pt.cells, Pt.slots] at X95 l95 y95 z95 st95 hQ95
                subst l95 y95 z95
                obtain ⟨rfl, M95, K95, g95_0, g95_1⟩ := hQ95
                have N95 := Fr.app Nj5 M95
                refine own_by (fun _ k => st95.trans k) ?_
                have z95 := K95.1
                have lt_g95_0 : T95.heap.size > ob93 := g95_0.lt
                have lt_g95_1 : T95.heap.size > ob93 := g95_1.lt
                refine own_by (fun _ k => XS.astore X95.here hx rfl (hb hby at_74) rfl rfl (l' := #[.val (.long q1), .second, .val (.int f1), .val (.int (0 : Int32)), .val (.int (1 : Int32)), .val (.int tw), .val (.int sf), .val (.int ag), .val (.ref ob93), .unset, .unset, .unset]) rfl k) ?_
                obtain ⟨T96, h96, X96, e96, E96, A96, D96, U96, st96⟩ := newO X95 hx hZ hown (own_w hw 16 rfl) (own_w hw 17 rfl) (own_w hw 18 rfl) rfl (g := (mkF m 76 #[.val (.long q1), .second, .val (.int f1), .val (.int (0 : Int32)), .val (.int (1 : Int32)), .val (.int tw), .val (.int sf), .val (.int ag), .val (.ref ob93), .unset, .unset, .unset] [])) rfl (hb hby at_76) (by decide) (by decide)
                obtain ⟨ob96, g96⟩ : ∃ z, z = T95.heap.size := ⟨_, rfl⟩
                rw [← g96] at A96 D96 U96 st96
                refine own_by st96 ?_
                have z96 := E96.1
                have lt96 : h96.size > ob96 := A96.lt
                show own_Go p e below (T96.setTop (mkF m 79 #[.val (.long q1), .second, .val (.int f1), .val (.int (0 : Int32)), .val (.int (1 : Int32)), .val (.int tw), .val (.int sf), .val (.int ag), .val (.ref ob93), .unset, .unset, .unset] [(.ref ob96)])) _
                refine own_by (fun _ k => XS.dup X96.here hx rfl (hb hby at_79) rfl rfl k) ?_
                refine own_by (fun _ k => XS.aconstNull X96.here hx rfl (hb hby at_80) k) ?_
                refine own_by (fun _ k => XS.aload X96.here hx rfl (hb hby at_81) rfl rfl k) ?_
                refine own_by (fun _ k => XS.aconstNull X96.here hx rfl (hb hby at_83) k) ?_
                refine own_by (fun _ k => XS.iloadN X96.here hx rfl (hb hby at_84) rfl k) ?_
                refine own_by (fun _ k => XS.iconst X96.here hx rfl (hb hby at_85) k) ?_
                show own_Go p e below (T96.setTop (mkF m 86 #[.val (.long q1), .second, .val (.int f1), .val (.int (0 : Int32)), .val (.int (1 : Int32)), .val (.int tw), .val (.int sf), .val (.int ag), .val (.ref ob93), .unset, .unset, .unset] [(.int (0 : Int32)), (.int (0 : Int32)), .null, (.ref ob93), .null, (.ref ob96), (.ref ob96)])) _
                refine own_by (fun _ k => XS.lconst X96.here hx rfl (hb hby at_86) k) ?_
                refine own_by (fun _ k => XS.lconst X96.here hx rfl (hb hby at_87) k) ?_
                refine own_by (fun _ k => XS.lconst X96.here hx rfl (hb hby at_88) k) ?_
                have O97 : Old Z n0 h96 := ((O94.keep K95 (allS (by omega) all0)).ext E96)
                obtain ⟨_, _, ⟨T98, L98, k98, n98⟩, -, X98, ⟨Lc98, hQ98, l98, y98, z98⟩, st98⟩ := X96.specialBack hx (y := (⟨s5_, "<init>", s6_⟩ : MethodName)) rfl hown (mvT hZ (own_w hw 19 rfl)) (mvT hZ (own_w hw 20 rfl)) (mvT hZ (own_w hw 21 rfl)) (by decide) (backOf (W := 1) (rm_winit0 l Z a0 hw [] ob96 ob93 (0 : Int64) h96 n0 O97 A96 (show Fld Z h96 ob96 s5_ "session" s7_ .null from D96 (Or.inr (own_w hw 24 rfl)) (ty := (.object "com/example/admit1/admit1/lock/LockSession")) (by decide)) (show Fld Z h96 ob96 s5_ "lock" s8_ .null from D96 (Or.inr (own_w hw 26 rfl)) (ty := (.object s2_)) (by decide)) (show Fld Z h96 ob96 s5_ "mode" s9_ .null from D96 (Or.inr (own_w hw 28 rfl)) (ty := (.object "com/example/admit1/admit1/lock/LockMode")) (by decide)) (show Fld Z h96 ob96 s5_ "conversion" "Z" (.int (0 : Int32)) from D96 (Or.inr (own_w hw 30 rfl)) (ty := .boolean) (by decide)) (show Fld Z h96 ob96 s5_ s10_ "Z" (.int (0 : Int32)) from D96 (Or.inr (own_w hw 32 rfl)) (ty := .boolean) (by decide)) (show Fld Z h96 ob96 s5_ "since" "J" (.long (0 : Int64)) from D96 (Or.inr (own_w hw 34 rfl)) (ty := .long) (by decide)) (show Fld Z h96 ob96 s5_ "deadline" "J" (.long (0 : Int64)) from D96 (Or.inr (own_w hw 36 rfl)) (ty := .long) (by decide)) (show Fld Z h96 ob96 s5_ "arrival" "J" (.long (0 : Int64)) from D96 (Or.inr (own_w hw 38 rfl)) (ty := .long) (by decide)) (by first | assumption | omega | decide)) hZ (own_w hw 21 rfl) (own_w hw 18 rfl) (by decide) (by decide)) (g := (mkF m 89 #[.val (.long q1), .second, .val (.int f1), .val (.int (0 : Int32)), .val (.int (1 : Int32)), .val (.int tw), .val (.int sf), .val (.int ag), .val (.ref ob93), .unset, .unset, .unset] [(.long (0 : Int64)), (.long (0 : Int64)), (.long (0 : Int64)), (.int (0 : Int32)), (.int (0 : Int32)), .null, (.ref ob93), .null, (.ref ob96), (.ref ob96)])) rfl (by rw [hml]; rfl) (Steps.refl _) (a := ob96) (argsL := [.null, (.ref ob93), .null, (.int (0 : Int32)), (.int (0 : Int32)), (.long (0 : Int64)), (.long (0 : Int64)), (.long (0 : Int64))]) (rest := [(.ref ob96)]) (lenOf own_pd__28Lcom_2fexample_2fadmit1_2fadmit1_2flock_2fLockSession_3bLcom_2fexample_2fadmit1_2fadmit1_2flock_2fLockEntry_3bLcom_2fexample_2fadmit1_2fadmit1_2flock_2fLockMode_3bZZJJJ_29V rfl) rfl (by show 2 * 0 + _ ≤ _; exact Nat.le_of_eq rfl) (hb hby at_89) (fun _ _ => ⟨rfl, e96, (by decide : 3 + 0 ≤ _), (by decide : 20 + 0 ≤ _)⟩)
                dsimp only [Pt.U, Pt.locs, Pt.cells, Pt.slots] at X98 l98 y98 z98 st98 hQ98
                subst l98 y98 z98
                obtain ⟨rfl, M98, K98, g98_0, g98_1⟩ := hQ98
                have N98 := Fr.app N95 M98
                refine own_by (fun _ k => st98.trans k) ?_
                have z98 := K98.1
                have lt_g98_0 : T98.heap.size > ob96 := g98_0.lt
                have lt_g98_1 : T98.heap.size > ob96 := g98_1.lt
                refine own_by (fun _ k => XS.astore X98.here hx rfl (hb hby at_92) rfl rfl (l' := #[.val (.long q1), .second, .val (.int f1), .val (.int (0 : Int32)), .val (.int (1 : Int32)), .val (.int tw), .val (.int sf), .val (.int ag), .val (.ref ob93), .val (.ref ob96), .unset, .unset]) rfl k) ?_
                obtain ⟨T99, h99, X99, e99, E99, A99, D99, U99, st99⟩ := newO X98 hx hZ hown (own_w hw 16 rfl) (own_w hw 17 rfl) (own_w hw 18 rfl) rfl (g := (mkF m 94 #[.val (.long q1), .second, .val (.int f1), .val (.int (0 : Int32)), .val (.int (1 : Int32)), .val (.int tw), .val (.int sf), .val (.int ag), .val (.ref ob93), .val (.ref ob96), .unset, .unset] [])) rfl (hb hby at_94) (by decide) (by decide)
                obtain ⟨ob99, g99⟩ : ∃ z, z = T98.heap.size := ⟨_, rfl⟩
                rw [← g99] at A99 D99 U99 st99
                refine own_by st99 ?_
                have z99 := E99.1
                have lt99 : h99.size > ob99 := A99.lt
                show own_Go p e below (T99.setTop (mkF m 97 #[.val (.long q1), .second, .val (.int f1), .val (.int (0 : Int32)), .val (.int (1 : Int32)), .val (.int tw), .val (.int sf), .val (.int ag), .val (.ref ob93), .val (.ref ob96), .unset, .unset] [(.ref ob99)])) _
                refine own_by (fun _ k => XS.dup X99.here hx rfl (hb hby at_97) rfl rfl k) ?_
                refine own_by (fun _ k => XS.aconstNull X99.here hx rfl (hb hby at_98) k) ?_
                refine own_by (fun _ k => XS.aload X99.here hx rfl (hb hby at_99) rfl rfl k) ?_
                refine own_by (fun _ k => XS.aconstNull X99.here hx rfl (hb hby at_101) k) ?_
                refine own_by (fun _ k => XS.iload X99.here hx rfl (hb hby at_102) rfl k) ?_
                refine own_by (fun _ k => XS.iconst X99.here hx rfl (hb hby at_104) k) ?_
                show own_Go p e below (T99.setTop (mkF m 105 #[.val (.long q1), .second, .val (.int f1), .val (.int (0 : Int32)), .val (.int (1 : Int32)), .val (.int tw), .val (.int sf), .val (.int ag), .val (.ref ob93), .val (.ref ob96), .unset, .unset] [(.int (0 : Int32)), (.int (1 : Int32)), .null, (.ref ob93), .null, (.ref ob99), (.ref ob99)])) _
                refine own_by (fun _ k => XS.lconst X99.here hx rfl (hb hby at_105) k) ?_
                refine own_by (fun _ k => XS.lconst X99.here hx rfl (hb hby at_106) k) ?_
                refine own_by (fun _ k => XS.lconst X99.here hx rfl (hb hby at_107) k) ?_
                have O100 : Old Z n0 h99 := ((O97.keep K98 (allS (by omega) all0)).ext E99)
                obtain ⟨_, _, ⟨T101, L101, k101, n101⟩, -, X101, ⟨Lc101, hQ101, l101, y101, z101⟩, st101⟩ := X99.specialBack hx (y := (⟨s5_, "<init>", s6_⟩ : MethodName)) rfl hown (mvT hZ (own_w hw 19 rfl)) (mvT hZ (own_w hw 20 rfl)) (mvT hZ (own_w hw 21 rfl)) (by decide) (backOf (W := 1) (rm_winit1 l Z a0 hw [] ob99 ob93 (1 : Int64) h99 n0 O100 A99 (show Fld Z h99 ob99 s5_ "session" s7_ .null from D99 (Or.inr (own_w hw 24 rfl)) (ty := (.object "com/example/admit1/admit1/lock/LockSession")) (by decide)) (show Fld Z h99 ob99 s5_ "lock" s8_ .null from D99 (Or.inr (own_w hw 26 rfl)) (ty := (.object s2_)) (by decide)) (show Fld Z h99 ob99 s5_ "mode" s9_ .null from D99 (Or.inr (own_w hw 28 rfl)) (ty := (.object "com/example/admit1/admit1/lock/LockMode")) (by decide)) (show Fld Z h99 ob99 s5_ "conversion" "Z" (.int (0 : Int32)) from D99 (Or.inr (own_w hw 30 rfl)) (ty := .boolean) (by decide)) (show Fld Z h99 ob99 s5_ s10_ "Z" (.int (0 : Int32)) from D99 (Or.inr (own_w hw 32 rfl)) (ty := .boolean) (by decide)) (show Fld Z h99 ob99 s5_ "since" "J" (.long (0 : Int64)) from D99 (Or.inr (own_w hw 34 rfl)) (ty := .long) (by decide)) (show Fld Z h99 ob99 s5_ "deadline" "J" (.long (0 : Int64)) from D99 (Or.inr (own_w hw 36 rfl)) (ty := .long) (by decide)) (show Fld Z h99 ob99 s5_ "arrival" "J" (.long (0 : Int64)) from D99 (Or.inr (own_w hw 38 rfl)) (ty := .long) (by decide)) (by first | assumption | omega | decide)) hZ (own_w hw 21 rfl) (own_w hw 18 rfl) (by decide) (by decide)) (g := (mkF m 108 #[.val (.long q1), .second, .val (.int f1), .val (.int (0 : Int32)), .val (.int (1 : Int32)), .val (.int tw), .val (.int sf), .val (.int ag), .val (.ref ob93), .val (.ref ob96), .unset, .unset] [(.long (1 : Int64)), (.long (0 : Int64)), (.long (0 : Int64)), (.int (0 : Int32)), (.int (1 : Int32)), .null, (.ref ob93), .null, (.ref ob99), (.ref ob99)])) rfl (by rw [hml]; rfl) (Steps.refl _) (a := ob99) (argsL := [.null, (.ref ob93), .null, (.int (1 : Int32)), (.int (0 : Int32)), (.long (0 : Int64)), (.long (0 : Int64)), (.long (1 : Int64))]) (rest := [(.ref ob99)]) (lenOf own_pd__28Lcom_2fexample_2fadmit1_2fadmit1_2flock_2fLockSession_3bLcom_2fexample_2fadmit1_2fadmit1_2flock_2fLockEntry_3bLcom_2fexample_2fadmit1_2fadmit1_2flock_2fLockMode_3bZZJJJ_29V rfl) rfl (by show 2 * 0 + _ ≤ _; exact Nat.le_of_eq rfl) (hb hby at_108) (fun _ _ => ⟨rfl, e99, (by decide : 4 + 0 ≤ _), (by decide : 28 + 0 ≤ _)⟩)
                dsimp only [Pt.U, Pt.locs, Pt.cells, Pt.slots] at X101 l101 y101 z101 st101 hQ101
                subst l101 y101 z101
                obtain ⟨rfl, M101, K101, g101_0, g101_1⟩ := hQ101
                have N101 := Fr.app N98 M101
                refine own_by (fun _ k => st101.trans k) ?_
                have z101 := K101.1
                have lt_g101_0 : T101.heap.size > ob99 := g101_0.lt
                have lt_g101_1 : T101.heap.size > ob99 := g101_1.lt
                refine own_by (fun _ k => XS.astore X101.here hx rfl (hb hby at_111) rfl rfl (l' := #[.val (.long q1), .second, .val (.int f1), .val (.int (0 : Int32)), .val (.int (1 : Int32)), .val (.int tw), .val (.int sf), .val (.int ag), .val (.ref ob93), .val (.ref ob96), .val (.ref ob99), .unset]) rfl k) ?_
                refine own_by (fun _ k => XS.aload X101.here hx rfl (hb hby at_113) rfl rfl k) ?_
                show own_Go p e below (T101.setTop (mkF m 115 #[.val (.long q1), .second, .val (.int f1), .val (.int (0 : Int32)), .val (.int (1 : Int32)), .val (.int tw), .val (.int sf), .val (.int ag), .val (.ref ob93), .val (.ref ob96), .val (.ref ob99), .unset] [(.ref ob93)])) _
                have fc102 : Fld Z T101.heap ob93 s2_ "queues" s11_ .null := ((((g95_1.ext E96).keep K98 (ninS (own_ne (by omega)) nin0)).ext E99).keep K101 (ninS (own_ne (by omega)) nin0))
                have O103 : Old Z n0 T101.heap := (O100.keep K101 (allS (by omega) all0))
                have fc105 : Exa Z T101.heap ob93 s2_ := ((((g95_0.ext E96).keep K98).ext E99).keep K101)
                obtain ⟨cq104, kq104, q104a, q104b, q104c⟩ := isOf hZ rfl fc105
                obtain ⟨_, _, ⟨T104, L104, k104, n104⟩, -, X104, ⟨Lc104, hQ104, l104, y104, z104⟩, st104⟩ := X101.virtualBack hx (y := (⟨s2_, "hasWaiting", "()Z"⟩ : MethodName)) (z := (⟨s2_, "hasWaiting", "()Z"⟩ : MethodName)) hown (mvT hZ (own_w hw 39 rfl)) (mvT hZ (own_w hw 40 rfl)) (notFace_of_selects (args := #[]) (mvT hZ (own_w hw 42 rfl))) (mvT hZ (own_w hw 42 rfl)) (mvT hZ (own_w hw 41 rfl)) (by decide) (backOf (W := 0) (rm_hw0 l Z a0 hw [] ob93 T101.heap n0 O103 fc102) hZ (own_w hw 43 rfl) (own_w hw 2 rfl) (by decide) (by decide)) q104a q104c (g := (mkF m 115 #[.val (.long q1), .second, .val (.int f1), .val (.int (0 : Int32)), .val (.int (1 : Int32)), .val (.int tw), .val (.int sf), .val (.int ag), .val (.ref ob93), .val (.ref ob96), .val (.ref ob99), .unset] [(.ref ob93)])) rfl (by rw [hml]; rfl) (Steps.refl _) (argsL := []) (rest := []) (lenOf own_pd__28_29Z rfl) rfl (by show 2 * 0 + _ ≤ _; exact Nat.le_of_eq rfl) (hb hby at_115) (fun _ _ => ⟨rfl, rfl, (by decide : 4 + 0 ≤ _), (by decide : 28 + 0 ≤ _)⟩)
                dsimp only [Pt.U, Pt.locs, Pt.cells, Pt.slots] at X104 l104 y104 z104 st104 hQ104
                subst l104 y104 z104
                obtain ⟨rfl, M104, K104⟩ := hQ104
                have N104 := Fr.app N101 M104
                refine own_by (fun _ k => st104.trans k) ?_
                refine own_by (fun _ k => XS.ifNo X104.here hx rfl (hb hby at_118) rfl ((if0 _ _).trans (teq (by decide : (0 : Int32) = (0 : Int32))).2) k) ?_
                show own_Go p e below (T104.setTop (mkF m 121 #[.val (.long q1), .second, .val (.int f1), .val (.int (0 : Int32)), .val (.int (1 : Int32)), .val (.int tw), .val (.int sf), .val (.int ag), .val (.ref ob93), .val (.ref ob96), .val (.ref ob99), .unset] [])) _
                refine own_by (fun _ k => XS.iconst X104.here hx rfl (hb hby at_121) k) ?_
                refine own_by (fun _ k => XS.goto X104.here hx rfl (pc0 := 122) (pc' := 126) rfl (hb hby at_122) (by decide) (by decide) k) ?_
                refine own_by (fun _ k => XS.istore X104.here hx rfl (hb hby at_126) rfl (l' := #[.val (.long q1), .second, .val (.int f1), .val (.int (0 : Int32)), .val (.int (1 : Int32)), .val (.int tw), .val (.int sf), .val (.int ag), .val (.ref ob93), .val (.ref ob96), .val (.ref ob99), .val (.int (1 : Int32))]) rfl k) ?_
                refine own_by (fun _ k => XS.aload X104.here hx rfl (hb hby at_128) rfl rfl k) ?_
                refine own_by (fun _ k => XS.aload X104.here hx rfl (hb hby at_130) rfl rfl k) ?_
                have fc106 : Exa Z T101.heap ob96 s5_ := ((g98_0.ext E99).keep K101)
                have fc107 : Fld Z T101.heap ob96 s5_ "conversion" "Z" (.int (0 : Int32)) := ((g98_1.ext E99).keep K101 (ninS (own_ne (by omega)) nin0))
                obtain ⟨cq108, kq108, q108a, q108b, q108c⟩ := isOf hZ K104 fc105
                obtain ⟨_, _, ⟨T108, L108, k108, n108⟩, -, X108, ⟨Lc108, hQ108, l108, y108, z108⟩, st108⟩ := X104.virtualBack hx (y := (⟨s2_, "enqueue", s12_⟩ : MethodName)) (z := (⟨s2_, "enqueue", s12_⟩ : MethodName)) hown (mvT hZ (own_w hw 46 rfl)) (mvT hZ (own_w hw 47 rfl)) (notFace_of_selects (args := #[]) (mvT hZ (own_w hw 49 rfl))) (mvT hZ (own_w hw 49 rfl)) (mvT hZ (own_w hw 48 rfl)) (by decide) (backOf (W := 0) (rm_enq_None_w10 l Z a0 hw [] ob93 ob96 T101.heap n0 O103 fc102 fc105 fc106 fc107 (by first | assumption | omega | decide) (by first | assumption | omega | decide)) hZ (own_w hw 50 rfl) (own_w hw 2 rfl) (by decide) (by decide)) q108a q108c (g := (mkF m 132 #[.val (.long q1), .second, .val (.int f1), .val (.int (0 : Int32)), .val (.int (1 : Int32)), .val (.int tw), .val (.int sf), .val (.int ag), .val (.ref ob93), .val (.ref ob96), .val (.ref ob99), .val (.int (1 : Int32))] [(.ref ob96), (.ref ob93)])) rfl (by rw [hml]; rfl) (Steps.refl _) (argsL := [(.ref ob96)]) (rest := []) (lenOf own_pd__28Lcom_2fexample_2fadmit1_2fadmit1_2flock_2fWait_3b_29V rfl) rfl (by show 2 * 0 + _ ≤ _; exact Nat.le_of_eq rfl) (hb hby at_132) (fun _ _ => ⟨rfl, K104, (by decide : 4 + 5 ≤ _), (by decide : 28 + 42 ≤ _)⟩)
                dsimp only [Pt.U, Pt.locs, Pt.cells, Pt.slots] at X108 l108 y108 z108 st108 hQ108
                subst l108 y108 z108
                obtain ⟨q_108, d1_108, a1_108, kk1_108, d2_108, a2_108, kk2_108, rfl, M108, K108, g108_0, g108_1, g108_2, g108_3, g108_4, g108_5, g108_6, g108_7, g108_8, g108_9, g108_10, g108_11, g108_12, g108_13, r108_0, r108_1, r108_2, r108_3, r108_4, r108_5, r108_6, r108_7⟩ := hQ108
                have N108 := Fr.app N104 M108
                refine own_by (fun _ k => st108.trans k) ?_
                have z108 := K108.1
                have lt_g108_0 : T108.heap.size > ob93 := g108_0.lt
                have lt_g108_1 : T108.heap.size > q_108 := g108_1.lt
                have lt_g108_2 : T108.heap.size > q_108 := g108_2.lt
                have lt_g108_3 : T108.heap.size > q_108 := g108_3.lt
                have lt_g108_4 : T108.heap.size > d1_108 := g108_4.lt
                have lt_g108_5 : T108.heap.size > d1_108 := g108_5.lt
                have lt_g108_6 : T108.heap.size > d1_108 := g108_6.lt
                have lt_g108_7 : T108.heap.size > d1_108 := g108_7.lt
                have lt_g108_8 : T108.heap.size > a1_108 := g108_8.lt
                have lt_g108_9 : T108.heap.size > d2_108 := g108_9.lt
                have lt_g108_10 : T108.heap.size > d2_108 := g108_10.lt
                have lt_g108_11 : T108.heap.size > d2_108 := g108_11.lt
                have lt_g108_12 : T108.heap.size > d2_108 := g108_12.lt
                have lt_g108_13 : T108.heap.size > a2_108 := g108_13.lt
                show own_Go p e below (T108.setTop (mkF m 135 #[.val (.long q1), .second, .val (.int f1), .val (.int (0 : Int32)), .val (.int (1 : Int32)), .val (.int tw), .val (.int sf), .val (.int ag), .val (.ref ob93), .val (.ref ob96), .val (.ref ob99), .val (.int (1 : Int32))] [])) _
                refine own_by (fun _ k => XS.iload X108.here hx rfl (hb hby at_135) rfl k) ?_
                refine own_by (fun _ k => XS.ifNo X108.here hx rfl (hb hby at_137) rfl ((if0 _ _).trans (feq (by decide : ¬ ((1 : Int32) = (0 : Int32)))).1) k) ?_
                show own_Go p e below (T108.setTop (mkF m 140 #[.val (.long q1), .second, .val (.int f1), .val (.int (0 : Int32)), .val (.int (1 : Int32)), .val (.int tw), .val (.int sf), .val (.int ag), .val (.ref ob93), .val (.ref ob96), .val (.ref ob99), .val (.int (1 : Int32))] [])) _
                refine own_by (fun _ k => XS.aload X108.here hx rfl (hb hby at_140) rfl rfl k) ?_
                have O109 : Old Z n0 T108.heap := (O103.keep K108 (allS (by omega) all0))
                have fc111 : Exa Z T108.heap ob93 s2_ := (fc105.keep K108)
                obtain ⟨cq110, kq110, q110a, q110b, q110c⟩ := isOf hZ rfl fc111
                obtain ⟨_, _, ⟨T110, L110, k110, n110⟩, -, X110, ⟨Lc110, hQ110, l110, y110, z110⟩, st110⟩ := X108.virtualBack hx (y := (⟨s2_, "hasWaiting", "()Z"⟩ : MethodName)) (z := (⟨s2_, "hasWaiting", "()Z"⟩ : MethodName)) hown (mvT hZ (own_w hw 39 rfl)) (mvT hZ (own_w hw 40 rfl)) (notFace_of_selects (args := #[]) (mvT hZ (own_w hw 42 rfl))) (mvT hZ (own_w hw 42 rfl)) (mvT hZ (own_w hw 41 rfl)) (by decide) (backOf (W := 0) (rm_hw1 l Z a0 hw [] ob93 q_108 T108.heap n0 O109 g108_0) hZ (own_w hw 43 rfl) (own_w hw 2 rfl) (by decide) (by decide)) q110a q110c (g := (mkF m 142 #[.val (.long q1), .second, .val (.int f1), .val (.int (0 : Int32)), .val (.int (1 : Int32)), .val (.int tw), .val (.int sf), .val (.int ag), .val (.ref ob93), .val (.ref ob96), .val (.ref ob99), .val (.int (1 : Int32))] [(.ref ob93)])) rfl (by rw [hml]; rfl) (Steps.refl _) (argsL := []) (rest := []) (lenOf own_pd__28_29Z rfl) rfl (by show 2 * 0 + _ ≤ _; exact Nat.le_of_eq rfl) (hb hby at_142) (fun _ _ => ⟨rfl, rfl, (by decide : 9 + 0 ≤ _), (by decide : 70 + 0 ≤ _)⟩)
                dsimp only [Pt.U, Pt.locs, Pt.cells, Pt.slots] at X110 l110 y110 z110 st110 hQ110
                subst l110 y110 z110
                obtain ⟨rfl, M110, K110⟩ := hQ110
                have N110 := Fr.app N108 M110
                refine own_by (fun _ k => st110.trans k) ?_
                refine own_by (fun _ k => XS.ifNo X110.here hx rfl (hb hby at_145) rfl ((if0 _ _).trans (feq (by decide : ¬ ((1 : Int32) = (0 : Int32)))).1) k) ?_
                show own_Go p e below (T110.setTop (mkF m 148 #[.val (.long q1), .second, .val (.int f1), .val (.int (0 : Int32)), .val (.int (1 : Int32)), .val (.int tw), .val (.int sf), .val (.int ag), .val (.ref ob93), .val (.ref ob96), .val (.ref ob99), .val (.int (1 : Int32))] [])) _
                refine own_by (fun _ k => XS.iconst X110.here hx rfl (hb hby at_148) k) ?_
                refine own_by (fun _ k => XS.goto X110.here hx rfl (pc0 := 149) (pc' := 153) rfl (hb hby at_149) (by decide) (by decide) k) ?_
                refine own_by (fun _ k => XS.istore X110.here hx rfl (hb hby at_153) rfl (l' := #[.val (.long q1), .second, .val (.int f1), .val (.int (0 : Int32)), .val (.int (1 : Int32)), .val (.int tw), .val (.int sf), .val (.int ag), .val (.ref ob93), .val (.ref ob96), .val (.ref ob99), .val (.int (1 : Int32))]) rfl k) ?_
                show own_Go p e below (T110.setTop (mkF m 155 #[.val (.long q1), .second, .val (.int f1), .val (.int (0 : Int32)), .val (.int (1 : Int32)), .val (.int tw), .val (.int sf), .val (.int ag), .val (.ref ob93), .val (.ref ob96), .val (.ref ob99), .val (.int (1 : Int32))] [])) _
                have jn112 : ∀ (Tj112 : State) (Hj112 : Heap), (∃ lc, Stand p l e room_1 s m #[(.long q1), (.int f1)] below meth c Tj112 lc 9 70 ∧ Fr n0 lc) → Tj112.heap = Hj112 → (Keep h0 Hj112 []) → (Exa Z Hj112 ob93 s2_) → (Fld Z Hj112 ob93 s2_ "queues" s11_ .null) → (Exa Z Hj112 ob96 s5_) → (Fld Z Hj112 ob96 s5_ "conversion" "Z" (.int (0 : Int32))) → (Exa Z Hj112 ob99 s5_) → (Fld Z Hj112 ob99 s5_ "conversion" "Z" (.int (1 : Int32))) → own_Go p e below (Tj112.setTop (mkF m 313 #[.val (.long q1), .second, .val (.int f1), .val (.int (0 : Int32)), .val (.int (1 : Int32)), .val (.int tw), .val (.int sf), .val (.int ag), .val (.ref ob93), .val (.ref ob96), .val (.ref ob99), .val (.int (1 : Int32))] [])) (fun t o => ∃ v L, o = .returned v ∧ Q_rm_law Z q1 f1 mo cm h0 n0 v t.heap L ∧ FrameEnd s o t L room_1.cells room_1.slots) := by
                  rintro Tj112 Hj112 ⟨lc112, Xj112, Nj112⟩ ej112 Kj112 fj112_0 fj112_1 fj112_2 fj112_3 fj112_4 fj112_5
                  have zj112 := Kj112.1
                  have lt_fj112_0 : Hj112.size > ob93 := fj112_0.lt
                  have lt_fj112_1 : Hj112.size > ob93 := fj112_1.lt
                  have lt_fj112_2 : Hj112.size > ob96 := fj112_2.lt
                  have lt_fj112_3 : Hj112.size > ob96 := fj112_3.lt
                  have lt_fj112_4 : Hj112.size > ob99 := fj112_4.lt
                  have lt_fj112_5 : Hj112.size > ob99 := fj112_5.lt
                  refine own_by (fun _ k => XS.iload Xj112.here hx rfl (hb hby at_313) rfl k) ?_
                  by_cases hc113 : ag = (0 : Int32)
                  · skip
                    refine own_by (fun _ k => XS.ifYes Xj112.here hx rfl (pc0 := 315) (pc' := 372) rfl (hb hby at_315) rfl ((if0 _ _).trans (teq hc113).1) (by decide) (by decide) k) ?_
                    show own_Go p e below (Tj112.setTop (mkF m 372 #[.val (.long q1), .second, .val (.int f1), .val (.int (0 : Int32)), .val (.int (1 : Int32)), .val (.int tw), .val (.int sf), .val (.int ag), .val (.ref ob93), .val (.ref ob96), .val (.ref ob99), .val (.int (1 : Int32))] [])) _
                    refine own_by (fun _ k => XS.iload Xj112.here hx rfl (hb hby at_372) rfl k) ?_
                    have K114 : Keep h0 Hj112 [] := ((Keep.refl h0 []).trans Kj112 all0)
                    obtain ⟨fs, hr, hrun, hended, hW, hsame⟩ := Xj112.leave (v := some (.int (1 : Int32))) (fun h => by rw [Bd.returns] at h; cases h)
                    refine ⟨_, _, retN Xj112 hx (t := .boolean) Bd.returns (by simp) (hb hby at_374) hr, hrun, hended, _, _, rfl, ?_, ⟨_, rfl⟩, hW, hsame.mono (by decide) (by decide)⟩
                    show Q_rm_law Z q1 f1 mo cm h0 n0 _ Tj112.heap _
                    rw [ej112]
                    exact ⟨rfl, Nj112, K114⟩
                  · skip
                    refine own_by (fun _ k => XS.ifNo Xj112.here hx rfl (hb hby at_315) rfl ((if0 _ _).trans (feq hc113).1) k) ?_
                    show own_Go p e below (Tj112.setTop (mkF m 318 #[.val (.long q1), .second, .val (.int f1), .val (.int (0 : Int32)), .val (.int (1 : Int32)), .val (.int tw), .val (.int sf), .val (.int ag), .val (.ref ob93), .val (.ref ob96), .val (.ref ob99), .val (.int (1 : Int32))] [])) _
                    refine own_by (fun _ k => XS.aload Xj112.here hx rfl (hb hby at_318) rfl rfl k) ?_
                    refine own_by (fun _ k => XS.aload Xj112.here hx rfl (hb hby at_320) rfl rfl k) ?_
                    have O115 : Old Z n0 Hj112 := (O0.keep Kj112 all0)
                    obtain ⟨cq116, kq116, q116a, q116b, q116c⟩ := isOf hZ ej112 fj112_0
                    obtain ⟨_, _, ⟨T116, L116, k116, n116⟩, -, X116, ⟨Lc116, hQ116, l116, y116, z116⟩, st116⟩ := Xj112.virtualBack hx (y := (⟨s2_, "enqueue", s12_⟩ : MethodName)) (z := (⟨s2_, "enqueue", s12_⟩ : MethodName)) hown (mvT hZ (own_w hw 46 rfl)) (mvT hZ (own_w hw 47 rfl)) (notFace_of_selects (args := #[]) (mvT hZ (own_w hw 49 rfl))) (mvT hZ (own_w hw 49 rfl)) (mvT hZ (own_w hw 48 rfl)) (by decide) (backOf (W := 0) (rm_enq_None_w11 l Z a0 hw [] ob93 ob99 Hj112 n0 O115 fj112_1 fj112_0 fj112_4 fj112_5 (by first | assumption | omega | decide) (by first | assumption | omega | decide)) hZ (own_w hw 50 rfl) (own_w hw 2 rfl) (by decide) (by decide)) q116a q116c (g := (mkF m 322 #[.val (.long q1), .second, .val (.int f1), .val (.int (0 : Int32)), .val (.int (1 : Int32)), .val (.int tw), .val (.int sf), .val (.int ag), .val (.ref ob93), .val (.ref ob96), .val (.ref ob99), .val (.int (1 : Int32))] [(.ref ob99), (.ref ob93)])) rfl (by rw [hml]; rfl) (Steps.refl _) (argsL := [(.ref ob99)]) (rest := []) (lenOf own_pd__28Lcom_2fexample_2fadmit1_2fadmit1_2flock_2fWait_3b_29V rfl) rfl (by show 2 * 0 + _ ≤ _; exact Nat.le_of_eq rfl) (hb hby at_322) (fun _ _ => ⟨rfl, ej112, (by decide : 9 + 5 ≤ _), (by decide : 70 + 42 ≤ _)⟩)
                    dsimp only [Pt.U, Pt.locs, Pt.cells, Pt.slots] at X116 l116 y116 z116 st116 hQ116
                    subst l116 y116 z116
                    obtain ⟨q_116, d1_116, a1_116, kk1_116, d2_116, a2_116, kk2_116, rfl, M116, K116, g116_0, g116_1, g116_2, g116_3, g116_4, g116_5, g116_6, g116_7, g116_8, g116_9, g116_10, g116_11, g116_12, g116_13, r116_0, r116_1, r116_2, r116_3, r116_4, r116_5, r116_6, r116_7⟩ := hQ116
                    have N116 := Fr.app Nj112 M116
                    refine own_by (fun _ k => st116.trans k) ?_
                    have z116 := K116.1
                    have lt_g116_0 : T116.heap.size > ob93 := g116_0.lt
                    have lt_g116_1 : T116.heap.size > q_116 := g116_1.lt
                    have lt_g116_2 : T116.heap.size > q_116 := g116_2.lt
                    have lt_g116_3 : T116.heap.size > q_116 := g116_3.lt
                    have lt_g116_4 : T116.heap.size > d1_116 := g116_4.lt
                    have lt_g116_5 : T116.heap.size > d1_116 := g116_5.lt
                    have lt_g116_6 : T116.heap.size > d1_116 := g116_6.lt
                    have lt_g116_7 : T116.heap.size > d1_116 := g116_7.lt
                    have lt_g116_8 : T116.heap.size > a1_116 := g116_8.lt
                    have lt_g116_9 : T116.heap.size > d2_116 := g116_9.lt
                    have lt_g116_10 : T116.heap.size > d2_116 := g116_10.lt
                    have lt_g116_11 : T116.heap.size > d2_116 := g116_11.lt
                    have lt_g116_12 : T116.heap.size > d2_116 := g116_12.lt
                    have lt_g116_13 : T116.heap.size > a2_116 := g116_13.lt
                    refine own_by (fun _ k => XS.iload X116.here hx rfl (hb hby at_325) rfl k) ?_
                    refine own_by (fun _ k => XS.ifNo X116.here hx rfl (hb hby at_327) rfl ((if0 _ _).trans (feq (by decide : ¬ ((1 : Int32) = (0 : Int32)))).1) k) ?_
                    show own_Go p e below (T116.setTop (mkF m 330 #[.val (.long q1), .second, .val (.int f1), .val (.int (0 : Int32)), .val (.int (1 : Int32)), .val (.int tw), .val (.int sf), .val (.int ag), .val (.ref ob93), .val (.ref ob96), .val (.ref ob99), .val (.int (1 : Int32))] [])) _
                    refine own_by (fun _ k => XS.aload X116.here hx rfl (hb hby at_330) rfl rfl k) ?_
                    have O117 : Old Z n0 T116.heap := (O115.keep K116 (allS (by omega) all0))
                    have fc119 : Exa Z T116.heap ob93 s2_ := (fj112_0.keep K116)
                    obtain ⟨cq118, kq118, q118a, q118b, q118c⟩ := isOf hZ rfl fc119
                    obtain ⟨_, _, ⟨T118, L118, k118, n118⟩, -, X118, ⟨Lc118, hQ118, l118, y118, z118⟩, st118⟩ := X116.virtualBack hx (y := (⟨s2_, "hasWaiting", "()Z"⟩ : MethodName)) (z := (⟨s2_, "hasWaiting", "()Z"⟩ : MethodName)) hown (mvT hZ (own_w hw 39 rfl)) (mvT hZ (own_w hw 40 rfl)) (notFace_of_selects (args := #[]) (mvT hZ (own_w hw 42 rfl))) (mvT hZ (own_w hw 42 rfl)) (mvT hZ (own_w hw 41 rfl)) (by decide) (backOf (W := 0) (rm_hw1 l Z a0 hw [] ob93 q_116 T116.heap n0 O117 g116_0) hZ (own_w hw 43 rfl) (own_w hw 2 rfl) (by decide) (by decide)) q118a q118c (g := (mkF m 332 #[.val (.long q1), .second, .val (.int f1), .val (.int (0 : Int32)), .val (.int (1 : Int32)), .val (.int tw), .val (.int sf), .val (.int ag), .val (.ref ob93), .val (.ref ob96), .val (.ref ob99), .val (.int (1 : Int32))] [(.ref ob93)])) rfl (by rw [hml]; rfl) (Steps.refl _) (argsL := []) (rest := []) (lenOf own_pd__28_29Z rfl) rfl (by show 2 * 0 + _ ≤ _; exact Nat.le_of_eq rfl) (hb hby at_332) (fun _ _ => ⟨rfl, rfl, (by decide : 14 + 0 ≤ _), (by decide : 112 + 0 ≤ _)⟩)
                    dsimp only [Pt.U, Pt.locs, Pt.cells, Pt.slots] at X118 l118 y118 z118 st118 hQ118
                    subst l118 y118 z118
                    obtain ⟨rfl, M118, K118⟩ := hQ118
                    have N118 := Fr.app N116 M118
                    refine own_by (fun _ k => st118.trans k) ?_
                    refine own_by (fun _ k => XS.ifNo X118.here hx rfl (hb hby at_335) rfl ((if0 _ _).trans (feq (by decide : ¬ ((1 : Int32) = (0 : Int32)))).1) k) ?_
                    show own_Go p e below (T118.setTop (mkF m 338 #[.val (.long q1), .second, .val (.int f1), .val (.int (0 : Int32)), .val (.int (1 : Int32)), .val (.int tw), .val (.int sf), .val (.int ag), .val (.ref ob93), .val (.ref ob96), .val (.ref ob99), .val (.int (1 : Int32))] [])) _
                    refine own_by (fun _ k => XS.iconst X118.here hx rfl (hb hby at_338) k) ?_
                    refine own_by (fun _ k => XS.goto X118.here hx rfl (pc0 := 339) (pc' := 343) rfl (hb hby at_339) (by decide) (by decide) k) ?_
                    refine own_by (fun _ k => XS.istore X118.here hx rfl (hb hby at_343) rfl (l' := #[.val (.long q1), .second, .val (.int f1), .val (.int (0 : Int32)), .val (.int (1 : Int32)), .val (.int tw), .val (.int sf), .val (.int ag), .val (.ref ob93), .val (.ref ob96), .val (.ref ob99), .val (.int (1 : Int32))]) rfl k) ?_
                    refine own_by (fun _ k => XS.aload X118.here hx rfl (hb hby at_345) rfl rfl k) ?_
                    refine own_by (fun _ k => XS.aload X118.here hx rfl (hb hby at_347) rfl rfl k) ?_
                    have fc120 : Exa Z T116.heap ob99 s5_ := (fj112_4.keep K116)
                    have fc121 : Fld Z T116.heap ob99 s5_ "conversion" "Z" (.int (1 : Int32)) := (fj112_5.keep K116 (ninS (own_ne (by omega)) nin0))
                    obtain ⟨cq122, kq122, q122a, q122b, q122c⟩ := isOf hZ K118 fc119
                    obtain ⟨_, _, ⟨T122, L122, k122, n122⟩, -, X122, ⟨Lc122, hQ122, l122, y122, z122⟩, st122⟩ := X118.virtualBack hx (y := (⟨s2_, "dequeue", s12_⟩ : MethodName)) (z := (⟨s2_, "dequeue", s12_⟩ : MethodName)) hown (mvT hZ (own_w hw 98 rfl)) (mvT hZ (own_w hw 99 rfl)) (notFace_of_selects (args := #[]) (mvT hZ (own_w hw 101 rfl))) (mvT hZ (own_w hw 101 rfl)) (mvT hZ (own_w hw 100 rfl)) (by decide) (backOf (W := 0) (rm_deq_0_1_w1_0_0_w11 l Z a0 hw [] ob93 q_116 d1_116 a1_116 kk1_116 d2_116 a2_116 kk2_116 ob99 T116.heap n0 O117 g116_0 fc119 fc120 fc121 g116_1 g116_2 g116_3 g116_4 g116_5 g116_6 g116_7 g116_8 g116_9 g116_10 g116_11 g116_12 g116_13 (by first | assumption | omega | decide) (by first | assumption | omega | decide) (own_ne (by omega)) (own_ne (by omega)) r116_0 r116_1 r116_2 r116_3 r116_4 r116_5 r116_6) hZ (own_w hw 102 rfl) (own_w hw 2 rfl) (by decide) (by decide)) q122a q122c (g := (mkF m 349 #[.val (.long q1), .second, .val (.int f1), .val (.int (0 : Int32)), .val (.int (1 : Int32)), .val (.int tw), .val (.int sf), .val (.int ag), .val (.ref ob93), .val (.ref ob96), .val (.ref ob99), .val (.int (1 : Int32))] [(.ref ob99), (.ref ob93)])) rfl (by rw [hml]; rfl) (Steps.refl _) (argsL := [(.ref ob99)]) (rest := []) (lenOf own_pd__28Lcom_2fexample_2fadmit1_2fadmit1_2flock_2fWait_3b_29V rfl) rfl (by show 2 * 0 + _ ≤ _; exact Nat.le_of_eq rfl) (hb hby at_349) (fun _ _ => ⟨rfl, K118, (by decide : 14 + 0 ≤ _), (by decide : 112 + 0 ≤ _)⟩)
                    dsimp only [Pt.U, Pt.locs, Pt.cells, Pt.slots] at X122 l122 y122 z122 st122 hQ122
                    subst l122 y122 z122
                    obtain ⟨rfl, M122, K122, g122_0⟩ := hQ122
                    have N122 := Fr.app N118 M122
                    refine own_by (fun _ k => st122.trans k) ?_
                    have z122 := K122.1
                    have lt_g122_0 : T122.heap.size > ob93 := g122_0.lt
                    show own_Go p e below (T122.setTop (mkF m 352 #[.val (.long q1), .second, .val (.int f1), .val (.int (0 : Int32)), .val (.int (1 : Int32)), .val (.int tw), .val (.int sf), .val (.int ag), .val (.ref ob93), .val (.ref ob96), .val (.ref ob99), .val (.int (1 : Int32))] [])) _
                    refine own_by (fun _ k => XS.iload X122.here hx rfl (hb hby at_352) rfl k) ?_
                    refine own_by (fun _ k => XS.ifNo X122.here hx rfl (hb hby at_354) rfl ((if0 _ _).trans (feq (by decide : ¬ ((1 : Int32) = (0 : Int32)))).1) k) ?_
                    show own_Go p e below (T122.setTop (mkF m 357 #[.val (.long q1), .second, .val (.int f1), .val (.int (0 : Int32)), .val (.int (1 : Int32)), .val (.int tw), .val (.int sf), .val (.int ag), .val (.ref ob93), .val (.ref ob96), .val (.ref ob99), .val (.int (1 : Int32))] [])) _
                    refine own_by (fun _ k => XS.aload X122.here hx rfl (hb hby at_357) rfl rfl k) ?_
                    have O123 : Old Z n0 T122.heap := (O117.keep K122 (allS (by omega) (allS (by omega) (allS (by omega) all0))))
                    have fc125 : Exa Z T122.heap ob93 s2_ := (fc119.keep K122)
                    obtain ⟨cq124, kq124, q124a, q124b, q124c⟩ := isOf hZ rfl fc125
                    obtain ⟨_, _, ⟨T124, L124, k124, n124⟩, -, X124, ⟨Lc124, hQ124, l124, y124, z124⟩, st124⟩ := X122.virtualBack hx (y := (⟨s2_, "hasWaiting", "()Z"⟩ : MethodName)) (z := (⟨s2_, "hasWaiting", "()Z"⟩ : MethodName)) hown (mvT hZ (own_w hw 39 rfl)) (mvT hZ (own_w hw 40 rfl)) (notFace_of_selects (args := #[]) (mvT hZ (own_w hw 42 rfl))) (mvT hZ (own_w hw 42 rfl)) (mvT hZ (own_w hw 41 rfl)) (by decide) (backOf (W := 0) (rm_hw0 l Z a0 hw [] ob93 T122.heap n0 O123 g122_0) hZ (own_w hw 43 rfl) (own_w hw 2 rfl) (by decide) (by decide)) q124a q124c (g := (mkF m 359 #[.val (.long q1), .second, .val (.int f1), .val (.int (0 : Int32)), .val (.int (1 : Int32)), .val (.int tw), .val (.int sf), .val (.int ag), .val (.ref ob93), .val (.ref ob96), .val (.ref ob99), .val (.int (1 : Int32))] [(.ref ob93)])) rfl (by rw [hml]; rfl) (Steps.refl _) (argsL := []) (rest := []) (lenOf own_pd__28_29Z rfl) rfl (by show 2 * 0 + _ ≤ _; exact Nat.le_of_eq rfl) (hb hby at_359) (fun _ _ => ⟨rfl, rfl, (by decide : 14 + 0 ≤ _), (by decide : 112 + 0 ≤ _)⟩)
                    dsimp only [Pt.U, Pt.locs, Pt.cells, Pt.slots] at X124 l124 y124 z124 st124 hQ124
                    subst l124 y124 z124
                    obtain ⟨rfl, M124, K124⟩ := hQ124
                    have N124 := Fr.app N122 M124
                    refine own_by (fun _ k => st124.trans k) ?_
                    refine own_by (fun _ k => XS.ifNo X124.here hx rfl (hb hby at_362) rfl ((if0 _ _).trans (teq (by decide : (0 : Int32) = (0 : Int32))).2) k) ?_
                    show own_Go p e below (T124.setTop (mkF m 365 #[.val (.long q1), .second, .val (.int f1), .val (.int (0 : Int32)), .val (.int (1 : Int32)), .val (.int tw), .val (.int sf), .val (.int ag), .val (.ref ob93), .val (.ref ob96), .val (.ref ob99), .val (.int (1 : Int32))] [])) _
                    refine own_by (fun _ k => XS.iconst X124.here hx rfl (hb hby at_365) k) ?_
                    refine own_by (fun _ k => XS.goto X124.here hx rfl (pc0 := 366) (pc' := 370) rfl (hb hby at_366) (by decide) (by decide) k) ?_
                    refine own_by (fun _ k => XS.istore X124.here hx rfl (hb hby at_370) rfl (l' := #[.val (.long q1), .second, .val (.int f1), .val (.int (0 : Int32)), .val (.int (1 : Int32)), .val (.int tw), .val (.int sf), .val (.int ag), .val (.ref ob93), .val (.ref ob96), .val (.ref ob99), .val (.int (1 : Int32))]) rfl k) ?_
                    refine own_by (fun _ k => XS.iload X124.here hx rfl (hb hby at_372) rfl k) ?_
                    have K126 : Keep h0 T122.heap [] := ((((Keep.refl h0 []).trans Kj112 all0).trans K116 (allS (P := fun x => x ∈ [] ∨ h0.size ≤ x) (Or.inr (by omega)) all0)).trans K122 (allS (P := fun x => x ∈ [] ∨ h0.size ≤ x) (Or.inr (by omega)) (allS (P := fun x => x ∈ [] ∨ h0.size ≤ x) (Or.inr (by omega)) (allS (P := fun x => x ∈ [] ∨ h0.size ≤ x) (Or.inr (by omega)) all0))))
                    obtain ⟨fs, hr, hrun, hended, hW, hsame⟩ := X124.leave (v := some (.int (1 : Int32))) (fun h => by rw [Bd.returns] at h; cases h)
                    refine ⟨_, _, retN X124 hx (t := .boolean) Bd.returns (by simp) (hb hby at_374) hr, hrun, hended, _, _, rfl, ?_, ⟨_, rfl⟩, hW, hsame.mono (by decide) (by decide)⟩
                    show Q_rm_law Z q1 f1 mo cm h0 n0 _ T124.heap _
                    rw [K124]
                    exact ⟨rfl, N124, K126⟩
                refine own_by (fun _ k => XS.iload X110.here hx rfl (hb hby at_155) rfl k) ?_
                by_cases hc127 : tw = (0 : Int32)
                · skip
                  refine own_by (fun _ k => XS.ifYes X110.here hx rfl (pc0 := 157) (pc' := 286) rfl (hb hby at_157) rfl ((if0 _ _).trans (teq hc127).1) (by decide) (by decide) k) ?_
                  show own_Go p e below (T110.setTop (mkF m 286 #[.val (.long q1), .second, .val (.int f1), .val (.int (0 : Int32)), .val (.int (1 : Int32)), .val (.int tw), .val (.int sf), .val (.int ag), .val (.ref ob93), .val (.ref ob96), .val (.ref ob99), .val (.int (1 : Int32))] [])) _
                  refine own_by (fun _ k => XS.aload X110.here hx rfl (hb hby at_286) rfl rfl k) ?_
                  refine own_by (fun _ k => XS.aload X110.here hx rfl (hb hby at_288) rfl rfl k) ?_
                  have fc128 : Exa Z T108.heap ob96 s5_ := (fc106.keep K108)
                  have fc129 : Fld Z T108.heap ob96 s5_ "conversion" "Z" (.int (0 : Int32)) := (fc107.keep K108 (ninS (own_ne (by omega)) nin0))
                  obtain ⟨cq130, kq130, q130a, q130b, q130c⟩ := isOf hZ K110 fc111
                  obtain ⟨_, _, ⟨T130, L130, k130, n130⟩, -, X130, ⟨Lc130, hQ130, l130, y130, z130⟩, st130⟩ := X110.virtualBack hx (y := (⟨s2_, "dequeue", s12_⟩ : MethodName)) (z := (⟨s2_, "dequeue", s12_⟩ : MethodName)) hown (mvT hZ (own_w hw 98 rfl)) (mvT hZ (own_w hw 99 rfl)) (notFace_of_selects (args := #[]) (mvT hZ (own_w hw 101 rfl))) (mvT hZ (own_w hw 101 rfl)) (mvT hZ (own_w hw 100 rfl)) (by decide) (backOf (W := 0) (rm_deq_0_0_0_1_w1_w10 l Z a0 hw [] ob93 q_108 d1_108 a1_108 kk1_108 d2_108 a2_108 kk2_108 ob96 T108.heap n0 O109 g108_0 fc111 fc128 fc129 g108_1 g108_2 g108_3 g108_4 g108_5 g108_6 g108_7 g108_8 g108_9 g108_10 g108_11 g108_12 g108_13 (by first | assumption | omega | decide) (by first | assumption | omega | decide) (own_ne (by omega)) (own_ne (by omega)) r108_0 r108_1 r108_2 r108_3 r108_4 r108_5 r108_6) hZ (own_w hw 102 rfl) (own_w hw 2 rfl) (by decide) (by decide)) q130a q130c (g := (mkF m 290 #[.val (.long q1), .second, .val (.int f1), .val (.int (0 : Int32)), .val (.int (1 : Int32)), .val (.int tw), .val (.int sf), .val (.int ag), .val (.ref ob93), .val (.ref ob96), .val (.ref ob99), .val (.int (1 : Int32))] [(.ref ob96), (.ref ob93)])) rfl (by rw [hml]; rfl) (Steps.refl _) (argsL := [(.ref ob96)]) (rest := []) (lenOf own_pd__28Lcom_2fexample_2fadmit1_2fadmit1_2flock_2fWait_3b_29V rfl) rfl (by show 2 * 0 + _ ≤ _; exact Nat.le_of_eq rfl) (hb hby at_290) (fun _ _ => ⟨rfl, K110, (by decide : 9 + 0 ≤ _), (by decide : 70 + 0 ≤ _)⟩)
                  dsimp only [Pt.U, Pt.locs, Pt.cells, Pt.slots] at X130 l130 y130 z130 st130 hQ130
                  subst l130 y130 z130
                  obtain ⟨rfl, M130, K130, g130_0⟩ := hQ130
                  have N130 := Fr.app N110 M130
                  refine own_by (fun _ k => st130.trans k) ?_
                  have z130 := K130.1
                  have lt_g130_0 : T130.heap.size > ob93 := g130_0.lt
                  refine own_by (fun _ k => XS.iload X130.here hx rfl (hb hby at_293) rfl k) ?_
                  refine own_by (fun _ k => XS.ifNo X130.here hx rfl (hb hby at_295) rfl ((if0 _ _).trans (feq (by decide : ¬ ((1 : Int32) = (0 : Int32)))).1) k) ?_
                  show own_Go p e below (T130.setTop (mkF m 298 #[.val (.long q1), .second, .val (.int f1), .val (.int (0 : Int32)), .val (.int (1 : Int32)), .val (.int tw), .val (.int sf), .val (.int ag), .val (.ref ob93), .val (.ref ob96), .val (.ref ob99), .val (.int (1 : Int32))] [])) _
                  refine own_by (fun _ k => XS.aload X130.here hx rfl (hb hby at_298) rfl rfl k) ?_
                  have O131 : Old Z n0 T130.heap := (O109.keep K130 (allS (by omega) (allS (by omega) (allS (by omega) all0))))
                  have fc133 : Exa Z T130.heap ob93 s2_ := (fc111.keep K130)
                  obtain ⟨cq132, kq132, q132a, q132b, q132c⟩ := isOf hZ rfl fc133
                  obtain ⟨_, _, ⟨T132, L132, k132, n132⟩, -, X132, ⟨Lc132, hQ132, l132, y132, z132⟩, st132⟩ := X130.virtualBack hx (y := (⟨s2_, "hasWaiting", "()Z"⟩ : MethodName)) (z := (⟨s2_, "hasWaiting", "()Z"⟩ : MethodName)) hown (mvT hZ (own_w hw 39 rfl)) (mvT hZ (own_w hw 40 rfl)) (notFace_of_selects (args := #[]) (mvT hZ (own_w hw 42 rfl))) (mvT hZ (own_w hw 42 rfl)) (mvT hZ (own_w hw 41 rfl)) (by decide) (backOf (W := 0) (rm_hw0 l Z a0 hw [] ob93 T130.heap n0 O131 g130_0) hZ (own_w hw 43 rfl) (own_w hw 2 rfl) (by decide) (by decide)) q132a q132c (g := (mkF m 300 #[.val (.long q1), .second, .val (.int f1), .val (.int (0 : Int32)), .val (.int (1 : Int32)), .val (.int tw), .val (.int sf), .val (.int ag), .val (.ref ob93), .val (.ref ob96), .val (.ref ob99), .val (.int (1 : Int32))] [(.ref ob93)])) rfl (by rw [hml]; rfl) (Steps.refl _) (argsL := []) (rest := []) (lenOf own_pd__28_29Z rfl) rfl (by show 2 * 0 + _ ≤ _; exact Nat.le_of_eq rfl) (hb hby at_300) (fun _ _ => ⟨rfl, rfl, (by decide : 9 + 0 ≤ _), (by decide : 70 + 0 ≤ _)⟩)
                  dsimp only [Pt.U, Pt.locs, Pt.cells, Pt.slots] at X132 l132 y132 z132 st132 hQ132
                  subst l132 y132 z132
                  obtain ⟨rfl, M132, K132⟩ := hQ132
                  have N132 := Fr.app N130 M132
                  refine own_by (fun _ k => st132.trans k) ?_
                  refine own_by (fun _ k => XS.ifNo X132.here hx rfl (hb hby at_303) rfl ((if0 _ _).trans (teq (by decide : (0 : Int32) = (0 : Int32))).2) k) ?_
                  show own_Go p e below (T132.setTop (mkF m 306 #[.val (.long q1), .second, .val (.int f1), .val (.int (0 : Int32)), .val (.int (1 : Int32)), .val (.int tw), .val (.int sf), .val (.int ag), .val (.ref ob93), .val (.ref ob96), .val (.ref ob99), .val (.int (1 : Int32))] [])) _
                  refine own_by (fun _ k => XS.iconst X132.here hx rfl (hb hby at_306) k) ?_
                  refine own_by (fun _ k => XS.goto X132.here hx rfl (pc0 := 307) (pc' := 311) rfl (hb hby at_307) (by decide) (by decide) k) ?_
                  refine own_by (fun _ k => XS.istore X132.here hx rfl (hb hby at_311) rfl (l' := #[.val (.long q1), .second, .val (.int f1), .val (.int (0 : Int32)), .val (.int (1 : Int32)), .val (.int tw), .val (.int sf), .val (.int ag), .val (.ref ob93), .val (.ref ob96), .val (.ref ob99), .val (.int (1 : Int32))]) rfl k) ?_
                  show own_Go p e below (T132.setTop (mkF m 313 #[.val (.long q1), .second, .val (.int f1), .val (.int (0 : Int32)), .val (.int (1 : Int32)), .val (.int tw), .val (.int sf), .val (.int ag), .val (.ref ob93), .val (.ref ob96), .val (.ref ob99), .val (.int (1 : Int32))] [])) _
                  have fc134 : Exa Z T130.heap ob96 s5_ := (fc128.keep K130)
                  have fc135 : Fld Z T130.heap ob96 s5_ "conversion" "Z" (.int (0 : Int32)) := (fc129.keep K130 (ninS (own_ne (by omega)) (ninS (own_ne (by omega)) (ninS (own_ne (by omega)) nin0))))
                  have fc136 : Exa Z T130.heap ob99 s5_ := ((g101_0.keep K108).keep K130)
                  have fc137 : Fld Z T130.heap ob99 s5_ "conversion" "Z" (.int (1 : Int32)) := ((g101_1.keep K108 (ninS (own_ne (by omega)) nin0)).keep K130 (ninS (own_ne (by omega)) (ninS (own_ne (by omega)) (ninS (own_ne (by omega)) nin0))))
                  have K138 : Keep h0 T130.heap [] := (((((((((Keep.refl h0 []).ext E93).trans K95 (allS (P := fun x => x ∈ [] ∨ h0.size ≤ x) (Or.inr (by omega)) all0)).ext E96).trans K98 (allS (P := fun x => x ∈ [] ∨ h0.size ≤ x) (Or.inr (by omega)) all0)).ext E99).trans K101 (allS (P := fun x => x ∈ [] ∨ h0.size ≤ x) (Or.inr (by omega)) all0)).trans K108 (allS (P := fun x => x ∈ [] ∨ h0.size ≤ x) (Or.inr (by omega)) all0)).trans K130 (allS (P := fun x => x ∈ [] ∨ h0.size ≤ x) (Or.inr (by omega)) (allS (P := fun x => x ∈ [] ∨ h0.size ≤ x) (Or.inr (by omega)) (allS (P := fun x => x ∈ [] ∨ h0.size ≤ x) (Or.inr (by omega)) all0))))
                  exact jn112 _ _ ⟨_, X132, N132⟩ K132 K138 fc133 g130_0 fc134 fc135 fc136 fc137
                · skip
                  refine own_by (fun _ k => XS.ifNo X110.here hx rfl (hb hby at_157) rfl ((if0 _ _).trans (feq hc127).1) k) ?_
                  show own_Go p e below (T110.setTop (mkF m 160 #[.val (.long q1), .second, .val (.int f1), .val (.int (0 : Int32)), .val (.int (1 : Int32)), .val (.int tw), .val (.int sf), .val (.int ag), .val (.ref ob93), .val (.ref ob96), .val (.ref ob99), .val (.int (1 : Int32))] [])) _
                  refine own_by (fun _ k => XS.aload X110.here hx rfl (hb hby at_160) rfl rfl k) ?_
                  refine own_by (fun _ k => XS.aload X110.here hx rfl (hb hby at_162) rfl rfl k) ?_
                  have fc139 : Exa Z T108.heap ob99 s5_ := (g101_0.keep K108)
                  have fc140 : Fld Z T108.heap ob99 s5_ "conversion" "Z" (.int (1 : Int32)) := (g101_1.keep K108 (ninS (own_ne (by omega)) nin0))
                  obtain ⟨cq141, kq141, q141a, q141b, q141c⟩ := isOf hZ K110 fc111
                  obtain ⟨_, _, ⟨T141, L141, k141, n141⟩, -, X141, ⟨Lc141, hQ141, l141, y141, z141⟩, st141⟩ := X110.virtualBack hx (y := (⟨s2_, "enqueue", s12_⟩ : MethodName)) (z := (⟨s2_, "enqueue", s12_⟩ : MethodName)) hown (mvT hZ (own_w hw 46 rfl)) (mvT hZ (own_w hw 47 rfl)) (notFace_of_selects (args := #[]) (mvT hZ (own_w hw 49 rfl))) (mvT hZ (own_w hw 49 rfl)) (mvT hZ (own_w hw 48 rfl)) (by decide) (backOf (W := 0) (rm_enq_0_0_0_1_w1_w21 l Z a0 hw [] ob93 q_108 d1_108 a1_108 kk1_108 d2_108 a2_108 kk2_108 ob96 ob99 T108.heap n0 O109 g108_0 fc111 fc139 fc140 g108_1 g108_2 g108_3 g108_4 g108_5 g108_6 g108_7 g108_8 g108_9 g108_10 g108_11 g108_12 g108_13 (by first | assumption | omega | decide) (by first | assumption | omega | decide) (by first | assumption | omega | decide) (by first | assumption | omega | decide) r108_0 r108_1 r108_2 r108_3 r108_4 r108_5 r108_6) hZ (own_w hw 50 rfl) (own_w hw 2 rfl) (by decide) (by decide)) q141a q141c (g := (mkF m 164 #[.val (.long q1), .second, .val (.int f1), .val (.int (0 : Int32)), .val (.int (1 : Int32)), .val (.int tw), .val (.int sf), .val (.int ag), .val (.ref ob93), .val (.ref ob96), .val (.ref ob99), .val (.int (1 : Int32))] [(.ref ob99), (.ref ob93)])) rfl (by rw [hml]; rfl) (Steps.refl _) (argsL := [(.ref ob99)]) (rest := []) (lenOf own_pd__28Lcom_2fexample_2fadmit1_2fadmit1_2flock_2fWait_3b_29V rfl) rfl (by show 2 * 0 + _ ≤ _; exact Nat.le_of_eq rfl) (hb hby at_164) (fun _ _ => ⟨rfl, K110, (by decide : 9 + 0 ≤ _), (by decide : 70 + 0 ≤ _)⟩)
                  dsimp only [Pt.U, Pt.locs, Pt.cells, Pt.slots] at X141 l141 y141 z141 st141 hQ141
                  subst l141 y141 z141
                  obtain ⟨rfl, M141, K141, g141_0, g141_1, g141_2, g141_3, g141_4, g141_5, g141_6, g141_7, g141_8, g141_9, g141_10, g141_11, g141_12, g141_13⟩ := hQ141
                  have N141 := Fr.app N110 M141
                  refine own_by (fun _ k => st141.trans k) ?_
                  have z141 := K141.1
                  have lt_g141_0 : T141.heap.size > ob93 := g141_0.lt
                  have lt_g141_1 : T141.heap.size > q_108 := g141_1.lt
                  have lt_g141_2 : T141.heap.size > q_108 := g141_2.lt
                  have lt_g141_3 : T141.heap.size > q_108 := g141_3.lt
                  have lt_g141_4 : T141.heap.size > d1_108 := g141_4.lt
                  have lt_g141_5 : T141.heap.size > d1_108 := g141_5.lt
                  have lt_g141_6 : T141.heap.size > d1_108 := g141_6.lt
                  have lt_g141_7 : T141.heap.size > d1_108 := g141_7.lt
                  have lt_g141_8 : T141.heap.size > a1_108 := g141_8.lt
                  have lt_g141_9 : T141.heap.size > d2_108 := g141_9.lt
                  have lt_g141_10 : T141.heap.size > d2_108 := g141_10.lt
                  have lt_g141_11 : T141.heap.size > d2_108 := g141_11.lt
                  have lt_g141_12 : T141.heap.size > d2_108 := g141_12.lt
                  have lt_g141_13 : T141.heap.size > a2_108 := g141_13.lt
                  refine own_by (fun _ k => XS.iload X141.here hx rfl (hb hby at_167) rfl k) ?_
                  refine own_by (fun _ k => XS.ifNo X141.here hx rfl (hb hby at_169) rfl ((if0 _ _).trans (feq (by decide : ¬ ((1 : Int32) = (0 : Int32)))).1) k) ?_
                  show own_Go p e below (T141.setTop (mkF m 172 #[.val (.long q1), .second, .val (.int f1), .val (.int (0 : Int32)), .val (.int (1 : Int32)), .val (.int tw), .val (.int sf), .val (.int ag), .val (.ref ob93), .val (.ref ob96), .val (.ref ob99), .val (.int (1 : Int32))] [])) _
                  refine own_by (fun _ k => XS.aload X141.here hx rfl (hb hby at_172) rfl rfl k) ?_
                  have O142 : Old Z n0 T141.heap := (O109.keep K141 (allS (by omega) (allS (by omega) all0)))
                  have fc144 : Exa Z T141.heap ob93 s2_ := (fc111.keep K141)
                  obtain ⟨cq143, kq143, q143a, q143b, q143c⟩ := isOf hZ rfl fc144
                  obtain ⟨_, _, ⟨T143, L143, k143, n143⟩, -, X143, ⟨Lc143, hQ143, l143, y143, z143⟩, st143⟩ := X141.virtualBack hx (y := (⟨s2_, "hasWaiting", "()Z"⟩ : MethodName)) (z := (⟨s2_, "hasWaiting", "()Z"⟩ : MethodName)) hown (mvT hZ (own_w hw 39 rfl)) (mvT hZ (own_w hw 40 rfl)) (notFace_of_selects (args := #[]) (mvT hZ (own_w hw 42 rfl))) (mvT hZ (own_w hw 42 rfl)) (mvT hZ (own_w hw 41 rfl)) (by decide) (backOf (W := 0) (rm_hw1 l Z a0 hw [] ob93 q_108 T141.heap n0 O142 g141_0) hZ (own_w hw 43 rfl) (own_w hw 2 rfl) (by decide) (by decide)) q143a q143c (g := (mkF m 174 #[.val (.long q1), .second, .val (.int f1), .val (.int (0 : Int32)), .val (.int (1 : Int32)), .val (.int tw), .val (.int sf), .val (.int ag), .val (.ref ob93), .val (.ref ob96), .val (.ref ob99), .val (.int (1 : Int32))] [(.ref ob93)])) rfl (by rw [hml]; rfl) (Steps.refl _) (argsL := []) (rest := []) (lenOf own_pd__28_29Z rfl) rfl (by show 2 * 0 + _ ≤ _; exact Nat.le_of_eq rfl) (hb hby at_174) (fun _ _ => ⟨rfl, rfl, (by decide : 9 + 0 ≤ _), (by decide : 70 + 0 ≤ _)⟩)
                  dsimp only [Pt.U, Pt.locs, Pt.cells, Pt.slots] at X143 l143 y143 z143 st143 hQ143
                  subst l143 y143 z143
                  obtain ⟨rfl, M143, K143⟩ := hQ143
                  have N143 := Fr.app N141 M143
                  refine own_by (fun _ k => st143.trans k) ?_
                  refine own_by (fun _ k => XS.ifNo X143.here hx rfl (hb hby at_177) rfl ((if0 _ _).trans (feq (by decide : ¬ ((1 : Int32) = (0 : Int32)))).1) k) ?_
                  show own_Go p e below (T143.setTop (mkF m 180 #[.val (.long q1), .second, .val (.int f1), .val (.int (0 : Int32)), .val (.int (1 : Int32)), .val (.int tw), .val (.int sf), .val (.int ag), .val (.ref ob93), .val (.ref ob96), .val (.ref ob99), .val (.int (1 : Int32))] [])) _
                  refine own_by (fun _ k => XS.iconst X143.here hx rfl (hb hby at_180) k) ?_
                  refine own_by (fun _ k => XS.goto X143.here hx rfl (pc0 := 181) (pc' := 185) rfl (hb hby at_181) (by decide) (by decide) k) ?_
                  refine own_by (fun _ k => XS.istore X143.here hx rfl (hb hby at_185) rfl (l' := #[.val (.long q1), .second, .val (.int f1), .val (.int (0 : Int32)), .val (.int (1 : Int32)), .val (.int tw), .val (.int sf), .val (.int ag), .val (.ref ob93), .val (.ref ob96), .val (.ref ob99), .val (.int (1 : Int32))]) rfl k) ?_
                  refine own_by (fun _ k => XS.iload X143.here hx rfl (hb hby at_187) rfl k) ?_
                  by_cases hc145 : sf = (0 : Int32)
                  · skip
                    refine own_by (fun _ k => XS.ifYes X143.here hx rfl (pc0 := 189) (pc' := 229) rfl (hb hby at_189) rfl ((if0 _ _).trans (teq hc145).1) (by decide) (by decide) k) ?_
                    show own_Go p e below (T143.setTop (mkF m 229 #[.val (.long q1), .second, .val (.int f1), .val (.int (0 : Int32)), .val (.int (1 : Int32)), .val (.int tw), .val (.int sf), .val (.int ag), .val (.ref ob93), .val (.ref ob96), .val (.ref ob99), .val (.int (1 : Int32))] [])) _
                    refine own_by (fun _ k => XS.aload X143.here hx rfl (hb hby at_229) rfl rfl k) ?_
                    refine own_by (fun _ k => XS.aload X143.here hx rfl (hb hby at_231) rfl rfl k) ?_
                    have fc146 : Exa Z T141.heap ob96 s5_ := ((fc106.keep K108).keep K141)
                    have fc147 : Fld Z T141.heap ob96 s5_ "conversion" "Z" (.int (0 : Int32)) := ((fc107.keep K108 (ninS (own_ne (by omega)) nin0)).keep K141 (ninS (own_ne (by omega)) (ninS (own_ne (by omega)) nin0)))
                    obtain ⟨cq148, kq148, q148a, q148b, q148c⟩ := isOf hZ K143 fc144
                    obtain ⟨_, _, ⟨T148, L148, k148, n148⟩, -, X148, ⟨Lc148, hQ148, l148, y148, z148⟩, st148⟩ := X143.virtualBack hx (y := (⟨s2_, "dequeue", s12_⟩ : MethodName)) (z := (⟨s2_, "dequeue", s12_⟩ : MethodName)) hown (mvT hZ (own_w hw 98 rfl)) (mvT hZ (own_w hw 99 rfl)) (notFace_of_selects (args := #[]) (mvT hZ (own_w hw 101 rfl))) (mvT hZ (own_w hw 101 rfl)) (mvT hZ (own_w hw 100 rfl)) (by decide) (backOf (W := 0) (rm_deq_0_1_w1_0_1_w2_w20 l Z a0 hw [] ob93 q_108 d1_108 a1_108 kk1_108 d2_108 a2_108 kk2_108 ob99 ob96 T141.heap n0 O142 g141_0 fc144 fc146 fc147 g141_1 g141_2 g141_3 g141_4 g141_5 g141_6 g141_7 g141_8 g141_9 g141_10 g141_11 g141_12 g141_13 (by first | assumption | omega | decide) (by first | assumption | omega | decide) (own_ne (by omega)) (own_ne (by omega)) r108_0 r108_1 r108_2 r108_3 r108_4 r108_5 r108_6) hZ (own_w hw 102 rfl) (own_w hw 2 rfl) (by decide) (by decide)) q148a q148c (g := (mkF m 233 #[.val (.long q1), .second, .val (.int f1), .val (.int (0 : Int32)), .val (.int (1 : Int32)), .val (.int tw), .val (.int sf), .val (.int ag), .val (.ref ob93), .val (.ref ob96), .val (.ref ob99), .val (.int (1 : Int32))] [(.ref ob96), (.ref ob93)])) rfl (by rw [hml]; rfl) (Steps.refl _) (argsL := [(.ref ob96)]) (rest := []) (lenOf own_pd__28Lcom_2fexample_2fadmit1_2fadmit1_2flock_2fWait_3b_29V rfl) rfl (by show 2 * 0 + _ ≤ _; exact Nat.le_of_eq rfl) (hb hby at_233) (fun _ _ => ⟨rfl, K143, (by decide : 9 + 0 ≤ _), (by decide : 70 + 0 ≤ _)⟩)
                    dsimp only [Pt.U, Pt.locs, Pt.cells, Pt.slots] at X148 l148 y148 z148 st148 hQ148
                    subst l148 y148 z148
                    obtain ⟨rfl, M148, K148, g148_0, g148_1, g148_2, g148_3, g148_4, g148_5, g148_6, g148_7, g148_8, g148_9, g148_10, g148_11, g148_12, g148_13⟩ := hQ148
                    have N148 := Fr.app N143 M148
                    refine own_by (fun _ k => st148.trans k) ?_
                    have z148 := K148.1
                    have lt_g148_0 : T148.heap.size > ob93 := g148_0.lt
                    have lt_g148_1 : T148.heap.size > q_108 := g148_1.lt
                    have lt_g148_2 : T148.heap.size > q_108 := g148_2.lt
                    have lt_g148_3 : T148.heap.size > q_108 := g148_3.lt
                    have lt_g148_4 : T148.heap.size > d1_108 := g148_4.lt
                    have lt_g148_5 : T148.heap.size > d1_108 := g148_5.lt
                    have lt_g148_6 : T148.heap.size > d1_108 := g148_6.lt
                    have lt_g148_7 : T148.heap.size > d1_108 := g148_7.lt
                    have lt_g148_8 : T148.heap.size > a1_108 := g148_8.lt
                    have lt_g148_9 : T148.heap.size > d2_108 := g148_9.lt
                    have lt_g148_10 : T148.heap.size > d2_108 := g148_10.lt
                    have lt_g148_11 : T148.heap.size > d2_108 := g148_11.lt
                    have lt_g148_12 : T148.heap.size > d2_108 := g148_12.lt
                    have lt_g148_13 : T148.heap.size > a2_108 := g148_13.lt
                    refine own_by (fun _ k => XS.iload X148.here hx rfl (hb hby at_236) rfl k) ?_
                    refine own_by (fun _ k => XS.ifNo X148.here hx rfl (hb hby at_238) rfl ((if0 _ _).trans (feq (by decide : ¬ ((1 : Int32) = (0 : Int32)))).1) k) ?_
                    show own_Go p e below (T148.setTop (mkF m 241 #[.val (.long q1), .second, .val (.int f1), .val (.int (0 : Int32)), .val (.int (1 : Int32)), .val (.int tw), .val (.int sf), .val (.int ag), .val (.ref ob93), .val (.ref ob96), .val (.ref ob99), .val (.int (1 : Int32))] [])) _
                    refine own_by (fun _ k => XS.aload X148.here hx rfl (hb hby at_241) rfl rfl k) ?_
                    have O149 : Old Z n0 T148.heap := (O142.keep K148 (allS (by omega) (allS (by omega) (allS (by omega) all0))))
                    have fc151 : Exa Z T148.heap ob93 s2_ := (fc144.keep K148)
                    obtain ⟨cq150, kq150, q150a, q150b, q150c⟩ := isOf hZ rfl fc151
                    obtain ⟨_, _, ⟨T150, L150, k150, n150⟩, -, X150, ⟨Lc150, hQ150, l150, y150, z150⟩, st150⟩ := X148.virtualBack hx (y := (⟨s2_, "hasWaiting", "()Z"⟩ : MethodName)) (z := (⟨s2_, "hasWaiting", "()Z"⟩ : MethodName)) hown (mvT hZ (own_w hw 39 rfl)) (mvT hZ (own_w hw 40 rfl)) (notFace_of_selects (args := #[]) (mvT hZ (own_w hw 42 rfl))) (mvT hZ (own_w hw 42 rfl)) (mvT hZ (own_w hw 41 rfl)) (by decide) (backOf (W := 0) (rm_hw1 l Z a0 hw [] ob93 q_108 T148.heap n0 O149 g148_0) hZ (own_w hw 43 rfl) (own_w hw 2 rfl) (by decide) (by decide)) q150a q150c (g := (mkF m 243 #[.val (.long q1), .second, .val (.int f1), .val (.int (0 : Int32)), .val (.int (1 : Int32)), .val (.int tw), .val (.int sf), .val (.int ag), .val (.ref ob93), .val (.ref ob96), .val (.ref ob99), .val (.int (1 : Int32))] [(.ref ob93)])) rfl (by rw [hml]; rfl) (Steps.refl _) (argsL := []) (rest := []) (lenOf own_pd__28_29Z rfl) rfl (by show 2 * 0 + _ ≤ _; exact Nat.le_of_eq rfl) (hb hby at_243) (fun _ _ => ⟨rfl, rfl, (by decide : 9 + 0 ≤ _), (by decide : 70 + 0 ≤ _)⟩)
                    dsimp only [Pt.U, Pt.locs, Pt.cells, Pt.slots] at X150 l150 y150 z150 st150 hQ150
                    subst l150 y150 z150
                    obtain ⟨rfl, M150, K150⟩ := hQ150
                    have N150 := Fr.app N148 M150
                    refine own_by (fun _ k => st150.trans k) ?_
                    refine own_by (fun _ k => XS.ifNo X150.here hx rfl (hb hby at_246) rfl ((if0 _ _).trans (feq (by decide : ¬ ((1 : Int32) = (0 : Int32)))).1) k) ?_
                    show own_Go p e below (T150.setTop (mkF m 249 #[.val (.long q1), .second, .val (.int f1), .val (.int (0 : Int32)), .val (.int (1 : Int32)), .val (.int tw), .val (.int sf), .val (.int ag), .val (.ref ob93), .val (.ref ob96), .val (.ref ob99), .val (.int (1 : Int32))] [])) _
                    refine own_by (fun _ k => XS.iconst X150.here hx rfl (hb hby at_249) k) ?_
                    refine own_by (fun _ k => XS.goto X150.here hx rfl (pc0 := 250) (pc' := 254) rfl (hb hby at_250) (by decide) (by decide) k) ?_
                    refine own_by (fun _ k => XS.istore X150.here hx rfl (hb hby at_254) rfl (l' := #[.val (.long q1), .second, .val (.int f1), .val (.int (0 : Int32)), .val (.int (1 : Int32)), .val (.int tw), .val (.int sf), .val (.int ag), .val (.ref ob93), .val (.ref ob96), .val (.ref ob99), .val (.int (1 : Int32))]) rfl k) ?_
                    refine own_by (fun _ k => XS.aload X150.here hx rfl (hb hby at_256) rfl rfl k) ?_
                    refine own_by (fun _ k => XS.aload X150.here hx rfl (hb hby at_258) rfl rfl k) ?_
                    have fc152 : Exa Z T148.heap ob99 s5_ := ((fc139.keep K141).keep K148)
                    have fc153 : Fld Z T148.heap ob99 s5_ "conversion" "Z" (.int (1 : Int32)) := ((fc140.keep K141 (ninS (own_ne (by omega)) (ninS (own_ne (by omega)) nin0))).keep K148 (ninS (own_ne (by omega)) (ninS (own_ne (by omega)) (ninS (own_ne (by omega)) nin0))))
                    obtain ⟨cq154, kq154, q154a, q154b, q154c⟩ := isOf hZ K150 fc151
                    obtain ⟨_, _, ⟨T154, L154, k154, n154⟩, -, X154, ⟨Lc154, hQ154, l154, y154, z154⟩, st154⟩ := X150.virtualBack hx (y := (⟨s2_, "dequeue", s12_⟩ : MethodName)) (z := (⟨s2_, "dequeue", s12_⟩ : MethodName)) hown (mvT hZ (own_w hw 98 rfl)) (mvT hZ (own_w hw 99 rfl)) (notFace_of_selects (args := #[]) (mvT hZ (own_w hw 101 rfl))) (mvT hZ (own_w hw 101 rfl)) (mvT hZ (own_w hw 100 rfl)) (by decide) (backOf (W := 0) (rm_deq_0_1_w1_0_0_w11 l Z a0 hw [] ob93 q_108 d1_108 a1_108 kk1_108 d2_108 a2_108 kk2_108 ob99 T148.heap n0 O149 g148_0 fc151 fc152 fc153 g148_1 g148_2 g148_3 g148_4 g148_5 g148_6 g148_7 g148_8 g148_9 g148_10 g148_11 g148_12 g148_13 (by first | assumption | omega | decide) (by first | assumption | omega | decide) (own_ne (by omega)) (own_ne (by omega)) r108_0 r108_1 r108_2 r108_3 r108_4 r108_5 r108_6) hZ (own_w hw 102 rfl) (own_w hw 2 rfl) (by decide) (by decide)) q154a q154c (g := (mkF m 260 #[.val (.long q1), .second, .val (.int f1), .val (.int (0 : Int32)), .val (.int (1 : Int32)), .val (.int tw), .val (.int sf), .val (.int ag), .val (.ref ob93), .val (.ref ob96), .val (.ref ob99), .val (.int (1 : Int32))] [(.ref ob99), (.ref ob93)])) rfl (by rw [hml]; rfl) (Steps.refl _) (argsL := [(.ref ob99)]) (rest := []) (lenOf own_pd__28Lcom_2fexample_2fadmit1_2fadmit1_2flock_2fWait_3b_29V rfl) rfl (by show 2 * 0 + _ ≤ _; exact Nat.le_of_eq rfl) (hb hby at_260) (fun _ _ => ⟨rfl, K150, (by decide : 9 + 0 ≤ _), (by decide : 70 + 0 ≤ _)⟩)
                    dsimp only [Pt.U, Pt.locs, Pt.cells, Pt.slots] at X154 l154 y154 z154 st154 hQ154
                    subst l154 y154 z154
                    obtain ⟨rfl, M154, K154, g154_0⟩ := hQ154
                    have N154 := Fr.app N150 M154
                    refine own_by (fun _ k => st154.trans k) ?_
                    have z154 := K154.1
                    have lt_g154_0 : T154.heap.size > ob93 := g154_0.lt
                    show own_Go p e below (T154.setTop (mkF m 263 #[.val (.long q1), .second, .val (.int f1), .val (.int (0 : Int32)), .val (.int (1 : Int32)), .val (.int tw), .val (.int sf), .val (.int ag), .val (.ref ob93), .val (.ref ob96), .val (.ref ob99), .val (.int (1 : Int32))] [])) _
                    refine own_by (fun _ k => XS.iload X154.here hx rfl (hb hby at_263) rfl k) ?_
                    refine own_by (fun _ k => XS.ifNo X154.here hx rfl (hb hby at_265) rfl ((if0 _ _).trans (feq (by decide : ¬ ((1 : Int32) = (0 : Int32)))).1) k) ?_
                    show own_Go p e below (T154.setTop (mkF m 268 #[.val (.long q1), .second, .val (.int f1), .val (.int (0 : Int32)), .val (.int (1 : Int32)), .val (.int tw), .val (.int sf), .val (.int ag), .val (.ref ob93), .val (.ref ob96), .val (.ref ob99), .val (.int (1 : Int32))] [])) _
                    refine own_by (fun _ k => XS.aload X154.here hx rfl (hb hby at_268) rfl rfl k) ?_
                    have O155 : Old Z n0 T154.heap := (O149.keep K154 (allS (by omega) (allS (by omega) (allS (by omega) all0))))
                    have fc157 : Exa Z T154.heap ob93 s2_ := (fc151.keep K154)
                    obtain ⟨cq156, kq156, q156a, q156b, q156c⟩ := isOf hZ rfl fc157
                    obtain ⟨_, _, ⟨T156, L156, k156, n156⟩, -, X156, ⟨Lc156, hQ156, l156, y156, z156⟩, st156⟩ := X154.virtualBack hx (y := (⟨s2_, "hasWaiting", "()Z"⟩ : MethodName)) (z := (⟨s2_, "hasWaiting", "()Z"⟩ : MethodName)) hown (mvT hZ (own_w hw 39 rfl)) (mvT hZ (own_w hw 40 rfl)) (notFace_of_selects (args := #[]) (mvT hZ (own_w hw 42 rfl))) (mvT hZ (own_w hw 42 rfl)) (mvT hZ (own_w hw 41 rfl)) (by decide) (backOf (W := 0) (rm_hw0 l Z a0 hw [] ob93 T154.heap n0 O155 g154_0) hZ (own_w hw 43 rfl) (own_w hw 2 rfl) (by decide) (by decide)) q156a q156c (g := (mkF m 270 #[.val (.long q1), .second, .val (.int f1), .val (.int (0 : Int32)), .val (.int (1 : Int32)), .val (.int tw), .val (.int sf), .val (.int ag), .val (.ref ob93), .val (.ref ob96), .val (.ref ob99), .val (.int (1 : Int32))] [(.ref ob93)])) rfl (by rw [hml]; rfl) (Steps.refl _) (argsL := []) (rest := []) (lenOf own_pd__28_29Z rfl) rfl (by show 2 * 0 + _ ≤ _; exact Nat.le_of_eq rfl) (hb hby at_270) (fun _ _ => ⟨rfl, rfl, (by decide : 9 + 0 ≤ _), (by decide : 70 + 0 ≤ _)⟩)
                    dsimp only [Pt.U, Pt.locs, Pt.cells, Pt.slots] at X156 l156 y156 z156 st156 hQ156
                    subst l156 y156 z156
                    obtain ⟨rfl, M156, K156⟩ := hQ156
                    have N156 := Fr.app N154 M156
                    refine own_by (fun _ k => st156.trans k) ?_
                    refine own_by (fun _ k => XS.ifNo X156.here hx rfl (hb hby at_273) rfl ((if0 _ _).trans (teq (by decide : (0 : Int32) = (0 : Int32))).2) k) ?_
                    show own_Go p e below (T156.setTop (mkF m 276 #[.val (.long q1), .second, .val (.int f1), .val (.int (0 : Int32)), .val (.int (1 : Int32)), .val (.int tw), .val (.int sf), .val (.int ag), .val (.ref ob93), .val (.ref ob96), .val (.ref ob99), .val (.int (1 : Int32))] [])) _
                    refine own_by (fun _ k => XS.iconst X156.here hx rfl (hb hby at_276) k) ?_
                    refine own_by (fun _ k => XS.goto X156.here hx rfl (pc0 := 277) (pc' := 281) rfl (hb hby at_277) (by decide) (by decide) k) ?_
                    refine own_by (fun _ k => XS.istore X156.here hx rfl (hb hby at_281) rfl (l' := #[.val (.long q1), .second, .val (.int f1), .val (.int (0 : Int32)), .val (.int (1 : Int32)), .val (.int tw), .val (.int sf), .val (.int ag), .val (.ref ob93), .val (.ref ob96), .val (.ref ob99), .val (.int (1 : Int32))]) rfl k) ?_
                    refine own_by (fun _ k => XS.goto X156.here hx rfl (pc0 := 283) (pc' := 313) rfl (hb hby at_283) (by decide) (by decide) k) ?_
                    show own_Go p e below (T156.setTop (mkF m 313 #[.val (.long q1), .second, .val (.int f1), .val (.int (0 : Int32)), .val (.int (1 : Int32)), .val (.int tw), .val (.int sf), .val (.int ag), .val (.ref ob93), .val (.ref ob96), .val (.ref ob99), .val (.int (1 : Int32))] [])) _
                    have fc158 : Exa Z T154.heap ob96 s5_ := ((fc146.keep K148).keep K154)
                    have fc159 : Fld Z T154.heap ob96 s5_ "conversion" "Z" (.int (0 : Int32)) := ((fc147.keep K148 (ninS (own_ne (by omega)) (ninS (own_ne (by omega)) (ninS (own_ne (by omega)) nin0)))).keep K154 (ninS (own_ne (by omega)) (ninS (own_ne (by omega)) (ninS (own_ne (by omega)) nin0))))
                    have fc160 : Exa Z T154.heap ob99 s5_ := (fc152.keep K154)
                    have fc161 : Fld Z T154.heap ob99 s5_ "conversion" "Z" (.int (1 : Int32)) := (fc153.keep K154 (ninS (own_ne (by omega)) (ninS (own_ne (by omega)) (ninS (own_ne (by omega)) nin0))))
                    have K162 : Keep h0 T154.heap [] := (((((((((((Keep.refl h0 []).ext E93).trans K95 (allS (P := fun x => x ∈ [] ∨ h0.size ≤ x) (Or.inr (by omega)) all0)).ext E96).trans K98 (allS (P := fun x => x ∈ [] ∨ h0.size ≤ x) (Or.inr (by omega)) all0)).ext E99).trans K101 (allS (P := fun x => x ∈ [] ∨ h0.size ≤ x) (Or.inr (by omega)) all0)).trans K108 (allS (P := fun x => x ∈ [] ∨ h0.size ≤ x) (Or.inr (by omega)) all0)).trans K141 (allS (P := fun x => x ∈ [] ∨ h0.size ≤ x) (Or.inr (by omega)) (allS (P := fun x => x ∈ [] ∨ h0.size ≤ x) (Or.inr (by omega)) all0))).trans K148 (allS (P := fun x => x ∈ [] ∨ h0.size ≤ x) (Or.inr (by omega)) (allS (P := fun x => x ∈ [] ∨ h0.size ≤ x) (Or.inr (by omega)) (allS (P := fun x => x ∈ [] ∨ h0.size ≤ x) (Or.inr (by omega)) all0)))).trans K154 (allS (P := fun x => x ∈ [] ∨ h0.size ≤ x) (Or.inr (by omega)) (allS (P := fun x => x ∈ [] ∨ h0.size ≤ x) (Or.inr (by omega)) (allS (P := fun x => x ∈ [] ∨ h0.size ≤ x) (Or.inr (by omega)) all0))))
                    exact jn112 _ _ ⟨_, X156, N156⟩ K156 K162 fc157 g154_0 fc158 fc159 fc160 fc161
                  · skip
                    refine own_by (fun _ k => XS.ifNo X143.here hx rfl (hb hby at_189) rfl ((if0 _ _).trans (feq hc145).1) k) ?_
                    show own_Go p e below (T143.setTop (mkF m 192 #[.val (.long q1), .second, .val (.int f1), .val (.int (0 : Int32)), .val (.int (1 : Int32)), .val (.int tw), .val (.int sf), .val (.int ag), .val (.ref ob93), .val (.ref ob96), .val (.ref ob99), .val (.int (1 : Int32))] [])) _
                    refine own_by (fun _ k => XS.aload X143.here hx rfl (hb hby at_192) rfl rfl k) ?_
                    refine own_by (fun _ k => XS.aload X143.here hx rfl (hb hby at_194) rfl rfl k) ?_
                    have fc163 : Exa Z T141.heap ob99 s5_ := (fc139.keep K141)
                    have fc164 : Fld Z T141.heap ob99 s5_ "conversion" "Z" (.int (1 : Int32)) := (fc140.keep K141 (ninS (own_ne (by omega)) (ninS (own_ne (by omega)) nin0)))
                    obtain ⟨cq165, kq165, q165a, q165b, q165c⟩ := isOf hZ K143 fc144
                    obtain ⟨_, _, ⟨T165, L165, k165, n165⟩, -, X165, ⟨Lc165, hQ165, l165, y165, z165⟩, st165⟩ := X143.virtualBack hx (y := (⟨s2_, "dequeue", s12_⟩ : MethodName)) (z := (⟨s2_, "dequeue", s12_⟩ : MethodName)) hown (mvT hZ (own_w hw 98 rfl)) (mvT hZ (own_w hw 99 rfl)) (notFace_of_selects (args := #[]) (mvT hZ (own_w hw 101 rfl))) (mvT hZ (own_w hw 101 rfl)) (mvT hZ (own_w hw 100 rfl)) (by decide) (backOf (W := 0) (rm_deq_0_1_w1_0_1_w2_w11 l Z a0 hw [] ob93 q_108 d1_108 a1_108 kk1_108 d2_108 a2_108 kk2_108 ob99 ob96 T141.heap n0 O142 g141_0 fc144 fc163 fc164 g141_1 g141_2 g141_3 g141_4 g141_5 g141_6 g141_7 g141_8 g141_9 g141_10 g141_11 g141_12 g141_13 (by first | assumption | omega | decide) (by first | assumption | omega | decide) (own_ne (by omega)) (own_ne (by omega)) r108_0 r108_1 r108_2 r108_3 r108_4 r108_5 r108_6) hZ (own_w hw 102 rfl) (own_w hw 2 rfl) (by decide) (by decide)) q165a q165c (g := (mkF m 196 #[.val (.long q1), .second, .val (.int f1), .val (.int (0 : Int32)), .val (.int (1 : Int32)), .val (.int tw), .val (.int sf), .val (.int ag), .val (.ref ob93), .val (.ref ob96), .val (.ref ob99), .val (.int (1 : Int32))] [(.ref ob99), (.ref ob93)])) rfl (by rw [hml]; rfl) (Steps.refl _) (argsL := [(.ref ob99)]) (rest := []) (lenOf own_pd__28Lcom_2fexample_2fadmit1_2fadmit1_2flock_2fWait_3b_29V rfl) rfl (by show 2 * 0 + _ ≤ _; exact Nat.le_of_eq rfl) (hb hby at_196) (fun _ _ => ⟨rfl, K143, (by decide : 9 + 0 ≤ _), (by decide : 70 + 0 ≤ _)⟩)
                    dsimp only [Pt.U, Pt.locs, Pt.cells, Pt.slots] at X165 l165 y165 z165 st165 hQ165
                    subst l165 y165 z165
                    obtain ⟨rfl, M165, K165, g165_0, g165_1, g165_2, g165_3, g165_4, g165_5, g165_6, g165_7, g165_8, g165_9, g165_10, g165_11, g165_12, g165_13⟩ := hQ165
                    have N165 := Fr.app N143 M165
                    refine own_by (fun _ k => st165.trans k) ?_
                    have z165 := K165.1
                    have lt_g165_0 : T165.heap.size > ob93 := g165_0.lt
                    have lt_g165_1 : T165.heap.size > q_108 := g165_1.lt
                    have lt_g165_2 : T165.heap.size > q_108 := g165_2.lt
                    have lt_g165_3 : T165.heap.size > q_108 := g165_3.lt
                    have lt_g165_4 : T165.heap.size > d1_108 := g165_4.lt
                    have lt_g165_5 : T165.heap.size > d1_108 := g165_5.lt
                    have lt_g165_6 : T165.heap.size > d1_108 := g165_6.lt
                    have lt_g165_7 : T165.heap.size > d1_108 := g165_7.lt
                    have lt_g165_8 : T165.heap.size > a1_108 := g165_8.lt
                    have lt_g165_9 : T165.heap.size > d2_108 := g165_9.lt
                    have lt_g165_10 : T165.heap.size > d2_108 := g165_10.lt
                    have lt_g165_11 : T165.heap.size > d2_108 := g165_11.lt
                    have lt_g165_12 : T165.heap.size > d2_108 := g165_12.lt
                    have lt_g165_13 : T165.heap.size > a2_108 := g165_13.lt
                    refine own_by (fun _ k => XS.iload X165.here hx rfl (hb hby at_199) rfl k) ?_
                    refine own_by (fun _ k => XS.ifNo X165.here hx rfl (hb hby at_201) rfl ((if0 _ _).trans (feq (by decide : ¬ ((1 : Int32) = (0 : Int32)))).1) k) ?_
                    show own_Go p e below (T165.setTop (mkF m 204 #[.val (.long q1), .second, .val (.int f1), .val (.int (0 : Int32)), .val (.int (1 : Int32)), .val (.int tw), .val (.int sf), .val (.int ag), .val (.ref ob93), .val (.ref ob96), .val (.ref ob99), .val (.int (1 : Int32))] [])) _
                    refine own_by (fun _ k => XS.aload X165.here hx rfl (hb hby at_204) rfl rfl k) ?_
                    have O166 : Old Z n0 T165.heap := (O142.keep K165 (allS (by omega) (allS (by omega) (allS (by omega) all0))))
                    have fc168 : Exa Z T165.heap ob93 s2_ := (fc144.keep K165)
                    obtain ⟨cq167, kq167, q167a, q167b, q167c⟩ := isOf hZ rfl fc168
                    obtain ⟨_, _, ⟨T167, L167, k167, n167⟩, -, X167, ⟨Lc167, hQ167, l167, y167, z167⟩, st167⟩ := X165.virtualBack hx (y := (⟨s2_, "hasWaiting", "()Z"⟩ : MethodName)) (z := (⟨s2_, "hasWaiting", "()Z"⟩ : MethodName)) hown (mvT hZ (own_w hw 39 rfl)) (mvT hZ (own_w hw 40 rfl)) (notFace_of_selects (args := #[]) (mvT hZ (own_w hw 42 rfl))) (mvT hZ (own_w hw 42 rfl)) (mvT hZ (own_w hw 41 rfl)) (by decide) (backOf (W := 0) (rm_hw1 l Z a0 hw [] ob93 q_108 T165.heap n0 O166 g165_0) hZ (own_w hw 43 rfl) (own_w hw 2 rfl) (by decide) (by decide)) q167a q167c (g := (mkF m 206 #[.val (.long q1), .second, .val (.int f1), .val (.int (0 : Int32)), .val (.int (1 : Int32)), .val (.int tw), .val (.int sf), .val (.int ag), .val (.ref ob93), .val (.ref ob96), .val (.ref ob99), .val (.int (1 : Int32))] [(.ref ob93)])) rfl (by rw [hml]; rfl) (Steps.refl _) (argsL := []) (rest := []) (lenOf own_pd__28_29Z rfl) rfl (by show 2 * 0 + _ ≤ _; exact Nat.le_of_eq rfl) (hb hby at_206) (fun _ _ => ⟨rfl, rfl, (by decide : 9 + 0 ≤ _), (by decide : 70 + 0 ≤ _)⟩)
                    dsimp only [Pt.U, Pt.locs, Pt.cells, Pt.slots] at X167 l167 y167 z167 st167 hQ167
                    subst l167 y167 z167
                    obtain ⟨rfl, M167, K167⟩ := hQ167
                    have N167 := Fr.app N165 M167
                    refine own_by (fun _ k => st167.trans k) ?_
                    refine own_by (fun _ k => XS.ifNo X167.here hx rfl (hb hby at_209) rfl ((if0 _ _).trans (feq (by decide : ¬ ((1 : Int32) = (0 : Int32)))).1) k) ?_
                    show own_Go p e below (T167.setTop (mkF m 212 #[.val (.long q1), .second, .val (.int f1), .val (.int (0 : Int32)), .val (.int (1 : Int32)), .val (.int tw), .val (.int sf), .val (.int ag), .val (.ref ob93), .val (.ref ob96), .val (.ref ob99), .val (.int (1 : Int32))] [])) _
                    refine own_by (fun _ k => XS.iconst X167.here hx rfl (hb hby at_212) k) ?_
                    refine own_by (fun _ k => XS.goto X167.here hx rfl (pc0 := 213) (pc' := 217) rfl (hb hby at_213) (by decide) (by decide) k) ?_
                    refine own_by (fun _ k => XS.istore X167.here hx rfl (hb hby at_217) rfl (l' := #[.val (.long q1), .second, .val (.int f1), .val (.int (0 : Int32)), .val (.int (1 : Int32)), .val (.int tw), .val (.int sf), .val (.int ag), .val (.ref ob93), .val (.ref ob96), .val (.ref ob99), .val (.int (1 : Int32))]) rfl k) ?_
                    refine own_by (fun _ k => XS.aload X167.here hx rfl (hb hby at_219) rfl rfl k) ?_
                    refine own_by (fun _ k => XS.aload X167.here hx rfl (hb hby at_221) rfl rfl k) ?_
                    have fc169 : Exa Z T165.heap ob96 s5_ := (((fc106.keep K108).keep K141).keep K165)
                    have fc170 : Fld Z T165.heap ob96 s5_ "conversion" "Z" (.int (0 : Int32)) := (((fc107.keep K108 (ninS (own_ne (by omega)) nin0)).keep K141 (ninS (own_ne (by omega)) (ninS (own_ne (by omega)) nin0))).keep K165 (ninS (own_ne (by omega)) (ninS (own_ne (by omega)) (ninS (own_ne (by omega)) nin0))))
                    obtain ⟨cq171, kq171, q171a, q171b, q171c⟩ := isOf hZ K167 fc168
                    obtain ⟨_, _, ⟨T171, L171, k171, n171⟩, -, X171, ⟨Lc171, hQ171, l171, y171, z171⟩, st171⟩ := X167.virtualBack hx (y := (⟨s2_, "dequeue", s12_⟩ : MethodName)) (z := (⟨s2_, "dequeue", s12_⟩ : MethodName)) hown (mvT hZ (own_w hw 98 rfl)) (mvT hZ (own_w hw 99 rfl)) (notFace_of_selects (args := #[]) (mvT hZ (own_w hw 101 rfl))) (mvT hZ (own_w hw 101 rfl)) (mvT hZ (own_w hw 100 rfl)) (by decide) (backOf (W := 0) (rm_deq_0_0_0_1_w1_w10 l Z a0 hw [] ob93 q_108 d1_108 a1_108 kk1_108 d2_108 a2_108 kk2_108 ob96 T165.heap n0 O166 g165_0 fc168 fc169 fc170 g165_1 g165_2 g165_3 g165_4 g165_5 g165_6 g165_7 g165_8 g165_9 g165_10 g165_11 g165_12 g165_13 (by first | assumption | omega | decide) (by first | assumption | omega | decide) (own_ne (by omega)) (own_ne (by omega)) r108_0 r108_1 r108_2 r108_3 r108_4 r108_5 r108_6) hZ (own_w hw 102 rfl) (own_w hw 2 rfl) (by decide) (by decide)) q171a q171c (g := (mkF m 223 #[.val (.long q1), .second, .val (.int f1), .val (.int (0 : Int32)), .val (.int (1 : Int32)), .val (.int tw), .val (.int sf), .val (.int ag), .val (.ref ob93), .val (.ref ob96), .val (.ref ob99), .val (.int (1 : Int32))] [(.ref ob96), (.ref ob93)])) rfl (by rw [hml]; rfl) (Steps.refl _) (argsL := [(.ref ob96)]) (rest := []) (lenOf own_pd__28Lcom_2fexample_2fadmit1_2fadmit1_2flock_2fWait_3b_29V rfl) rfl (by show 2 * 0 + _ ≤ _; exact Nat.le_of_eq rfl) (hb hby at_223) (fun _ _ => ⟨rfl, K167, (by decide : 9 + 0 ≤ _), (by decide : 70 + 0 ≤ _)⟩)
                    dsimp only [Pt.U, Pt.locs, Pt.cells, Pt.slots] at X171 l171 y171 z171 st171 hQ171
                    subst l171 y171 z171
                    obtain ⟨rfl, M171, K171, g171_0⟩ := hQ171
                    have N171 := Fr.app N167 M171
                    refine own_by (fun _ k => st171.trans k) ?_
                    have z171 := K171.1
                    have lt_g171_0 : T171.heap.size > ob93 := g171_0.lt
                    show own_Go p e below (T171.setTop (mkF m 226 #[.val (.long q1), .second, .val (.int f1), .val (.int (0 : Int32)), .val (.int (1 : Int32)), .val (.int tw), .val (.int sf), .val (.int ag), .val (.ref ob93), .val (.ref ob96), .val (.ref ob99), .val (.int (1 : Int32))] [])) _
                    refine own_by (fun _ k => XS.goto X171.here hx rfl (pc0 := 226) (pc' := 263) rfl (hb hby at_226) (by decide) (by decide) k) ?_
                    refine own_by (fun _ k => XS.iload X171.here hx rfl (hb hby at_263) rfl k) ?_
                    refine own_by (fun _ k => XS.ifNo X171.here hx rfl (hb hby at_265) rfl ((if0 _ _).trans (feq (by decide : ¬ ((1 : Int32) = (0 : Int32)))).1) k) ?_
                    show own_Go p e below (T171.setTop (mkF m 268 #[.val (.long q1), .second, .val (.int f1), .val (.int (0 : Int32)), .val (.int (1 : Int32)), .val (.int tw), .val (.int sf), .val (.int ag), .val (.ref ob93), .val (.ref ob96), .val (.ref ob99), .val (.int (1 : Int32))] [])) _
                    refine own_by (fun _ k => XS.aload X171.here hx rfl (hb hby at_268) rfl rfl k) ?_
                    have O172 : Old Z n0 T171.heap := (O166.keep K171 (allS (by omega) (allS (by omega) (allS (by omega) all0))))
                    have fc174 : Exa Z T171.heap ob93 s2_ := (fc168.keep K171)
                    obtain ⟨cq173, kq173, q173a, q173b, q173c⟩ := isOf hZ rfl fc174
                    obtain ⟨_, _, ⟨T173, L173, k173, n173⟩, -, X173, ⟨Lc173, hQ173, l173, y173, z173⟩, st173⟩ := X171.virtualBack hx (y := (⟨s2_, "hasWaiting", "()Z"⟩ : MethodName)) (z := (⟨s2_, "hasWaiting", "()Z"⟩ : MethodName)) hown (mvT hZ (own_w hw 39 rfl)) (mvT hZ (own_w hw 40 rfl)) (notFace_of_selects (args := #[]) (mvT hZ (own_w hw 42 rfl))) (mvT hZ (own_w hw 42 rfl)) (mvT hZ (own_w hw 41 rfl)) (by decide) (backOf (W := 0) (rm_hw0 l Z a0 hw [] ob93 T171.heap n0 O172 g171_0) hZ (own_w hw 43 rfl) (own_w hw 2 rfl) (by decide) (by decide)) q173a q173c (g := (mkF m 270 #[.val (.long q1), .second, .val (.int f1), .val (.int (0 : Int32)), .val (.int (1 : Int32)), .val (.int tw), .val (.int sf), .val (.int ag), .val (.ref ob93), .val (.ref ob96), .val (.ref ob99), .val (.int (1 : Int32))] [(.ref ob93)])) rfl (by rw [hml]; rfl) (Steps.refl _) (argsL := []) (rest := []) (lenOf own_pd__28_29Z rfl) rfl (by show 2 * 0 + _ ≤ _; exact Nat.le_of_eq rfl) (hb hby at_270) (fun _ _ => ⟨rfl, rfl, (by decide : 9 + 0 ≤ _), (by decide : 70 + 0 ≤ _)⟩)
                    dsimp only [Pt.U, Pt.locs, Pt.cells, Pt.slots] at X173 l173 y173 z173 st173 hQ173
                    subst l173 y173 z173
                    obtain ⟨rfl, M173, K173⟩ := hQ173
                    have N173 := Fr.app N171 M173
                    refine own_by (fun _ k => st173.trans k) ?_
                    refine own_by (fun _ k => XS.ifNo X173.here hx rfl (hb hby at_273) rfl ((if0 _ _).trans (teq (by decide : (0 : Int32) = (0 : Int32))).2) k) ?_
                    show own_Go p e below (T173.setTop (mkF m 276 #[.val (.long q1), .second, .val (.int f1), .val (.int (0 : Int32)), .val (.int (1 : Int32)), .val (.int tw), .val (.int sf), .val (.int ag), .val (.ref ob93), .val (.ref ob96), .val (.ref ob99), .val (.int (1 : Int32))] [])) _
                    refine own_by (fun _ k => XS.iconst X173.here hx rfl (hb hby at_276) k) ?_
                    refine own_by (fun _ k => XS.goto X173.here hx rfl (pc0 := 277) (pc' := 281) rfl (hb hby at_277) (by decide) (by decide) k) ?_
                    refine own_by (fun _ k => XS.istore X173.here hx rfl (hb hby at_281) rfl (l' := #[.val (.long q1), .second, .val (.int f1), .val (.int (0 : Int32)), .val (.int (1 : Int32)), .val (.int tw), .val (.int sf), .val (.int ag), .val (.ref ob93), .val (.ref ob96), .val (.ref ob99), .val (.int (1 : Int32))]) rfl k) ?_
                    refine own_by (fun _ k => XS.goto X173.here hx rfl (pc0 := 283) (pc' := 313) rfl (hb hby at_283) (by decide) (by decide) k) ?_
                    show own_Go p e below (T173.setTop (mkF m 313 #[.val (.long q1), .second, .val (.int f1), .val (.int (0 : Int32)), .val (.int (1 : Int32)), .val (.int tw), .val (.int sf), .val (.int ag), .val (.ref ob93), .val (.ref ob96), .val (.ref ob99), .val (.int (1 : Int32))] [])) _
                    have fc175 : Exa Z T171.heap ob96 s5_ := (fc169.keep K171)
                    have fc176 : Fld Z T171.heap ob96 s5_ "conversion" "Z" (.int (0 : Int32)) := (fc170.keep K171 (ninS (own_ne (by omega)) (ninS (own_ne (by omega)) (ninS (own_ne (by omega)) nin0))))
                    have fc177 : Exa Z T171.heap ob99 s5_ := ((fc163.keep K165).keep K171)
                    have fc178 : Fld Z T171.heap ob99 s5_ "conversion" "Z" (.int (1 : Int32)) := ((fc164.keep K165 (ninS (own_ne (by omega)) (ninS (own_ne (by omega)) (ninS (own_ne (by omega)) nin0)))).keep K171 (ninS (own_ne (by omega)) (ninS (own_ne (by omega)) (ninS (own_ne (by omega)) nin0))))
                    have K179 : Keep h0 T171.heap [] := (((((((((((Keep.refl h0 []).ext E93).trans K95 (allS (P := fun x => x ∈ [] ∨ h0.size ≤ x) (Or.inr (by omega)) all0)).ext E96).trans K98 (allS (P := fun x => x ∈ [] ∨ h0.size ≤ x) (Or.inr (by omega)) all0)).ext E99).trans K101 (allS (P := fun x => x ∈ [] ∨ h0.size ≤ x) (Or.inr (by omega)) all0)).trans K108 (allS (P := fun x => x ∈ [] ∨ h0.size ≤ x) (Or.inr (by omega)) all0)).trans K141 (allS (P := fun x => x ∈ [] ∨ h0.size ≤ x) (Or.inr (by omega)) (allS (P := fun x => x ∈ [] ∨ h0.size ≤ x) (Or.inr (by omega)) all0))).trans K165 (allS (P := fun x => x ∈ [] ∨ h0.size ≤ x) (Or.inr (by omega)) (allS (P := fun x => x ∈ [] ∨ h0.size ≤ x) (Or.inr (by omega)) (allS (P := fun x => x ∈ [] ∨ h0.size ≤ x) (Or.inr (by omega)) all0)))).trans K171 (allS (P := fun x => x ∈ [] ∨ h0.size ≤ x) (Or.inr (by omega)) (allS (P := fun x => x ∈ [] ∨ h0.size ≤ x) (Or.inr (by omega)) (allS (P := fun x => x ∈ [] ∨ h0.size ≤ x) (Or.inr (by omega)) all0))))
                    exact jn112 _ _ ⟨_, X173, N173⟩ K173 K179 fc174 g171_0 fc175 fc176 fc177 fc178
            · skip
              show own_Go p e below (Tj5.setTop (mkF m 66 #[.val (.long q1), .second, .val (.int f1), .val (.int (1 : Int32)), .val (.int c2), .val (.int tw), .val (.int sf), .val (.int ag), .unset, .unset, .unset, .unset] [])) _
              rcases hj2 with rfl | rfl
              · skip
                show own_Go p e below (Tj5.setTop (mkF m 66 #[.val (.long q1), .second, .val (.int f1), .val (.int (1 : Int32)), .val (.int (0 : Int32)), .val (.int tw), .val (.int sf), .val (.int ag), .unset, .unset, .unset, .unset] [])) _
                obtain ⟨T180, h180, X180, e180, E180, A180, D180, U180, st180⟩ := newO Xj5 hx hZ hown (own_w hw 0 rfl) (own_w hw 1 rfl) (own_w hw 2 rfl) ej5 (g := (mkF m 66 #[.val (.long q1), .second, .val (.int f1), .val (.int (1 : Int32)), .val (.int (0 : Int32)), .val (.int tw), .val (.int sf), .val (.int ag), .unset, .unset, .unset, .unset] [])) rfl (hb hby at_66) (by decide) (by decide)
                obtain ⟨ob180, g180⟩ : ∃ z, z = h0.size := ⟨_, rfl⟩
                rw [← g180] at A180 D180 U180 st180
                refine own_by st180 ?_
                have z180 := E180.1
                have lt180 : h180.size > ob180 := A180.lt
                refine own_by (fun _ k => XS.dup X180.here hx rfl (hb hby at_69) rfl rfl k) ?_
                refine own_by (fun _ k => XS.lloadN X180.here hx rfl (hb hby at_70) rfl k) ?_
                have O181 : Old Z n0 h180 := (O0.ext E180)
                obtain ⟨_, _, ⟨T182, L182, k182, n182⟩, -, X182, ⟨Lc182, hQ182, l182, y182, z182⟩, st182⟩ := X180.specialBack hx (y := (⟨s2_, "<init>", "(J)V"⟩ : MethodName)) rfl hown (mvT hZ (own_w hw 3 rfl)) (mvT hZ (own_w hw 4 rfl)) (mvT hZ (own_w hw 5 rfl)) (by decide) (backOf (W := 1) (rm_leinit l Z a0 hw [] ob180 q1 mo cm h180 n0 O181 S_MODES A_mo L_mo A180 (show Fld Z h180 ob180 s2_ "queues" s11_ .null from D180 (Or.inl (own_w hw 45 rfl)) (ty := (.object s13_)) (by decide)) (show Fld Z h180 ob180 s2_ "holdersByMode" "[I" .null from D180 (Or.inr (own_w hw 13 rfl)) (ty := (.array .int)) (by decide)) (show Fld Z h180 ob180 s2_ "id" "J" (.long (0 : Int64)) from D180 (Or.inr (own_w hw 15 rfl)) (ty := .long) (by decide)) (by first | assumption | omega | decide)) hZ (own_w hw 5 rfl) (own_w hw 2 rfl) (by decide) (by decide)) (g := (mkF m 71 #[.val (.long q1), .second, .val (.int f1), .val (.int (1 : Int32)), .val (.int (0 : Int32)), .val (.int tw), .val (.int sf), .val (.int ag), .unset, .unset, .unset, .unset] [(.long q1), (.ref ob180), (.ref ob180)])) rfl (by rw [hml]; rfl) (Steps.refl _) (a := ob180) (argsL := [(.long q1)]) (rest := [(.ref ob180)]) (lenOf own_pd__28J_29V rfl) rfl (by show 2 * 0 + _ ≤ _; exact Nat.le_of_eq rfl) (hb hby at_71) (fun _ _ => ⟨rfl, e180, (by decide : 1 + 1 ≤ _), (by decide : 6 + 6 ≤ _)⟩)
                dsimp only [Pt.U, Pt.locs, Pt.cells, Pt.slots] at X182 l182 y182 z182 st182 hQ182
                subst l182 y182 z182
                obtain ⟨rfl, M182, K182, g182_0, g182_1⟩ := hQ182
                have N182 := Fr.app Nj5 M182
                refine own_by (fun _ k => st182.trans k) ?_
                have z182 := K182.1
                have lt_g182_0 : T182.heap.size > ob180 := g182_0.lt
                have lt_g182_1 : T182.heap.size > ob180 := g182_1.lt
                refine own_by (fun _ k => XS.astore X182.here hx rfl (hb hby at_74) rfl rfl (l' := #[.val (.long q1), .second, .val (.int f1), .val (.int (1 : Int32)), .val (.int (0 : Int32)), .val (.int tw), .val (.int sf), .val (.int ag), .val (.ref ob180), .unset, .unset, .unset]) rfl k) ?_
                obtain ⟨T183, h183, X183, e183, E183, A183, D183, U183, st183⟩ := newO X182 hx hZ hown (own_w hw 16 rfl) (own_w hw 17 rfl) (own_w hw 18 rfl) rfl (g := (mkF m 76 #[.val (.long q1), .second, .val (.int f1), .val (.int (1 : Int32)), .val (.int (0 : Int32)), .val (.int tw), .val (.int sf), .val (.int ag), .val (.ref ob180), .unset, .unset, .unset] [])) rfl (hb hby at_76) (by decide) (by decide)
                obtain ⟨ob183, g183⟩ : ∃ z, z = T182.heap.size := ⟨_, rfl⟩
                rw [← g183] at A183 D183 U183 st183
                refine own_by st183 ?_
                have z183 := E183.1
                have lt183 : h183.size > ob183 := A183.lt
                show own_Go p e below (T183.setTop (mkF m 79 #[.val (.long q1), .second, .val (.int f1), .val (.int (1 : Int32)), .val (.int (0 : Int32)), .val (.int tw), .val (.int sf), .val (.int ag), .val (.ref ob180), .unset, .unset, .unset] [(.ref ob183)])) _
                refine own_by (fun _ k => XS.dup X183.here hx rfl (hb hby at_79) rfl rfl k) ?_
                refine own_by (fun _ k => XS.aconstNull X183.here hx rfl (hb hby at_80) k) ?_
                refine own_by (fun _ k => XS.aload X183.here hx rfl (hb hby at_81) rfl rfl k) ?_
                refine own_by (fun _ k => XS.aconstNull X183.here hx rfl (hb hby at_83) k) ?_
                refine own_by (fun _ k => XS.iloadN X183.here hx rfl (hb hby at_84) rfl k) ?_
                refine own_by (fun _ k => XS.iconst X183.here hx rfl (hb hby at_85) k) ?_
                show own_Go p e below (T183.setTop (mkF m 86 #[.val (.long q1), .second, .val (.int f1), .val (.int (1 : Int32)), .val (.int (0 : Int32)), .val (.int tw), .val (.int sf), .val (.int ag), .val (.ref ob180), .unset, .unset, .unset] [(.int (0 : Int32)), (.int (1 : Int32)), .null, (.ref ob180), .null, (.ref ob183), (.ref ob183)])) _
                refine own_by (fun _ k => XS.lconst X183.here hx rfl (hb hby at_86) k) ?_
                refine own_by (fun _ k => XS.lconst X183.here hx rfl (hb hby at_87) k) ?_
                refine own_by (fun _ k => XS.lconst X183.here hx rfl (hb hby at_88) k) ?_
                have O184 : Old Z n0 h183 := ((O181.keep K182 (allS (by omega) all0)).ext E183)
                obtain ⟨_, _, ⟨T185, L185, k185, n185⟩, -, X185, ⟨Lc185, hQ185, l185, y185, z185⟩, st185⟩ := X183.specialBack hx (y := (⟨s5_, "<init>", s6_⟩ : MethodName)) rfl hown (mvT hZ (own_w hw 19 rfl)) (mvT hZ (own_w hw 20 rfl)) (mvT hZ (own_w hw 21 rfl)) (by decide) (backOf (W := 1) (rm_winit1 l Z a0 hw [] ob183 ob180 (0 : Int64) h183 n0 O184 A183 (show Fld Z h183 ob183 s5_ "session" s7_ .null from D183 (Or.inr (own_w hw 24 rfl)) (ty := (.object "com/example/admit1/admit1/lock/LockSession")) (by decide)) (show Fld Z h183 ob183 s5_ "lock" s8_ .null from D183 (Or.inr (own_w hw 26 rfl)) (ty := (.object s2_)) (by decide)) (show Fld Z h183 ob183 s5_ "mode" s9_ .null from D183 (Or.inr (own_w hw 28 rfl)) (ty := (.object "com/example/admit1/admit1/lock/LockMode")) (by decide)) (show Fld Z h183 ob183 s5_ "conversion" "Z" (.int (0 : Int32)) from D183 (Or.inr (own_w hw 30 rfl)) (ty := .boolean) (by decide)) (show Fld Z h183 ob183 s5_ s10_ "Z" (.int (0 : Int32)) from D183 (Or.inr (own_w hw 32 rfl)) (ty := .boolean) (by decide)) (show Fld Z h183 ob183 s5_ "since" "J" (.long (0 : Int64)) from D183 (Or.inr (own_w hw 34 rfl)) (ty := .long) (by decide)) (show Fld Z h183 ob183 s5_ "deadline" "J" (.long (0 : Int64)) from D183 (Or.inr (own_w hw 36 rfl)) (ty := .long) (by decide)) (show Fld Z h183 ob183 s5_ "arrival" "J" (.long (0 : Int64)) from D183 (Or.inr (own_w hw 38 rfl)) (ty := .long) (by decide)) (by first | assumption | omega | decide)) hZ (own_w hw 21 rfl) (own_w hw 18 rfl) (by decide) (by decide)) (g := (mkF m 89 #[.val (.long q1), .second, .val (.int f1), .val (.int (1 : Int32)), .val (.int (0 : Int32)), .val (.int tw), .val (.int sf), .val (.int ag), .val (.ref ob180), .unset, .unset, .unset] [(.long (0 : Int64)), (.long (0 : Int64)), (.long (0 : Int64)), (.int (0 : Int32)), (.int (1 : Int32)), .null, (.ref ob180), .null, (.ref ob183), (.ref ob183)])) rfl (by rw [hml]; rfl) (Steps.refl _) (a := ob183) (argsL := [.null, (.ref ob180), .null, (.int (1 : Int32)), (.int (0 : Int32)), (.long (0 : Int64)), (.long (0 : Int64)), (.long (0 : Int64))]) (rest := [(.ref ob183)]) (lenOf own_pd__28Lcom_2fexample_2fadmit1_2fadmit1_2flock_2fLockSession_3bLcom_2fexample_2fadmit1_2fadmit1_2flock_2fLockEntry_3bLcom_2fexample_2fadmit1_2fadmit1_2flock_2fLockMode_3bZZJJJ_29V rfl) rfl (by show 2 * 0 + _ ≤ _; exact Nat.le_of_eq rfl) (hb hby at_89) (fun _ _ => ⟨rfl, e183, (by decide : 3 + 0 ≤ _), (by decide : 20 + 0 ≤ _)⟩)
                dsimp only [Pt.U, Pt.locs, Pt.cells, Pt.slots] at X185 l185 y185 z185 st185 hQ185
                subst l185 y185 z185
                obtain ⟨rfl, M185, K185, g185_0, g185_1⟩ := hQ185
                have N185 := Fr.app N182 M185
                refine own_by (fun _ k => st185.trans k) ?_
                have z185 := K185.1
                have lt_g185_0 : T185.heap.size > ob183 := g185_0.lt
                have lt_g185_1 : T185.heap.size > ob183 := g185_1.lt
                refine own_by (fun _ k => XS.astore X185.here hx rfl (hb hby at_92) rfl rfl (l' := #[.val (.long q1), .second, .val (.int f1), .val (.int (1 : Int32)), .val (.int (0 : Int32)), .val (.int tw), .val (.int sf), .val (.int ag), .val (.ref ob180), .val (.ref ob183), .unset, .unset]) rfl k) ?_
                obtain ⟨T186, h186, X186, e186, E186, A186, D186, U186, st186⟩ := newO X185 hx hZ hown (own_w hw 16 rfl) (own_w hw 17 rfl) (own_w hw 18 rfl) rfl (g := (mkF m 94 #[.val (.long q1), .second, .val (.int f1), .val (.int (1 : Int32)), .val (.int (0 : Int32)), .val (.int tw), .val (.int sf), .val (.int ag), .val (.ref ob180), .val (.ref ob183), .unset, .unset] [])) rfl (hb hby at_94) (by decide) (by decide)
                obtain ⟨ob186, g186⟩ : ∃ z, z = T185.heap.size := ⟨_, rfl⟩
                rw [← g186] at A186 D186 U186 st186
                refine own_by st186 ?_
                have z186 := E186.1
                have lt186 : h186.size > ob186 := A186.lt
                show own_Go p e below (T186.setTop (mkF m 97 #[.val (.long q1), .second, .val (.int f1), .val (.int (1 : Int32)), .val (.int (0 : Int32)), .val (.int tw), .val (.int sf), .val (.int ag), .val (.ref ob180), .val (.ref ob183), .unset, .unset] [(.ref ob186)])) _
                refine own_by (fun _ k => XS.dup X186.here hx rfl (hb hby at_97) rfl rfl k) ?_
                refine own_by (fun _ k => XS.aconstNull X186.here hx rfl (hb hby at_98) k) ?_
                refine own_by (fun _ k => XS.aload X186.here hx rfl (hb hby at_99) rfl rfl k) ?_
                refine own_by (fun _ k => XS.aconstNull X186.here hx rfl (hb hby at_101) k) ?_
                refine own_by (fun _ k => XS.iload X186.here hx rfl (hb hby at_102) rfl k) ?_
                refine own_by (fun _ k => XS.iconst X186.here hx rfl (hb hby at_104) k) ?_
                show own_Go p e below (T186.setTop (mkF m 105 #[.val (.long q1), .second, .val (.int f1), .val (.int (1 : Int32)), .val (.int (0 : Int32)), .val (.int tw), .val (.int sf), .val (.int ag), .val (.ref ob180), .val (.ref ob183), .unset, .unset] [(.int (0 : Int32)), (.int (0 : Int32)), .null, (.ref ob180), .null, (.ref ob186), (.ref ob186)])) _
                refine own_by (fun _ k => XS.lconst X186.here hx rfl (hb hby at_105) k) ?_
                refine own_by (fun _ k => XS.lconst X186.here hx rfl (hb hby at_106) k) ?_
                refine own_by (fun _ k => XS.lconst X186.here hx rfl (hb hby at_107) k) ?_
                have O187 : Old Z n0 h186 := ((O184.keep K185 (allS (by omega) all0)).ext E186)
                obtain ⟨_, _, ⟨T188, L188, k188, n188⟩, -, X188, ⟨Lc188, hQ188, l188, y188, z188⟩, st188⟩ := X186.specialBack hx (y := (⟨s5_, "<init>", s6_⟩ : MethodName)) rfl hown (mvT hZ (own_w hw 19 rfl)) (mvT hZ (own_w hw 20 rfl)) (mvT hZ (own_w hw 21 rfl)) (by decide) (backOf (W := 1) (rm_winit0 l Z a0 hw [] ob186 ob180 (1 : Int64) h186 n0 O187 A186 (show Fld Z h186 ob186 s5_ "session" s7_ .null from D186 (Or.inr (own_w hw 24 rfl)) (ty := (.object "com/example/admit1/admit1/lock/LockSession")) (by decide)) (show Fld Z h186 ob186 s5_ "lock" s8_ .null from D186 (Or.inr (own_w hw 26 rfl)) (ty := (.object s2_)) (by decide)) (show Fld Z h186 ob186 s5_ "mode" s9_ .null from D186 (Or.inr (own_w hw 28 rfl)) (ty := (.object "com/example/admit1/admit1/lock/LockMode")) (by decide)) (show Fld Z h186 ob186 s5_ "conversion" "Z" (.int (0 : Int32)) from D186 (Or.inr (own_w hw 30 rfl)) (ty := .boolean) (by decide)) (show Fld Z h186 ob186 s5_ s10_ "Z" (.int (0 : Int32)) from D186 (Or.inr (own_w hw 32 rfl)) (ty := .boolean) (by decide)) (show Fld Z h186 ob186 s5_ "since" "J" (.long (0 : Int64)) from D186 (Or.inr (own_w hw 34 rfl)) (ty := .long) (by decide)) (show Fld Z h186 ob186 s5_ "deadline" "J" (.long (0 : Int64)) from D186 (Or.inr (own_w hw 36 rfl)) (ty := .long) (by decide)) (show Fld Z h186 ob186 s5_ "arrival" "J" (.long (0 : Int64)) from D186 (Or.inr (own_w hw 38 rfl)) (ty := .long) (by decide)) (by first | assumption | omega | decide)) hZ (own_w hw 21 rfl) (own_w hw 18 rfl) (by decide) (by decide)) (g := (mkF m 108 #[.val (.long q1), .second, .val (.int f1), .val (.int (1 : Int32)), .val (.int (0 : Int32)), .val (.int tw), .val (.int sf), .val (.int ag), .val (.ref ob180), .val (.ref ob183), .unset, .unset] [(.long (1 : Int64)), (.long (0 : Int64)), (.long (0 : Int64)), (.int (0 : Int32)), (.int (0 : Int32)), .null, (.ref ob180), .null, (.ref ob186), (.ref ob186)])) rfl (by rw [hml]; rfl) (Steps.refl _) (a := ob186) (argsL := [.null, (.ref ob180), .null, (.int (0 : Int32)), (.int (0 : Int32)), (.long (0 : Int64)), (.long (0 : Int64)), (.long (1 : Int64))]) (rest := [(.ref ob186)]) (lenOf own_pd__28Lcom_2fexample_2fadmit1_2fadmit1_2flock_2fLockSession_3bLcom_2fexample_2fadmit1_2fadmit1_2flock_2fLockEntry_3bLcom_2fexample_2fadmit1_2fadmit1_2flock_2fLockMode_3bZZJJJ_29V rfl) rfl (by show 2 * 0 + _ ≤ _; exact Nat.le_of_eq rfl) (hb hby at_108) (fun _ _ => ⟨rfl, e186, (by decide : 4 + 0 ≤ _), (by decide : 28 + 0 ≤ _)⟩)
                dsimp only [Pt.U, Pt.locs, Pt.cells, Pt.slots] at X188 l188 y188 z188 st188 hQ188
                subst l188 y188 z188
                obtain ⟨rfl, M188, K188, g188_0, g188_1⟩ := hQ188
                have N188 := Fr.app N185 M188
                refine own_by (fun _ k => st188.trans k) ?_
                have z188 := K188.1
                have lt_g188_0 : T188.heap.size > ob186 := g188_0.lt
                have lt_g188_1 : T188.heap.size > ob186 := g188_1.lt
                refine own_by (fun _ k => XS.astore X188.here hx rfl (hb hby at_111) rfl rfl (l' := #[.val (.long q1), .second, .val (.int f1), .val (.int (1 : Int32)), .val (.int (0 : Int32)), .val (.int tw), .val (.int sf), .val (.int ag), .val (.ref ob180), .val (.ref ob183), .val (.ref ob186), .unset]) rfl k) ?_
                refine own_by (fun _ k => XS.aload X188.here hx rfl (hb hby at_113) rfl rfl k) ?_
                show own_Go p e below (T188.setTop (mkF m 115 #[.val (.long q1), .second, .val (.int f1), .val (.int (1 : Int32)), .val (.int (0 : Int32)), .val (.int tw), .val (.int sf), .val (.int ag), .val (.ref ob180), .val (.ref ob183), .val (.ref ob186), .unset] [(.ref ob180)])) _
                have fc189 : Fld Z T188.heap ob180 s2_ "queues" s11_ .null := ((((g182_1.ext E183).keep K185 (ninS (own_ne (by omega)) nin0)).ext E186).keep K188 (ninS (own_ne (by omega)) nin0))
                have O190 : Old Z n0 T188.heap := (O187.keep K188 (allS (by omega) all0))
                have fc192 : Exa Z T188.heap ob180 s2_ := ((((g182_0.ext E183).keep K185).ext E186).keep K188)
                obtain ⟨cq191, kq191, q191a, q191b, q191c⟩ := isOf hZ rfl fc192
                obtain ⟨_, _, ⟨T191, L191, k191, n191⟩, -, X191, ⟨Lc191, hQ191, l191, y191, z191⟩, st191⟩ := X188.virtualBack hx (y := (⟨s2_, "hasWaiting", "()Z"⟩ : MethodName)) (z := (⟨s2_, "hasWaiting", "()Z"⟩ : MethodName)) hown (mvT hZ (own_w hw 39 rfl)) (mvT hZ (own_w hw 40 rfl)) (notFace_of_selects (args := #[]) (mvT hZ (own_w hw 42 rfl))) (mvT hZ (own_w hw 42 rfl)) (mvT hZ (own_w hw 41 rfl)) (by decide) (backOf (W := 0) (rm_hw0 l Z a0 hw [] ob180 T188.heap n0 O190 fc189) hZ (own_w hw 43 rfl) (own_w hw 2 rfl) (by decide) (by decide)) q191a q191c (g := (mkF m 115 #[.val (.long q1), .second, .val (.int f1), .val (.int (1 : Int32)), .val (.int (0 : Int32)), .val (.int tw), .val (.int sf), .val (.int ag), .val (.ref ob180), .val (.ref ob183), .val (.ref ob186), .unset] [(.ref ob180)])) rfl (by rw [hml]; rfl) (Steps.refl _) (argsL := []) (rest := []) (lenOf own_pd__28_29Z rfl) rfl (by show 2 * 0 + _ ≤ _; exact Nat.le_of_eq rfl) (hb hby at_115) (fun _ _ => ⟨rfl, rfl, (by decide : 4 + 0 ≤ _), (by decide : 28 + 0 ≤ _)⟩)
                dsimp only [Pt.U, Pt.locs, Pt.cells, Pt.slots] at X191 l191 y191 z191 st191 hQ191
                subst l191 y191 z191
                obtain ⟨rfl, M191, K191⟩ := hQ191
                have N191 := Fr.app N188 M191
                refine own_by (fun _ k => st191.trans k) ?_
                refine own_by (fun _ k => XS.ifNo X191.here hx rfl (hb hby at_118) rfl ((if0 _ _).trans (teq (by decide : (0 : Int32) = (0 : Int32))).2) k) ?_
                show own_Go p e below (T191.setTop (mkF m 121 #[.val (.long q1), .second, .val (.int f1), .val (.int (1 : Int32)), .val (.int (0 : Int32)), .val (.int tw), .val (.int sf), .val (.int ag), .val (.ref ob180), .val (.ref ob183), .val (.ref ob186), .unset] [])) _
                refine own_by (fun _ k => XS.iconst X191.here hx rfl (hb hby at_121) k) ?_
                refine own_by (fun _ k => XS.goto X191.here hx rfl (pc0 := 122) (pc' := 126) rfl (hb hby at_122) (by decide) (by decide) k) ?_
                refine own_by (fun _ k => XS.istore X191.here hx rfl (hb hby at_126) rfl (l' := #[.val (.long q1), .second, .val (.int f1), .val (.int (1 : Int32)), .val (.int (0 : Int32)), .val (.int tw), .val (.int sf), .val (.int ag), .val (.ref ob180), .val (.ref ob183), .val (.ref ob186), .val (.int (1 : Int32))]) rfl k) ?_
                refine own_by (fun _ k => XS.aload X191.here hx rfl (hb hby at_128) rfl rfl k) ?_
                refine own_by (fun _ k => XS.aload X191.here hx rfl (hb hby at_130) rfl rfl k) ?_
                have fc193 : Exa Z T188.heap ob183 s5_ := ((g185_0.ext E186).keep K188)
                have fc194 : Fld Z T188.heap ob183 s5_ "conversion" "Z" (.int (1 : Int32)) := ((g185_1.ext E186).keep K188 (ninS (own_ne (by omega)) nin0))
                obtain ⟨cq195, kq195, q195a, q195b, q195c⟩ := isOf hZ K191 fc192
                obtain ⟨_, _, ⟨T195, L195, k195, n195⟩, -, X195, ⟨Lc195, hQ195, l195, y195, z195⟩, st195⟩ := X191.virtualBack hx (y := (⟨s2_, "enqueue", s12_⟩ : MethodName)) (z := (⟨s2_, "enqueue", s12_⟩ : MethodName)) hown (mvT hZ (own_w hw 46 rfl)) (mvT hZ (own_w hw 47 rfl)) (notFace_of_selects (args := #[]) (mvT hZ (own_w hw 49 rfl))) (mvT hZ (own_w hw 49 rfl)) (mvT hZ (own_w hw 48 rfl)) (by decide) (backOf (W := 0) (rm_enq_None_w11 l Z a0 hw [] ob180 ob183 T188.heap n0 O190 fc189 fc192 fc193 fc194 (by first | assumption | omega | decide) (by first | assumption | omega | decide)) hZ (own_w hw 50 rfl) (own_w hw 2 rfl) (by decide) (by decide)) q195a q195c (g := (mkF m 132 #[.val (.long q1), .second, .val (.int f1), .val (.int (1 : Int32)), .val (.int (0 : Int32)), .val (.int tw), .val (.int sf), .val (.int ag), .val (.ref ob180), .val (.ref ob183), .val (.ref ob186), .val (.int (1 : Int32))] [(.ref ob183), (.ref ob180)])) rfl (by rw [hml]; rfl) (Steps.refl _) (argsL := [(.ref ob183)]) (rest := []) (lenOf own_pd__28Lcom_2fexample_2fadmit1_2fadmit1_2flock_2fWait_3b_29V rfl) rfl (by show 2 * 0 + _ ≤ _; exact Nat.le_of_eq rfl) (hb hby at_132) (fun _ _ => ⟨rfl, K191, (by decide : 4 + 5 ≤ _), (by decide : 28 + 42 ≤ _)⟩)
                dsimp only [Pt.U, Pt.locs, Pt.cells, Pt.slots] at X195 l195 y195 z195 st195 hQ195
                subst l195 y195 z195
                obtain ⟨q_195, d1_195, a1_195, kk1_195, d2_195, a2_195, kk2_195, rfl, M195, K195, g195_0, g195_1, g195_2, g195_3, g195_4, g195_5, g195_6, g195_7, g195_8, g195_9, g195_10, g195_11, g195_12, g195_13, r195_0, r195_1, r195_2, r195_3, r195_4, r195_5, r195_6, r195_7⟩ := hQ195
                have N195 := Fr.app N191 M195
                refine own_by (fun _ k => st195.trans k) ?_
                have z195 := K195.1
                have lt_g195_0 : T195.heap.size > ob180 := g195_0.lt
                have lt_g195_1 : T195.heap.size > q_195 := g195_1.lt
                have lt_g195_2 : T195.heap.size > q_195 := g195_2.lt
                have lt_g195_3 : T195.heap.size > q_195 := g195_3.lt
                have lt_g195_4 : T195.heap.size > d1_195 := g195_4.lt
                have lt_g195_5 : T195.heap.size > d1_195 := g195_5.lt
                have lt_g195_6 : T195.heap.size > d1_195 := g195_6.lt
                have lt_g195_7 : T195.heap.size > d1_195 := g195_7.lt
                have lt_g195_8 : T195.heap.size > a1_195 := g195_8.lt
                have lt_g195_9 : T195.heap.size > d2_195 := g195_9.lt
                have lt_g195_10 : T195.heap.size > d2_195 := g195_10.lt
                have lt_g195_11 : T195.heap.size > d2_195 := g195_11.lt
                have lt_g195_12 : T195.heap.size > d2_195 := g195_12.lt
                have lt_g195_13 : T195.heap.size > a2_195 := g195_13.lt
                show own_Go p e below (T195.setTop (mkF m 135 #[.val (.long q1), .second, .val (.int f1), .val (.int (1 : Int32)), .val (.int (0 : Int32)), .val (.int tw), .val (.int sf), .val (.int ag), .val (.ref ob180), .val (.ref ob183), .val (.ref ob186), .val (.int (1 : Int32))] [])) _
                refine own_by (fun _ k => XS.iload X195.here hx rfl (hb hby at_135) rfl k) ?_
                refine own_by (fun _ k => XS.ifNo X195.here hx rfl (hb hby at_137) rfl ((if0 _ _).trans (feq (by decide : ¬ ((1 : Int32) = (0 : Int32)))).1) k) ?_
                show own_Go p e below (T195.setTop (mkF m 140 #[.val (.long q1), .second, .val (.int f1), .val (.int (1 : Int32)), .val (.int (0 : Int32)), .val (.int tw), .val (.int sf), .val (.int ag), .val (.ref ob180), .val (.ref ob183), .val (.ref ob186), .val (.int (1 : Int32))] [])) _
                refine own_by (fun _ k => XS.aload X195.here hx rfl (hb hby at_140) rfl rfl k) ?_
                have O196 : Old Z n0 T195.heap := (O190.keep K195 (allS (by omega) all0))
                have fc198 : Exa Z T195.heap ob180 s2_ := (fc192.keep K195)
                obtain ⟨cq197, kq197, q197a, q197b, q197c⟩ := isOf hZ rfl fc198
                obtain ⟨_, _, ⟨T197, L197, k197, n197⟩, -, X197, ⟨Lc197, hQ197, l197, y197, z197⟩, st197⟩ := X195.virtualBack hx (y := (⟨s2_, "hasWaiting", "()Z"⟩ : MethodName)) (z := (⟨s2_, "hasWaiting", "()Z"⟩ : MethodName)) hown (mvT hZ (own_w hw 39 rfl)) (mvT hZ (own_w hw 40 rfl)) (notFace_of_selects (args := #[]) (mvT hZ (own_w hw 42 rfl))) (mvT hZ (own_w hw 42 rfl)) (mvT hZ (own_w hw 41 rfl)) (by decide) (backOf (W := 0) (rm_hw1 l Z a0 hw [] ob180 q_195 T195.heap n0 O196 g195_0) hZ (own_w hw 43 rfl) (own_w hw 2 rfl) (by decide) (by decide)) q197a q197c (g := (mkF m 142 #[.val (.long q1), .second, .val (.int f1), .val (.int (1 : Int32)), .val (.int (0 : Int32)), .val (.int tw), .val (.int sf), .val (.int ag), .val (.ref ob180), .val (.ref ob183), .val (.ref ob186), .val (.int (1 : Int32))] [(.ref ob180)])) rfl (by rw [hml]; rfl) (Steps.refl _) (argsL := []) (rest := []) (lenOf own_pd__28_29Z rfl) rfl (by show 2 * 0 + _ ≤ _; exact Nat.le_of_eq rfl) (hb hby at_142) (fun _ _ => ⟨rfl, rfl, (by decide : 9 + 0 ≤ _), (by decide : 70 + 0 ≤ _)⟩)
                dsimp only [Pt.U, Pt.locs, Pt.cells, Pt.slots] at X197 l197 y197 z197 st197 hQ197
                subst l197 y197 z197
                obtain ⟨rfl, M197, K197⟩ := hQ197
                have N197 := Fr.app N195 M197
                refine own_by (fun _ k => st197.trans k) ?_
                refine own_by (fun _ k => XS.ifNo X197.here hx rfl (hb hby at_145) rfl ((if0 _ _).trans (feq (by decide : ¬ ((1 : Int32) = (0 : Int32)))).1) k) ?_
                show own_Go p e below (T197.setTop (mkF m 148 #[.val (.long q1), .second, .val (.int f1), .val (.int (1 : Int32)), .val (.int (0 : Int32)), .val (.int tw), .val (.int sf), .val (.int ag), .val (.ref ob180), .val (.ref ob183), .val (.ref ob186), .val (.int (1 : Int32))] [])) _
                refine own_by (fun _ k => XS.iconst X197.here hx rfl (hb hby at_148) k) ?_
                refine own_by (fun _ k => XS.goto X197.here hx rfl (pc0 := 149) (pc' := 153) rfl (hb hby at_149) (by decide) (by decide) k) ?_
                refine own_by (fun _ k => XS.istore X197.here hx rfl (hb hby at_153) rfl (l' := #[.val (.long q1), .second, .val (.int f1), .val (.int (1 : Int32)), .val (.int (0 : Int32)), .val (.int tw), .val (.int sf), .val (.int ag), .val (.ref ob180), .val (.ref ob183), .val (.ref ob186), .val (.int (1 : Int32))]) rfl k) ?_
                show own_Go p e below (T197.setTop (mkF m 155 #[.val (.long q1), .second, .val (.int f1), .val (.int (1 : Int32)), .val (.int (0 : Int32)), .val (.int tw), .val (.int sf), .val (.int ag), .val (.ref ob180), .val (.ref ob183), .val (.ref ob186), .val (.int (1 : Int32))] [])) _
                have jn199 : ∀ (Tj199 : State) (Hj199 : Heap), (∃ lc, Stand p l e room_1 s m #[(.long q1), (.int f1)] below meth c Tj199 lc 9 70 ∧ Fr n0 lc) → Tj199.heap = Hj199 → (Keep h0 Hj199 []) → (Exa Z Hj199 ob180 s2_) → (Fld Z Hj199 ob180 s2_ "queues" s11_ .null) → (Exa Z Hj199 ob183 s5_) → (Fld Z Hj199 ob183 s5_ "conversion" "Z" (.int (1 : Int32))) → (Exa Z Hj199 ob186 s5_) → (Fld Z Hj199 ob186 s5_ "conversion" "Z" (.int (0 : Int32))) → own_Go p e below (Tj199.setTop (mkF m 313 #[.val (.long q1), .second, .val (.int f1), .val (.int (1 : Int32)), .val (.int (0 : Int32)), .val (.int tw), .val (.int sf), .val (.int ag), .val (.ref ob180), .val (.ref ob183), .val (.ref ob186), .val (.int (1 : Int32))] [])) (fun t o => ∃ v L, o = .returned v ∧ Q_rm_law Z q1 f1 mo cm h0 n0 v t.heap L ∧ FrameEnd s o t L room_1.cells room_1.slots) := by
                  rintro Tj199 Hj199 ⟨lc199, Xj199, Nj199⟩ ej199 Kj199 fj199_0 fj199_1 fj199_2 fj199_3 fj199_4 fj199_5
                  have zj199 := Kj199.1
                  have lt_fj199_0 : Hj199.size > ob180 := fj199_0.lt
                  have lt_fj199_1 : Hj199.size > ob180 := fj199_1.lt
                  have lt_fj199_2 : Hj199.size > ob183 := fj199_2.lt
                  have lt_fj199_3 : Hj199.size > ob183 := fj199_3.lt
                  have lt_fj199_4 : Hj199.size > ob186 := fj199_4.lt
                  have lt_fj199_5 : Hj199.size > ob186 := fj199_5.lt
                  refine own_by (fun _ k => XS.iload Xj199.here hx rfl (hb hby at_313) rfl k) ?_
                  by_cases hc200 : ag = (0 : Int32)
                  · skip
                    refine own_by (fun _ k => XS.ifYes Xj199.here hx rfl (pc0 := 315) (pc' := 372) rfl (hb hby at_315) rfl ((if0 _ _).trans (teq hc200).1) (by decide) (by decide) k) ?_
                    show own_Go p e below (Tj199.setTop (mkF m 372 #[.val (.long q1), .second, .val (.int f1), .val (.int (1 : Int32)), .val (.int (0 : Int32)), .val (.int tw), .val (.int sf), .val (.int ag), .val (.ref ob180), .val (.ref ob183), .val (.ref ob186), .val (.int (1 : Int32))] [])) _
                    refine own_by (fun _ k => XS.iload Xj199.here hx rfl (hb hby at_372) rfl k) ?_
                    have K201 : Keep h0 Hj199 [] := ((Keep.refl h0 []).trans Kj199 all0)
                    obtain ⟨fs, hr, hrun, hended, hW, hsame⟩ := Xj199.leave (v := some (.int (1 : Int32))) (fun h => by rw [Bd.returns] at h; cases h)
                    refine ⟨_, _, retN Xj199 hx (t := .boolean) Bd.returns (by simp) (hb hby at_374) hr, hrun, hended, _, _, rfl, ?_, ⟨_, rfl⟩, hW, hsame.mono (by decide) (by decide)⟩
                    show Q_rm_law Z q1 f1 mo cm h0 n0 _ Tj199.heap _
                    rw [ej199]
                    exact ⟨rfl, Nj199, K201⟩
                  · skip
                    refine own_by (fun _ k => XS.ifNo Xj199.here hx rfl (hb hby at_315) rfl ((if0 _ _).trans (feq hc200).1) k) ?_
                    show own_Go p e below (Tj199.setTop (mkF m 318 #[.val (.long q1), .second, .val (.int f1), .val (.int (1 : Int32)), .val (.int (0 : Int32)), .val (.int tw), .val (.int sf), .val (.int ag), .val (.ref ob180), .val (.ref ob183), .val (.ref ob186), .val (.int (1 : Int32))] [])) _
                    refine own_by (fun _ k => XS.aload Xj199.here hx rfl (hb hby at_318) rfl rfl k) ?_
                    refine own_by (fun _ k => XS.aload Xj199.here hx rfl (hb hby at_320) rfl rfl k) ?_
                    have O202 : Old Z n0 Hj199 := (O0.keep Kj199 all0)
                    obtain ⟨cq203, kq203, q203a, q203b, q203c⟩ := isOf hZ ej199 fj199_0
                    obtain ⟨_, _, ⟨T203, L203, k203, n203⟩, -, X203, ⟨Lc203, hQ203, l203, y203, z203⟩, st203⟩ := Xj199.virtualBack hx (y := (⟨s2_, "enqueue", s12_⟩ : MethodName)) (z := (⟨s2_, "enqueue", s12_⟩ : MethodName)) hown (mvT hZ (own_w hw 46 rfl)) (mvT hZ (own_w hw 47 rfl)) (notFace_of_selects (args := #[]) (mvT hZ (own_w hw 49 rfl))) (mvT hZ (own_w hw 49 rfl)) (mvT hZ (own_w hw 48 rfl)) (by decide) (backOf (W := 0) (rm_enq_None_w10 l Z a0 hw [] ob180 ob186 Hj199 n0 O202 fj199_1 fj199_0 fj199_4 fj199_5 (by first | assumption | omega | decide) (by first | assumption | omega | decide)) hZ (own_w hw 50 rfl) (own_w hw 2 rfl) (by decide) (by decide)) q203a q203c (g := (mkF m 322 #[.val (.long q1), .second, .val (.int f1), .val (.int (1 : Int32)), .val (.int (0 : Int32)), .val (.int tw), .val (.int sf), .val (.int ag), .val (.ref ob180), .val (.ref ob183), .val (.ref ob186), .val (.int (1 : Int32))] [(.ref ob186), (.ref ob180)])) rfl (by rw [hml]; rfl) (Steps.refl _) (argsL := [(.ref ob186)]) (rest := []) (lenOf own_pd__28Lcom_2fexample_2fadmit1_2fadmit1_2flock_2fWait_3b_29V rfl) rfl (by show 2 * 0 + _ ≤ _; exact Nat.le_of_eq rfl) (hb hby at_322) (fun _ _ => ⟨rfl, ej199, (by decide : 9 + 5 ≤ _), (by decide : 70 + 42 ≤ _)⟩)
                    dsimp only [Pt.U, Pt.locs, Pt.cells, Pt.slots] at X203 l203 y203 z203 st203 hQ203
                    subst l203 y203 z203
                    obtain ⟨q_203, d1_203, a1_203, kk1_203, d2_203, a2_203, kk2_203, rfl, M203, K203, g203_0, g203_1, g203_2, g203_3, g203_4, g203_5, g203_6, g203_7, g203_8, g203_9, g203_10, g203_11, g203_12, g203_13, r203_0, r203_1, r203_2, r203_3, r203_4, r203_5, r203_6, r203_7⟩ := hQ203
                    have N203 := Fr.app Nj199 M203
                    refine own_by (fun _ k => st203.trans k) ?_
                    have z203 := K203.1
                    have lt_g203_0 : T203.heap.size > ob180 := g203_0.lt
                    have lt_g203_1 : T203.heap.size > q_203 := g203_1.lt
                    have lt_g203_2 : T203.heap.size > q_203 := g203_2.lt
                    have lt_g203_3 : T203.heap.size > q_203 := g203_3.lt
                    have lt_g203_4 : T203.heap.size > d1_203 := g203_4.lt
                    have lt_g203_5 : T203.heap.size > d1_203 := g203_5.lt
                    have lt_g203_6 : T203.heap.size > d1_203 := g203_6.lt
                    have lt_g203_7 : T203.heap.size > d1_203 := g203_7.lt
                    have lt_g203_8 : T203.heap.size > a1_203 := g203_8.lt
                    have lt_g203_9 : T203.heap.size > d2_203 := g203_9.lt
                    have lt_g203_10 : T203.heap.size > d2_203 := g203_10.lt
                    have lt_g203_11 : T203.heap.size > d2_203 := g203_11.lt
                    have lt_g203_12 : T203.heap.size > d2_203 := g203_12.lt
                    have lt_g203_13 : T203.heap.size > a2_203 := g203_13.lt
                    refine own_by (fun _ k => XS.iload X203.here hx rfl (hb hby at_325) rfl k) ?_
                    refine own_by (fun _ k => XS.ifNo X203.here hx rfl (hb hby at_327) rfl ((if0 _ _).trans (feq (by decide : ¬ ((1 : Int32) = (0 : Int32)))).1) k) ?_
                    show own_Go p e below (T203.setTop (mkF m 330 #[.val (.long q1), .second, .val (.int f1), .val (.int (1 : Int32)), .val (.int (0 : Int32)), .val (.int tw), .val (.int sf), .val (.int ag), .val (.ref ob180), .val (.ref ob183), .val (.ref ob186), .val (.int (1 : Int32))] [])) _
                    refine own_by (fun _ k => XS.aload X203.here hx rfl (hb hby at_330) rfl rfl k) ?_
                    have O204 : Old Z n0 T203.heap := (O202.keep K203 (allS (by omega) all0))
                    have fc206 : Exa Z T203.heap ob180 s2_ := (fj199_0.keep K203)
                    obtain ⟨cq205, kq205, q205a, q205b, q205c⟩ := isOf hZ rfl fc206
                    obtain ⟨_, _, ⟨T205, L205, k205, n205⟩, -, X205, ⟨Lc205, hQ205, l205, y205, z205⟩, st205⟩ := X203.virtualBack hx (y := (⟨s2_, "hasWaiting", "()Z"⟩ : MethodName)) (z := (⟨s2_, "hasWaiting", "()Z"⟩ : MethodName)) hown (mvT hZ (own_w hw 39 rfl)) (mvT hZ (own_w hw 40 rfl)) (notFace_of_selects (args := #[]) (mvT hZ (own_w hw 42 rfl))) (mvT hZ (own_w hw 42 rfl)) (mvT hZ (own_w hw 41 rfl)) (by decide) (backOf (W := 0) (rm_hw1 l Z a0 hw [] ob180 q_203 T203.heap n0 O204 g203_0) hZ (own_w hw 43 rfl) (own_w hw 2 rfl) (by decide) (by decide)) q205a q205c (g := (mkF m 332 #[.val (.long q1), .second, .val (.int f1), .val (.int (1 : Int32)), .val (.int (0 : Int32)), .val (.int tw), .val (.int sf), .val (.int ag), .val (.ref ob180), .val (.ref ob183), .val (.ref ob186), .val (.int (1 : Int32))] [(.ref ob180)])) rfl (by rw [hml]; rfl) (Steps.refl _) (argsL := []) (rest := []) (lenOf own_pd__28_29Z rfl) rfl (by show 2 * 0 + _ ≤ _; exact Nat.le_of_eq rfl) (hb hby at_332) (fun _ _ => ⟨rfl, rfl, (by decide : 14 + 0 ≤ _), (by decide : 112 + 0 ≤ _)⟩)
                    dsimp only [Pt.U, Pt.locs, Pt.cells, Pt.slots] at X205 l205 y205 z205 st205 hQ205
                    subst l205 y205 z205
                    obtain ⟨rfl, M205, K205⟩ := hQ205
                    have N205 := Fr.app N203 M205
                    refine own_by (fun _ k => st205.trans k) ?_
                    refine own_by (fun _ k => XS.ifNo X205.here hx rfl (hb hby at_335) rfl ((if0 _ _).trans (feq (by decide : ¬ ((1 : Int32) = (0 : Int32)))).1) k) ?_
                    show own_Go p e below (T205.setTop (mkF m 338 #[.val (.long q1), .second, .val (.int f1), .val (.int (1 : Int32)), .val (.int (0 : Int32)), .val (.int tw), .val (.int sf), .val (.int ag), .val (.ref ob180), .val (.ref ob183), .val (.ref ob186), .val (.int (1 : Int32))] [])) _
                    refine own_by (fun _ k => XS.iconst X205.here hx rfl (hb hby at_338) k) ?_
                    refine own_by (fun _ k => XS.goto X205.here hx rfl (pc0 := 339) (pc' := 343) rfl (hb hby at_339) (by decide) (by decide) k) ?_
                    refine own_by (fun _ k => XS.istore X205.here hx rfl (hb hby at_343) rfl (l' := #[.val (.long q1), .second, .val (.int f1), .val (.int (1 : Int32)), .val (.int (0 : Int32)), .val (.int tw), .val (.int sf), .val (.int ag), .val (.ref ob180), .val (.ref ob183), .val (.ref ob186), .val (.int (1 : Int32))]) rfl k) ?_
                    refine own_by (fun _ k => XS.aload X205.here hx rfl (hb hby at_345) rfl rfl k) ?_
                    refine own_by (fun _ k => XS.aload X205.here hx rfl (hb hby at_347) rfl rfl k) ?_
                    have fc207 : Exa Z T203.heap ob186 s5_ := (fj199_4.keep K203)
                    have fc208 : Fld Z T203.heap ob186 s5_ "conversion" "Z" (.int (0 : Int32)) := (fj199_5.keep K203 (ninS (own_ne (by omega)) nin0))
                    obtain ⟨cq209, kq209, q209a, q209b, q209c⟩ := isOf hZ K205 fc206
                    obtain ⟨_, _, ⟨T209, L209, k209, n209⟩, -, X209, ⟨Lc209, hQ209, l209, y209, z209⟩, st209⟩ := X205.virtualBack hx (y := (⟨s2_, "dequeue", s12_⟩ : MethodName)) (z := (⟨s2_, "dequeue", s12_⟩ : MethodName)) hown (mvT hZ (own_w hw 98 rfl)) (mvT hZ (own_w hw 99 rfl)) (notFace_of_selects (args := #[]) (mvT hZ (own_w hw 101 rfl))) (mvT hZ (own_w hw 101 rfl)) (mvT hZ (own_w hw 100 rfl)) (by decide) (backOf (W := 0) (rm_deq_0_0_0_1_w1_w10 l Z a0 hw [] ob180 q_203 d1_203 a1_203 kk1_203 d2_203 a2_203 kk2_203 ob186 T203.heap n0 O204 g203_0 fc206 fc207 fc208 g203_1 g203_2 g203_3 g203_4 g203_5 g203_6 g203_7 g203_8 g203_9 g203_10 g203_11 g203_12 g203_13 (by first | assumption | omega | decide) (by first | assumption | omega | decide) (own_ne (by omega)) (own_ne (by omega)) r203_0 r203_1 r203_2 r203_3 r203_4 r203_5 r203_6) hZ (own_w hw 102 rfl) (own_w hw 2 rfl) (by decide) (by decide)) q209a q209c (g := (mkF m 349 #[.val (.long q1), .second, .val (.int f1), .val (.int (1 : Int32)), .val (.int (0 : Int32)), .val (.int tw), .val (.int sf), .val (.int ag), .val (.ref ob180), .val (.ref ob183), .val (.ref ob186), .val (.int (1 : Int32))] [(.ref ob186), (.ref ob180)])) rfl (by rw [hml]; rfl) (Steps.refl _) (argsL := [(.ref ob186)]) (rest := []) (lenOf own_pd__28Lcom_2fexample_2fadmit1_2fadmit1_2flock_2fWait_3b_29V rfl) rfl (by show 2 * 0 + _ ≤ _; exact Nat.le_of_eq rfl) (hb hby at_349) (fun _ _ => ⟨rfl, K205, (by decide : 14 + 0 ≤ _), (by decide : 112 + 0 ≤ _)⟩)
                    dsimp only [Pt.U, Pt.locs, Pt.cells, Pt.slots] at X209 l209 y209 z209 st209 hQ209
                    subst l209 y209 z209
                    obtain ⟨rfl, M209, K209, g209_0⟩ := hQ209
                    have N209 := Fr.app N205 M209
                    refine own_by (fun _ k => st209.trans k) ?_
                    have z209 := K209.1
                    have lt_g209_0 : T209.heap.size > ob180 := g209_0.lt
                    show own_Go p e below (T209.setTop (mkF m 352 #[.val (.long q1), .second, .val (.int f1), .val (.int (1 : Int32)), .val (.int (0 : Int32)), .val (.int tw), .val (.int sf), .val (.int ag), .val (.ref ob180), .val (.ref ob183), .val (.ref ob186), .val (.int (1 : Int32))] [])) _
                    refine own_by (fun _ k => XS.iload X209.here hx rfl (hb hby at_352) rfl k) ?_
                    refine own_by (fun _ k => XS.ifNo X209.here hx rfl (hb hby at_354) rfl ((if0 _ _).trans (feq (by decide : ¬ ((1 : Int32) = (0 : Int32)))).1) k) ?_
                    show own_Go p e below (T209.setTop (mkF m 357 #[.val (.long q1), .second, .val (.int f1), .val (.int (1 : Int32)), .val (.int (0 : Int32)), .val (.int tw), .val (.int sf), .val (.int ag), .val (.ref ob180), .val (.ref ob183), .val (.ref ob186), .val (.int (1 : Int32))] [])) _
                    refine own_by (fun _ k => XS.aload X209.here hx rfl (hb hby at_357) rfl rfl k) ?_
                    have O210 : Old Z n0 T209.heap := (O204.keep K209 (allS (by omega) (allS (by omega) (allS (by omega) all0))))
                    have fc212 : Exa Z T209.heap ob180 s2_ := (fc206.keep K209)
                    obtain ⟨cq211, kq211, q211a, q211b, q211c⟩ := isOf hZ rfl fc212
                    obtain ⟨_, _, ⟨T211, L211, k211, n211⟩, -, X211, ⟨Lc211, hQ211, l211, y211, z211⟩, st211⟩ := X209.virtualBack hx (y := (⟨s2_, "hasWaiting", "()Z"⟩ : MethodName)) (z := (⟨s2_, "hasWaiting", "()Z"⟩ : MethodName)) hown (mvT hZ (own_w hw 39 rfl)) (mvT hZ (own_w hw 40 rfl)) (notFace_of_selects (args := #[]) (mvT hZ (own_w hw 42 rfl))) (mvT hZ (own_w hw 42 rfl)) (mvT hZ (own_w hw 41 rfl)) (by decide) (backOf (W := 0) (rm_hw0 l Z a0 hw [] ob180 T209.heap n0 O210 g209_0) hZ (own_w hw 43 rfl) (own_w hw 2 rfl) (by decide) (by decide)) q211a q211c (g := (mkF m 359 #[.val (.long q1), .second, .val (.int f1), .val (.int (1 : Int32)), .val (.int (0 : Int32)), .val (.int tw), .val (.int sf), .val (.int ag), .val (.ref ob180), .val (.ref ob183), .val (.ref ob186), .val (.int (1 : Int32))] [(.ref ob180)])) rfl (by rw [hml]; rfl) (Steps.refl _) (argsL := []) (rest := []) (lenOf own_pd__28_29Z rfl) rfl (by show 2 * 0 + _ ≤ _; exact Nat.le_of_eq rfl) (hb hby at_359) (fun _ _ => ⟨rfl, rfl, (by decide : 14 + 0 ≤ _), (by decide : 112 + 0 ≤ _)⟩)
                    dsimp only [Pt.U, Pt.locs, Pt.cells, Pt.slots] at X211 l211 y211 z211 st211 hQ211
                    subst l211 y211 z211
                    obtain ⟨rfl, M211, K211⟩ := hQ211
                    have N211 := Fr.app N209 M211
                    refine own_by (fun _ k => st211.trans k) ?_
                    refine own_by (fun _ k => XS.ifNo X211.here hx rfl (hb hby at_362) rfl ((if0 _ _).trans (teq (by decide : (0 : Int32) = (0 : Int32))).2) k) ?_
                    show own_Go p e below (T211.setTop (mkF m 365 #[.val (.long q1), .second, .val (.int f1), .val (.int (1 : Int32)), .val (.int (0 : Int32)), .val (.int tw), .val (.int sf), .val (.int ag), .val (.ref ob180), .val (.ref ob183), .val (.ref ob186), .val (.int (1 : Int32))] [])) _
                    refine own_by (fun _ k => XS.iconst X211.here hx rfl (hb hby at_365) k) ?_
                    refine own_by (fun _ k => XS.goto X211.here hx rfl (pc0 := 366) (pc' := 370) rfl (hb hby at_366) (by decide) (by decide) k) ?_
                    refine own_by (fun _ k => XS.istore X211.here hx rfl (hb hby at_370) rfl (l' := #[.val (.long q1), .second, .val (.int f1), .val (.int (1 : Int32)), .val (.int (0 : Int32)), .val (.int tw), .val (.int sf), .val (.int ag), .val (.ref ob180), .val (.ref ob183), .val (.ref ob186), .val (.int (1 : Int32))]) rfl k) ?_
                    refine own_by (fun _ k => XS.iload X211.here hx rfl (hb hby at_372) rfl k) ?_
                    have K213 : Keep h0 T209.heap [] := ((((Keep.refl h0 []).trans Kj199 all0).trans K203 (allS (P := fun x => x ∈ [] ∨ h0.size ≤ x) (Or.inr (by omega)) all0)).trans K209 (allS (P := fun x => x ∈ [] ∨ h0.size ≤ x) (Or.inr (by omega)) (allS (P := fun x => x ∈ [] ∨ h0.size ≤ x) (Or.inr (by omega)) (allS (P := fun x => x ∈ [] ∨ h0.size ≤ x) (Or.inr (by omega)) all0))))
                    obtain ⟨fs, hr, hrun, hended, hW, hsame⟩ := X211.leave (v := some (.int (1 : Int32))) (fun h => by rw [Bd.returns] at h; cases h)
                    refine ⟨_, _, retN X211 hx (t := .boolean) Bd.returns (by simp) (hb hby at_374) hr, hrun, hended, _, _, rfl, ?_, ⟨_, rfl⟩, hW, hsame.mono (by decide) (by decide)⟩
                    show Q_rm_law Z q1 f1 mo cm h0 n0 _ T211.heap _
                    rw [K211]
                    exact ⟨rfl, N211, K213⟩
                refine own_by (fun _ k => XS.iload X197.here hx rfl (hb hby at_155) rfl k) ?_
                by_cases hc214 : tw = (0 : Int32)
                · skip
                  refine own_by (fun _ k => XS.ifYes X197.here hx rfl (pc0 := 157) (pc' := 286) rfl (hb hby at_157) rfl ((if0 _ _).trans (teq hc214).1) (by decide) (by decide) k) ?_
                  show own_Go p e below (T197.setTop (mkF m 286 #[.val (.long q1), .second, .val (.int f1), .val (.int (1 : Int32)), .val (.int (0 : Int32)), .val (.int tw), .val (.int sf), .val (.int ag), .val (.ref ob180), .val (.ref ob183), .val (.ref ob186), .val (.int (1 : Int32))] [])) _
                  refine own_by (fun _ k => XS.aload X197.here hx rfl (hb hby at_286) rfl rfl k) ?_
                  refine own_by (fun _ k => XS.aload X197.here hx rfl (hb hby at_288) rfl rfl k) ?_
                  have fc215 : Exa Z T195.heap ob183 s5_ := (fc193.keep K195)
                  have fc216 : Fld Z T195.heap ob183 s5_ "conversion" "Z" (.int (1 : Int32)) := (fc194.keep K195 (ninS (own_ne (by omega)) nin0))
                  obtain ⟨cq217, kq217, q217a, q217b, q217c⟩ := isOf hZ K197 fc198
                  obtain ⟨_, _, ⟨T217, L217, k217, n217⟩, -, X217, ⟨Lc217, hQ217, l217, y217, z217⟩, st217⟩ := X197.virtualBack hx (y := (⟨s2_, "dequeue", s12_⟩ : MethodName)) (z := (⟨s2_, "dequeue", s12_⟩ : MethodName)) hown (mvT hZ (own_w hw 98 rfl)) (mvT hZ (own_w hw 99 rfl)) (notFace_of_selects (args := #[]) (mvT hZ (own_w hw 101 rfl))) (mvT hZ (own_w hw 101 rfl)) (mvT hZ (own_w hw 100 rfl)) (by decide) (backOf (W := 0) (rm_deq_0_1_w1_0_0_w11 l Z a0 hw [] ob180 q_195 d1_195 a1_195 kk1_195 d2_195 a2_195 kk2_195 ob183 T195.heap n0 O196 g195_0 fc198 fc215 fc216 g195_1 g195_2 g195_3 g195_4 g195_5 g195_6 g195_7 g195_8 g195_9 g195_10 g195_11 g195_12 g195_13 (by first | assumption | omega | decide) (by first | assumption | omega | decide) (own_ne (by omega)) (own_ne (by omega)) r195_0 r195_1 r195_2 r195_3 r195_4 r195_5 r195_6) hZ (own_w hw 102 rfl) (own_w hw 2 rfl) (by decide) (by decide)) q217a q217c (g := (mkF m 290 #[.val (.long q1), .second, .val (.int f1), .val (.int (1 : Int32)), .val (.int (0 : Int32)), .val (.int tw), .val (.int sf), .val (.int ag), .val (.ref ob180), .val (.ref ob183), .val (.ref ob186), .val (.int (1 : Int32))] [(.ref ob183), (.ref ob180)])) rfl (by rw [hml]; rfl) (Steps.refl _) (argsL := [(.ref ob183)]) (rest := []) (lenOf own_pd__28Lcom_2fexample_2fadmit1_2fadmit1_2flock_2fWait_3b_29V rfl) rfl (by show 2 * 0 + _ ≤ _; exact Nat.le_of_eq rfl) (hb hby at_290) (fun _ _ => ⟨rfl, K197, (by decide : 9 + 0 ≤ _), (by decide : 70 + 0 ≤ _)⟩)
                  dsimp only [Pt.U, Pt.locs, Pt.cells, Pt.slots] at X217 l217 y217 z217 st217 hQ217
                  subst l217 y217 z217
                  obtain ⟨rfl, M217, K217, g217_0⟩ := hQ217
                  have N217 := Fr.app N197 M217
                  refine own_by (fun _ k => st217.trans k) ?_
                  have z217 := K217.1
                  have lt_g217_0 : T217.heap.size > ob180 := g217_0.lt
                  refine own_by (fun _ k => XS.iload X217.here hx rfl (hb hby at_293) rfl k) ?_
                  refine own_by (fun _ k => XS.ifNo X217.here hx rfl (hb hby at_295) rfl ((if0 _ _).trans (feq (by decide : ¬ ((1 : Int32) = (0 : Int32)))).1) k) ?_
                  show own_Go p e below (T217.setTop (mkF m 298 #[.val (.long q1), .second, .val (.int f1), .val (.int (1 : Int32)), .val (.int (0 : Int32)), .val (.int tw), .val (.int sf), .val (.int ag), .val (.ref ob180), .val (.ref ob183), .val (.ref ob186), .val (.int (1 : Int32))] [])) _
                  refine own_by (fun _ k => XS.aload X217.here hx rfl (hb hby at_298) rfl rfl k) ?_
                  have O218 : Old Z n0 T217.heap := (O196.keep K217 (allS (by omega) (allS (by omega) (allS (by omega) all0))))
                  have fc220 : Exa Z T217.heap ob180 s2_ := (fc198.keep K217)
                  obtain ⟨cq219, kq219, q219a, q219b, q219c⟩ := isOf hZ rfl fc220
                  obtain ⟨_, _, ⟨T219, L219, k219, n219⟩, -, X219, ⟨Lc219, hQ219, l219, y219, z219⟩, st219⟩ := X217.virtualBack hx (y := (⟨s2_, "hasWaiting", "()Z"⟩ : MethodName)) (z := (⟨s2_, "hasWaiting", "()Z"⟩ : MethodName)) hown (mvT hZ (own_w hw 39 rfl)) (mvT hZ (own_w hw 40 rfl)) (notFace_of_selects (args := #[]) (mvT hZ (own_w hw 42 rfl))) (mvT hZ (own_w hw 42 rfl)) (mvT hZ (own_w hw 41 rfl)) (by decide) (backOf (W := 0) (rm_hw0 l Z a0 hw [] ob180 T217.heap n0 O218 g217_0) hZ (own_w hw 43 rfl) (own_w hw 2 rfl) (by decide) (by decide)) q219a q219c (g := (mkF m 300 #[.val (.long q1), .second, .val (.int f1), .val (.int (1 : Int32)), .val (.int (0 : Int32)), .val (.int tw), .val (.int sf), .val (.int ag), .val (.ref ob180), .val (.ref ob183), .val (.ref ob186), .val (.int (1 : Int32))] [(.ref ob180)])) rfl (by rw [hml]; rfl) (Steps.refl _) (argsL := []) (rest := []) (lenOf own_pd__28_29Z rfl) rfl (by show 2 * 0 + _ ≤ _; exact Nat.le_of_eq rfl) (hb hby at_300) (fun _ _ => ⟨rfl, rfl, (by decide : 9 + 0 ≤ _), (by decide : 70 + 0 ≤ _)⟩)
                  dsimp only [Pt.U, Pt.locs, Pt.cells, Pt.slots] at X219 l219 y219 z219 st219 hQ219
                  subst l219 y219 z219
                  obtain ⟨rfl, M219, K219⟩ := hQ219
                  have N219 := Fr.app N217 M219
                  refine own_by (fun _ k => st219.trans k) ?_
                  refine own_by (fun _ k => XS.ifNo X219.here hx rfl (hb hby at_303) rfl ((if0 _ _).trans (teq (by decide : (0 : Int32) = (0 : Int32))).2) k) ?_
                  show own_Go p e below (T219.setTop (mkF m 306 #[.val (.long q1), .second, .val (.int f1), .val (.int (1 : Int32)), .val (.int (0 : Int32)), .val (.int tw), .val (.int sf), .val (.int ag), .val (.ref ob180), .val (.ref ob183), .val (.ref ob186), .val (.int (1 : Int32))] [])) _
                  refine own_by (fun _ k => XS.iconst X219.here hx rfl (hb hby at_306) k) ?_
                  refine own_by (fun _ k => XS.goto X219.here hx rfl (pc0 := 307) (pc' := 311) rfl (hb hby at_307) (by decide) (by decide) k) ?_
                  refine own_by (fun _ k => XS.istore X219.here hx rfl (hb hby at_311) rfl (l' := #[.val (.long q1), .second, .val (.int f1), .val (.int (1 : Int32)), .val (.int (0 : Int32)), .val (.int tw), .val (.int sf), .val (.int ag), .val (.ref ob180), .val (.ref ob183), .val (.ref ob186), .val (.int (1 : Int32))]) rfl k) ?_
                  show own_Go p e below (T219.setTop (mkF m 313 #[.val (.long q1), .second, .val (.int f1), .val (.int (1 : Int32)), .val (.int (0 : Int32)), .val (.int tw), .val (.int sf), .val (.int ag), .val (.ref ob180), .val (.ref ob183), .val (.ref ob186), .val (.int (1 : Int32))] [])) _
                  have fc221 : Exa Z T217.heap ob183 s5_ := (fc215.keep K217)
                  have fc222 : Fld Z T217.heap ob183 s5_ "conversion" "Z" (.int (1 : Int32)) := (fc216.keep K217 (ninS (own_ne (by omega)) (ninS (own_ne (by omega)) (ninS (own_ne (by omega)) nin0))))
                  have fc223 : Exa Z T217.heap ob186 s5_ := ((g188_0.keep K195).keep K217)
                  have fc224 : Fld Z T217.heap ob186 s5_ "conversion" "Z" (.int (0 : Int32)) := ((g188_1.keep K195 (ninS (own_ne (by omega)) nin0)).keep K217 (ninS (own_ne (by omega)) (ninS (own_ne (by omega)) (ninS (own_ne (by omega)) nin0))))
                  have K225 : Keep h0 T217.heap [] := (((((((((Keep.refl h0 []).ext E180).trans K182 (allS (P := fun x => x ∈ [] ∨ h0.size ≤ x) (Or.inr (by omega)) all0)).ext E183).trans K185 (allS (P := fun x => x ∈ [] ∨ h0.size ≤ x) (Or.inr (by omega)) all0)).ext E186).trans K188 (allS (P := fun x => x ∈ [] ∨ h0.size ≤ x) (Or.inr (by omega)) all0)).trans K195 (allS (P := fun x => x ∈ [] ∨ h0.size ≤ x) (Or.inr (by omega)) all0)).trans K217 (allS (P := fun x => x ∈ [] ∨ h0.size ≤ x) (Or.inr (by omega)) (allS (P := fun x => x ∈ [] ∨ h0.size ≤ x) (Or.inr (by omega)) (allS (P := fun x => x ∈ [] ∨ h0.size ≤ x) (Or.inr (by omega)) all0))))
                  exact jn199 _ _ ⟨_, X219, N219⟩ K219 K225 fc220 g217_0 fc221 fc222 fc223 fc224
                · skip
                  refine own_by (fun _ k => XS.ifNo X197.here hx rfl (hb hby at_157) rfl ((if0 _ _).trans (feq hc214).1) k) ?_
                  show own_Go p e below (T197.setTop (mkF m 160 #[.val (.long q1), .second, .val (.int f1), .val (.int (1 : Int32)), .val (.int (0 : Int32)), .val (.int tw), .val (.int sf), .val (.int ag), .val (.ref ob180), .val (.ref ob183), .val (.ref ob186), .val (.int (1 : Int32))] [])) _
                  refine own_by (fun _ k => XS.aload X197.here hx rfl (hb hby at_160) rfl rfl k) ?_
                  refine own_by (fun _ k => XS.aload X197.here hx rfl (hb hby at_162) rfl rfl k) ?_
                  have fc226 : Exa Z T195.heap ob186 s5_ := (g188_0.keep K195)
                  have fc227 : Fld Z T195.heap ob186 s5_ "conversion" "Z" (.int (0 : Int32)) := (g188_1.keep K195 (ninS (own_ne (by omega)) nin0))
                  obtain ⟨cq228, kq228, q228a, q228b, q228c⟩ := isOf hZ K197 fc198
                  obtain ⟨_, _, ⟨T228, L228, k228, n228⟩, -, X228, ⟨Lc228, hQ228, l228, y228, z228⟩, st228⟩ := X197.virtualBack hx (y := (⟨s2_, "enqueue", s12_⟩ : MethodName)) (z := (⟨s2_, "enqueue", s12_⟩ : MethodName)) hown (mvT hZ (own_w hw 46 rfl)) (mvT hZ (own_w hw 47 rfl)) (notFace_of_selects (args := #[]) (mvT hZ (own_w hw 49 rfl))) (mvT hZ (own_w hw 49 rfl)) (mvT hZ (own_w hw 48 rfl)) (by decide) (backOf (W := 0) (rm_enq_0_1_w1_0_0_w20 l Z a0 hw [] ob180 q_195 d1_195 a1_195 kk1_195 d2_195 a2_195 kk2_195 ob183 ob186 T195.heap n0 O196 g195_0 fc198 fc226 fc227 g195_1 g195_2 g195_3 g195_4 g195_5 g195_6 g195_7 g195_8 g195_9 g195_10 g195_11 g195_12 g195_13 (by first | assumption | omega | decide) (by first | assumption | omega | decide) (by first | assumption | omega | decide) (by first | assumption | omega | decide) r195_0 r195_1 r195_2 r195_3 r195_4 r195_5 r195_6) hZ (own_w hw 50 rfl) (own_w hw 2 rfl) (by decide) (by decide)) q228a q228c (g := (mkF m 164 #[.val (.long q1), .second, .val (.int f1), .val (.int (1 : Int32)), .val (.int (0 : Int32)), .val (.int tw), .val (.int sf), .val (.int ag), .val (.ref ob180), .val (.ref ob183), .val (.ref ob186), .val (.int (1 : Int32))] [(.ref ob186), (.ref ob180)])) rfl (by rw [hml]; rfl) (Steps.refl _) (argsL := [(.ref ob186)]) (rest := []) (lenOf own_pd__28Lcom_2fexample_2fadmit1_2fadmit1_2flock_2fWait_3b_29V rfl) rfl (by show 2 * 0 + _ ≤ _; exact Nat.le_of_eq rfl) (hb hby at_164) (fun _ _ => ⟨rfl, K197, (by decide : 9 + 0 ≤ _), (by decide : 70 + 0 ≤ _)⟩)
                  dsimp only [Pt.U, Pt.locs, Pt.cells, Pt.slots] at X228 l228 y228 z228 st228 hQ228
                  subst l228 y228 z228
                  obtain ⟨rfl, M228, K228, g228_0, g228_1, g228_2, g228_3, g228_4, g228_5, g228_6, g228_7, g228_8, g228_9, g228_10, g228_11, g228_12, g228_13⟩ := hQ228
                  have N228 := Fr.app N197 M228
                  refine own_by (fun _ k => st228.trans k) ?_
                  have z228 := K228.1
                  have lt_g228_0 : T228.heap.size > ob180 := g228_0.lt
                  have lt_g228_1 : T228.heap.size > q_195 := g228_1.lt
                  have lt_g228_2 : T228.heap.size > q_195 := g228_2.lt
                  have lt_g228_3 : T228.heap.size > q_195 := g228_3.lt
                  have lt_g228_4 : T228.heap.size > d1_195 := g228_4.lt
                  have lt_g228_5 : T228.heap.size > d1_195 := g228_5.lt
                  have lt_g228_6 : T228.heap.size > d1_195 := g228_6.lt
                  have lt_g228_7 : T228.heap.size > d1_195 := g228_7.lt
                  have lt_g228_8 : T228.heap.size > a1_195 := g228_8.lt
                  have lt_g228_9 : T228.heap.size > d2_195 := g228_9.lt
                  have lt_g228_10 : T228.heap.size > d2_195 := g228_10.lt
                  have lt_g228_11 : T228.heap.size > d2_195 := g228_11.lt
                  have lt_g228_12 : T228.heap.size > d2_195 := g228_12.lt
                  have lt_g228_13 : T228.heap.size > a2_195 := g228_13.lt
                  refine own_by (fun _ k => XS.iload X228.here hx rfl (hb hby at_167) rfl k) ?_
                  refine own_by (fun _ k => XS.ifNo X228.here hx rfl (hb hby at_169) rfl ((if0 _ _).trans (feq (by decide : ¬ ((1 : Int32) = (0 : Int32)))).1) k) ?_
                  show own_Go p e below (T228.setTop (mkF m 172 #[.val (.long q1), .second, .val (.int f1), .val (.int (1 : Int32)), .val (.int (0 : Int32)), .val (.int tw), .val (.int sf), .val (.int ag), .val (.ref ob180), .val (.ref ob183), .val (.ref ob186), .val (.int (1 : Int32))] [])) _
                  refine own_by (fun _ k => XS.aload X228.here hx rfl (hb hby at_172) rfl rfl k) ?_
                  have O229 : Old Z n0 T228.heap := (O196.keep K228 (allS (by omega) (allS (by omega) all0)))
                  have fc231 : Exa Z T228.heap ob180 s2_ := (fc198.keep K228)
                  obtain ⟨cq230, kq230, q230a, q230b, q230c⟩ := isOf hZ rfl fc231
                  obtain ⟨_, _, ⟨T230, L230, k230, n230⟩, -, X230, ⟨Lc230, hQ230, l230, y230, z230⟩, st230⟩ := X228.virtualBack hx (y := (⟨s2_, "hasWaiting", "()Z"⟩ : MethodName)) (z := (⟨s2_, "hasWaiting", "()Z"⟩ : MethodName)) hown (mvT hZ (own_w hw 39 rfl)) (mvT hZ (own_w hw 40 rfl)) (notFace_of_selects (args := #[]) (mvT hZ (own_w hw 42 rfl))) (mvT hZ (own_w hw 42 rfl)) (mvT hZ (own_w hw 41 rfl)) (by decide) (backOf (W := 0) (rm_hw1 l Z a0 hw [] ob180 q_195 T228.heap n0 O229 g228_0) hZ (own_w hw 43 rfl) (own_w hw 2 rfl) (by decide) (by decide)) q230a q230c (g := (mkF m 174 #[.val (.long q1), .second, .val (.int f1), .val (.int (1 : Int32)), .val (.int (0 : Int32)), .val (.int tw), .val (.int sf), .val (.int ag), .val (.ref ob180), .val (.ref ob183), .val (.ref ob186), .val (.int (1 : Int32))] [(.ref ob180)])) rfl (by rw [hml]; rfl) (Steps.refl _) (argsL := []) (rest := []) (lenOf own_pd__28_29Z rfl) rfl (by show 2 * 0 + _ ≤ _; exact Nat.le_of_eq rfl) (hb hby at_174) (fun _ _ => ⟨rfl, rfl, (by decide : 9 + 0 ≤ _), (by decide : 70 + 0 ≤ _)⟩)
                  dsimp only [Pt.U, Pt.locs, Pt.cells, Pt.slots] at X230 l230 y230 z230 st230 hQ230
                  subst l230 y230 z230
                  obtain ⟨rfl, M230, K230⟩ := hQ230
                  have N230 := Fr.app N228 M230
                  refine own_by (fun _ k => st230.trans k) ?_
                  refine own_by (fun _ k => XS.ifNo X230.here hx rfl (hb hby at_177) rfl ((if0 _ _).trans (feq (by decide : ¬ ((1 : Int32) = (0 : Int32)))).1) k) ?_
                  show own_Go p e below (T230.setTop (mkF m 180 #[.val (.long q1), .second, .val (.int f1), .val (.int (1 : Int32)), .val (.int (0 : Int32)), .val (.int tw), .val (.int sf), .val (.int ag), .val (.ref ob180), .val (.ref ob183), .val (.ref ob186), .val (.int (1 : Int32))] [])) _
                  refine own_by (fun _ k => XS.iconst X230.here hx rfl (hb hby at_180) k) ?_
                  refine own_by (fun _ k => XS.goto X230.here hx rfl (pc0 := 181) (pc' := 185) rfl (hb hby at_181) (by decide) (by decide) k) ?_
                  refine own_by (fun _ k => XS.istore X230.here hx rfl (hb hby at_185) rfl (l' := #[.val (.long q1), .second, .val (.int f1), .val (.int (1 : Int32)), .val (.int (0 : Int32)), .val (.int tw), .val (.int sf), .val (.int ag), .val (.ref ob180), .val (.ref ob183), .val (.ref ob186), .val (.int (1 : Int32))]) rfl k) ?_
                  refine own_by (fun _ k => XS.iload X230.here hx rfl (hb hby at_187) rfl k) ?_
                  by_cases hc232 : sf = (0 : Int32)
                  · skip
                    refine own_by (fun _ k => XS.ifYes X230.here hx rfl (pc0 := 189) (pc' := 229) rfl (hb hby at_189) rfl ((if0 _ _).trans (teq hc232).1) (by decide) (by decide) k) ?_
                    show own_Go p e below (T230.setTop (mkF m 229 #[.val (.long q1), .second, .val (.int f1), .val (.int (1 : Int32)), .val (.int (0 : Int32)), .val (.int tw), .val (.int sf), .val (.int ag), .val (.ref ob180), .val (.ref ob183), .val (.ref ob186), .val (.int (1 : Int32))] [])) _
                    refine own_by (fun _ k => XS.aload X230.here hx rfl (hb hby at_229) rfl rfl k) ?_
                    refine own_by (fun _ k => XS.aload X230.here hx rfl (hb hby at_231) rfl rfl k) ?_
                    have fc233 : Exa Z T228.heap ob183 s5_ := ((fc193.keep K195).keep K228)
                    have fc234 : Fld Z T228.heap ob183 s5_ "conversion" "Z" (.int (1 : Int32)) := ((fc194.keep K195 (ninS (own_ne (by omega)) nin0)).keep K228 (ninS (own_ne (by omega)) (ninS (own_ne (by omega)) nin0)))
                    obtain ⟨cq235, kq235, q235a, q235b, q235c⟩ := isOf hZ K230 fc231
                    obtain ⟨_, _, ⟨T235, L235, k235, n235⟩, -, X235, ⟨Lc235, hQ235, l235, y235, z235⟩, st235⟩ := X230.virtualBack hx (y := (⟨s2_, "dequeue", s12_⟩ : MethodName)) (z := (⟨s2_, "dequeue", s12_⟩ : MethodName)) hown (mvT hZ (own_w hw 98 rfl)) (mvT hZ (own_w hw 99 rfl)) (notFace_of_selects (args := #[]) (mvT hZ (own_w hw 101 rfl))) (mvT hZ (own_w hw 101 rfl)) (mvT hZ (own_w hw 100 rfl)) (by decide) (backOf (W := 0) (rm_deq_0_1_w1_0_1_w2_w11 l Z a0 hw [] ob180 q_195 d1_195 a1_195 kk1_195 d2_195 a2_195 kk2_195 ob183 ob186 T228.heap n0 O229 g228_0 fc231 fc233 fc234 g228_1 g228_2 g228_3 g228_4 g228_5 g228_6 g228_7 g228_8 g228_9 g228_10 g228_11 g228_12 g228_13 (by first | assumption | omega | decide) (by first | assumption | omega | decide) (own_ne (by omega)) (own_ne (by omega)) r195_0 r195_1 r195_2 r195_3 r195_4 r195_5 r195_6) hZ (own_w hw 102 rfl) (own_w hw 2 rfl) (by decide) (by decide)) q235a q235c (g := (mkF m 233 #[.val (.long q1), .second, .val (.int f1), .val (.int (1 : Int32)), .val (.int (0 : Int32)), .val (.int tw), .val (.int sf), .val (.int ag), .val (.ref ob180), .val (.ref ob183), .val (.ref ob186), .val (.int (1 : Int32))] [(.ref ob183), (.ref ob180)])) rfl (by rw [hml]; rfl) (Steps.refl _) (argsL := [(.ref ob183)]) (rest := []) (lenOf own_pd__28Lcom_2fexample_2fadmit1_2fadmit1_2flock_2fWait_3b_29V rfl) rfl (by show 2 * 0 + _ ≤ _; exact Nat.le_of_eq rfl) (hb hby at_233) (fun _ _ => ⟨rfl, K230, (by decide : 9 + 0 ≤ _), (by decide : 70 + 0 ≤ _)⟩)
                    dsimp only [Pt.U, Pt.locs, Pt.cells, Pt.slots] at X235 l235 y235 z235 st235 hQ235
                    subst l235 y235 z235
                    obtain ⟨rfl, M235, K235, g235_0, g235_1, g235_2, g235_3, g235_4, g235_5, g235_6, g235_7, g235_8, g235_9, g235_10, g235_11, g235_12, g235_13⟩ := hQ235
                    have N235 := Fr.app N230 M235
                    refine own_by (fun _ k => st235.trans k) ?_
                    have z235 := K235.1
                    have lt_g235_0 : T235.heap.size > ob180 := g235_0.lt
                    have lt_g235_1 : T235.heap.size > q_195 := g235_1.lt
                    have lt_g235_2 : T235.heap.size > q_195 := g235_2.lt
                    have lt_g235_3 : T235.heap.size > q_195 := g235_3.lt
                    have lt_g235_4 : T235.heap.size > d1_195 := g235_4.lt
                    have lt_g235_5 : T235.heap.size > d1_195 := g235_5.lt
                    have lt_g235_6 : T235.heap.size > d1_195 := g235_6.lt
                    have lt_g235_7 : T235.heap.size > d1_195 := g235_7.lt
                    have lt_g235_8 : T235.heap.size > a1_195 := g235_8.lt
                    have lt_g235_9 : T235.heap.size > d2_195 := g235_9.lt
                    have lt_g235_10 : T235.heap.size > d2_195 := g235_10.lt
                    have lt_g235_11 : T235.heap.size > d2_195 := g235_11.lt
                    have lt_g235_12 : T235.heap.size > d2_195 := g235_12.lt
                    have lt_g235_13 : T235.heap.size > a2_195 := g235_13.lt
                    refine own_by (fun _ k => XS.iload X235.here hx rfl (hb hby at_236) rfl k) ?_
                    refine own_by (fun _ k => XS.ifNo X235.here hx rfl (hb hby at_238) rfl ((if0 _ _).trans (feq (by decide : ¬ ((1 : Int32) = (0 : Int32)))).1) k) ?_
                    show own_Go p e below (T235.setTop (mkF m 241 #[.val (.long q1), .second, .val (.int f1), .val (.int (1 : Int32)), .val (.int (0 : Int32)), .val (.int tw), .val (.int sf), .val (.int ag), .val (.ref ob180), .val (.ref ob183), .val (.ref ob186), .val (.int (1 : Int32))] [])) _
                    refine own_by (fun _ k => XS.aload X235.here hx rfl (hb hby at_241) rfl rfl k) ?_
                    have O236 : Old Z n0 T235.heap := (O229.keep K235 (allS (by omega) (allS (by omega) (allS (by omega) all0))))
                    have fc238 : Exa Z T235.heap ob180 s2_ := (fc231.keep K235)
                    obtain ⟨cq237, kq237, q237a, q237b, q237c⟩ := isOf hZ rfl fc238
                    obtain ⟨_, _, ⟨T237, L237, k237, n237⟩, -, X237, ⟨Lc237, hQ237, l237, y237, z237⟩, st237⟩ := X235.virtualBack hx (y := (⟨s2_, "hasWaiting", "()Z"⟩ : MethodName)) (z := (⟨s2_, "hasWaiting", "()Z"⟩ : MethodName)) hown (mvT hZ (own_w hw 39 rfl)) (mvT hZ (own_w hw 40 rfl)) (notFace_of_selects (args := #[]) (mvT hZ (own_w hw 42 rfl))) (mvT hZ (own_w hw 42 rfl)) (mvT hZ (own_w hw 41 rfl)) (by decide) (backOf (W := 0) (rm_hw1 l Z a0 hw [] ob180 q_195 T235.heap n0 O236 g235_0) hZ (own_w hw 43 rfl) (own_w hw 2 rfl) (by decide) (by decide)) q237a q237c (g := (mkF m 243 #[.val (.long q1), .second, .val (.int f1), .val (.int (1 : Int32)), .val (.int (0 : Int32)), .val (.int tw), .val (.int sf), .val (.int ag), .val (.ref ob180), .val (.ref ob183), .val (.ref ob186), .val (.int (1 : Int32))] [(.ref ob180)])) rfl (by rw [hml]; rfl) (Steps.refl _) (argsL := []) (rest := []) (lenOf own_pd__28_29Z rfl) rfl (by show 2 * 0 + _ ≤ _; exact Nat.le_of_eq rfl) (hb hby at_243) (fun _ _ => ⟨rfl, rfl, (by decide : 9 + 0 ≤ _), (by decide : 70 + 0 ≤ _)⟩)
                    dsimp only [Pt.U, Pt.locs, Pt.cells, Pt.slots] at X237 l237 y237 z237 st237 hQ237
                    subst l237 y237 z237
                    obtain ⟨rfl, M237, K237⟩ := hQ237
                    have N237 := Fr.app N235 M237
                    refine own_by (fun _ k => st237.trans k) ?_
                    refine own_by (fun _ k => XS.ifNo X237.here hx rfl (hb hby at_246) rfl ((if0 _ _).trans (feq (by decide : ¬ ((1 : Int32) = (0 : Int32)))).1) k) ?_
                    show own_Go p e below (T237.setTop (mkF m 249 #[.val (.long q1), .second, .val (.int f1), .val (.int (1 : Int32)), .val (.int (0 : Int32)), .val (.int tw), .val (.int sf), .val (.int ag), .val (.ref ob180), .val (.ref ob183), .val (.ref ob186), .val (.int (1 : Int32))] [])) _
                    refine own_by (fun _ k => XS.iconst X237.here hx rfl (hb hby at_249) k) ?_
                    refine own_by (fun _ k => XS.goto X237.here hx rfl (pc0 := 250) (pc' := 254) rfl (hb hby at_250) (by decide) (by decide) k) ?_
                    refine own_by (fun _ k => XS.istore X237.here hx rfl (hb hby at_254) rfl (l' := #[.val (.long q1), .second, .val (.int f1), .val (.int (1 : Int32)), .val (.int (0 : Int32)), .val (.int tw), .val (.int sf), .val (.int ag), .val (.ref ob180), .val (.ref ob183), .val (.ref ob186), .val (.int (1 : Int32))]) rfl k) ?_
                    refine own_by (fun _ k => XS.aload X237.here hx rfl (hb hby at_256) rfl rfl k) ?_
                    refine own_by (fun _ k => XS.aload X237.here hx rfl (hb hby at_258) rfl rfl k) ?_
                    have fc239 : Exa Z T235.heap ob186 s5_ := ((fc226.keep K228).keep K235)
                    have fc240 : Fld Z T235.heap ob186 s5_ "conversion" "Z" (.int (0 : Int32)) := ((fc227.keep K228 (ninS (own_ne (by omega)) (ninS (own_ne (by omega)) nin0))).keep K235 (ninS (own_ne (by omega)) (ninS (own_ne (by omega)) (ninS (own_ne (by omega)) nin0))))
                    obtain ⟨cq241, kq241, q241a, q241b, q241c⟩ := isOf hZ K237 fc238
                    obtain ⟨_, _, ⟨T241, L241, k241, n241⟩, -, X241, ⟨Lc241, hQ241, l241, y241, z241⟩, st241⟩ := X237.virtualBack hx (y := (⟨s2_, "dequeue", s12_⟩ : MethodName)) (z := (⟨s2_, "dequeue", s12_⟩ : MethodName)) hown (mvT hZ (own_w hw 98 rfl)) (mvT hZ (own_w hw 99 rfl)) (notFace_of_selects (args := #[]) (mvT hZ (own_w hw 101 rfl))) (mvT hZ (own_w hw 101 rfl)) (mvT hZ (own_w hw 100 rfl)) (by decide) (backOf (W := 0) (rm_deq_0_0_0_1_w1_w10 l Z a0 hw [] ob180 q_195 d1_195 a1_195 kk1_195 d2_195 a2_195 kk2_195 ob186 T235.heap n0 O236 g235_0 fc238 fc239 fc240 g235_1 g235_2 g235_3 g235_4 g235_5 g235_6 g235_7 g235_8 g235_9 g235_10 g235_11 g235_12 g235_13 (by first | assumption | omega | decide) (by first | assumption | omega | decide) (own_ne (by omega)) (own_ne (by omega)) r195_0 r195_1 r195_2 r195_3 r195_4 r195_5 r195_6) hZ (own_w hw 102 rfl) (own_w hw 2 rfl) (by decide) (by decide)) q241a q241c (g := (mkF m 260 #[.val (.long q1), .second, .val (.int f1), .val (.int (1 : Int32)), .val (.int (0 : Int32)), .val (.int tw), .val (.int sf), .val (.int ag), .val (.ref ob180), .val (.ref ob183), .val (.ref ob186), .val (.int (1 : Int32))] [(.ref ob186), (.ref ob180)])) rfl (by rw [hml]; rfl) (Steps.refl _) (argsL := [(.ref ob186)]) (rest := []) (lenOf own_pd__28Lcom_2fexample_2fadmit1_2fadmit1_2flock_2fWait_3b_29V rfl) rfl (by show 2 * 0 + _ ≤ _; exact Nat.le_of_eq rfl) (hb hby at_260) (fun _ _ => ⟨rfl, K237, (by decide : 9 + 0 ≤ _), (by decide : 70 + 0 ≤ _)⟩)
                    dsimp only [Pt.U, Pt.locs, Pt.cells, Pt.slots] at X241 l241 y241 z241 st241 hQ241
                    subst l241 y241 z241
                    obtain ⟨rfl, M241, K241, g241_0⟩ := hQ241
                    have N241 := Fr.app N237 M241
                    refine own_by (fun _ k => st241.trans k) ?_
                    have z241 := K241.1
                    have lt_g241_0 : T241.heap.size > ob180 := g241_0.lt
                    show own_Go p e below (T241.setTop (mkF m 263 #[.val (.long q1), .second, .val (.int f1), .val (.int (1 : Int32)), .val (.int (0 : Int32)), .val (.int tw), .val (.int sf), .val (.int ag), .val (.ref ob180), .val (.ref ob183), .val (.ref ob186), .val (.int (1 : Int32))] [])) _
                    refine own_by (fun _ k => XS.iload X241.here hx rfl (hb hby at_263) rfl k) ?_
                    refine own_by (fun _ k => XS.ifNo X241.here hx rfl (hb hby at_265) rfl ((if0 _ _).trans (feq (by decide : ¬ ((1 : Int32) = (0 : Int32)))).1) k) ?_
                    show own_Go p e below (T241.setTop (mkF m 268 #[.val (.long q1), .second, .val (.int f1), .val (.int (1 : Int32)), .val (.int (0 : Int32)), .val (.int tw), .val (.int sf), .val (.int ag), .val (.ref ob180), .val (.ref ob183), .val (.ref ob186), .val (.int (1 : Int32))] [])) _
                    refine own_by (fun _ k => XS.aload X241.here hx rfl (hb hby at_268) rfl rfl k) ?_
                    have O242 : Old Z n0 T241.heap := (O236.keep K241 (allS (by omega) (allS (by omega) (allS (by omega) all0))))
                    have fc244 : Exa Z T241.heap ob180 s2_ := (fc238.keep K241)
                    obtain ⟨cq243, kq243, q243a, q243b, q243c⟩ := isOf hZ rfl fc244
                    obtain ⟨_, _, ⟨T243, L243, k243, n243⟩, -, X243, ⟨Lc243, hQ243, l243, y243, z243⟩, st243⟩ := X241.virtualBack hx (y := (⟨s2_, "hasWaiting", "()Z"⟩ : MethodName)) (z := (⟨s2_, "hasWaiting", "()Z"⟩ : MethodName)) hown (mvT hZ (own_w hw 39 rfl)) (mvT hZ (own_w hw 40 rfl)) (notFace_of_selects (args := #[]) (mvT hZ (own_w hw 42 rfl))) (mvT hZ (own_w hw 42 rfl)) (mvT hZ (own_w hw 41 rfl)) (by decide) (backOf (W := 0) (rm_hw0 l Z a0 hw [] ob180 T241.heap n0 O242 g241_0) hZ (own_w hw 43 rfl) (own_w hw 2 rfl) (by decide) (by decide)) q243a q243c (g := (mkF m 270 #[.val (.long q1), .second, .val (.int f1), .val (.int (1 : Int32)), .val (.int (0 : Int32)), .val (.int tw), .val (.int sf), .val (.int ag), .val (.ref ob180), .val (.ref ob183), .val (.ref ob186), .val (.int (1 : Int32))] [(.ref ob180)])) rfl (by rw [hml]; rfl) (Steps.refl _) (argsL := []) (rest := []) (lenOf own_pd__28_29Z rfl) rfl (by show 2 * 0 + _ ≤ _; exact Nat.le_of_eq rfl) (hb hby at_270) (fun _ _ => ⟨rfl, rfl, (by decide : 9 + 0 ≤ _), (by decide : 70 + 0 ≤ _)⟩)
                    dsimp only [Pt.U, Pt.locs, Pt.cells, Pt.slots] at X243 l243 y243 z243 st243 hQ243
                    subst l243 y243 z243
                    obtain ⟨rfl, M243, K243⟩ := hQ243
                    have N243 := Fr.app N241 M243
                    refine own_by (fun _ k => st243.trans k) ?_
                    refine own_by (fun _ k => XS.ifNo X243.here hx rfl (hb hby at_273) rfl ((if0 _ _).trans (teq (by decide : (0 : Int32) = (0 : Int32))).2) k) ?_
                    show own_Go p e below (T243.setTop (mkF m 276 #[.val (.long q1), .second, .val (.int f1), .val (.int (1 : Int32)), .val (.int (0 : Int32)), .val (.int tw), .val (.int sf), .val (.int ag), .val (.ref ob180), .val (.ref ob183), .val (.ref ob186), .val (.int (1 : Int32))] [])) _
                    refine own_by (fun _ k => XS.iconst X243.here hx rfl (hb hby at_276) k) ?_
                    refine own_by (fun _ k => XS.goto X243.here hx rfl (pc0 := 277) (pc' := 281) rfl (hb hby at_277) (by decide) (by decide) k) ?_
                    refine own_by (fun _ k => XS.istore X243.here hx rfl (hb hby at_281) rfl (l' := #[.val (.long q1), .second, .val (.int f1), .val (.int (1 : Int32)), .val (.int (0 : Int32)), .val (.int tw), .val (.int sf), .val (.int ag), .val (.ref ob180), .val (.ref ob183), .val (.ref ob186), .val (.int (1 : Int32))]) rfl k) ?_
                    refine own_by (fun _ k => XS.goto X243.here hx rfl (pc0 := 283) (pc' := 313) rfl (hb hby at_283) (by decide) (by decide) k) ?_
                    show own_Go p e below (T243.setTop (mkF m 313 #[.val (.long q1), .second, .val (.int f1), .val (.int (1 : Int32)), .val (.int (0 : Int32)), .val (.int tw), .val (.int sf), .val (.int ag), .val (.ref ob180), .val (.ref ob183), .val (.ref ob186), .val (.int (1 : Int32))] [])) _
                    have fc245 : Exa Z T241.heap ob183 s5_ := ((fc233.keep K235).keep K241)
                    have fc246 : Fld Z T241.heap ob183 s5_ "conversion" "Z" (.int (1 : Int32)) := ((fc234.keep K235 (ninS (own_ne (by omega)) (ninS (own_ne (by omega)) (ninS (own_ne (by omega)) nin0)))).keep K241 (ninS (own_ne (by omega)) (ninS (own_ne (by omega)) (ninS (own_ne (by omega)) nin0))))
                    have fc247 : Exa Z T241.heap ob186 s5_ := (fc239.keep K241)
                    have fc248 : Fld Z T241.heap ob186 s5_ "conversion" "Z" (.int (0 : Int32)) := (fc240.keep K241 (ninS (own_ne (by omega)) (ninS (own_ne (by omega)) (ninS (own_ne (by omega)) nin0))))
                    have K249 : Keep h0 T241.heap [] := (((((((((((Keep.refl h0 []).ext E180).trans K182 (allS (P := fun x => x ∈ [] ∨ h0.size ≤ x) (Or.inr (by omega)) all0)).ext E183).trans K185 (allS (P := fun x => x ∈ [] ∨ h0.size ≤ x) (Or.inr (by omega)) all0)).ext E186).trans K188 (allS (P := fun x => x ∈ [] ∨ h0.size ≤ x) (Or.inr (by omega)) all0)).trans K195 (allS (P := fun x => x ∈ [] ∨ h0.size ≤ x) (Or.inr (by omega)) all0)).trans K228 (allS (P := fun x => x ∈ [] ∨ h0.size ≤ x) (Or.inr (by omega)) (allS (P := fun x => x ∈ [] ∨ h0.size ≤ x) (Or.inr (by omega)) all0))).trans K235 (allS (P := fun x => x ∈ [] ∨ h0.size ≤ x) (Or.inr (by omega)) (allS (P := fun x => x ∈ [] ∨ h0.size ≤ x) (Or.inr (by omega)) (allS (P := fun x => x ∈ [] ∨ h0.size ≤ x) (Or.inr (by omega)) all0)))).trans K241 (allS (P := fun x => x ∈ [] ∨ h0.size ≤ x) (Or.inr (by omega)) (allS (P := fun x => x ∈ [] ∨ h0.size ≤ x) (Or.inr (by omega)) (allS (P := fun x => x ∈ [] ∨ h0.size ≤ x) (Or.inr (by omega)) all0))))
                    exact jn199 _ _ ⟨_, X243, N243⟩ K243 K249 fc244 g241_0 fc245 fc246 fc247 fc248
                  · skip
                    refine own_by (fun _ k => XS.ifNo X230.here hx rfl (hb hby at_189) rfl ((if0 _ _).trans (feq hc232).1) k) ?_
                    show own_Go p e below (T230.setTop (mkF m 192 #[.val (.long q1), .second, .val (.int f1), .val (.int (1 : Int32)), .val (.int (0 : Int32)), .val (.int tw), .val (.int sf), .val (.int ag), .val (.ref ob180), .val (.ref ob183), .val (.ref ob186), .val (.int (1 : Int32))] [])) _
                    refine own_by (fun _ k => XS.aload X230.here hx rfl (hb hby at_192) rfl rfl k) ?_
                    refine own_by (fun _ k => XS.aload X230.here hx rfl (hb hby at_194) rfl rfl k) ?_
                    have fc250 : Exa Z T228.heap ob186 s5_ := (fc226.keep K228)
                    have fc251 : Fld Z T228.heap ob186 s5_ "conversion" "Z" (.int (0 : Int32)) := (fc227.keep K228 (ninS (own_ne (by omega)) (ninS (own_ne (by omega)) nin0)))
                    obtain ⟨cq252, kq252, q252a, q252b, q252c⟩ := isOf hZ K230 fc231
                    obtain ⟨_, _, ⟨T252, L252, k252, n252⟩, -, X252, ⟨Lc252, hQ252, l252, y252, z252⟩, st252⟩ := X230.virtualBack hx (y := (⟨s2_, "dequeue", s12_⟩ : MethodName)) (z := (⟨s2_, "dequeue", s12_⟩ : MethodName)) hown (mvT hZ (own_w hw 98 rfl)) (mvT hZ (own_w hw 99 rfl)) (notFace_of_selects (args := #[]) (mvT hZ (own_w hw 101 rfl))) (mvT hZ (own_w hw 101 rfl)) (mvT hZ (own_w hw 100 rfl)) (by decide) (backOf (W := 0) (rm_deq_0_1_w1_0_1_w2_w20 l Z a0 hw [] ob180 q_195 d1_195 a1_195 kk1_195 d2_195 a2_195 kk2_195 ob183 ob186 T228.heap n0 O229 g228_0 fc231 fc250 fc251 g228_1 g228_2 g228_3 g228_4 g228_5 g228_6 g228_7 g228_8 g228_9 g228_10 g228_11 g228_12 g228_13 (by first | assumption | omega | decide) (by first | assumption | omega | decide) (own_ne (by omega)) (own_ne (by omega)) r195_0 r195_1 r195_2 r195_3 r195_4 r195_5 r195_6) hZ (own_w hw 102 rfl) (own_w hw 2 rfl) (by decide) (by decide)) q252a q252c (g := (mkF m 196 #[.val (.long q1), .second, .val (.int f1), .val (.int (1 : Int32)), .val (.int (0 : Int32)), .val (.int tw), .val (.int sf), .val (.int ag), .val (.ref ob180), .val (.ref ob183), .val (.ref ob186), .val (.int (1 : Int32))] [(.ref ob186), (.ref ob180)])) rfl (by rw [hml]; rfl) (Steps.refl _) (argsL := [(.ref ob186)]) (rest := []) (lenOf own_pd__28Lcom_2fexample_2fadmit1_2fadmit1_2flock_2fWait_3b_29V rfl) rfl (by show 2 * 0 + _ ≤ _; exact Nat.le_of_eq rfl) (hb hby at_196) (fun _ _ => ⟨rfl, K230, (by decide : 9 + 0 ≤ _), (by decide : 70 + 0 ≤ _)⟩)
                    dsimp only [Pt.U, Pt.locs, Pt.cells, Pt.slots] at X252 l252 y252 z252 st252 hQ252
                    subst l252 y252 z252
                    obtain ⟨rfl, M252, K252, g252_0, g252_1, g252_2, g252_3, g252_4, g252_5, g252_6, g252_7, g252_8, g252_9, g252_10, g252_11, g252_12, g252_13⟩ := hQ252
                    have N252 := Fr.app N230 M252
                    refine own_by (fun _ k => st252.trans k) ?_
                    have z252 := K252.1
                    have lt_g252_0 : T252.heap.size > ob180 := g252_0.lt
                    have lt_g252_1 : T252.heap.size > q_195 := g252_1.lt
                    have lt_g252_2 : T252.heap.size > q_195 := g252_2.lt
                    have lt_g252_3 : T252.heap.size > q_195 := g252_3.lt
                    have lt_g252_4 : T252.heap.size > d1_195 := g252_4.lt
                    have lt_g252_5 : T252.heap.size > d1_195 := g252_5.lt
                    have lt_g252_6 : T252.heap.size > d1_195 := g252_6.lt
                    have lt_g252_7 : T252.heap.size > d1_195 := g252_7.lt
                    have lt_g252_8 : T252.heap.size > a1_195 := g252_8.lt
                    have lt_g252_9 : T252.heap.size > d2_195 := g252_9.lt
                    have lt_g252_10 : T252.heap.size > d2_195 := g252_10.lt
                    have lt_g252_11 : T252.heap.size > d2_195 := g252_11.lt
                    have lt_g252_12 : T252.heap.size > d2_195 := g252_12.lt
                    have lt_g252_13 : T252.heap.size > a2_195 := g252_13.lt
                    refine own_by (fun _ k => XS.iload X252.here hx rfl (hb hby at_199) rfl k) ?_
                    refine own_by (fun _ k => XS.ifNo X252.here hx rfl (hb hby at_201) rfl ((if0 _ _).trans (feq (by decide : ¬ ((1 : Int32) = (0 : Int32)))).1) k) ?_
                    show own_Go p e below (T252.setTop (mkF m 204 #[.val (.long q1), .second, .val (.int f1), .val (.int (1 : Int32)), .val (.int (0 : Int32)), .val (.int tw), .val (.int sf), .val (.int ag), .val (.ref ob180), .val (.ref ob183), .val (.ref ob186), .val (.int (1 : Int32))] [])) _
                    refine own_by (fun _ k => XS.aload X252.here hx rfl (hb hby at_204) rfl rfl k) ?_
                    have O253 : Old Z n0 T252.heap := (O229.keep K252 (allS (by omega) (allS (by omega) (allS (by omega) all0))))
                    have fc255 : Exa Z T252.heap ob180 s2_ := (fc231.keep K252)
                    obtain ⟨cq254, kq254, q254a, q254b, q254c⟩ := isOf hZ rfl fc255
                    obtain ⟨_, _, ⟨T254, L254, k254, n254⟩, -, X254, ⟨Lc254, hQ254, l254, y254, z254⟩, st254⟩ := X252.virtualBack hx (y := (⟨s2_, "hasWaiting", "()Z"⟩ : MethodName)) (z := (⟨s2_, "hasWaiting", "()Z"⟩ : MethodName)) hown (mvT hZ (own_w hw 39 rfl)) (mvT hZ (own_w hw 40 rfl)) (notFace_of_selects (args := #[]) (mvT hZ (own_w hw 42 rfl))) (mvT hZ (own_w hw 42 rfl)) (mvT hZ (own_w hw 41 rfl)) (by decide) (backOf (W := 0) (rm_hw1 l Z a0 hw [] ob180 q_195 T252.heap n0 O253 g252_0) hZ (own_w hw 43 rfl) (own_w hw 2 rfl) (by decide) (by decide)) q254a q254c (g := (mkF m 206 #[.val (.long q1), .second, .val (.int f1), .val (.int (1 : Int32)), .val (.int (0 : Int32)), .val (.int tw), .val (.int sf), .val (.int ag), .val (.ref ob180), .val (.ref ob183), .val (.ref ob186), .val (.int (1 : Int32))] [(.ref ob180)])) rfl (by rw [hml]; rfl) (Steps.refl _) (argsL := []) (rest := []) (lenOf own_pd__28_29Z rfl) rfl (by show 2 * 0 + _ ≤ _; exact Nat.le_of_eq rfl) (hb hby at_206) (fun _ _ => ⟨rfl, rfl, (by decide : 9 + 0 ≤ _), (by decide : 70 + 0 ≤ _)⟩)
                    dsimp only [Pt.U, Pt.locs, Pt.cells, Pt.slots] at X254 l254 y254 z254 st254 hQ254
                    subst l254 y254 z254
                    obtain ⟨rfl, M254, K254⟩ := hQ254
                    have N254 := Fr.app N252 M254
                    refine own_by (fun _ k => st254.trans k) ?_
                    refine own_by (fun _ k => XS.ifNo X254.here hx rfl (hb hby at_209) rfl ((if0 _ _).trans (feq (by decide : ¬ ((1 : Int32) = (0 : Int32)))).1) k) ?_
                    show own_Go p e below (T254.setTop (mkF m 212 #[.val (.long q1), .second, .val (.int f1), .val (.int (1 : Int32)), .val (.int (0 : Int32)), .val (.int tw), .val (.int sf), .val (.int ag), .val (.ref ob180), .val (.ref ob183), .val (.ref ob186), .val (.int (1 : Int32))] [])) _
                    refine own_by (fun _ k => XS.iconst X254.here hx rfl (hb hby at_212) k) ?_
                    refine own_by (fun _ k => XS.goto X254.here hx rfl (pc0 := 213) (pc' := 217) rfl (hb hby at_213) (by decide) (by decide) k) ?_
                    refine own_by (fun _ k => XS.istore X254.here hx rfl (hb hby at_217) rfl (l' := #[.val (.long q1), .second, .val (.int f1), .val (.int (1 : Int32)), .val (.int (0 : Int32)), .val (.int tw), .val (.int sf), .val (.int ag), .val (.ref ob180), .val (.ref ob183), .val (.ref ob186), .val (.int (1 : Int32))]) rfl k) ?_
                    refine own_by (fun _ k => XS.aload X254.here hx rfl (hb hby at_219) rfl rfl k) ?_
                    refine own_by (fun _ k => XS.aload X254.here hx rfl (hb hby at_221) rfl rfl k) ?_
                    have fc256 : Exa Z T252.heap ob183 s5_ := (((fc193.keep K195).keep K228).keep K252)
                    have fc257 : Fld Z T252.heap ob183 s5_ "conversion" "Z" (.int (1 : Int32)) := (((fc194.keep K195 (ninS (own_ne (by omega)) nin0)).keep K228 (ninS (own_ne (by omega)) (ninS (own_ne (by omega)) nin0))).keep K252 (ninS (own_ne (by omega)) (ninS (own_ne (by omega)) (ninS (own_ne (by omega)) nin0))))
                    obtain ⟨cq258, kq258, q258a, q258b, q258c⟩ := isOf hZ K254 fc255
                    obtain ⟨_, _, ⟨T258, L258, k258, n258⟩, -, X258, ⟨Lc258, hQ258, l258, y258, z258⟩, st258⟩ := X254.virtualBack hx (y := (⟨s2_, "dequeue", s12_⟩ : MethodName)) (z := (⟨s2_, "dequeue", s12_⟩ : MethodName)) hown (mvT hZ (own_w hw 98 rfl)) (mvT hZ (own_w hw 99 rfl)) (notFace_of_selects (args := #[]) (mvT hZ (own_w hw 101 rfl))) (mvT hZ (own_w hw 101 rfl)) (mvT hZ (own_w hw 100 rfl)) (by decide) (backOf (W := 0) (rm_deq_0_1_w1_0_0_w11 l Z a0 hw [] ob180 q_195 d1_195 a1_195 kk1_195 d2_195 a2_195 kk2_195 ob183 T252.heap n0 O253 g252_0 fc255 fc256 fc257 g252_1 g252_2 g252_3 g252_4 g252_5 g252_6 g252_7 g252_8 g252_9 g252_10 g252_11 g252_12 g252_13 (by first | assumption | omega | decide) (by first | assumption | omega | decide) (own_ne (by omega)) (own_ne (by omega)) r195_0 r195_1 r195_2 r195_3 r195_4 r195_5 r195_6) hZ (own_w hw 102 rfl) (own_w hw 2 rfl) (by decide) (by decide)) q258a q258c (g := (mkF m 223 #[.val (.long q1), .second, .val (.int f1), .val (.int (1 : Int32)), .val (.int (0 : Int32)), .val (.int tw), .val (.int sf), .val (.int ag), .val (.ref ob180), .val (.ref ob183), .val (.ref ob186), .val (.int (1 : Int32))] [(.ref ob183), (.ref ob180)])) rfl (by rw [hml]; rfl) (Steps.refl _) (argsL := [(.ref ob183)]) (rest := []) (lenOf own_pd__28Lcom_2fexample_2fadmit1_2fadmit1_2flock_2fWait_3b_29V rfl) rfl (by show 2 * 0 + _ ≤ _; exact Nat.le_of_eq rfl) (hb hby at_223) (fun _ _ => ⟨rfl, K254, (by decide : 9 + 0 ≤ _), (by decide : 70 + 0 ≤ _)⟩)
                    dsimp only [Pt.U, Pt.locs, Pt.cells, Pt.slots] at X258 l258 y258 z258 st258 hQ258
                    subst l258 y258 z258
                    obtain ⟨rfl, M258, K258, g258_0⟩ := hQ258
                    have N258 := Fr.app N254 M258
                    refine own_by (fun _ k => st258.trans k) ?_
                    have z258 := K258.1
                    have lt_g258_0 : T258.heap.size > ob180 := g258_0.lt
                    show own_Go p e below (T258.setTop (mkF m 226 #[.val (.long q1), .second, .val (.int f1), .val (.int (1 : Int32)), .val (.int (0 : Int32)), .val (.int tw), .val (.int sf), .val (.int ag), .val (.ref ob180), .val (.ref ob183), .val (.ref ob186), .val (.int (1 : Int32))] [])) _
                    refine own_by (fun _ k => XS.goto X258.here hx rfl (pc0 := 226) (pc' := 263) rfl (hb hby at_226) (by decide) (by decide) k) ?_
                    refine own_by (fun _ k => XS.iload X258.here hx rfl (hb hby at_263) rfl k) ?_
                    refine own_by (fun _ k => XS.ifNo X258.here hx rfl (hb hby at_265) rfl ((if0 _ _).trans (feq (by decide : ¬ ((1 : Int32) = (0 : Int32)))).1) k) ?_
                    show own_Go p e below (T258.setTop (mkF m 268 #[.val (.long q1), .second, .val (.int f1), .val (.int (1 : Int32)), .val (.int (0 : Int32)), .val (.int tw), .val (.int sf), .val (.int ag), .val (.ref ob180), .val (.ref ob183), .val (.ref ob186), .val (.int (1 : Int32))] [])) _
                    refine own_by (fun _ k => XS.aload X258.here hx rfl (hb hby at_268) rfl rfl k) ?_
                    have O259 : Old Z n0 T258.heap := (O253.keep K258 (allS (by omega) (allS (by omega) (allS (by omega) all0))))
                    have fc261 : Exa Z T258.heap ob180 s2_ := (fc255.keep K258)
                    obtain ⟨cq260, kq260, q260a, q260b, q260c⟩ := isOf hZ rfl fc261
                    obtain ⟨_, _, ⟨T260, L260, k260, n260⟩, -, X260, ⟨Lc260, hQ260, l260, y260, z260⟩, st260⟩ := X258.virtualBack hx (y := (⟨s2_, "hasWaiting", "()Z"⟩ : MethodName)) (z := (⟨s2_, "hasWaiting", "()Z"⟩ : MethodName)) hown (mvT hZ (own_w hw 39 rfl)) (mvT hZ (own_w hw 40 rfl)) (notFace_of_selects (args := #[]) (mvT hZ (own_w hw 42 rfl))) (mvT hZ (own_w hw 42 rfl)) (mvT hZ (own_w hw 41 rfl)) (by decide) (backOf (W := 0) (rm_hw0 l Z a0 hw [] ob180 T258.heap n0 O259 g258_0) hZ (own_w hw 43 rfl) (own_w hw 2 rfl) (by decide) (by decide)) q260a q260c (g := (mkF m 270 #[.val (.long q1), .second, .val (.int f1), .val (.int (1 : Int32)), .val (.int (0 : Int32)), .val (.int tw), .val (.int sf), .val (.int ag), .val (.ref ob180), .val (.ref ob183), .val (.ref ob186), .val (.int (1 : Int32))] [(.ref ob180)])) rfl (by rw [hml]; rfl) (Steps.refl _) (argsL := []) (rest := []) (lenOf own_pd__28_29Z rfl) rfl (by show 2 * 0 + _ ≤ _; exact Nat.le_of_eq rfl) (hb hby at_270) (fun _ _ => ⟨rfl, rfl, (by decide : 9 + 0 ≤ _), (by decide : 70 + 0 ≤ _)⟩)
                    dsimp only [Pt.U, Pt.locs, Pt.cells, Pt.slots] at X260 l260 y260 z260 st260 hQ260
                    subst l260 y260 z260
                    obtain ⟨rfl, M260, K260⟩ := hQ260
                    have N260 := Fr.app N258 M260
                    refine own_by (fun _ k => st260.trans k) ?_
                    refine own_by (fun _ k => XS.ifNo X260.here hx rfl (hb hby at_273) rfl ((if0 _ _).trans (teq (by decide : (0 : Int32) = (0 : Int32))).2) k) ?_
                    show own_Go p e below (T260.setTop (mkF m 276 #[.val (.long q1), .second, .val (.int f1), .val (.int (1 : Int32)), .val (.int (0 : Int32)), .val (.int tw), .val (.int sf), .val (.int ag), .val (.ref ob180), .val (.ref ob183), .val (.ref ob186), .val (.int (1 : Int32))] [])) _
                    refine own_by (fun _ k => XS.iconst X260.here hx rfl (hb hby at_276) k) ?_
                    refine own_by (fun _ k => XS.goto X260.here hx rfl (pc0 := 277) (pc' := 281) rfl (hb hby at_277) (by decide) (by decide) k) ?_
                    refine own_by (fun _ k => XS.istore X260.here hx rfl (hb hby at_281) rfl (l' := #[.val (.long q1), .second, .val (.int f1), .val (.int (1 : Int32)), .val (.int (0 : Int32)), .val (.int tw), .val (.int sf), .val (.int ag), .val (.ref ob180), .val (.ref ob183), .val (.ref ob186), .val (.int (1 : Int32))]) rfl k) ?_
                    refine own_by (fun _ k => XS.goto X260.here hx rfl (pc0 := 283) (pc' := 313) rfl (hb hby at_283) (by decide) (by decide) k) ?_
                    show own_Go p e below (T260.setTop (mkF m 313 #[.val (.long q1), .second, .val (.int f1), .val (.int (1 : Int32)), .val (.int (0 : Int32)), .val (.int tw), .val (.int sf), .val (.int ag), .val (.ref ob180), .val (.ref ob183), .val (.ref ob186), .val (.int (1 : Int32))] [])) _
                    have fc262 : Exa Z T258.heap ob183 s5_ := (fc256.keep K258)
                    have fc263 : Fld Z T258.heap ob183 s5_ "conversion" "Z" (.int (1 : Int32)) := (fc257.keep K258 (ninS (own_ne (by omega)) (ninS (own_ne (by omega)) (ninS (own_ne (by omega)) nin0))))
                    have fc264 : Exa Z T258.heap ob186 s5_ := ((fc250.keep K252).keep K258)
                    have fc265 : Fld Z T258.heap ob186 s5_ "conversion" "Z" (.int (0 : Int32)) := ((fc251.keep K252 (ninS (own_ne (by omega)) (ninS (own_ne (by omega)) (ninS (own_ne (by omega)) nin0)))).keep K258 (ninS (own_ne (by omega)) (ninS (own_ne (by omega)) (ninS (own_ne (by omega)) nin0))))
                    have K266 : Keep h0 T258.heap [] := (((((((((((Keep.refl h0 []).ext E180).trans K182 (allS (P := fun x => x ∈ [] ∨ h0.size ≤ x) (Or.inr (by omega)) all0)).ext E183).trans K185 (allS (P := fun x => x ∈ [] ∨ h0.size ≤ x) (Or.inr (by omega)) all0)).ext E186).trans K188 (allS (P := fun x => x ∈ [] ∨ h0.size ≤ x) (Or.inr (by omega)) all0)).trans K195 (allS (P := fun x => x ∈ [] ∨ h0.size ≤ x) (Or.inr (by omega)) all0)).trans K228 (allS (P := fun x => x ∈ [] ∨ h0.size ≤ x) (Or.inr (by omega)) (allS (P := fun x => x ∈ [] ∨ h0.size ≤ x) (Or.inr (by omega)) all0))).trans K252 (allS (P := fun x => x ∈ [] ∨ h0.size ≤ x) (Or.inr (by omega)) (allS (P := fun x => x ∈ [] ∨ h0.size ≤ x) (Or.inr (by omega)) (allS (P := fun x => x ∈ [] ∨ h0.size ≤ x) (Or.inr (by omega)) all0)))).trans K258 (allS (P := fun x => x ∈ [] ∨ h0.size ≤ x) (Or.inr (by omega)) (allS (P := fun x => x ∈ [] ∨ h0.size ≤ x) (Or.inr (by omega)) (allS (P := fun x => x ∈ [] ∨ h0.size ≤ x) (Or.inr (by omega)) all0))))
                    exact jn199 _ _ ⟨_, X260, N260⟩ K260 K266 fc261 g258_0 fc262 fc263 fc264 fc265
              · skip
                show own_Go p e below (Tj5.setTop (mkF m 66 #[.val (.long q1), .second, .val (.int f1), .val (.int (1 : Int32)), .val (.int (1 : Int32)), .val (.int tw), .val (.int sf), .val (.int ag), .unset, .unset, .unset, .unset] [])) _
                obtain ⟨T267, h267, X267, e267, E267, A267, D267, U267, st267⟩ := newO Xj5 hx hZ hown (own_w hw 0 rfl) (own_w hw 1 rfl) (own_w hw 2 rfl) ej5 (g := (mkF m 66 #[.val (.long q1), .second, .val (.int f1), .val (.int (1 : Int32)), .val (.int (1 : Int32)), .val (.int tw), .val (.int sf), .val (.int ag), .unset, .unset, .unset, .unset] [])) rfl (hb hby at_66) (by decide) (by decide)
                obtain ⟨ob267, g267⟩ : ∃ z, z = h0.size := ⟨_, rfl⟩
                rw [← g267] at A267 D267 U267 st267
                refine own_by st267 ?_
                have z267 := E267.1
                have lt267 : h267.size > ob267 := A267.lt
                refine own_by (fun _ k => XS.dup X267.here hx rfl (hb hby at_69) rfl rfl k) ?_
                refine own_by (fun _ k => XS.lloadN X267.here hx rfl (hb hby at_70) rfl k) ?_
                have O268 : Old Z n0 h267 := (O0.ext E267)
                obtain ⟨_, _, ⟨T269, L269, k269, n269⟩, -, X269, ⟨Lc269, hQ269, l269, y269, z269⟩, st269⟩ := X267.specialBack hx (y := (⟨s2_, "<init>", "(J)V"⟩ : MethodName)) rfl hown (mvT hZ (own_w hw 3 rfl)) (mvT hZ (own_w hw 4 rfl)) (mvT hZ (own_w hw 5 rfl)) (by decide) (backOf (W := 1) (rm_leinit l Z a0 hw [] ob267 q1 mo cm h267 n0 O268 S_MODES A_mo L_mo A267 (show Fld Z h267 ob267 s2_ "queues" s11_ .null from D267 (Or.inl (own_w hw 45 rfl)) (ty := (.object s13_)) (by decide)) (show Fld Z h267 ob267 s2_ "holdersByMode" "[I" .null from D267 (Or.inr (own_w hw 13 rfl)) (ty := (.array .int)) (by decide)) (show Fld Z h267 ob267 s2_ "id" "J" (.long (0 : Int64)) from D267 (Or.inr (own_w hw 15 rfl)) (ty := .long) (by decide)) (by first | assumption | omega | decide)) hZ (own_w hw 5 rfl) (own_w hw 2 rfl) (by decide) (by decide)) (g := (mkF m 71 #[.val (.long q1), .second, .val (.int f1), .val (.int (1 : Int32)), .val (.int (1 : Int32)), .val (.int tw), .val (.int sf), .val (.int ag), .unset, .unset, .unset, .unset] [(.long q1), (.ref ob267), (.ref ob267)])) rfl (by rw [hml]; rfl) (Steps.refl _) (a := ob267) (argsL := [(.long q1)]) (rest := [(.ref ob267)]) (lenOf own_pd__28J_29V rfl) rfl (by show 2 * 0 + _ ≤ _; exact Nat.le_of_eq rfl) (hb hby at_71) (fun _ _ => ⟨rfl, e267, (by decide : 1 + 1 ≤ _), (by decide : 6 + 6 ≤ _)⟩)
                dsimp only [Pt.U, Pt.locs, Pt.cells, Pt.slots] at X269 l269 y269 z269 st269 hQ269
                subst l269 y269 z269
                obtain ⟨rfl, M269, K269, g269_0, g269_1⟩ := hQ269
                have N269 := Fr.app Nj5 M269
                refine own_by (fun _ k => st269.trans k) ?_
                have z269 := K269.1
                have lt_g269_0 : T269.heap.size > ob267 := g269_0.lt
                have lt_g269_1 : T269.heap.size > ob267 := g269_1.lt
                refine own_by (fun _ k => XS.astore X269.here hx rfl (hb hby at_74) rfl rfl (l' := #[.val (.long q1), .second, .val (.int f1), .val (.int (1 : Int32)), .val (.int (1 : Int32)), .val (.int tw), .val (.int sf), .val (.int ag), .val (.ref ob267), .unset, .unset, .unset]) rfl k) ?_
                obtain ⟨T270, h270, X270, e270, E270, A270, D270, U270, st270⟩ := newO X269 hx hZ hown (own_w hw 16 rfl) (own_w hw 17 rfl) (own_w hw 18 rfl) rfl (g := (mkF m 76 #[.val (.long q1), .second, .val (.int f1), .val (.int (1 : Int32)), .val (.int (1 : Int32)), .val (.int tw), .val (.int sf), .val (.int ag), .val (.ref ob267), .unset, .unset, .unset] [])) rfl (hb hby at_76) (by decide) (by decide)
                obtain ⟨ob270, g270⟩ : ∃ z, z = T269.heap.size := ⟨_, rfl⟩
                rw [← g270] at A270 D270 U270 st270
                refine own_by st270 ?_
                have z270 := E270.1
                have lt270 : h270.size > ob270 := A270.lt
                show own_Go p e below (T270.setTop (mkF m 79 #[.val (.long q1), .second, .val (.int f1), .val (.int (1 : Int32)), .val (.int (1 : Int32)), .val (.int tw), .val (.int sf), .val (.int ag), .val (.ref ob267), .unset, .unset, .unset] [(.ref ob270)])) _
                refine own_by (fun _ k => XS.dup X270.here hx rfl (hb hby at_79) rfl rfl k) ?_
                refine own_by (fun _ k => XS.aconstNull X270.here hx rfl (hb hby at_80) k) ?_
                refine own_by (fun _ k => XS.aload X270.here hx rfl (hb hby at_81) rfl rfl k) ?_
                refine own_by (fun _ k => XS.aconstNull X270.here hx rfl (hb hby at_83) k) ?_
                refine own_by (fun _ k => XS.iloadN X270.here hx rfl (hb hby at_84) rfl k) ?_
                refine own_by (fun _ k => XS.iconst X270.here hx rfl (hb hby at_85) k) ?_
                show own_Go p e below (T270.setTop (mkF m 86 #[.val (.long q1), .second, .val (.int f1), .val (.int (1 : Int32)), .val (.int (1 : Int32)), .val (.int tw), .val (.int sf), .val (.int ag), .val (.ref ob267), .unset, .unset, .unset] [(.int (0 : Int32)), (.int (1 : Int32)), .null, (.ref ob267), .null, (.ref ob270), (.ref ob270)])) _
                refine own_by (fun _ k => XS.lconst X270.here hx rfl (hb hby at_86) k) ?_
                refine own_by (fun _ k => XS.lconst X270.here hx rfl (hb hby at_87) k) ?_
                refine own_by (fun _ k => XS.lconst X270.here hx rfl (hb hby at_88) k) ?_
                have O271 : Old Z n0 h270 := ((O268.keep K269 (allS (by omega) all0)).ext E270)
                obtain ⟨_, _, ⟨T272, L272, k272, n272⟩, -, X272, ⟨Lc272, hQ272, l272, y272, z272⟩, st272⟩ := X270.specialBack hx (y := (⟨s5_, "<init>", s6_⟩ : MethodName)) rfl hown (mvT hZ (own_w hw 19 rfl)) (mvT hZ (own_w hw 20 rfl)) (mvT hZ (own_w hw 21 rfl)) (by decide) (backOf (W := 1) (rm_winit1 l Z a0 hw [] ob270 ob267 (0 : Int64) h270 n0 O271 A270 (show Fld Z h270 ob270 s5_ "session" s7_ .null from D270 (Or.inr (own_w hw 24 rfl)) (ty := (.object "com/example/admit1/admit1/lock/LockSession")) (by decide)) (show Fld Z h270 ob270 s5_ "lock" s8_ .null from D270 (Or.inr (own_w hw 26 rfl)) (ty := (.object s2_)) (by decide)) (show Fld Z h270 ob270 s5_ "mode" s9_ .null from D270 (Or.inr (own_w hw 28 rfl)) (ty := (.object "com/example/admit1/admit1/lock/LockMode")) (by decide)) (show Fld Z h270 ob270 s5_ "conversion" "Z" (.int (0 : Int32)) from D270 (Or.inr (own_w hw 30 rfl)) (ty := .boolean) (by decide)) (show Fld Z h270 ob270 s5_ s10_ "Z" (.int (0 : Int32)) from D270 (Or.inr (own_w hw 32 rfl)) (ty := .boolean) (by decide)) (show Fld Z h270 ob270 s5_ "since" "J" (.long (0 : Int64)) from D270 (Or.inr (own_w hw 34 rfl)) (ty := .long) (by decide)) (show Fld Z h270 ob270 s5_ "deadline" "J" (.long (0 : Int64)) from D270 (Or.inr (own_w hw 36 rfl)) (ty := .long) (by decide)) (show Fld Z h270 ob270 s5_ "arrival" "J" (.long (0 : Int64)) from D270 (Or.inr (own_w hw 38 rfl)) (ty := .long) (by decide)) (by first | assumption | omega | decide)) hZ (own_w hw 21 rfl) (own_w hw 18 rfl) (by decide) (by decide)) (g := (mkF m 89 #[.val (.long q1), .second, .val (.int f1), .val (.int (1 : Int32)), .val (.int (1 : Int32)), .val (.int tw), .val (.int sf), .val (.int ag), .val (.ref ob267), .unset, .unset, .unset] [(.long (0 : Int64)), (.long (0 : Int64)), (.long (0 : Int64)), (.int (0 : Int32)), (.int (1 : Int32)), .null, (.ref ob267), .null, (.ref ob270), (.ref ob270)])) rfl (by rw [hml]; rfl) (Steps.refl _) (a := ob270) (argsL := [.null, (.ref ob267), .null, (.int (1 : Int32)), (.int (0 : Int32)), (.long (0 : Int64)), (.long (0 : Int64)), (.long (0 : Int64))]) (rest := [(.ref ob270)]) (lenOf own_pd__28Lcom_2fexample_2fadmit1_2fadmit1_2flock_2fLockSession_3bLcom_2fexample_2fadmit1_2fadmit1_2flock_2fLockEntry_3bLcom_2fexample_2fadmit1_2fadmit1_2flock_2fLockMode_3bZZJJJ_29V rfl) rfl (by show 2 * 0 + _ ≤ _; exact Nat.le_of_eq rfl) (hb hby at_89) (fun _ _ => ⟨rfl, e270, (by decide : 3 + 0 ≤ _), (by decide : 20 + 0 ≤ _)⟩)
                dsimp only [Pt.U, Pt.locs, Pt.cells, Pt.slots] at X272 l272 y272 z272 st272 hQ272
                subst l272 y272 z272
                obtain ⟨rfl, M272, K272, g272_0, g272_1⟩ := hQ272
                have N272 := Fr.app N269 M272
                refine own_by (fun _ k => st272.trans k) ?_
                have z272 := K272.1
                have lt_g272_0 : T272.heap.size > ob270 := g272_0.lt
                have lt_g272_1 : T272.heap.size > ob270 := g272_1.lt
                refine own_by (fun _ k => XS.astore X272.here hx rfl (hb hby at_92) rfl rfl (l' := #[.val (.long q1), .second, .val (.int f1), .val (.int (1 : Int32)), .val (.int (1 : Int32)), .val (.int tw), .val (.int sf), .val (.int ag), .val (.ref ob267), .val (.ref ob270), .unset, .unset]) rfl k) ?_
                obtain ⟨T273, h273, X273, e273, E273, A273, D273, U273, st273⟩ := newO X272 hx hZ hown (own_w hw 16 rfl) (own_w hw 17 rfl) (own_w hw 18 rfl) rfl (g := (mkF m 94 #[.val (.long q1), .second, .val (.int f1), .val (.int (1 : Int32)), .val (.int (1 : Int32)), .val (.int tw), .val (.int sf), .val (.int ag), .val (.ref ob267), .val (.ref ob270), .unset, .unset] [])) rfl (hb hby at_94) (by decide) (by decide)
                obtain ⟨ob273, g273⟩ : ∃ z, z = T272.heap.size := ⟨_, rfl⟩
                rw [← g273] at A273 D273 U273 st273
                refine own_by st273 ?_
                have z273 := E273.1
                have lt273 : h273.size > ob273 := A273.lt
                show own_Go p e below (T273.setTop (mkF m 97 #[.val (.long q1), .second, .val (.int f1), .val (.int (1 : Int32)), .val (.int (1 : Int32)), .val (.int tw), .val (.int sf), .val (.int ag), .val (.ref ob267), .val (.ref ob270), .unset, .unset] [(.ref ob273)])) _
                refine own_by (fun _ k => XS.dup X273.here hx rfl (hb hby at_97) rfl rfl k) ?_
                refine own_by (fun _ k => XS.aconstNull X273.here hx rfl (hb hby at_98) k) ?_
                refine own_by (fun _ k => XS.aload X273.here hx rfl (hb hby at_99) rfl rfl k) ?_
                refine own_by (fun _ k => XS.aconstNull X273.here hx rfl (hb hby at_101) k) ?_
                refine own_by (fun _ k => XS.iload X273.here hx rfl (hb hby at_102) rfl k) ?_
                refine own_by (fun _ k => XS.iconst X273.here hx rfl (hb hby at_104) k) ?_
                show own_Go p e below (T273.setTop (mkF m 105 #[.val (.long q1), .second, .val (.int f1), .val (.int (1 : Int32)), .val (.int (1 : Int32)), .val (.int tw), .val (.int sf), .val (.int ag), .val (.ref ob267), .val (.ref ob270), .unset, .unset] [(.int (0 : Int32)), (.int (1 : Int32)), .null, (.ref ob267), .null, (.ref ob273), (.ref ob273)])) _
                refine own_by (fun _ k => XS.lconst X273.here hx rfl (hb hby at_105) k) ?_
                refine own_by (fun _ k => XS.lconst X273.here hx rfl (hb hby at_106) k) ?_
                refine own_by (fun _ k => XS.lconst X273.here hx rfl (hb hby at_107) k) ?_
                have O274 : Old Z n0 h273 := ((O271.keep K272 (allS (by omega) all0)).ext E273)
                obtain ⟨_, _, ⟨T275, L275, k275, n275⟩, -, X275, ⟨Lc275, hQ275, l275, y275, z275⟩, st275⟩ := X273.specialBack hx (y := (⟨s5_, "<init>", s6_⟩ : MethodName)) rfl hown (mvT hZ (own_w hw 19 rfl)) (mvT hZ (own_w hw 20 rfl)) (mvT hZ (own_w hw 21 rfl)) (by decide) (backOf (W := 1) (rm_winit1 l Z a0 hw [] ob273 ob267 (1 : Int64) h273 n0 O274 A273 (show Fld Z h273 ob273 s5_ "session" s7_ .null from D273 (Or.inr (own_w hw 24 rfl)) (ty := (.object "com/example/admit1/admit1/lock/LockSession")) (by decide)) (show Fld Z h273 ob273 s5_ "lock" s8_ .null from D273 (Or.inr (own_w hw 26 rfl)) (ty := (.object s2_)) (by decide)) (show Fld Z h273 ob273 s5_ "mode" s9_ .null from D273 (Or.inr (own_w hw 28 rfl)) (ty := (.object "com/example/admit1/admit1/lock/LockMode")) (by decide)) (show Fld Z h273 ob273 s5_ "conversion" "Z" (.int (0 : Int32)) from D273 (Or.inr (own_w hw 30 rfl)) (ty := .boolean) (by decide)) (show Fld Z h273 ob273 s5_ s10_ "Z" (.int (0 : Int32)) from D273 (Or.inr (own_w hw 32 rfl)) (ty := .boolean) (by decide)) (show Fld Z h273 ob273 s5_ "since" "J" (.long (0 : Int64)) from D273 (Or.inr (own_w hw 34 rfl)) (ty := .long) (by decide)) (show Fld Z h273 ob273 s5_ "deadline" "J" (.long (0 : Int64)) from D273 (Or.inr (own_w hw 36 rfl)) (ty := .long) (by decide)) (show Fld Z h273 ob273 s5_ "arrival" "J" (.long (0 : Int64)) from D273 (Or.inr (own_w hw 38 rfl)) (ty := .long) (by decide)) (by first | assumption | omega | decide)) hZ (own_w hw 21 rfl) (own_w hw 18 rfl) (by decide) (by decide)) (g := (mkF m 108 #[.val (.long q1), .second, .val (.int f1), .val (.int (1 : Int32)), .val (.int (1 : Int32)), .val (.int tw), .val (.int sf), .val (.int ag), .val (.ref ob267), .val (.ref ob270), .unset, .unset] [(.long (1 : Int64)), (.long (0 : Int64)), (.long (0 : Int64)), (.int (0 : Int32)), (.int (1 : Int32)), .null, (.ref ob267), .null, (.ref ob273), (.ref ob273)])) rfl (by rw [hml]; rfl) (Steps.refl _) (a := ob273) (argsL := [.null, (.ref ob267), .null, (.int (1 : Int32)), (.int (0 : Int32)), (.long (0 : Int64)), (.long (0 : Int64)), (.long (1 : Int64))]) (rest := [(.ref ob273)]) (lenOf own_pd__28Lcom_2fexample_2fadmit1_2fadmit1_2flock_2fLockSession_3bLcom_2fexample_2fadmit1_2fadmit1_2flock_2fLockEntry_3bLcom_2fexample_2fadmit1_2fadmit1_2flock_2fLockMode_3bZZJJJ_29V rfl) rfl (by show 2 * 0 + _ ≤ _; exact Nat.le_of_eq rfl) (hb hby at_108) (fun _ _ => ⟨rfl, e273, (by decide : 4 + 0 ≤ _), (by decide : 28 + 0 ≤ _)⟩)
                dsimp only [Pt.U, Pt.locs, Pt.cells, Pt.slots] at X275 l275 y275 z275 st275 hQ275
                subst l275 y275 z275
                obtain ⟨rfl, M275, K275, g275_0, g275_1⟩ := hQ275
                have N275 := Fr.app N272 M275
                refine own_by (fun _ k => st275.trans k) ?_
                have z275 := K275.1
                have lt_g275_0 : T275.heap.size > ob273 := g275_0.lt
                have lt_g275_1 : T275.heap.size > ob273 := g275_1.lt
                refine own_by (fun _ k => XS.astore X275.here hx rfl (hb hby at_111) rfl rfl (l' := #[.val (.long q1), .second, .val (.int f1), .val (.int (1 : Int32)), .val (.int (1 : Int32)), .val (.int tw), .val (.int sf), .val (.int ag), .val (.ref ob267), .val (.ref ob270), .val (.ref ob273), .unset]) rfl k) ?_
                refine own_by (fun _ k => XS.aload X275.here hx rfl (hb hby at_113) rfl rfl k) ?_
                show own_Go p e below (T275.setTop (mkF m 115 #[.val (.long q1), .second, .val (.int f1), .val (.int (1 : Int32)), .val (.int (1 : Int32)), .val (.int tw), .val (.int sf), .val (.int ag), .val (.ref ob267), .val (.ref ob270), .val (.ref ob273), .unset] [(.ref ob267)])) _
                have fc276 : Fld Z T275.heap ob267 s2_ "queues" s11_ .null := ((((g269_1.ext E270).keep K272 (ninS (own_ne (by omega)) nin0)).ext E273).keep K275 (ninS (own_ne (by omega)) nin0))
                have O277 : Old Z n0 T275.heap := (O274.keep K275 (allS (by omega) all0))
                have fc279 : Exa Z T275.heap ob267 s2_ := ((((g269_0.ext E270).keep K272).ext E273).keep K275)
                obtain ⟨cq278, kq278, q278a, q278b, q278c⟩ := isOf hZ rfl fc279
                obtain ⟨_, _, ⟨T278, L278, k278, n278⟩, -, X278, ⟨Lc278, hQ278, l278, y278, z278⟩, st278⟩ := X275.virtualBack hx (y := (⟨s2_, "hasWaiting", "()Z"⟩ : MethodName)) (z := (⟨s2_, "hasWaiting", "()Z"⟩ : MethodName)) hown (mvT hZ (own_w hw 39 rfl)) (mvT hZ (own_w hw 40 rfl)) (notFace_of_selects (args := #[]) (mvT hZ (own_w hw 42 rfl))) (mvT hZ (own_w hw 42 rfl)) (mvT hZ (own_w hw 41 rfl)) (by decide) (backOf (W := 0) (rm_hw0 l Z a0 hw [] ob267 T275.heap n0 O277 fc276) hZ (own_w hw 43 rfl) (own_w hw 2 rfl) (by decide) (by decide)) q278a q278c (g := (mkF m 115 #[.val (.long q1), .second, .val (.int f1), .val (.int (1 : Int32)), .val (.int (1 : Int32)), .val (.int tw), .val (.int sf), .val (.int ag), .val (.ref ob267), .val (.ref ob270), .val (.ref ob273), .unset] [(.ref ob267)])) rfl (by rw [hml]; rfl) (Steps.refl _) (argsL := []) (rest := []) (lenOf own_pd__28_29Z rfl) rfl (by show 2 * 0 + _ ≤ _; exact Nat.le_of_eq rfl) (hb hby at_115) (fun _ _ => ⟨rfl, rfl, (by decide : 4 + 0 ≤ _), (by decide : 28 + 0 ≤ _)⟩)
                dsimp only [Pt.U, Pt.locs, Pt.cells, Pt.slots] at X278 l278 y278 z278 st278 hQ278
                subst l278 y278 z278
                obtain ⟨rfl, M278, K278⟩ := hQ278
                have N278 := Fr.app N275 M278
                refine own_by (fun _ k => st278.trans k) ?_
                refine own_by (fun _ k => XS.ifNo X278.here hx rfl (hb hby at_118) rfl ((if0 _ _).trans (teq (by decide : (0 : Int32) = (0 : Int32))).2) k) ?_
                show own_Go p e below (T278.setTop (mkF m 121 #[.val (.long q1), .second, .val (.int f1), .val (.int (1 : Int32)), .val (.int (1 : Int32)), .val (.int tw), .val (.int sf), .val (.int ag), .val (.ref ob267), .val (.ref ob270), .val (.ref ob273), .unset] [])) _
                refine own_by (fun _ k => XS.iconst X278.here hx rfl (hb hby at_121) k) ?_
                refine own_by (fun _ k => XS.goto X278.here hx rfl (pc0 := 122) (pc' := 126) rfl (hb hby at_122) (by decide) (by decide) k) ?_
                refine own_by (fun _ k => XS.istore X278.here hx rfl (hb hby at_126) rfl (l' := #[.val (.long q1), .second, .val (.int f1), .val (.int (1 : Int32)), .val (.int (1 : Int32)), .val (.int tw), .val (.int sf), .val (.int ag), .val (.ref ob267), .val (.ref ob270), .val (.ref ob273), .val (.int (1 : Int32))]) rfl k) ?_
                refine own_by (fun _ k => XS.aload X278.here hx rfl (hb hby at_128) rfl rfl k) ?_
                refine own_by (fun _ k => XS.aload X278.here hx rfl (hb hby at_130) rfl rfl k) ?_
                have fc280 : Exa Z T275.heap ob270 s5_ := ((g272_0.ext E273).keep K275)
                have fc281 : Fld Z T275.heap ob270 s5_ "conversion" "Z" (.int (1 : Int32)) := ((g272_1.ext E273).keep K275 (ninS (own_ne (by omega)) nin0))
                obtain ⟨cq282, kq282, q282a, q282b, q282c⟩ := isOf hZ K278 fc279
                obtain ⟨_, _, ⟨T282, L282, k282, n282⟩, -, X282, ⟨Lc282, hQ282, l282, y282, z282⟩, st282⟩ := X278.virtualBack hx (y := (⟨s2_, "enqueue", s12_⟩ : MethodName)) (z := (⟨s2_, "enqueue", s12_⟩ : MethodName)) hown (mvT hZ (own_w hw 46 rfl)) (mvT hZ (own_w hw 47 rfl)) (notFace_of_selects (args := #[]) (mvT hZ (own_w hw 49 rfl))) (mvT hZ (own_w hw 49 rfl)) (mvT hZ (own_w hw 48 rfl)) (by decide) (backOf (W := 0) (rm_enq_None_w11 l Z a0 hw [] ob267 ob270 T275.heap n0 O277 fc276 fc279 fc280 fc281 (by first | assumption | omega | decide) (by first | assumption | omega | decide)) hZ (own_w hw 50 rfl) (own_w hw 2 rfl) (by decide) (by decide)) q282a q282c (g := (mkF m 132 #[.val (.long q1), .second, .val (.int f1), .val (.int (1 : Int32)), .val (.int (1 : Int32)), .val (.int tw), .val (.int sf), .val (.int ag), .val (.ref ob267), .val (.ref ob270), .val (.ref ob273), .val (.int (1 : Int32))] [(.ref ob270), (.ref ob267)])) rfl (by rw [hml]; rfl) (Steps.refl _) (argsL := [(.ref ob270)]) (rest := []) (lenOf own_pd__28Lcom_2fexample_2fadmit1_2fadmit1_2flock_2fWait_3b_29V rfl) rfl (by show 2 * 0 + _ ≤ _; exact Nat.le_of_eq rfl) (hb hby at_132) (fun _ _ => ⟨rfl, K278, (by decide : 4 + 5 ≤ _), (by decide : 28 + 42 ≤ _)⟩)
                dsimp only [Pt.U, Pt.locs, Pt.cells, Pt.slots] at X282 l282 y282 z282 st282 hQ282
                subst l282 y282 z282
                obtain ⟨q_282, d1_282, a1_282, kk1_282, d2_282, a2_282, kk2_282, rfl, M282, K282, g282_0, g282_1, g282_2, g282_3, g282_4, g282_5, g282_6, g282_7, g282_8, g282_9, g282_10, g282_11, g282_12, g282_13, r282_0, r282_1, r282_2, r282_3, r282_4, r282_5, r282_6, r282_7⟩ := hQ282
                have N282 := Fr.app N278 M282
                refine own_by (fun _ k => st282.trans k) ?_
                have z282 := K282.1
                have lt_g282_0 : T282.heap.size > ob267 := g282_0.lt
                have lt_g282_1 : T282.heap.size > q_282 := g282_1.lt
                have lt_g282_2 : T282.heap.size > q_282 := g282_2.lt
                have lt_g282_3 : T282.heap.size > q_282 := g282_3.lt
                have lt_g282_4 : T282.heap.size > d1_282 := g282_4.lt
                have lt_g282_5 : T282.heap.size > d1_282 := g282_5.lt
                have lt_g282_6 : T282.heap.size > d1_282 := g282_6.lt
                have lt_g282_7 : T282.heap.size > d1_282 := g282_7.lt
                have lt_g282_8 : T282.heap.size > a1_282 := g282_8.lt
                have lt_g282_9 : T282.heap.size > d2_282 := g282_9.lt
                have lt_g282_10 : T282.heap.size > d2_282 := g282_10.lt
                have lt_g282_11 : T282.heap.size > d2_282 := g282_11.lt
                have lt_g282_12 : T282.heap.size > d2_282 := g282_12.lt
                have lt_g282_13 : T282.heap.size > a2_282 := g282_13.lt
                show own_Go p e below (T282.setTop (mkF m 135 #[.val (.long q1), .second, .val (.int f1), .val (.int (1 : Int32)), .val (.int (1 : Int32)), .val (.int tw), .val (.int sf), .val (.int ag), .val (.ref ob267), .val (.ref ob270), .val (.ref ob273), .val (.int (1 : Int32))] [])) _
                refine own_by (fun _ k => XS.iload X282.here hx rfl (hb hby at_135) rfl k) ?_
                refine own_by (fun _ k => XS.ifNo X282.here hx rfl (hb hby at_137) rfl ((if0 _ _).trans (feq (by decide : ¬ ((1 : Int32) = (0 : Int32)))).1) k) ?_
                show own_Go p e below (T282.setTop (mkF m 140 #[.val (.long q1), .second, .val (.int f1), .val (.int (1 : Int32)), .val (.int (1 : Int32)), .val (.int tw), .val (.int sf), .val (.int ag), .val (.ref ob267), .val (.ref ob270), .val (.ref ob273), .val (.int (1 : Int32))] [])) _
                refine own_by (fun _ k => XS.aload X282.here hx rfl (hb hby at_140) rfl rfl k) ?_
                have O283 : Old Z n0 T282.heap := (O277.keep K282 (allS (by omega) all0))
                have fc285 : Exa Z T282.heap ob267 s2_ := (fc279.keep K282)
                obtain ⟨cq284, kq284, q284a, q284b, q284c⟩ := isOf hZ rfl fc285
                obtain ⟨_, _, ⟨T284, L284, k284, n284⟩, -, X284, ⟨Lc284, hQ284, l284, y284, z284⟩, st284⟩ := X282.virtualBack hx (y := (⟨s2_, "hasWaiting", "()Z"⟩ : MethodName)) (z := (⟨s2_, "hasWaiting", "()Z"⟩ : MethodName)) hown (mvT hZ (own_w hw 39 rfl)) (mvT hZ (own_w hw 40 rfl)) (notFace_of_selects (args := #[]) (mvT hZ (own_w hw 42 rfl))) (mvT hZ (own_w hw 42 rfl)) (mvT hZ (own_w hw 41 rfl)) (by decide) (backOf (W := 0) (rm_hw1 l Z a0 hw [] ob267 q_282 T282.heap n0 O283 g282_0) hZ (own_w hw 43 rfl) (own_w hw 2 rfl) (by decide) (by decide)) q284a q284c (g := (mkF m 142 #[.val (.long q1), .second, .val (.int f1), .val (.int (1 : Int32)), .val (.int (1 : Int32)), .val (.int tw), .val (.int sf), .val (.int ag), .val (.ref ob267), .val (.ref ob270), .val (.ref ob273), .val (.int (1 : Int32))] [(.ref ob267)])) rfl (by rw [hml]; rfl) (Steps.refl _) (argsL := []) (rest := []) (lenOf own_pd__28_29Z rfl) rfl (by show 2 * 0 + _ ≤ _; exact Nat.le_of_eq rfl) (hb hby at_142) (fun _ _ => ⟨rfl, rfl, (by decide : 9 + 0 ≤ _), (by decide : 70 + 0 ≤ _)⟩)
                dsimp only [Pt.U, Pt.locs, Pt.cells, Pt.slots] at X284 l284 y284 z284 st284 hQ284
                subst l284 y284 z284
                obtain ⟨rfl, M284, K284⟩ := hQ284
                have N284 := Fr.app N282 M284
                refine own_by (fun _ k => st284.trans k) ?_
                refine own_by (fun _ k => XS.ifNo X284.here hx rfl (hb hby at_145) rfl ((if0 _ _).trans (feq (by decide : ¬ ((1 : Int32) = (0 : Int32)))).1) k) ?_
                show own_Go p e below (T284.setTop (mkF m 148 #[.val (.long q1), .second, .val (.int f1), .val (.int (1 : Int32)), .val (.int (1 : Int32)), .val (.int tw), .val (.int sf), .val (.int ag), .val (.ref ob267), .val (.ref ob270), .val (.ref ob273), .val (.int (1 : Int32))] [])) _
                refine own_by (fun _ k => XS.iconst X284.here hx rfl (hb hby at_148) k) ?_
                refine own_by (fun _ k => XS.goto X284.here hx rfl (pc0 := 149) (pc' := 153) rfl (hb hby at_149) (by decide) (by decide) k) ?_
                refine own_by (fun _ k => XS.istore X284.here hx rfl (hb hby at_153) rfl (l' := #[.val (.long q1), .second, .val (.int f1), .val (.int (1 : Int32)), .val (.int (1 : Int32)), .val (.int tw), .val (.int sf), .val (.int ag), .val (.ref ob267), .val (.ref ob270), .val (.ref ob273), .val (.int (1 : Int32))]) rfl k) ?_
                show own_Go p e below (T284.setTop (mkF m 155 #[.val (.long q1), .second, .val (.int f1), .val (.int (1 : Int32)), .val (.int (1 : Int32)), .val (.int tw), .val (.int sf), .val (.int ag), .val (.ref ob267), .val (.ref ob270), .val (.ref ob273), .val (.int (1 : Int32))] [])) _
                have jn286 : ∀ (Tj286 : State) (Hj286 : Heap), (∃ lc, Stand p l e room_1 s m #[(.long q1), (.int f1)] below meth c Tj286 lc 9 70 ∧ Fr n0 lc) → Tj286.heap = Hj286 → (Keep h0 Hj286 []) → (Exa Z Hj286 ob267 s2_) → (Fld Z Hj286 ob267 s2_ "queues" s11_ .null) → (Exa Z Hj286 ob270 s5_) → (Fld Z Hj286 ob270 s5_ "conversion" "Z" (.int (1 : Int32))) → (Exa Z Hj286 ob273 s5_) → (Fld Z Hj286 ob273 s5_ "conversion" "Z" (.int (1 : Int32))) → own_Go p e below (Tj286.setTop (mkF m 313 #[.val (.long q1), .second, .val (.int f1), .val (.int (1 : Int32)), .val (.int (1 : Int32)), .val (.int tw), .val (.int sf), .val (.int ag), .val (.ref ob267), .val (.ref ob270), .val (.ref ob273), .val (.int (1 : Int32))] [])) (fun t o => ∃ v L, o = .returned v ∧ Q_rm_law Z q1 f1 mo cm h0 n0 v t.heap L ∧ FrameEnd s o t L room_1.cells room_1.slots) := by
                  rintro Tj286 Hj286 ⟨lc286, Xj286, Nj286⟩ ej286 Kj286 fj286_0 fj286_1 fj286_2 fj286_3 fj286_4 fj286_5
                  have zj286 := Kj286.1
                  have lt_fj286_0 : Hj286.size > ob267 := fj286_0.lt
                  have lt_fj286_1 : Hj286.size > ob267 := fj286_1.lt
                  have lt_fj286_2 : Hj286.size > ob270 := fj286_2.lt
                  have lt_fj286_3 : Hj286.size > ob270 := fj286_3.lt
                  have lt_fj286_4 : Hj286.size > ob273 := fj286_4.lt
                  have lt_fj286_5 : Hj286.size > ob273 := fj286_5.lt
                  refine own_by (fun _ k => XS.iload Xj286.here hx rfl (hb hby at_313) rfl k) ?_
                  by_cases hc287 : ag = (0 : Int32)
                  · skip
                    refine own_by (fun _ k => XS.ifYes Xj286.here hx rfl (pc0 := 315) (pc' := 372) rfl (hb hby at_315) rfl ((if0 _ _).trans (teq hc287).1) (by decide) (by decide) k) ?_
                    show own_Go p e below (Tj286.setTop (mkF m 372 #[.val (.long q1), .second, .val (.int f1), .val (.int (1 : Int32)), .val (.int (1 : Int32)), .val (.int tw), .val (.int sf), .val (.int ag), .val (.ref ob267), .val (.ref ob270), .val (.ref ob273), .val (.int (1 : Int32))] [])) _
                    refine own_by (fun _ k => XS.iload Xj286.here hx rfl (hb hby at_372) rfl k) ?_
                    have K288 : Keep h0 Hj286 [] := ((Keep.refl h0 []).trans Kj286 all0)
                    obtain ⟨fs, hr, hrun, hended, hW, hsame⟩ := Xj286.leave (v := some (.int (1 : Int32))) (fun h => by rw [Bd.returns] at h; cases h)
                    refine ⟨_, _, retN Xj286 hx (t := .boolean) Bd.returns (by simp) (hb hby at_374) hr, hrun, hended, _, _, rfl, ?_, ⟨_, rfl⟩, hW, hsame.mono (by decide) (by decide)⟩
                    show Q_rm_law Z q1 f1 mo cm h0 n0 _ Tj286.heap _
                    rw [ej286]
                    exact ⟨rfl, Nj286, K288⟩
                  · skip
                    refine own_by (fun _ k => XS.ifNo Xj286.here hx rfl (hb hby at_315) rfl ((if0 _ _).trans (feq hc287).1) k) ?_
                    show own_Go p e below (Tj286.setTop (mkF m 318 #[.val (.long q1), .second, .val (.int f1), .val (.int (1 : Int32)), .val (.int (1 : Int32)), .val (.int tw), .val (.int sf), .val (.int ag), .val (.ref ob267), .val (.ref ob270), .val (.ref ob273), .val (.int (1 : Int32))] [])) _
                    refine own_by (fun _ k => XS.aload Xj286.here hx rfl (hb hby at_318) rfl rfl k) ?_
                    refine own_by (fun _ k => XS.aload Xj286.here hx rfl (hb hby at_320) rfl rfl k) ?_
                    have O289 : Old Z n0 Hj286 := (O0.keep Kj286 all0)
                    obtain ⟨cq290, kq290, q290a, q290b, q290c⟩ := isOf hZ ej286 fj286_0
                    obtain ⟨_, _, ⟨T290, L290, k290, n290⟩, -, X290, ⟨Lc290, hQ290, l290, y290, z290⟩, st290⟩ := Xj286.virtualBack hx (y := (⟨s2_, "enqueue", s12_⟩ : MethodName)) (z := (⟨s2_, "enqueue", s12_⟩ : MethodName)) hown (mvT hZ (own_w hw 46 rfl)) (mvT hZ (own_w hw 47 rfl)) (notFace_of_selects (args := #[]) (mvT hZ (own_w hw 49 rfl))) (mvT hZ (own_w hw 49 rfl)) (mvT hZ (own_w hw 48 rfl)) (by decide) (backOf (W := 0) (rm_enq_None_w11 l Z a0 hw [] ob267 ob273 Hj286 n0 O289 fj286_1 fj286_0 fj286_4 fj286_5 (by first | assumption | omega | decide) (by first | assumption | omega | decide)) hZ (own_w hw 50 rfl) (own_w hw 2 rfl) (by decide) (by decide)) q290a q290c (g := (mkF m 322 #[.val (.long q1), .second, .val (.int f1), .val (.int (1 : Int32)), .val (.int (1 : Int32)), .val (.int tw), .val (.int sf), .val (.int ag), .val (.ref ob267), .val (.ref ob270), .val (.ref ob273), .val (.int (1 : Int32))] [(.ref ob273), (.ref ob267)])) rfl (by rw [hml]; rfl) (Steps.refl _) (argsL := [(.ref ob273)]) (rest := []) (lenOf own_pd__28Lcom_2fexample_2fadmit1_2fadmit1_2flock_2fWait_3b_29V rfl) rfl (by show 2 * 0 + _ ≤ _; exact Nat.le_of_eq rfl) (hb hby at_322) (fun _ _ => ⟨rfl, ej286, (by decide : 9 + 5 ≤ _), (by decide : 70 + 42 ≤ _)⟩)
                    dsimp only [Pt.U, Pt.locs, Pt.cells, Pt.slots] at X290 l290 y290 z290 st290 hQ290
                    subst l290 y290 z290
                    obtain ⟨q_290, d1_290, a1_290, kk1_290, d2_290, a2_290, kk2_290, rfl, M290, K290, g290_0, g290_1, g290_2, g290_3, g290_4, g290_5, g290_6, g290_7, g290_8, g290_9, g290_10, g290_11, g290_12, g290_13, r290_0, r290_1, r290_2, r290_3, r290_4, r290_5, r290_6, r290_7⟩ := hQ290
                    have N290 := Fr.app Nj286 M290
                    refine own_by (fun _ k => st290.trans k) ?_
                    have z290 := K290.1
                    have lt_g290_0 : T290.heap.size > ob267 := g290_0.lt
                    have lt_g290_1 : T290.heap.size > q_290 := g290_1.lt
                    have lt_g290_2 : T290.heap.size > q_290 := g290_2.lt
                    have lt_g290_3 : T290.heap.size > q_290 := g290_3.lt
                    have lt_g290_4 : T290.heap.size > d1_290 := g290_4.lt
                    have lt_g290_5 : T290.heap.size > d1_290 := g290_5.lt
                    have lt_g290_6 : T290.heap.size > d1_290 := g290_6.lt
                    have lt_g290_7 : T290.heap.size > d1_290 := g290_7.lt
                    have lt_g290_8 : T290.heap.size > a1_290 := g290_8.lt
                    have lt_g290_9 : T290.heap.size > d2_290 := g290_9.lt
                    have lt_g290_10 : T290.heap.size > d2_290 := g290_10.lt
                    have lt_g290_11 : T290.heap.size > d2_290 := g290_11.lt
                    have lt_g290_12 : T290.heap.size > d2_290 := g290_12.lt
                    have lt_g290_13 : T290.heap.size > a2_290 := g290_13.lt
                    refine own_by (fun _ k => XS.iload X290.here hx rfl (hb hby at_325) rfl k) ?_
                    refine own_by (fun _ k => XS.ifNo X290.here hx rfl (hb hby at_327) rfl ((if0 _ _).trans (feq (by decide : ¬ ((1 : Int32) = (0 : Int32)))).1) k) ?_
                    show own_Go p e below (T290.setTop (mkF m 330 #[.val (.long q1), .second, .val (.int f1), .val (.int (1 : Int32)), .val (.int (1 : Int32)), .val (.int tw), .val (.int sf), .val (.int ag), .val (.ref ob267), .val (.ref ob270), .val (.ref ob273), .val (.int (1 : Int32))] [])) _
                    refine own_by (fun _ k => XS.aload X290.here hx rfl (hb hby at_330) rfl rfl k) ?_
                    have O291 : Old Z n0 T290.heap := (O289.keep K290 (allS (by omega) all0))
                    have fc293 : Exa Z T290.heap ob267 s2_ := (fj286_0.keep K290)
                    obtain ⟨cq292, kq292, q292a, q292b, q292c⟩ := isOf hZ rfl fc293
                    obtain ⟨_, _, ⟨T292, L292, k292, n292⟩, -, X292, ⟨Lc292, hQ292, l292, y292, z292⟩, st292⟩ := X290.virtualBack hx (y := (⟨s2_, "hasWaiting", "()Z"⟩ : MethodName)) (z := (⟨s2_, "hasWaiting", "()Z"⟩ : MethodName)) hown (mvT hZ (own_w hw 39 rfl)) (mvT hZ (own_w hw 40 rfl)) (notFace_of_selects (args := #[]) (mvT hZ (own_w hw 42 rfl))) (mvT hZ (own_w hw 42 rfl)) (mvT hZ (own_w hw 41 rfl)) (by decide) (backOf (W := 0) (rm_hw1 l Z a0 hw [] ob267 q_290 T290.heap n0 O291 g290_0) hZ (own_w hw 43 rfl) (own_w hw 2 rfl) (by decide) (by decide)) q292a q292c (g := (mkF m 332 #[.val (.long q1), .second, .val (.int f1), .val (.int (1 : Int32)), .val (.int (1 : Int32)), .val (.int tw), .val (.int sf), .val (.int ag), .val (.ref ob267), .val (.ref ob270), .val (.ref ob273), .val (.int (1 : Int32))] [(.ref ob267)])) rfl (by rw [hml]; rfl) (Steps.refl _) (argsL := []) (rest := []) (lenOf own_pd__28_29Z rfl) rfl (by show 2 * 0 + _ ≤ _; exact Nat.le_of_eq rfl) (hb hby at_332) (fun _ _ => ⟨rfl, rfl, (by decide : 14 + 0 ≤ _), (by decide : 112 + 0 ≤ _)⟩)
                    dsimp only [Pt.U, Pt.locs, Pt.cells, Pt.slots] at X292 l292 y292 z292 st292 hQ292
                    subst l292 y292 z292
                    obtain ⟨rfl, M292, K292⟩ := hQ292
                    have N292 := Fr.app N290 M292
                    refine own_by (fun _ k => st292.trans k) ?_
                    refine own_by (fun _ k => XS.ifNo X292.here hx rfl (hb hby at_335) rfl ((if0 _ _).trans (feq (by decide : ¬ ((1 : Int32) = (0 : Int32)))).1) k) ?_
                    show own_Go p e below (T292.setTop (mkF m 338 #[.val (.long q1), .second, .val (.int f1), .val (.int (1 : Int32)), .val (.int (1 : Int32)), .val (.int tw), .val (.int sf), .val (.int ag), .val (.ref ob267), .val (.ref ob270), .val (.ref ob273), .val (.int (1 : Int32))] [])) _
                    refine own_by (fun _ k => XS.iconst X292.here hx rfl (hb hby at_338) k) ?_
                    refine own_by (fun _ k => XS.goto X292.here hx rfl (pc0 := 339) (pc' := 343) rfl (hb hby at_339) (by decide) (by decide) k) ?_
                    refine own_by (fun _ k => XS.istore X292.here hx rfl (hb hby at_343) rfl (l' := #[.val (.long q1), .second, .val (.int f1), .val (.int (1 : Int32)), .val (.int (1 : Int32)), .val (.int tw), .val (.int sf), .val (.int ag), .val (.ref ob267), .val (.ref ob270), .val (.ref ob273), .val (.int (1 : Int32))]) rfl k) ?_
                    refine own_by (fun _ k => XS.aload X292.here hx rfl (hb hby at_345) rfl rfl k) ?_
                    refine own_by (fun _ k => XS.aload X292.here hx rfl (hb hby at_347) rfl rfl k) ?_
                    have fc294 : Exa Z T290.heap ob273 s5_ := (fj286_4.keep K290)
                    have fc295 : Fld Z T290.heap ob273 s5_ "conversion" "Z" (.int (1 : Int32)) := (fj286_5.keep K290 (ninS (own_ne (by omega)) nin0))
                    obtain ⟨cq296, kq296, q296a, q296b, q296c⟩ := isOf hZ K292 fc293
                    obtain ⟨_, _, ⟨T296, L296, k296, n296⟩, -, X296, ⟨Lc296, hQ296, l296, y296, z296⟩, st296⟩ := X292.virtualBack hx (y := (⟨s2_, "dequeue", s12_⟩ : MethodName)) (z := (⟨s2_, "dequeue", s12_⟩ : MethodName)) hown (mvT hZ (own_w hw 98 rfl)) (mvT hZ (own_w hw 99 rfl)) (notFace_of_selects (args := #[]) (mvT hZ (own_w hw 101 rfl))) (mvT hZ (own_w hw 101 rfl)) (mvT hZ (own_w hw 100 rfl)) (by decide) (backOf (W := 0) (rm_deq_0_1_w1_0_0_w11 l Z a0 hw [] ob267 q_290 d1_290 a1_290 kk1_290 d2_290 a2_290 kk2_290 ob273 T290.heap n0 O291 g290_0 fc293 fc294 fc295 g290_1 g290_2 g290_3 g290_4 g290_5 g290_6 g290_7 g290_8 g290_9 g290_10 g290_11 g290_12 g290_13 (by first | assumption | omega | decide) (by first | assumption | omega | decide) (own_ne (by omega)) (own_ne (by omega)) r290_0 r290_1 r290_2 r290_3 r290_4 r290_5 r290_6) hZ (own_w hw 102 rfl) (own_w hw 2 rfl) (by decide) (by decide)) q296a q296c (g := (mkF m 349 #[.val (.long q1), .second, .val (.int f1), .val (.int (1 : Int32)), .val (.int (1 : Int32)), .val (.int tw), .val (.int sf), .val (.int ag), .val (.ref ob267), .val (.ref ob270), .val (.ref ob273), .val (.int (1 : Int32))] [(.ref ob273), (.ref ob267)])) rfl (by rw [hml]; rfl) (Steps.refl _) (argsL := [(.ref ob273)]) (rest := []) (lenOf own_pd__28Lcom_2fexample_2fadmit1_2fadmit1_2flock_2fWait_3b_29V rfl) rfl (by show 2 * 0 + _ ≤ _; exact Nat.le_of_eq rfl) (hb hby at_349) (fun _ _ => ⟨rfl, K292, (by decide : 14 + 0 ≤ _), (by decide : 112 + 0 ≤ _)⟩)
                    dsimp only [Pt.U, Pt.locs, Pt.cells, Pt.slots] at X296 l296 y296 z296 st296 hQ296
                    subst l296 y296 z296
                    obtain ⟨rfl, M296, K296, g296_0⟩ := hQ296
                    have N296 := Fr.app N292 M296
                    refine own_by (fun _ k => st296.trans k) ?_
                    have z296 := K296.1
                    have lt_g296_0 : T296.heap.size > ob267 := g296_0.lt
                    show own_Go p e below (T296.setTop (mkF m 352 #[.val (.long q1), .second, .val (.int f1), .val (.int (1 : Int32)), .val (.int (1 : Int32)), .val (.int tw), .val (.int sf), .val (.int ag), .val (.ref ob267), .val (.ref ob270), .val (.ref ob273), .val (.int (1 : Int32))] [])) _
                    refine own_by (fun _ k => XS.iload X296.here hx rfl (hb hby at_352) rfl k) ?_
                    refine own_by (fun _ k => XS.ifNo X296.here hx rfl (hb hby at_354) rfl ((if0 _ _).trans (feq (by decide : ¬ ((1 : Int32) = (0 : Int32)))).1) k) ?_
                    show own_Go p e below (T296.setTop (mkF m 357 #[.val (.long q1), .second, .val (.int f1), .val (.int (1 : Int32)), .val (.int (1 : Int32)), .val (.int tw), .val (.int sf), .val (.int ag), .val (.ref ob267), .val (.ref ob270), .val (.ref ob273), .val (.int (1 : Int32))] [])) _
                    refine own_by (fun _ k => XS.aload X296.here hx rfl (hb hby at_357) rfl rfl k) ?_
                    have O297 : Old Z n0 T296.heap := (O291.keep K296 (allS (by omega) (allS (by omega) (allS (by omega) all0))))
                    have fc299 : Exa Z T296.heap ob267 s2_ := (fc293.keep K296)
                    obtain ⟨cq298, kq298, q298a, q298b, q298c⟩ := isOf hZ rfl fc299
                    obtain ⟨_, _, ⟨T298, L298, k298, n298⟩, -, X298, ⟨Lc298, hQ298, l298, y298, z298⟩, st298⟩ := X296.virtualBack hx (y := (⟨s2_, "hasWaiting", "()Z"⟩ : MethodName)) (z := (⟨s2_, "hasWaiting", "()Z"⟩ : MethodName)) hown (mvT hZ (own_w hw 39 rfl)) (mvT hZ (own_w hw 40 rfl)) (notFace_of_selects (args := #[]) (mvT hZ (own_w hw 42 rfl))) (mvT hZ (own_w hw 42 rfl)) (mvT hZ (own_w hw 41 rfl)) (by decide) (backOf (W := 0) (rm_hw0 l Z a0 hw [] ob267 T296.heap n0 O297 g296_0) hZ (own_w hw 43 rfl) (own_w hw 2 rfl) (by decide) (by decide)) q298a q298c (g := (mkF m 359 #[.val (.long q1), .second, .val (.int f1), .val (.int (1 : Int32)), .val (.int (1 : Int32)), .val (.int tw), .val (.int sf), .val (.int ag), .val (.ref ob267), .val (.ref ob270), .val (.ref ob273), .val (.int (1 : Int32))] [(.ref ob267)])) rfl (by rw [hml]; rfl) (Steps.refl _) (argsL := []) (rest := []) (lenOf own_pd__28_29Z rfl) rfl (by show 2 * 0 + _ ≤ _; exact Nat.le_of_eq rfl) (hb hby at_359) (fun _ _ => ⟨rfl, rfl, (by decide : 14 + 0 ≤ _), (by decide : 112 + 0 ≤ _)⟩)
                    dsimp only [Pt.U, Pt.locs, Pt.cells, Pt.slots] at X298 l298 y298 z298 st298 hQ298
                    subst l298 y298 z298
                    obtain ⟨rfl, M298, K298⟩ := hQ298
                    have N298 := Fr.app N296 M298
                    refine own_by (fun _ k => st298.trans k) ?_
                    refine own_by (fun _ k => XS.ifNo X298.here hx rfl (hb hby at_362) rfl ((if0 _ _).trans (teq (by decide : (0 : Int32) = (0 : Int32))).2) k) ?_
                    show own_Go p e below (T298.setTop (mkF m 365 #[.val (.long q1), .second, .val (.int f1), .val (.int (1 : Int32)), .val (.int (1 : Int32)), .val (.int tw), .val (.int sf), .val (.int ag), .val (.ref ob267), .val (.ref ob270), .val (.ref ob273), .val (.int (1 : Int32))] [])) _
                    refine own_by (fun _ k => XS.iconst X298.here hx rfl (hb hby at_365) k) ?_
                    refine own_by (fun _ k => XS.goto X298.here hx rfl (pc0 := 366) (pc' := 370) rfl (hb hby at_366) (by decide) (by decide) k) ?_
                    refine own_by (fun _ k => XS.istore X298.here hx rfl (hb hby at_370) rfl (l' := #[.val (.long q1), .second, .val (.int f1), .val (.int (1 : Int32)), .val (.int (1 : Int32)), .val (.int tw), .val (.int sf), .val (.int ag), .val (.ref ob267), .val (.ref ob270), .val (.ref ob273), .val (.int (1 : Int32))]) rfl k) ?_
                    refine own_by (fun _ k => XS.iload X298.here hx rfl (hb hby at_372) rfl k) ?_
                    have K300 : Keep h0 T296.heap [] := ((((Keep.refl h0 []).trans Kj286 all0).trans K290 (allS (P := fun x => x ∈ [] ∨ h0.size ≤ x) (Or.inr (by omega)) all0)).trans K296 (allS (P := fun x => x ∈ [] ∨ h0.size ≤ x) (Or.inr (by omega)) (allS (P := fun x => x ∈ [] ∨ h0.size ≤ x) (Or.inr (by omega)) (allS (P := fun x => x ∈ [] ∨ h0.size ≤ x) (Or.inr (by omega)) all0))))
                    obtain ⟨fs, hr, hrun, hended, hW, hsame⟩ := X298.leave (v := some (.int (1 : Int32))) (fun h => by rw [Bd.returns] at h; cases h)
                    refine ⟨_, _, retN X298 hx (t := .boolean) Bd.returns (by simp) (hb hby at_374) hr, hrun, hended, _, _, rfl, ?_, ⟨_, rfl⟩, hW, hsame.mono (by decide) (by decide)⟩
                    show Q_rm_law Z q1 f1 mo cm h0 n0 _ T298.heap _
                    rw [K298]
                    exact ⟨rfl, N298, K300⟩
                refine own_by (fun _ k => XS.iload X284.here hx rfl (hb hby at_155) rfl k) ?_
                by_cases hc301 : tw = (0 : Int32)
                · skip
                  refine own_by (fun _ k => XS.ifYes X284.here hx rfl (pc0 := 157) (pc' := 286) rfl (hb hby at_157) rfl ((if0 _ _).trans (teq hc301).1) (by decide) (by decide) k) ?_
                  show own_Go p e below (T284.setTop (mkF m 286 #[.val (.long q1), .second, .val (.int f1), .val (.int (1 : Int32)), .val (.int (1 : Int32)), .val (.int tw), .val (.int sf), .val (.int ag), .val (.ref ob267), .val (.ref ob270), .val (.ref ob273), .val (.int (1 : Int32))] [])) _
                  refine own_by (fun _ k => XS.aload X284.here hx rfl (hb hby at_286) rfl rfl k) ?_
                  refine own_by (fun _ k => XS.aload X284.here hx rfl (hb hby at_288) rfl rfl k) ?_
                  have fc302 : Exa Z T282.heap ob270 s5_ := (fc280.keep K282)
                  have fc303 : Fld Z T282.heap ob270 s5_ "conversion" "Z" (.int (1 : Int32)) := (fc281.keep K282 (ninS (own_ne (by omega)) nin0))
                  obtain ⟨cq304, kq304, q304a, q304b, q304c⟩ := isOf hZ K284 fc285
                  obtain ⟨_, _, ⟨T304, L304, k304, n304⟩, -, X304, ⟨Lc304, hQ304, l304, y304, z304⟩, st304⟩ := X284.virtualBack hx (y := (⟨s2_, "dequeue", s12_⟩ : MethodName)) (z := (⟨s2_, "dequeue", s12_⟩ : MethodName)) hown (mvT hZ (own_w hw 98 rfl)) (mvT hZ (own_w hw 99 rfl)) (notFace_of_selects (args := #[]) (mvT hZ (own_w hw 101 rfl))) (mvT hZ (own_w hw 101 rfl)) (mvT hZ (own_w hw 100 rfl)) (by decide) (backOf (W := 0) (rm_deq_0_1_w1_0_0_w11 l Z a0 hw [] ob267 q_282 d1_282 a1_282 kk1_282 d2_282 a2_282 kk2_282 ob270 T282.heap n0 O283 g282_0 fc285 fc302 fc303 g282_1 g282_2 g282_3 g282_4 g282_5 g282_6 g282_7 g282_8 g282_9 g282_10 g282_11 g282_12 g282_13 (by first | assumption | omega | decide) (by first | assumption | omega | decide) (own_ne (by omega)) (own_ne (by omega)) r282_0 r282_1 r282_2 r282_3 r282_4 r282_5 r282_6) hZ (own_w hw 102 rfl) (own_w hw 2 rfl) (by decide) (by decide)) q304a q304c (g := (mkF m 290 #[.val (.long q1), .second, .val (.int f1), .val (.int (1 : Int32)), .val (.int (1 : Int32)), .val (.int tw), .val (.int sf), .val (.int ag), .val (.ref ob267), .val (.ref ob270), .val (.ref ob273), .val (.int (1 : Int32))] [(.ref ob270), (.ref ob267)])) rfl (by rw [hml]; rfl) (Steps.refl _) (argsL := [(.ref ob270)]) (rest := []) (lenOf own_pd__28Lcom_2fexample_2fadmit1_2fadmit1_2flock_2fWait_3b_29V rfl) rfl (by show 2 * 0 + _ ≤ _; exact Nat.le_of_eq rfl) (hb hby at_290) (fun _ _ => ⟨rfl, K284, (by decide : 9 + 0 ≤ _), (by decide : 70 + 0 ≤ _)⟩)
                  dsimp only [Pt.U, Pt.locs, Pt.cells, Pt.slots] at X304 l304 y304 z304 st304 hQ304
                  subst l304 y304 z304
                  obtain ⟨rfl, M304, K304, g304_0⟩ := hQ304
                  have N304 := Fr.app N284 M304
                  refine own_by (fun _ k => st304.trans k) ?_
                  have z304 := K304.1
                  have lt_g304_0 : T304.heap.size > ob267 := g304_0.lt
                  refine own_by (fun _ k => XS.iload X304.here hx rfl (hb hby at_293) rfl k) ?_
                  refine own_by (fun _ k => XS.ifNo X304.here hx rfl (hb hby at_295) rfl ((if0 _ _).trans (feq (by decide : ¬ ((1 : Int32) = (0 : Int32)))).1) k) ?_
                  show own_Go p e below (T304.setTop (mkF m 298 #[.val (.long q1), .second, .val (.int f1), .val (.int (1 : Int32)), .val (.int (1 : Int32)), .val (.int tw), .val (.int sf), .val (.int ag), .val (.ref ob267), .val (.ref ob270), .val (.ref ob273), .val (.int (1 : Int32))] [])) _
                  refine own_by (fun _ k => XS.aload X304.here hx rfl (hb hby at_298) rfl rfl k) ?_
                  have O305 : Old Z n0 T304.heap := (O283.keep K304 (allS (by omega) (allS (by omega) (allS (by omega) all0))))
                  have fc307 : Exa Z T304.heap ob267 s2_ := (fc285.keep K304)
                  obtain ⟨cq306, kq306, q306a, q306b, q306c⟩ := isOf hZ rfl fc307
                  obtain ⟨_, _, ⟨T306, L306, k306, n306⟩, -, X306, ⟨Lc306, hQ306, l306, y306, z306⟩, st306⟩ := X304.virtualBack hx (y := (⟨s2_, "hasWaiting", "()Z"⟩ : MethodName)) (z := (⟨s2_, "hasWaiting", "()Z"⟩ : MethodName)) hown (mvT hZ (own_w hw 39 rfl)) (mvT hZ (own_w hw 40 rfl)) (notFace_of_selects (args := #[]) (mvT hZ (own_w hw 42 rfl))) (mvT hZ (own_w hw 42 rfl)) (mvT hZ (own_w hw 41 rfl)) (by decide) (backOf (W := 0) (rm_hw0 l Z a0 hw [] ob267 T304.heap n0 O305 g304_0) hZ (own_w hw 43 rfl) (own_w hw 2 rfl) (by decide) (by decide)) q306a q306c (g := (mkF m 300 #[.val (.long q1), .second, .val (.int f1), .val (.int (1 : Int32)), .val (.int (1 : Int32)), .val (.int tw), .val (.int sf), .val (.int ag), .val (.ref ob267), .val (.ref ob270), .val (.ref ob273), .val (.int (1 : Int32))] [(.ref ob267)])) rfl (by rw [hml]; rfl) (Steps.refl _) (argsL := []) (rest := []) (lenOf own_pd__28_29Z rfl) rfl (by show 2 * 0 + _ ≤ _; exact Nat.le_of_eq rfl) (hb hby at_300) (fun _ _ => ⟨rfl, rfl, (by decide : 9 + 0 ≤ _), (by decide : 70 + 0 ≤ _)⟩)
                  dsimp only [Pt.U, Pt.locs, Pt.cells, Pt.slots] at X306 l306 y306 z306 st306 hQ306
                  subst l306 y306 z306
                  obtain ⟨rfl, M306, K306⟩ := hQ306
                  have N306 := Fr.app N304 M306
                  refine own_by (fun _ k => st306.trans k) ?_
                  refine own_by (fun _ k => XS.ifNo X306.here hx rfl (hb hby at_303) rfl ((if0 _ _).trans (teq (by decide : (0 : Int32) = (0 : Int32))).2) k) ?_
                  show own_Go p e below (T306.setTop (mkF m 306 #[.val (.long q1), .second, .val (.int f1), .val (.int (1 : Int32)), .val (.int (1 : Int32)), .val (.int tw), .val (.int sf), .val (.int ag), .val (.ref ob267), .val (.ref ob270), .val (.ref ob273), .val (.int (1 : Int32))] [])) _
                  refine own_by (fun _ k => XS.iconst X306.here hx rfl (hb hby at_306) k) ?_
                  refine own_by (fun _ k => XS.goto X306.here hx rfl (pc0 := 307) (pc' := 311) rfl (hb hby at_307) (by decide) (by decide) k) ?_
                  refine own_by (fun _ k => XS.istore X306.here hx rfl (hb hby at_311) rfl (l' := #[.val (.long q1), .second, .val (.int f1), .val (.int (1 : Int32)), .val (.int (1 : Int32)), .val (.int tw), .val (.int sf), .val (.int ag), .val (.ref ob267), .val (.ref ob270), .val (.ref ob273), .val (.int (1 : Int32))]) rfl k) ?_
                  show own_Go p e below (T306.setTop (mkF m 313 #[.val (.long q1), .second, .val (.int f1), .val (.int (1 : Int32)), .val (.int (1 : Int32)), .val (.int tw), .val (.int sf), .val (.int ag), .val (.ref ob267), .val (.ref ob270), .val (.ref ob273), .val (.int (1 : Int32))] [])) _
                  have fc308 : Exa Z T304.heap ob270 s5_ := (fc302.keep K304)
                  have fc309 : Fld Z T304.heap ob270 s5_ "conversion" "Z" (.int (1 : Int32)) := (fc303.keep K304 (ninS (own_ne (by omega)) (ninS (own_ne (by omega)) (ninS (own_ne (by omega)) nin0))))
                  have fc310 : Exa Z T304.heap ob273 s5_ := ((g275_0.keep K282).keep K304)
                  have fc311 : Fld Z T304.heap ob273 s5_ "conversion" "Z" (.int (1 : Int32)) := ((g275_1.keep K282 (ninS (own_ne (by omega)) nin0)).keep K304 (ninS (own_ne (by omega)) (ninS (own_ne (by omega)) (ninS (own_ne (by omega)) nin0))))
                  have K312 : Keep h0 T304.heap [] := (((((((((Keep.refl h0 []).ext E267).trans K269 (allS (P := fun x => x ∈ [] ∨ h0.size ≤ x) (Or.inr (by omega)) all0)).ext E270).trans K272 (allS (P := fun x => x ∈ [] ∨ h0.size ≤ x) (Or.inr (by omega)) all0)).ext E273).trans K275 (allS (P := fun x => x ∈ [] ∨ h0.size ≤ x) (Or.inr (by omega)) all0)).trans K282 (allS (P := fun x => x ∈ [] ∨ h0.size ≤ x) (Or.inr (by omega)) all0)).trans K304 (allS (P := fun x => x ∈ [] ∨ h0.size ≤ x) (Or.inr (by omega)) (allS (P := fun x => x ∈ [] ∨ h0.size ≤ x) (Or.inr (by omega)) (allS (P := fun x => x ∈ [] ∨ h0.size ≤ x) (Or.inr (by omega)) all0))))
                  exact jn286 _ _ ⟨_, X306, N306⟩ K306 K312 fc307 g304_0 fc308 fc309 fc310 fc311
                · skip
                  refine own_by (fun _ k => XS.ifNo X284.here hx rfl (hb hby at_157) rfl ((if0 _ _).trans (feq hc301).1) k) ?_
                  show own_Go p e below (T284.setTop (mkF m 160 #[.val (.long q1), .second, .val (.int f1), .val (.int (1 : Int32)), .val (.int (1 : Int32)), .val (.int tw), .val (.int sf), .val (.int ag), .val (.ref ob267), .val (.ref ob270), .val (.ref ob273), .val (.int (1 : Int32))] [])) _
                  refine own_by (fun _ k => XS.aload X284.here hx rfl (hb hby at_160) rfl rfl k) ?_
                  refine own_by (fun _ k => XS.aload X284.here hx rfl (hb hby at_162) rfl rfl k) ?_
                  have fc313 : Exa Z T282.heap ob273 s5_ := (g275_0.keep K282)
                  have fc314 : Fld Z T282.heap ob273 s5_ "conversion" "Z" (.int (1 : Int32)) := (g275_1.keep K282 (ninS (own_ne (by omega)) nin0))
                  obtain ⟨cq315, kq315, q315a, q315b, q315c⟩ := isOf hZ K284 fc285
                  obtain ⟨_, _, ⟨T315, L315, k315, n315⟩, -, X315, ⟨Lc315, hQ315, l315, y315, z315⟩, st315⟩ := X284.virtualBack hx (y := (⟨s2_, "enqueue", s12_⟩ : MethodName)) (z := (⟨s2_, "enqueue", s12_⟩ : MethodName)) hown (mvT hZ (own_w hw 46 rfl)) (mvT hZ (own_w hw 47 rfl)) (notFace_of_selects (args := #[]) (mvT hZ (own_w hw 49 rfl))) (mvT hZ (own_w hw 49 rfl)) (mvT hZ (own_w hw 48 rfl)) (by decide) (backOf (W := 0) (rm_enq_0_1_w1_0_0_w21 l Z a0 hw [] ob267 q_282 d1_282 a1_282 kk1_282 d2_282 a2_282 kk2_282 ob270 ob273 T282.heap n0 O283 g282_0 fc285 fc313 fc314 g282_1 g282_2 g282_3 g282_4 g282_5 g282_6 g282_7 g282_8 g282_9 g282_10 g282_11 g282_12 g282_13 (by first | assumption | omega | decide) (by first | assumption | omega | decide) (by first | assumption | omega | decide) (by first | assumption | omega | decide) r282_0 r282_1 r282_2 r282_3 r282_4 r282_5 r282_6) hZ (own_w hw 50 rfl) (own_w hw 2 rfl) (by decide) (by decide)) q315a q315c (g := (mkF m 164 #[.val (.long q1), .second, .val (.int f1), .val (.int (1 : Int32)), .val (.int (1 : Int32)), .val (.int tw), .val (.int sf), .val (.int ag), .val (.ref ob267), .val (.ref ob270), .val (.ref ob273), .val (.int (1 : Int32))] [(.ref ob273), (.ref ob267)])) rfl (by rw [hml]; rfl) (Steps.refl _) (argsL := [(.ref ob273)]) (rest := []) (lenOf own_pd__28Lcom_2fexample_2fadmit1_2fadmit1_2flock_2fWait_3b_29V rfl) rfl (by show 2 * 0 + _ ≤ _; exact Nat.le_of_eq rfl) (hb hby at_164) (fun _ _ => ⟨rfl, K284, (by decide : 9 + 0 ≤ _), (by decide : 70 + 0 ≤ _)⟩)
                  dsimp only [Pt.U, Pt.locs, Pt.cells, Pt.slots] at X315 l315 y315 z315 st315 hQ315
                  subst l315 y315 z315
                  obtain ⟨rfl, M315, K315, g315_0, g315_1, g315_2, g315_3, g315_4, g315_5, g315_6, g315_7, g315_8, g315_9, g315_10, g315_11, g315_12, g315_13⟩ := hQ315
                  have N315 := Fr.app N284 M315
                  refine own_by (fun _ k => st315.trans k) ?_
                  have z315 := K315.1
                  have lt_g315_0 : T315.heap.size > ob267 := g315_0.lt
                  have lt_g315_1 : T315.heap.size > q_282 := g315_1.lt
                  have lt_g315_2 : T315.heap.size > q_282 := g315_2.lt
                  have lt_g315_3 : T315.heap.size > q_282 := g315_3.lt
                  have lt_g315_4 : T315.heap.size > d1_282 := g315_4.lt
                  have lt_g315_5 : T315.heap.size > d1_282 := g315_5.lt
                  have lt_g315_6 : T315.heap.size > d1_282 := g315_6.lt
                  have lt_g315_7 : T315.heap.size > d1_282 := g315_7.lt
                  have lt_g315_8 : T315.heap.size > a1_282 := g315_8.lt
                  have lt_g315_9 : T315.heap.size > d2_282 := g315_9.lt
                  have lt_g315_10 : T315.heap.size > d2_282 := g315_10.lt
                  have lt_g315_11 : T315.heap.size > d2_282 := g315_11.lt
                  have lt_g315_12 : T315.heap.size > d2_282 := g315_12.lt
                  have lt_g315_13 : T315.heap.size > a2_282 := g315_13.lt
                  refine own_by (fun _ k => XS.iload X315.here hx rfl (hb hby at_167) rfl k) ?_
                  refine own_by (fun _ k => XS.ifNo X315.here hx rfl (hb hby at_169) rfl ((if0 _ _).trans (feq (by decide : ¬ ((1 : Int32) = (0 : Int32)))).1) k) ?_
                  show own_Go p e below (T315.setTop (mkF m 172 #[.val (.long q1), .second, .val (.int f1), .val (.int (1 : Int32)), .val (.int (1 : Int32)), .val (.int tw), .val (.int sf), .val (.int ag), .val (.ref ob267), .val (.ref ob270), .val (.ref ob273), .val (.int (1 : Int32))] [])) _
                  refine own_by (fun _ k => XS.aload X315.here hx rfl (hb hby at_172) rfl rfl k) ?_
                  have O316 : Old Z n0 T315.heap := (O283.keep K315 (allS (by omega) (allS (by omega) all0)))
                  have fc318 : Exa Z T315.heap ob267 s2_ := (fc285.keep K315)
                  obtain ⟨cq317, kq317, q317a, q317b, q317c⟩ := isOf hZ rfl fc318
                  obtain ⟨_, _, ⟨T317, L317, k317, n317⟩, -, X317, ⟨Lc317, hQ317, l317, y317, z317⟩, st317⟩ := X315.virtualBack hx (y := (⟨s2_, "hasWaiting", "()Z"⟩ : MethodName)) (z := (⟨s2_, "hasWaiting", "()Z"⟩ : MethodName)) hown (mvT hZ (own_w hw 39 rfl)) (mvT hZ (own_w hw 40 rfl)) (notFace_of_selects (args := #[]) (mvT hZ (own_w hw 42 rfl))) (mvT hZ (own_w hw 42 rfl)) (mvT hZ (own_w hw 41 rfl)) (by decide) (backOf (W := 0) (rm_hw1 l Z a0 hw [] ob267 q_282 T315.heap n0 O316 g315_0) hZ (own_w hw 43 rfl) (own_w hw 2 rfl) (by decide) (by decide)) q317a q317c (g := (mkF m 174 #[.val (.long q1), .second, .val (.int f1), .val (.int (1 : Int32)), .val (.int (1 : Int32)), .val (.int tw), .val (.int sf), .val (.int ag), .val (.ref ob267), .val (.ref ob270), .val (.ref ob273), .val (.int (1 : Int32))] [(.ref ob267)])) rfl (by rw [hml]; rfl) (Steps.refl _) (argsL := []) (rest := []) (lenOf own_pd__28_29Z rfl) rfl (by show 2 * 0 + _ ≤ _; exact Nat.le_of_eq rfl) (hb hby at_174) (fun _ _ => ⟨rfl, rfl, (by decide : 9 + 0 ≤ _), (by decide : 70 + 0 ≤ _)⟩)
                  dsimp only [Pt.U, Pt.locs, Pt.cells, Pt.slots] at X317 l317 y317 z317 st317 hQ317
                  subst l317 y317 z317
                  obtain ⟨rfl, M317, K317⟩ := hQ317
                  have N317 := Fr.app N315 M317
                  refine own_by (fun _ k => st317.trans k) ?_
                  refine own_by (fun _ k => XS.ifNo X317.here hx rfl (hb hby at_177) rfl ((if0 _ _).trans (feq (by decide : ¬ ((1 : Int32) = (0 : Int32)))).1) k) ?_
                  show own_Go p e below (T317.setTop (mkF m 180 #[.val (.long q1), .second, .val (.int f1), .val (.int (1 : Int32)), .val (.int (1 : Int32)), .val (.int tw), .val (.int sf), .val (.int ag), .val (.ref ob267), .val (.ref ob270), .val (.ref ob273), .val (.int (1 : Int32))] [])) _
                  refine own_by (fun _ k => XS.iconst X317.here hx rfl (hb hby at_180) k) ?_
                  refine own_by (fun _ k => XS.goto X317.here hx rfl (pc0 := 181) (pc' := 185) rfl (hb hby at_181) (by decide) (by decide) k) ?_
                  refine own_by (fun _ k => XS.istore X317.here hx rfl (hb hby at_185) rfl (l' := #[.val (.long q1), .second, .val (.int f1), .val (.int (1 : Int32)), .val (.int (1 : Int32)), .val (.int tw), .val (.int sf), .val (.int ag), .val (.ref ob267), .val (.ref ob270), .val (.ref ob273), .val (.int (1 : Int32))]) rfl k) ?_
                  refine own_by (fun _ k => XS.iload X317.here hx rfl (hb hby at_187) rfl k) ?_
                  by_cases hc319 : sf = (0 : Int32)
                  · skip
                    refine own_by (fun _ k => XS.ifYes X317.here hx rfl (pc0 := 189) (pc' := 229) rfl (hb hby at_189) rfl ((if0 _ _).trans (teq hc319).1) (by decide) (by decide) k) ?_
                    show own_Go p e below (T317.setTop (mkF m 229 #[.val (.long q1), .second, .val (.int f1), .val (.int (1 : Int32)), .val (.int (1 : Int32)), .val (.int tw), .val (.int sf), .val (.int ag), .val (.ref ob267), .val (.ref ob270), .val (.ref ob273), .val (.int (1 : Int32))] [])) _
                    refine own_by (fun _ k => XS.aload X317.here hx rfl (hb hby at_229) rfl rfl k) ?_
                    refine own_by (fun _ k => XS.aload X317.here hx rfl (hb hby at_231) rfl rfl k) ?_
                    have fc320 : Exa Z T315.heap ob270 s5_ := ((fc280.keep K282).keep K315)
                    have fc321 : Fld Z T315.heap ob270 s5_ "conversion" "Z" (.int (1 : Int32)) := ((fc281.keep K282 (ninS (own_ne (by omega)) nin0)).keep K315 (ninS (own_ne (by omega)) (ninS (own_ne (by omega)) nin0)))
                    obtain ⟨cq322, kq322, q322a, q322b, q322c⟩ := isOf hZ K317 fc318
                    obtain ⟨_, _, ⟨T322, L322, k322, n322⟩, -, X322, ⟨Lc322, hQ322, l322, y322, z322⟩, st322⟩ := X317.virtualBack hx (y := (⟨s2_, "dequeue", s12_⟩ : MethodName)) (z := (⟨s2_, "dequeue", s12_⟩ : MethodName)) hown (mvT hZ (own_w hw 98 rfl)) (mvT hZ (own_w hw 99 rfl)) (notFace_of_selects (args := #[]) (mvT hZ (own_w hw 101 rfl))) (mvT hZ (own_w hw 101 rfl)) (mvT hZ (own_w hw 100 rfl)) (by decide) (backOf (W := 0) (rm_deq_0_2_w1_w2_0_0_w11 l Z a0 hw [] ob267 q_282 d1_282 a1_282 kk1_282 d2_282 a2_282 kk2_282 ob270 ob273 T315.heap n0 O316 g315_0 fc318 fc320 fc321 g315_1 g315_2 g315_3 g315_4 g315_5 g315_6 g315_7 g315_8 g315_9 g315_10 g315_11 g315_12 g315_13 (by first | assumption | omega | decide) (by first | assumption | omega | decide) (own_ne (by omega)) (own_ne (by omega)) r282_0 r282_1 r282_2 r282_3 r282_4 r282_5 r282_6 (own_ne (by omega))) hZ (own_w hw 102 rfl) (own_w hw 2 rfl) (by decide) (by decide)) q322a q322c (g := (mkF m 233 #[.val (.long q1), .second, .val (.int f1), .val (.int (1 : Int32)), .val (.int (1 : Int32)), .val (.int tw), .val (.int sf), .val (.int ag), .val (.ref ob267), .val (.ref ob270), .val (.ref ob273), .val (.int (1 : Int32))] [(.ref ob270), (.ref ob267)])) rfl (by rw [hml]; rfl) (Steps.refl _) (argsL := [(.ref ob270)]) (rest := []) (lenOf own_pd__28Lcom_2fexample_2fadmit1_2fadmit1_2flock_2fWait_3b_29V rfl) rfl (by show 2 * 0 + _ ≤ _; exact Nat.le_of_eq rfl) (hb hby at_233) (fun _ _ => ⟨rfl, K317, (by decide : 9 + 0 ≤ _), (by decide : 70 + 0 ≤ _)⟩)
                    dsimp only [Pt.U, Pt.locs, Pt.cells, Pt.slots] at X322 l322 y322 z322 st322 hQ322
                    subst l322 y322 z322
                    obtain ⟨rfl, M322, K322, g322_0, g322_1, g322_2, g322_3, g322_4, g322_5, g322_6, g322_7, g322_8, g322_9, g322_10, g322_11, g322_12, g322_13⟩ := hQ322
                    have N322 := Fr.app N317 M322
                    refine own_by (fun _ k => st322.trans k) ?_
                    have z322 := K322.1
                    have lt_g322_0 : T322.heap.size > ob267 := g322_0.lt
                    have lt_g322_1 : T322.heap.size > q_282 := g322_1.lt
                    have lt_g322_2 : T322.heap.size > q_282 := g322_2.lt
                    have lt_g322_3 : T322.heap.size > q_282 := g322_3.lt
                    have lt_g322_4 : T322.heap.size > d1_282 := g322_4.lt
                    have lt_g322_5 : T322.heap.size > d1_282 := g322_5.lt
                    have lt_g322_6 : T322.heap.size > d1_282 := g322_6.lt
                    have lt_g322_7 : T322.heap.size > d1_282 := g322_7.lt
                    have lt_g322_8 : T322.heap.size > a1_282 := g322_8.lt
                    have lt_g322_9 : T322.heap.size > d2_282 := g322_9.lt
                    have lt_g322_10 : T322.heap.size > d2_282 := g322_10.lt
                    have lt_g322_11 : T322.heap.size > d2_282 := g322_11.lt
                    have lt_g322_12 : T322.heap.size > d2_282 := g322_12.lt
                    have lt_g322_13 : T322.heap.size > a2_282 := g322_13.lt
                    refine own_by (fun _ k => XS.iload X322.here hx rfl (hb hby at_236) rfl k) ?_
                    refine own_by (fun _ k => XS.ifNo X322.here hx rfl (hb hby at_238) rfl ((if0 _ _).trans (feq (by decide : ¬ ((1 : Int32) = (0 : Int32)))).1) k) ?_
                    show own_Go p e below (T322.setTop (mkF m 241 #[.val (.long q1), .second, .val (.int f1), .val (.int (1 : Int32)), .val (.int (1 : Int32)), .val (.int tw), .val (.int sf), .val (.int ag), .val (.ref ob267), .val (.ref ob270), .val (.ref ob273), .val (.int (1 : Int32))] [])) _
                    refine own_by (fun _ k => XS.aload X322.here hx rfl (hb hby at_241) rfl rfl k) ?_
                    have O323 : Old Z n0 T322.heap := (O316.keep K322 (allS (by omega) (allS (by omega) (allS (by omega) all0))))
                    have fc325 : Exa Z T322.heap ob267 s2_ := (fc318.keep K322)
                    obtain ⟨cq324, kq324, q324a, q324b, q324c⟩ := isOf hZ rfl fc325
                    obtain ⟨_, _, ⟨T324, L324, k324, n324⟩, -, X324, ⟨Lc324, hQ324, l324, y324, z324⟩, st324⟩ := X322.virtualBack hx (y := (⟨s2_, "hasWaiting", "()Z"⟩ : MethodName)) (z := (⟨s2_, "hasWaiting", "()Z"⟩ : MethodName)) hown (mvT hZ (own_w hw 39 rfl)) (mvT hZ (own_w hw 40 rfl)) (notFace_of_selects (args := #[]) (mvT hZ (own_w hw 42 rfl))) (mvT hZ (own_w hw 42 rfl)) (mvT hZ (own_w hw 41 rfl)) (by decide) (backOf (W := 0) (rm_hw1 l Z a0 hw [] ob267 q_282 T322.heap n0 O323 g322_0) hZ (own_w hw 43 rfl) (own_w hw 2 rfl) (by decide) (by decide)) q324a q324c (g := (mkF m 243 #[.val (.long q1), .second, .val (.int f1), .val (.int (1 : Int32)), .val (.int (1 : Int32)), .val (.int tw), .val (.int sf), .val (.int ag), .val (.ref ob267), .val (.ref ob270), .val (.ref ob273), .val (.int (1 : Int32))] [(.ref ob267)])) rfl (by rw [hml]; rfl) (Steps.refl _) (argsL := []) (rest := []) (lenOf own_pd__28_29Z rfl) rfl (by show 2 * 0 + _ ≤ _; exact Nat.le_of_eq rfl) (hb hby at_243) (fun _ _ => ⟨rfl, rfl, (by decide : 9 + 0 ≤ _), (by decide : 70 + 0 ≤ _)⟩)
                    dsimp only [Pt.U, Pt.locs, Pt.cells, Pt.slots] at X324 l324 y324 z324 st324 hQ324
                    subst l324 y324 z324
                    obtain ⟨rfl, M324, K324⟩ := hQ324
                    have N324 := Fr.app N322 M324
                    refine own_by (fun _ k => st324.trans k) ?_
                    refine own_by (fun _ k => XS.ifNo X324.here hx rfl (hb hby at_246) rfl ((if0 _ _).trans (feq (by decide : ¬ ((1 : Int32) = (0 : Int32)))).1) k) ?_
                    show own_Go p e below (T324.setTop (mkF m 249 #[.val (.long q1), .second, .val (.int f1), .val (.int (1 : Int32)), .val (.int (1 : Int32)), .val (.int tw), .val (.int sf), .val (.int ag), .val (.ref ob267), .val (.ref ob270), .val (.ref ob273), .val (.int (1 : Int32))] [])) _
                    refine own_by (fun _ k => XS.iconst X324.here hx rfl (hb hby at_249) k) ?_
                    refine own_by (fun _ k => XS.goto X324.here hx rfl (pc0 := 250) (pc' := 254) rfl (hb hby at_250) (by decide) (by decide) k) ?_
                    refine own_by (fun _ k => XS.istore X324.here hx rfl (hb hby at_254) rfl (l' := #[.val (.long q1), .second, .val (.int f1), .val (.int (1 : Int32)), .val (.int (1 : Int32)), .val (.int tw), .val (.int sf), .val (.int ag), .val (.ref ob267), .val (.ref ob270), .val (.ref ob273), .val (.int (1 : Int32))]) rfl k) ?_
                    refine own_by (fun _ k => XS.aload X324.here hx rfl (hb hby at_256) rfl rfl k) ?_
                    refine own_by (fun _ k => XS.aload X324.here hx rfl (hb hby at_258) rfl rfl k) ?_
                    have fc326 : Exa Z T322.heap ob273 s5_ := ((fc313.keep K315).keep K322)
                    have fc327 : Fld Z T322.heap ob273 s5_ "conversion" "Z" (.int (1 : Int32)) := ((fc314.keep K315 (ninS (own_ne (by omega)) (ninS (own_ne (by omega)) nin0))).keep K322 (ninS (own_ne (by omega)) (ninS (own_ne (by omega)) (ninS (own_ne (by omega)) nin0))))
                    obtain ⟨cq328, kq328, q328a, q328b, q328c⟩ := isOf hZ K324 fc325
                    obtain ⟨_, _, ⟨T328, L328, k328, n328⟩, -, X328, ⟨Lc328, hQ328, l328, y328, z328⟩, st328⟩ := X324.virtualBack hx (y := (⟨s2_, "dequeue", s12_⟩ : MethodName)) (z := (⟨s2_, "dequeue", s12_⟩ : MethodName)) hown (mvT hZ (own_w hw 98 rfl)) (mvT hZ (own_w hw 99 rfl)) (notFace_of_selects (args := #[]) (mvT hZ (own_w hw 101 rfl))) (mvT hZ (own_w hw 101 rfl)) (mvT hZ (own_w hw 100 rfl)) (by decide) (backOf (W := 0) (rm_deq_1_2_None_w1_0_0_w11 l Z a0 hw [] ob267 q_282 d1_282 a1_282 kk1_282 d2_282 a2_282 kk2_282 ob273 T322.heap n0 O323 g322_0 fc325 fc326 fc327 g322_1 g322_2 g322_3 g322_4 g322_5 g322_6 g322_7 g322_8 g322_9 g322_10 g322_11 g322_12 g322_13 (by first | assumption | omega | decide) (by first | assumption | omega | decide) (own_ne (by omega)) (own_ne (by omega)) r282_0 r282_1 r282_2 r282_3 r282_4 r282_5 r282_6) hZ (own_w hw 102 rfl) (own_w hw 2 rfl) (by decide) (by decide)) q328a q328c (g := (mkF m 260 #[.val (.long q1), .second, .val (.int f1), .val (.int (1 : Int32)), .val (.int (1 : Int32)), .val (.int tw), .val (.int sf), .val (.int ag), .val (.ref ob267), .val (.ref ob270), .val (.ref ob273), .val (.int (1 : Int32))] [(.ref ob273), (.ref ob267)])) rfl (by rw [hml]; rfl) (Steps.refl _) (argsL := [(.ref ob273)]) (rest := []) (lenOf own_pd__28Lcom_2fexample_2fadmit1_2fadmit1_2flock_2fWait_3b_29V rfl) rfl (by show 2 * 0 + _ ≤ _; exact Nat.le_of_eq rfl) (hb hby at_260) (fun _ _ => ⟨rfl, K324, (by decide : 9 + 0 ≤ _), (by decide : 70 + 0 ≤ _)⟩)
                    dsimp only [Pt.U, Pt.locs, Pt.cells, Pt.slots] at X328 l328 y328 z328 st328 hQ328
                    subst l328 y328 z328
                    obtain ⟨rfl, M328, K328, g328_0⟩ := hQ328
                    have N328 := Fr.app N324 M328
                    refine own_by (fun _ k => st328.trans k) ?_
                    have z328 := K328.1
                    have lt_g328_0 : T328.heap.size > ob267 := g328_0.lt
                    show own_Go p e below (T328.setTop (mkF m 263 #[.val (.long q1), .second, .val (.int f1), .val (.int (1 : Int32)), .val (.int (1 : Int32)), .val (.int tw), .val (.int sf), .val (.int ag), .val (.ref ob267), .val (.ref ob270), .val (.ref ob273), .val (.int (1 : Int32))] [])) _
                    refine own_by (fun _ k => XS.iload X328.here hx rfl (hb hby at_263) rfl k) ?_
                    refine own_by (fun _ k => XS.ifNo X328.here hx rfl (hb hby at_265) rfl ((if0 _ _).trans (feq (by decide : ¬ ((1 : Int32) = (0 : Int32)))).1) k) ?_
                    show own_Go p e below (T328.setTop (mkF m 268 #[.val (.long q1), .second, .val (.int f1), .val (.int (1 : Int32)), .val (.int (1 : Int32)), .val (.int tw), .val (.int sf), .val (.int ag), .val (.ref ob267), .val (.ref ob270), .val (.ref ob273), .val (.int (1 : Int32))] [])) _
                    refine own_by (fun _ k => XS.aload X328.here hx rfl (hb hby at_268) rfl rfl k) ?_
                    have O329 : Old Z n0 T328.heap := (O323.keep K328 (allS (by omega) (allS (by omega) (allS (by omega) all0))))
                    have fc331 : Exa Z T328.heap ob267 s2_ := (fc325.keep K328)
                    obtain ⟨cq330, kq330, q330a, q330b, q330c⟩ := isOf hZ rfl fc331
                    obtain ⟨_, _, ⟨T330, L330, k330, n330⟩, -, X330, ⟨Lc330, hQ330, l330, y330, z330⟩, st330⟩ := X328.virtualBack hx (y := (⟨s2_, "hasWaiting", "()Z"⟩ : MethodName)) (z := (⟨s2_, "hasWaiting", "()Z"⟩ : MethodName)) hown (mvT hZ (own_w hw 39 rfl)) (mvT hZ (own_w hw 40 rfl)) (notFace_of_selects (args := #[]) (mvT hZ (own_w hw 42 rfl))) (mvT hZ (own_w hw 42 rfl)) (mvT hZ (own_w hw 41 rfl)) (by decide) (backOf (W := 0) (rm_hw0 l Z a0 hw [] ob267 T328.heap n0 O329 g328_0) hZ (own_w hw 43 rfl) (own_w hw 2 rfl) (by decide) (by decide)) q330a q330c (g := (mkF m 270 #[.val (.long q1), .second, .val (.int f1), .val (.int (1 : Int32)), .val (.int (1 : Int32)), .val (.int tw), .val (.int sf), .val (.int ag), .val (.ref ob267), .val (.ref ob270), .val (.ref ob273), .val (.int (1 : Int32))] [(.ref ob267)])) rfl (by rw [hml]; rfl) (Steps.refl _) (argsL := []) (rest := []) (lenOf own_pd__28_29Z rfl) rfl (by show 2 * 0 + _ ≤ _; exact Nat.le_of_eq rfl) (hb hby at_270) (fun _ _ => ⟨rfl, rfl, (by decide : 9 + 0 ≤ _), (by decide : 70 + 0 ≤ _)⟩)
                    dsimp only [Pt.U, Pt.locs, Pt.cells, Pt.slots] at X330 l330 y330 z330 st330 hQ330
                    subst l330 y330 z330
                    obtain ⟨rfl, M330, K330⟩ := hQ330
                    have N330 := Fr.app N328 M330
                    refine own_by (fun _ k => st330.trans k) ?_
                    refine own_by (fun _ k => XS.ifNo X330.here hx rfl (hb hby at_273) rfl ((if0 _ _).trans (teq (by decide : (0 : Int32) = (0 : Int32))).2) k) ?_
                    show own_Go p e below (T330.setTop (mkF m 276 #[.val (.long q1), .second, .val (.int f1), .val (.int (1 : Int32)), .val (.int (1 : Int32)), .val (.int tw), .val (.int sf), .val (.int ag), .val (.ref ob267), .val (.ref ob270), .val (.ref ob273), .val (.int (1 : Int32))] [])) _
                    refine own_by (fun _ k => XS.iconst X330.here hx rfl (hb hby at_276) k) ?_
                    refine own_by (fun _ k => XS.goto X330.here hx rfl (pc0 := 277) (pc' := 281) rfl (hb hby at_277) (by decide) (by decide) k) ?_
                    refine own_by (fun _ k => XS.istore X330.here hx rfl (hb hby at_281) rfl (l' := #[.val (.long q1), .second, .val (.int f1), .val (.int (1 : Int32)), .val (.int (1 : Int32)), .val (.int tw), .val (.int sf), .val (.int ag), .val (.ref ob267), .val (.ref ob270), .val (.ref ob273), .val (.int (1 : Int32))]) rfl k) ?_
                    refine own_by (fun _ k => XS.goto X330.here hx rfl (pc0 := 283) (pc' := 313) rfl (hb hby at_283) (by decide) (by decide) k) ?_
                    show own_Go p e below (T330.setTop (mkF m 313 #[.val (.long q1), .second, .val (.int f1), .val (.int (1 : Int32)), .val (.int (1 : Int32)), .val (.int tw), .val (.int sf), .val (.int ag), .val (.ref ob267), .val (.ref ob270), .val (.ref ob273), .val (.int (1 : Int32))] [])) _
                    have fc332 : Exa Z T328.heap ob270 s5_ := ((fc320.keep K322).keep K328)
                    have fc333 : Fld Z T328.heap ob270 s5_ "conversion" "Z" (.int (1 : Int32)) := ((fc321.keep K322 (ninS (own_ne (by omega)) (ninS (own_ne (by omega)) (ninS (own_ne (by omega)) nin0)))).keep K328 (ninS (own_ne (by omega)) (ninS (own_ne (by omega)) (ninS (own_ne (by omega)) nin0))))
                    have fc334 : Exa Z T328.heap ob273 s5_ := (fc326.keep K328)
                    have fc335 : Fld Z T328.heap ob273 s5_ "conversion" "Z" (.int (1 : Int32)) := (fc327.keep K328 (ninS (own_ne (by omega)) (ninS (own_ne (by omega)) (ninS (own_ne (by omega)) nin0))))
                    have K336 : Keep h0 T328.heap [] := (((((((((((Keep.refl h0 []).ext E267).trans K269 (allS (P := fun x => x ∈ [] ∨ h0.size ≤ x) (Or.inr (by omega)) all0)).ext E270).trans K272 (allS (P := fun x => x ∈ [] ∨ h0.size ≤ x) (Or.inr (by omega)) all0)).ext E273).trans K275 (allS (P := fun x => x ∈ [] ∨ h0.size ≤ x) (Or.inr (by omega)) all0)).trans K282 (allS (P := fun x => x ∈ [] ∨ h0.size ≤ x) (Or.inr (by omega)) all0)).trans K315 (allS (P := fun x => x ∈ [] ∨ h0.size ≤ x) (Or.inr (by omega)) (allS (P := fun x => x ∈ [] ∨ h0.size ≤ x) (Or.inr (by omega)) all0))).trans K322 (allS (P := fun x => x ∈ [] ∨ h0.size ≤ x) (Or.inr (by omega)) (allS (P := fun x => x ∈ [] ∨ h0.size ≤ x) (Or.inr (by omega)) (allS (P := fun x => x ∈ [] ∨ h0.size ≤ x) (Or.inr (by omega)) all0)))).trans K328 (allS (P := fun x => x ∈ [] ∨ h0.size ≤ x) (Or.inr (by omega)) (allS (P := fun x => x ∈ [] ∨ h0.size ≤ x) (Or.inr (by omega)) (allS (P := fun x => x ∈ [] ∨ h0.size ≤ x) (Or.inr (by omega)) all0))))
                    exact jn286 _ _ ⟨_, X330, N330⟩ K330 K336 fc331 g328_0 fc332 fc333 fc334 fc335
                  · skip
                    refine own_by (fun _ k => XS.ifNo X317.here hx rfl (hb hby at_189) rfl ((if0 _ _).trans (feq hc319).1) k) ?_
                    show own_Go p e below (T317.setTop (mkF m 192 #[.val (.long q1), .second, .val (.int f1), .val (.int (1 : Int32)), .val (.int (1 : Int32)), .val (.int tw), .val (.int sf), .val (.int ag), .val (.ref ob267), .val (.ref ob270), .val (.ref ob273), .val (.int (1 : Int32))] [])) _
                    refine own_by (fun _ k => XS.aload X317.here hx rfl (hb hby at_192) rfl rfl k) ?_
                    refine own_by (fun _ k => XS.aload X317.here hx rfl (hb hby at_194) rfl rfl k) ?_
                    have fc337 : Exa Z T315.heap ob273 s5_ := (fc313.keep K315)
                    have fc338 : Fld Z T315.heap ob273 s5_ "conversion" "Z" (.int (1 : Int32)) := (fc314.keep K315 (ninS (own_ne (by omega)) (ninS (own_ne (by omega)) nin0)))
                    obtain ⟨cq339, kq339, q339a, q339b, q339c⟩ := isOf hZ K317 fc318
                    obtain ⟨_, _, ⟨T339, L339, k339, n339⟩, -, X339, ⟨Lc339, hQ339, l339, y339, z339⟩, st339⟩ := X317.virtualBack hx (y := (⟨s2_, "dequeue", s12_⟩ : MethodName)) (z := (⟨s2_, "dequeue", s12_⟩ : MethodName)) hown (mvT hZ (own_w hw 98 rfl)) (mvT hZ (own_w hw 99 rfl)) (notFace_of_selects (args := #[]) (mvT hZ (own_w hw 101 rfl))) (mvT hZ (own_w hw 101 rfl)) (mvT hZ (own_w hw 100 rfl)) (by decide) (backOf (W := 0) (rm_deq_0_2_w1_w2_0_0_w21 l Z a0 hw [] ob267 q_282 d1_282 a1_282 kk1_282 d2_282 a2_282 kk2_282 ob270 ob273 T315.heap n0 O316 g315_0 fc318 fc337 fc338 g315_1 g315_2 g315_3 g315_4 g315_5 g315_6 g315_7 g315_8 g315_9 g315_10 g315_11 g315_12 g315_13 (by first | assumption | omega | decide) (by first | assumption | omega | decide) (own_ne (by omega)) (own_ne (by omega)) r282_0 r282_1 r282_2 r282_3 r282_4 r282_5 r282_6 (own_ne (by omega))) hZ (own_w hw 102 rfl) (own_w hw 2 rfl) (by decide) (by decide)) q339a q339c (g := (mkF m 196 #[.val (.long q1), .second, .val (.int f1), .val (.int (1 : Int32)), .val (.int (1 : Int32)), .val (.int tw), .val (.int sf), .val (.int ag), .val (.ref ob267), .val (.ref ob270), .val (.ref ob273), .val (.int (1 : Int32))] [(.ref ob273), (.ref ob267)])) rfl (by rw [hml]; rfl) (Steps.refl _) (argsL := [(.ref ob273)]) (rest := []) (lenOf own_pd__28Lcom_2fexample_2fadmit1_2fadmit1_2flock_2fWait_3b_29V rfl) rfl (by show 2 * 0 + _ ≤ _; exact Nat.le_of_eq rfl) (hb hby at_196) (fun _ _ => ⟨rfl, K317, (by decide : 9 + 0 ≤ _), (by decide : 70 + 0 ≤ _)⟩)
                    dsimp only [Pt.U, Pt.locs, Pt.cells, Pt.slots] at X339 l339 y339 z339 st339 hQ339
                    subst l339 y339 z339
                    obtain ⟨rfl, M339, K339, g339_0, g339_1, g339_2, g339_3, g339_4, g339_5, g339_6, g339_7, g339_8, g339_9, g339_10, g339_11, g339_12, g339_13⟩ := hQ339
                    have N339 := Fr.app N317 M339
                    refine own_by (fun _ k => st339.trans k) ?_
                    have z339 := K339.1
                    have lt_g339_0 : T339.heap.size > ob267 := g339_0.lt
                    have lt_g339_1 : T339.heap.size > q_282 := g339_1.lt
                    have lt_g339_2 : T339.heap.size > q_282 := g339_2.lt
                    have lt_g339_3 : T339.heap.size > q_282 := g339_3.lt
                    have lt_g339_4 : T339.heap.size > d1_282 := g339_4.lt
                    have lt_g339_5 : T339.heap.size > d1_282 := g339_5.lt
                    have lt_g339_6 : T339.heap.size > d1_282 := g339_6.lt
                    have lt_g339_7 : T339.heap.size > d1_282 := g339_7.lt
                    have lt_g339_8 : T339.heap.size > a1_282 := g339_8.lt
                    have lt_g339_9 : T339.heap.size > d2_282 := g339_9.lt
                    have lt_g339_10 : T339.heap.size > d2_282 := g339_10.lt
                    have lt_g339_11 : T339.heap.size > d2_282 := g339_11.lt
                    have lt_g339_12 : T339.heap.size > d2_282 := g339_12.lt
                    have lt_g339_13 : T339.heap.size > a2_282 := g339_13.lt
                    refine own_by (fun _ k => XS.iload X339.here hx rfl (hb hby at_199) rfl k) ?_
                    refine own_by (fun _ k => XS.ifNo X339.here hx rfl (hb hby at_201) rfl ((if0 _ _).trans (feq (by decide : ¬ ((1 : Int32) = (0 : Int32)))).1) k) ?_
                    show own_Go p e below (T339.setTop (mkF m 204 #[.val (.long q1), .second, .val (.int f1), .val (.int (1 : Int32)), .val (.int (1 : Int32)), .val (.int tw), .val (.int sf), .val (.int ag), .val (.ref ob267), .val (.ref ob270), .val (.ref ob273), .val (.int (1 : Int32))] [])) _
                    refine own_by (fun _ k => XS.aload X339.here hx rfl (hb hby at_204) rfl rfl k) ?_
                    have O340 : Old Z n0 T339.heap := (O316.keep K339 (allS (by omega) (allS (by omega) (allS (by omega) all0))))
                    have fc342 : Exa Z T339.heap ob267 s2_ := (fc318.keep K339)
                    obtain ⟨cq341, kq341, q341a, q341b, q341c⟩ := isOf hZ rfl fc342
                    obtain ⟨_, _, ⟨T341, L341, k341, n341⟩, -, X341, ⟨Lc341, hQ341, l341, y341, z341⟩, st341⟩ := X339.virtualBack hx (y := (⟨s2_, "hasWaiting", "()Z"⟩ : MethodName)) (z := (⟨s2_, "hasWaiting", "()Z"⟩ : MethodName)) hown (mvT hZ (own_w hw 39 rfl)) (mvT hZ (own_w hw 40 rfl)) (notFace_of_selects (args := #[]) (mvT hZ (own_w hw 42 rfl))) (mvT hZ (own_w hw 42 rfl)) (mvT hZ (own_w hw 41 rfl)) (by decide) (backOf (W := 0) (rm_hw1 l Z a0 hw [] ob267 q_282 T339.heap n0 O340 g339_0) hZ (own_w hw 43 rfl) (own_w hw 2 rfl) (by decide) (by decide)) q341a q341c (g := (mkF m 206 #[.val (.long q1), .second, .val (.int f1), .val (.int (1 : Int32)), .val (.int (1 : Int32)), .val (.int tw), .val (.int sf), .val (.int ag), .val (.ref ob267), .val (.ref ob270), .val (.ref ob273), .val (.int (1 : Int32))] [(.ref ob267)])) rfl (by rw [hml]; rfl) (Steps.refl _) (argsL := []) (rest := []) (lenOf own_pd__28_29Z rfl) rfl (by show 2 * 0 + _ ≤ _; exact Nat.le_of_eq rfl) (hb hby at_206) (fun _ _ => ⟨rfl, rfl, (by decide : 9 + 0 ≤ _), (by decide : 70 + 0 ≤ _)⟩)
                    dsimp only [Pt.U, Pt.locs, Pt.cells, Pt.slots] at X341 l341 y341 z341 st341 hQ341
                    subst l341 y341 z341
                    obtain ⟨rfl, M341, K341⟩ := hQ341
                    have N341 := Fr.app N339 M341
                    refine own_by (fun _ k => st341.trans k) ?_
                    refine own_by (fun _ k => XS.ifNo X341.here hx rfl (hb hby at_209) rfl ((if0 _ _).trans (feq (by decide : ¬ ((1 : Int32) = (0 : Int32)))).1) k) ?_
                    show own_Go p e below (T341.setTop (mkF m 212 #[.val (.long q1), .second, .val (.int f1), .val (.int (1 : Int32)), .val (.int (1 : Int32)), .val (.int tw), .val (.int sf), .val (.int ag), .val (.ref ob267), .val (.ref ob270), .val (.ref ob273), .val (.int (1 : Int32))] [])) _
                    refine own_by (fun _ k => XS.iconst X341.here hx rfl (hb hby at_212) k) ?_
                    refine own_by (fun _ k => XS.goto X341.here hx rfl (pc0 := 213) (pc' := 217) rfl (hb hby at_213) (by decide) (by decide) k) ?_
                    refine own_by (fun _ k => XS.istore X341.here hx rfl (hb hby at_217) rfl (l' := #[.val (.long q1), .second, .val (.int f1), .val (.int (1 : Int32)), .val (.int (1 : Int32)), .val (.int tw), .val (.int sf), .val (.int ag), .val (.ref ob267), .val (.ref ob270), .val (.ref ob273), .val (.int (1 : Int32))]) rfl k) ?_
                    refine own_by (fun _ k => XS.aload X341.here hx rfl (hb hby at_219) rfl rfl k) ?_
                    refine own_by (fun _ k => XS.aload X341.here hx rfl (hb hby at_221) rfl rfl k) ?_
                    have fc343 : Exa Z T339.heap ob270 s5_ := (((fc280.keep K282).keep K315).keep K339)
                    have fc344 : Fld Z T339.heap ob270 s5_ "conversion" "Z" (.int (1 : Int32)) := (((fc281.keep K282 (ninS (own_ne (by omega)) nin0)).keep K315 (ninS (own_ne (by omega)) (ninS (own_ne (by omega)) nin0))).keep K339 (ninS (own_ne (by omega)) (ninS (own_ne (by omega)) (ninS (own_ne (by omega)) nin0))))
                    obtain ⟨cq345, kq345, q345a, q345b, q345c⟩ := isOf hZ K341 fc342
                    obtain ⟨_, _, ⟨T345, L345, k345, n345⟩, -, X345, ⟨Lc345, hQ345, l345, y345, z345⟩, st345⟩ := X341.virtualBack hx (y := (⟨s2_, "dequeue", s12_⟩ : MethodName)) (z := (⟨s2_, "dequeue", s12_⟩ : MethodName)) hown (mvT hZ (own_w hw 98 rfl)) (mvT hZ (own_w hw 99 rfl)) (notFace_of_selects (args := #[]) (mvT hZ (own_w hw 101 rfl))) (mvT hZ (own_w hw 101 rfl)) (mvT hZ (own_w hw 100 rfl)) (by decide) (backOf (W := 0) (rm_deq_0_1_w1_0_0_w11 l Z a0 hw [] ob267 q_282 d1_282 a1_282 kk1_282 d2_282 a2_282 kk2_282 ob270 T339.heap n0 O340 g339_0 fc342 fc343 fc344 g339_1 g339_2 g339_3 g339_4 g339_5 g339_6 g339_7 g339_8 g339_9 g339_10 g339_11 g339_12 g339_13 (by first | assumption | omega | decide) (by first | assumption | omega | decide) (own_ne (by omega)) (own_ne (by omega)) r282_0 r282_1 r282_2 r282_3 r282_4 r282_5 r282_6) hZ (own_w hw 102 rfl) (own_w hw 2 rfl) (by decide) (by decide)) q345a q345c (g := (mkF m 223 #[.val (.long q1), .second, .val (.int f1), .val (.int (1 : Int32)), .val (.int (1 : Int32)), .val (.int tw), .val (.int sf), .val (.int ag), .val (.ref ob267), .val (.ref ob270), .val (.ref ob273), .val (.int (1 : Int32))] [(.ref ob270), (.ref ob267)])) rfl (by rw [hml]; rfl) (Steps.refl _) (argsL := [(.ref ob270)]) (rest := []) (lenOf own_pd__28Lcom_2fexample_2fadmit1_2fadmit1_2flock_2fWait_3b_29V rfl) rfl (by show 2 * 0 + _ ≤ _; exact Nat.le_of_eq rfl) (hb hby at_223) (fun _ _ => ⟨rfl, K341, (by decide : 9 + 0 ≤ _), (by decide : 70 + 0 ≤ _)⟩)
                    dsimp only [Pt.U, Pt.locs, Pt.cells, Pt.slots] at X345 l345 y345 z345 st345 hQ345
                    subst l345 y345 z345
                    obtain ⟨rfl, M345, K345, g345_0⟩ := hQ345
                    have N345 := Fr.app N341 M345
                    refine own_by (fun _ k => st345.trans k) ?_
                    have z345 := K345.1
                    have lt_g345_0 : T345.heap.size > ob267 := g345_0.lt
                    show own_Go p e below (T345.setTop (mkF m 226 #[.val (.long q1), .second, .val (.int f1), .val (.int (1 : Int32)), .val (.int (1 : Int32)), .val (.int tw), .val (.int sf), .val (.int ag), .val (.ref ob267), .val (.ref ob270), .val (.ref ob273), .val (.int (1 : Int32))] [])) _
                    refine own_by (fun _ k => XS.goto X345.here hx rfl (pc0 := 226) (pc' := 263) rfl (hb hby at_226) (by decide) (by decide) k) ?_
                    refine own_by (fun _ k => XS.iload X345.here hx rfl (hb hby at_263) rfl k) ?_
                    refine own_by (fun _ k => XS.ifNo X345.here hx rfl (hb hby at_265) rfl ((if0 _ _).trans (feq (by decide : ¬ ((1 : Int32) = (0 : Int32)))).1) k) ?_
                    show own_Go p e below (T345.setTop (mkF m 268 #[.val (.long q1), .second, .val (.int f1), .val (.int (1 : Int32)), .val (.int (1 : Int32)), .val (.int tw), .val (.int sf), .val (.int ag), .val (.ref ob267), .val (.ref ob270), .val (.ref ob273), .val (.int (1 : Int32))] [])) _
                    refine own_by (fun _ k => XS.aload X345.here hx rfl (hb hby at_268) rfl rfl k) ?_
                    have O346 : Old Z n0 T345.heap := (O340.keep K345 (allS (by omega) (allS (by omega) (allS (by omega) all0))))
                    have fc348 : Exa Z T345.heap ob267 s2_ := (fc342.keep K345)
                    obtain ⟨cq347, kq347, q347a, q347b, q347c⟩ := isOf hZ rfl fc348
                    obtain ⟨_, _, ⟨T347, L347, k347, n347⟩, -, X347, ⟨Lc347, hQ347, l347, y347, z347⟩, st347⟩ := X345.virtualBack hx (y := (⟨s2_, "hasWaiting", "()Z"⟩ : MethodName)) (z := (⟨s2_, "hasWaiting", "()Z"⟩ : MethodName)) hown (mvT hZ (own_w hw 39 rfl)) (mvT hZ (own_w hw 40 rfl)) (notFace_of_selects (args := #[]) (mvT hZ (own_w hw 42 rfl))) (mvT hZ (own_w hw 42 rfl)) (mvT hZ (own_w hw 41 rfl)) (by decide) (backOf (W := 0) (rm_hw0 l Z a0 hw [] ob267 T345.heap n0 O346 g345_0) hZ (own_w hw 43 rfl) (own_w hw 2 rfl) (by decide) (by decide)) q347a q347c (g := (mkF m 270 #[.val (.long q1), .second, .val (.int f1), .val (.int (1 : Int32)), .val (.int (1 : Int32)), .val (.int tw), .val (.int sf), .val (.int ag), .val (.ref ob267), .val (.ref ob270), .val (.ref ob273), .val (.int (1 : Int32))] [(.ref ob267)])) rfl (by rw [hml]; rfl) (Steps.refl _) (argsL := []) (rest := []) (lenOf own_pd__28_29Z rfl) rfl (by show 2 * 0 + _ ≤ _; exact Nat.le_of_eq rfl) (hb hby at_270) (fun _ _ => ⟨rfl, rfl, (by decide : 9 + 0 ≤ _), (by decide : 70 + 0 ≤ _)⟩)
                    dsimp only [Pt.U, Pt.locs, Pt.cells, Pt.slots] at X347 l347 y347 z347 st347 hQ347
                    subst l347 y347 z347
                    obtain ⟨rfl, M347, K347⟩ := hQ347
                    have N347 := Fr.app N345 M347
                    refine own_by (fun _ k => st347.trans k) ?_
                    refine own_by (fun _ k => XS.ifNo X347.here hx rfl (hb hby at_273) rfl ((if0 _ _).trans (teq (by decide : (0 : Int32) = (0 : Int32))).2) k) ?_
                    show own_Go p e below (T347.setTop (mkF m 276 #[.val (.long q1), .second, .val (.int f1), .val (.int (1 : Int32)), .val (.int (1 : Int32)), .val (.int tw), .val (.int sf), .val (.int ag), .val (.ref ob267), .val (.ref ob270), .val (.ref ob273), .val (.int (1 : Int32))] [])) _
                    refine own_by (fun _ k => XS.iconst X347.here hx rfl (hb hby at_276) k) ?_
                    refine own_by (fun _ k => XS.goto X347.here hx rfl (pc0 := 277) (pc' := 281) rfl (hb hby at_277) (by decide) (by decide) k) ?_
                    refine own_by (fun _ k => XS.istore X347.here hx rfl (hb hby at_281) rfl (l' := #[.val (.long q1), .second, .val (.int f1), .val (.int (1 : Int32)), .val (.int (1 : Int32)), .val (.int tw), .val (.int sf), .val (.int ag), .val (.ref ob267), .val (.ref ob270), .val (.ref ob273), .val (.int (1 : Int32))]) rfl k) ?_
                    refine own_by (fun _ k => XS.goto X347.here hx rfl (pc0 := 283) (pc' := 313) rfl (hb hby at_283) (by decide) (by decide) k) ?_
                    show own_Go p e below (T347.setTop (mkF m 313 #[.val (.long q1), .second, .val (.int f1), .val (.int (1 : Int32)), .val (.int (1 : Int32)), .val (.int tw), .val (.int sf), .val (.int ag), .val (.ref ob267), .val (.ref ob270), .val (.ref ob273), .val (.int (1 : Int32))] [])) _
                    have fc349 : Exa Z T345.heap ob270 s5_ := (fc343.keep K345)
                    have fc350 : Fld Z T345.heap ob270 s5_ "conversion" "Z" (.int (1 : Int32)) := (fc344.keep K345 (ninS (own_ne (by omega)) (ninS (own_ne (by omega)) (ninS (own_ne (by omega)) nin0))))
                    have fc351 : Exa Z T345.heap ob273 s5_ := ((fc337.keep K339).keep K345)
                    have fc352 : Fld Z T345.heap ob273 s5_ "conversion" "Z" (.int (1 : Int32)) := ((fc338.keep K339 (ninS (own_ne (by omega)) (ninS (own_ne (by omega)) (ninS (own_ne (by omega)) nin0)))).keep K345 (ninS (own_ne (by omega)) (ninS (own_ne (by omega)) (ninS (own_ne (by omega)) nin0))))
                    have K353 : Keep h0 T345.heap [] := (((((((((((Keep.refl h0 []).ext E267).trans K269 (allS (P := fun x => x ∈ [] ∨ h0.size ≤ x) (Or.inr (by omega)) all0)).ext E270).trans K272 (allS (P := fun x => x ∈ [] ∨ h0.size ≤ x) (Or.inr (by omega)) all0)).ext E273).trans K275 (allS (P := fun x => x ∈ [] ∨ h0.size ≤ x) (Or.inr (by omega)) all0)).trans K282 (allS (P := fun x => x ∈ [] ∨ h0.size ≤ x) (Or.inr (by omega)) all0)).trans K315 (allS (P := fun x => x ∈ [] ∨ h0.size ≤ x) (Or.inr (by omega)) (allS (P := fun x => x ∈ [] ∨ h0.size ≤ x) (Or.inr (by omega)) all0))).trans K339 (allS (P := fun x => x ∈ [] ∨ h0.size ≤ x) (Or.inr (by omega)) (allS (P := fun x => x ∈ [] ∨ h0.size ≤ x) (Or.inr (by omega)) (allS (P := fun x => x ∈ [] ∨ h0.size ≤ x) (Or.inr (by omega)) all0)))).trans K345 (allS (P := fun x => x ∈ [] ∨ h0.size ≤ x) (Or.inr (by omega)) (allS (P := fun x => x ∈ [] ∨ h0.size ≤ x) (Or.inr (by omega)) (allS (P := fun x => x ∈ [] ∨ h0.size ≤ x) (Or.inr (by omega)) all0))))
                    exact jn286 _ _ ⟨_, X347, N347⟩ K347 K353 fc348 g345_0 fc349 fc350 fc351 fc352
          by_cases hc354 : (f1 &&& (16 : Int32)) = (0 : Int32)
          · skip
            refine own_by (fun _ k => XS.ifYes Xj4.here hx rfl (pc0 := 56) (pc' := 63) rfl (hb hby at_56) rfl ((if0 _ _).trans (teq hc354).1) (by decide) (by decide) k) ?_
            show own_Go p e below (Tj4.setTop (mkF m 63 #[.val (.long q1), .second, .val (.int f1), .val (.int c1), .val (.int c2), .val (.int tw), .val (.int sf), .unset, .unset, .unset, .unset, .unset] [])) _
            refine own_by (fun _ k => XS.iconst Xj4.here hx rfl (hb hby at_63) k) ?_
            show own_Go p e below (Tj4.setTop (mkF m 64 #[.val (.long q1), .second, .val (.int f1), .val (.int c1), .val (.int c2), .val (.int tw), .val (.int sf), .unset, .unset, .unset, .unset, .unset] [(.int (0 : Int32))])) _
            exact jn5 _ ⟨_, Xj4, Nj4⟩ ej4 (0 : Int32) (Or.inl rfl)
          · skip
            refine own_by (fun _ k => XS.ifNo Xj4.here hx rfl (hb hby at_56) rfl ((if0 _ _).trans (feq hc354).1) k) ?_
            show own_Go p e below (Tj4.setTop (mkF m 59 #[.val (.long q1), .second, .val (.int f1), .val (.int c1), .val (.int c2), .val (.int tw), .val (.int sf), .unset, .unset, .unset, .unset, .unset] [])) _
            refine own_by (fun _ k => XS.iconst Xj4.here hx rfl (hb hby at_59) k) ?_
            refine own_by (fun _ k => XS.goto Xj4.here hx rfl (pc0 := 60) (pc' := 64) rfl (hb hby at_60) (by decide) (by decide) k) ?_
            exact jn5 _ ⟨_, Xj4, Nj4⟩ ej4 (1 : Int32) (Or.inr rfl)
        by_cases hc355 : (f1 &&& (8 : Int32)) = (0 : Int32)
        · skip
          refine own_by (fun _ k => XS.ifYes Xj3.here hx rfl (pc0 := 42) (pc' := 49) rfl (hb hby at_42) rfl ((if0 _ _).trans (teq hc355).1) (by decide) (by decide) k) ?_
          show own_Go p e below (Tj3.setTop (mkF m 49 #[.val (.long q1), .second, .val (.int f1), .val (.int c1), .val (.int c2), .val (.int tw), .unset, .unset, .unset, .unset, .unset, .unset] [])) _
          refine own_by (fun _ k => XS.iconst Xj3.here hx rfl (hb hby at_49) k) ?_
          show own_Go p e below (Tj3.setTop (mkF m 50 #[.val (.long q1), .second, .val (.int f1), .val (.int c1), .val (.int c2), .val (.int tw), .unset, .unset, .unset, .unset, .unset, .unset] [(.int (0 : Int32))])) _
          exact jn4 _ ⟨_, Xj3, Nj3⟩ ej3 (0 : Int32) (Or.inl rfl)
        · skip
          refine own_by (fun _ k => XS.ifNo Xj3.here hx rfl (hb hby at_42) rfl ((if0 _ _).trans (feq hc355).1) k) ?_
          show own_Go p e below (Tj3.setTop (mkF m 45 #[.val (.long q1), .second, .val (.int f1), .val (.int c1), .val (.int c2), .val (.int tw), .unset, .unset, .unset, .unset, .unset, .unset] [])) _
          refine own_by (fun _ k => XS.iconst Xj3.here hx rfl (hb hby at_45) k) ?_
          refine own_by (fun _ k => XS.goto Xj3.here hx rfl (pc0 := 46) (pc' := 50) rfl (hb hby at_46) (by decide) (by decide) k) ?_
          exact jn4 _ ⟨_, Xj3, Nj3⟩ ej3 (1 : Int32) (Or.inr rfl)
      by_cases hc356 : (f1 &&& (4 : Int32)) = (0 : Int32)
      · skip
        refine own_by (fun _ k => XS.ifYes Xj2.here hx rfl (pc0 := 28) (pc' := 35) rfl (hb hby at_28) rfl ((if0 _ _).trans (teq hc356).1) (by decide) (by decide) k) ?_
        show own_Go p e below (Tj2.setTop (mkF m 35 #[.val (.long q1), .second, .val (.int f1), .val (.int c1), .val (.int c2), .unset, .unset, .unset, .unset, .unset, .unset, .unset] [])) _
        refine own_by (fun _ k => XS.iconst Xj2.here hx rfl (hb hby at_35) k) ?_
        show own_Go p e below (Tj2.setTop (mkF m 36 #[.val (.long q1), .second, .val (.int f1), .val (.int c1), .val (.int c2), .unset, .unset, .unset, .unset, .unset, .unset, .unset] [(.int (0 : Int32))])) _
        exact jn3 _ ⟨_, Xj2, Nj2⟩ ej2 (0 : Int32) (Or.inl rfl)
      · skip
        refine own_by (fun _ k => XS.ifNo Xj2.here hx rfl (hb hby at_28) rfl ((if0 _ _).trans (feq hc356).1) k) ?_
        show own_Go p e below (Tj2.setTop (mkF m 31 #[.val (.long q1), .second, .val (.int f1), .val (.int c1), .val (.int c2), .unset, .unset, .unset, .unset, .unset, .unset, .unset] [])) _
        refine own_by (fun _ k => XS.iconst Xj2.here hx rfl (hb hby at_31) k) ?_
        refine own_by (fun _ k => XS.goto Xj2.here hx rfl (pc0 := 32) (pc' := 36) rfl (hb hby at_32) (by decide) (by decide) k) ?_
        exact jn3 _ ⟨_, Xj2, Nj2⟩ ej2 (1 : Int32) (Or.inr rfl)
    by_cases hc357 : (f1 &&& (2 : Int32)) = (0 : Int32)
    · skip
      refine own_by (fun _ k => XS.ifYes Xj1.here hx rfl (pc0 := 15) (pc' := 22) rfl (hb hby at_15) rfl ((if0 _ _).trans (teq hc357).1) (by decide) (by decide) k) ?_
      show own_Go p e below (Tj1.setTop (mkF m 22 #[.val (.long q1), .second, .val (.int f1), .val (.int c1), .unset, .unset, .unset, .unset, .unset, .unset, .unset, .unset] [])) _
      refine own_by (fun _ k => XS.iconst Xj1.here hx rfl (hb hby at_22) k) ?_
      show own_Go p e below (Tj1.setTop (mkF m 23 #[.val (.long q1), .second, .val (.int f1), .val (.int c1), .unset, .unset, .unset, .unset, .unset, .unset, .unset, .unset] [(.int (0 : Int32))])) _
      exact jn2 _ ⟨_, Xj1, Nj1⟩ ej1 (0 : Int32) (Or.inl rfl)
    · skip
      refine own_by (fun _ k => XS.ifNo Xj1.here hx rfl (hb hby at_15) rfl ((if0 _ _).trans (feq hc357).1) k) ?_
      show own_Go p e below (Tj1.setTop (mkF m 18 #[.val (.long q1), .second, .val (.int f1), .val (.int c1), .unset, .unset, .unset, .unset, .unset, .unset, .unset, .unset] [])) _
      refine own_by (fun _ k => XS.iconst Xj1.here hx rfl (hb hby at_18) k) ?_
      refine own_by (fun _ k => XS.goto Xj1.here hx rfl (pc0 := 19) (pc' := 23) rfl (hb hby at_19) (by decide) (by decide) k) ?_
      exact jn2 _ ⟨_, Xj1, Nj1⟩ ej1 (1 : Int32) (Or.inr rfl)
  by_cases hc358 : (f1 &&& (1 : Int32)) = (0 : Int32)
  · skip
    refine own_by (fun _ k => XS.ifYes X0.here hx rfl (pc0 := 3) (pc' := 10) rfl (hb hby at_3) rfl ((if0 _ _).trans (teq hc358).1) (by decide) (by decide) k) ?_
    show own_Go p e below (s₁.setTop (mkF m 10 #[.val (.long q1), .second, .val (.int f1), .unset, .unset, .unset, .unset, .unset, .unset, .unset, .unset, .unset] [])) _
    refine own_by (fun _ k => XS.iconst X0.here hx rfl (hb hby at_10) k) ?_
    show own_Go p e below (s₁.setTop (mkF m 11 #[.val (.long q1), .second, .val (.int f1), .unset, .unset, .unset, .unset, .unset, .unset, .unset, .unset, .unset] [(.int (0 : Int32))])) _
    exact jn1 _ ⟨_, X0, N0⟩ e0 (0 : Int32) (Or.inl rfl)
  · skip
    refine own_by (fun _ k => XS.ifNo X0.here hx rfl (hb hby at_3) rfl ((if0 _ _).trans (feq hc358).1) k) ?_
    show own_Go p e below (s₁.setTop (mkF m 6 #[.val (.long q1), .second, .val (.int f1), .unset, .unset, .unset, .unset, .unset, .unset, .unset, .unset, .unset] [])) _
    refine own_by (fun _ k => XS.iconst X0.here hx rfl (hb hby at_6) k) ?_
    refine own_by (fun _ k => XS.goto X0.here hx rfl (pc0 := 7) (pc' := 11) rfl (hb hby at_7) (by decide) (by decide) k) ?_
    exact jn1 _ ⟨_, X0, N0⟩ e0 (1 : Int32) (Or.inr rfl)
set_option maxRecDepth 65536 in
set_option maxHeartbeats 40000000 in
theorem comes_1 {Post : Tables → Env → Array Value → State → Outcome → State → Prop} (hpost : ∀ tb e args s v u, (limb_1_1.after args s (.returned v) u = true ∧ limb_1_2.after args s (.returned v) u = true ∧ True) → FrameEnd s (.returned v) u (Jvm.fieldLocs frame_1_writes args s ++ Jvm.arrayLocs frame_1_arrays args s ++ Jvm.staticLocs frame_1_statics s) 40 320 → Post tb e args s (.returned v) u) :
    ArmFor flags0 classFile x code maxLocals ret World_1 tables_1 room_1 Calls_1 rest_1 Pre_1 Post := by
  intro l hfl _ _ p e ha hc hk s m args below hf hA hF happ hP
  obtain ⟨hcalls, hrest, hpre⟩ := hP
  obtain ⟨-, -, -, hnamed, -, -, -, hat⟩ := (Spec.applies_iff hf).mp happ
  obtain ⟨hg, hn⟩ := and_e (Cond.before_iff.mp (show (Jvm.Cond.and given_1 narrow_1).before args s = true from hpre))
  obtain ⟨hh0, hg0⟩ := and_e hg
  obtain ⟨hh1, hg1⟩ := and_e hg0
  obtain ⟨w0, w1, rfl⟩ : ∃ w0 w1 : Value, args = #[w0, w1] := by
    have hs : args.size = 2 := by simpa [Cond.value, given_1] using hh0
    obtain ⟨L⟩ := args
    match L, hs with
    | [w0, w1], _ => exact ⟨w0, w1, rfl⟩
  have hw := fun d (hd : d ∈ tables_1) => atoms_spec (ws := Jvm.Cond.code x code maxLocals ret :: tables_1) hat d (List.mem_cons_of_mem _ hd)
  have hfit : Fit s := fun {y c} hc i hi => by
    obtain ⟨ha, rfl⟩ := Array.getElem?_eq_some_iff.mp hc
    have q := List.all_eq_true.mp ((Array.all_eq_true_iff_forall_mem.mp hF) _ (Array.getElem_mem ha)) i (List.mem_range.mpr hi)
    simpa [Array.getElem?_eq_getElem hi] using q
  obtain ⟨i0, ea0⟩ := isL_v hh1
  obtain rfl : w0 = (.long i0) := Option.some.inj ea0
  obtain ⟨i1, ea1⟩ := is_v hg1
  obtain rfl : w1 = (.int i1) := Option.some.inj ea1
  obtain ⟨m0, m1⟩ := and_e hn
  obtain ⟨mo, v_mo⟩ := arr_v m0
  have S_MODES := Sta.start v_mo (Or.inr ⟨own_w hw 2 rfl, own_w hw 10 rfl⟩)
  obtain ⟨cm, A_mo⟩ := Arr.start v_mo m0
  have len_mo := own_len v_mo A_mo m1
  have L_mo : cm.slots.size = (6 : Int32).toNatClampNeg := by rw [← len_mo.2]; simp only [Int32.toNatClampNeg, len_toInt len_mo.1]; rfl
  obtain ⟨n, o, h1, h2, h3, _, L, rfl, ⟨rfl, N, -⟩, hq⟩ := rm_law l s _ hw tables_1 i0 i1 mo cm s.heap s.heap.size (Old.start s) S_MODES A_mo L_mo p e ha hc hk s m _ below hf ((Spec.applies_iff_loose hf).mp happ).1 ⟨rfl, State.Warmed39.refl s, rfl⟩ trivial
  refine ⟨n, _, h1, h2, h3, hpost _ _ _ _ _ _ ⟨Cond.after_iff.mpr rfl, Cond.after_iff.mpr (eq_i res_at (Term.int_eval (1)) rfl), trivial⟩ ⟨hq.1, hq.2.1, (hq.2.2.sift fun y hy => Or.inr (N y hy)).mono (by decide) (by decide)⟩⟩
theorem main_1_1 : Claimed_1_1 := comes_1 fun _ _ _ _ _ _ h hF => ⟨h.1, hF⟩
theorem main_1_2 : Claimed_1_2 := comes_1 fun _ _ _ _ _ _ h hF => ⟨h.2.1, hF⟩
end Jvm.Pilot.@@N@@
namespace Jvm.Pilot.@@N@@
open Jvm Jvm.ClassFile Sem Op Lib Jvm.Free Jvm.Stand Jvm.Pilot.@@N@@.Jvm.D
/-! MADE BY PROGRAM (witnessworld.py) out of the Statement's table words and the real class files: 25 classes; the members and pool entries that the words name. The judged class is class 1, her method 1. -/
namespace start1
open Jvm.ClassFile
def u (s : String) : CpInfo := .utf8 (stringToUtf16 s)
/-- a pool by its gaps: so many unusable entries, then the entry; so many at the end -/
def gap : Nat → List CpInfo → List CpInfo
  | 0, r => r
  | n + 1, r => .unusable :: gap n r
def poolList (es : List (Nat × CpInfo)) (last : Nat) : List CpInfo := es.foldr (fun e r => gap e.1 (e.2 :: r)) (gap last [])
def pool (es : List (Nat × CpInfo)) (last : Nat) : Array CpInfo := ⟨poolList es last⟩
def fileOf (pool : Array CpInfo) (this : Nat) (attrs : Array Attribute := #[]) (ms : Array MethodInfo := #[]) (fl : Nat := 33) (sup : Nat := 0) (ifs : Array Nat := #[]) (fds : Array FieldInfo := #[]) : ClassFile where
  minorVersion := 0
  majorVersion := 65
  constantPool := pool
  accessFlags := fl
  thisClass := this
  superClass := sup
  interfaces := ifs
  fields := fds
  methods := ms
  attributes := attrs
def plain (name : String) (sup : Option ClassId) : Class where
  name := name
  kind := .ordinary
  loader := none
  accessFlags := 33
  super := sup
  interfaces := #[]
  cf := none
  fields := #[]
  methods := #[]
  instanceTypes := #[]
  staticTypes := #[]
  resolved := #[]
  callSites := []
  init := .initialized
  statics := none
  mirror := none

def pool0 : Array CpInfo := pool [(5, u "<init>"), (0, u "()V"), (1, .class_ 10), (1, u "java/lang/Object"), (81, u "equals"), (0, u "(Ljava/lang/Object;)Z")] 30

def k0c0 : Code := { maxStack := 0, maxLocals := 1, code := object_method_1_code, exceptionTable := #[], attributes := #[] }
def k0m0 : Method := { name := "<init>", desc := "()V", sig := { parameters := [], returnType := none }, accessFlags := 1, code := some k0c0 }
def k0c1 : Code := { maxStack := 2, maxLocals := 2, code := object_method_4_code, exceptionTable := #[], attributes := #[] }
def k0m1 : Method := { name := "equals", desc := "(Ljava/lang/Object;)Z", sig := { parameters := [(.object "java/lang/Object")], returnType := some .boolean }, accessFlags := 1, code := some k0c1 }
/-- java/lang/Object -/
def k0 : Class := { plain "java/lang/Object" none with
  accessFlags := 33
  interfaces := #[]
  cf := some (fileOf pool0 8 #[] #[{ accessFlags := 1, nameIndex := 5, descriptorIndex := 6, attributes := #[] }, { accessFlags := 1, nameIndex := 92, descriptorIndex := 93, attributes := #[] }] 33 0 #[] #[])
  fields := #[]
  methods := #[k0m0, k0m1]
  instanceTypes := #[]
  staticTypes := #[]
  resolved := Array.replicate 124 none
  statics := none }

def pool1 : Array CpInfo := pool [(2, .class_ 4), (1, u "java/lang/Object"), (0, u "<init>"), (0, u "()V"), (0, .class_ 8), (0, u "com/example/admit1/admit1/lock/LockEntry"), (0, .methodref 7 10), (0, .nameAndType 5 11), (0, u "(J)V"), (0, .class_ 13), (0, u "com/example/admit1/admit1/lock/Wait"), (0, .methodref 12 15), (0, .nameAndType 5 16), (0, u "(Lcom/example/admit1/admit1/lock/LockSession;Lcom/example/admit1/admit1/lock/LockEntry;Lcom/example/admit1/admit1/lock/LockMode;ZZJJJ)V"), (0, .methodref 7 18), (0, .nameAndType 19 20), (0, u "hasWaiting"), (0, u "()Z"), (0, .methodref 7 22), (0, .nameAndType 23 24), (0, u "enqueue"), (0, u "(Lcom/example/admit1/admit1/lock/Wait;)V"), (0, .methodref 7 26), (0, .nameAndType 27 24), (0, u "dequeue"), (0, .class_ 29), (0, u "com/example/admit1/admit1/lock/LockEntryHasWaitingPinLaw"), (2, u "law"), (0, u "(JI)Z")] 3

def k1m0 : Method := { name := "<init>", desc := "()V", sig := { parameters := [], returnType := none }, accessFlags := 1, code := none }
def k1c1 : Code := { maxStack := 13, maxLocals := 12, code := code, exceptionTable := #[], attributes := #[] }
def k1m1 : Method := { name := "law", desc := "(JI)Z", sig := { parameters := [.long, .int], returnType := some .boolean }, accessFlags := 9, code := some k1c1 }
/-- com/example/admit1/admit1/lock/LockEntryHasWaitingPinLaw -/
def k1 : Class := { plain "com/example/admit1/admit1/lock/LockEntryHasWaitingPinLaw" (some 0) with
  accessFlags := 49
  interfaces := #[]
  cf := some (fileOf pool1 28 #[] #[{ accessFlags := 1, nameIndex := 5, descriptorIndex := 6, attributes := #[] }, { accessFlags := 9, nameIndex := 32, descriptorIndex := 33, attributes := #[] }] 49 2 #[] #[])
  fields := #[]
  methods := #[k1m0, k1m1]
  instanceTypes := #[]
  staticTypes := #[]
  resolved := Array.replicate 37 none
  statics := none }

def pool2 : Array CpInfo := pool [(1, .methodref 2 3), (0, .class_ 4), (0, .nameAndType 5 6), (0, u "java/lang/Object"), (0, u "<init>"), (0, u "()V"), (0, .fieldref 8 9), (0, .class_ 10), (0, .nameAndType 11 12), (0, u "com/example/admit1/admit1/lock/LockEntry"), (0, u "MODES"), (0, u "[Lcom/example/admit1/admit1/lock/LockMode;"), (0, .fieldref 8 14), (0, .nameAndType 15 16), (0, u "holdersByMode"), (0, u "[I"), (0, .fieldref 8 18), (0, .nameAndType 19 20), (0, u "id"), (0, u "J"), (8, u "sharedHolders"), (0, u "Ljava/util/Map;"), (14, u "soleHolder"), (0, u "Lcom/example/admit1/admit1/lock/LockSession;"), (5, u "soleHolderSince"), (2, u "remove"), (38, u "of"), (18, .fieldref 8 114), (0, .nameAndType 115 116), (0, u "queues"), (0, u "Lcom/example/admit1/admit1/lock/LockEntry$Queues;"), (0, .class_ 118), (0, u "com/example/admit1/admit1/lock/LockEntry$Queues"), (0, .methodref 117 3), (0, .methodref 117 121), (0, .nameAndType 94 122), (0, u "(Lcom/example/admit1/admit1/lock/Wait;)Ljava/util/ArrayDeque;"), (0, .methodref 124 125), (0, .class_ 126), (0, .nameAndType 127 128), (0, u "java/util/ArrayDeque"), (0, u "addLast"), (0, u "(Ljava/lang/Object;)V"), (0, .methodref 124 130), (0, .nameAndType 55 131), (0, u "(Ljava/lang/Object;)Z"), (0, .fieldref 117 133), (0, .nameAndType 134 135), (0, u "conversions"), (0, u "Ljava/util/ArrayDeque;"), (0, .methodref 124 137), (0, .nameAndType 138 139), (0, u "isEmpty"), (0, u "()Z"), (0, .fieldref 117 141), (0, .nameAndType 142 135), (0, u "requests"), (11, u "(J)V"), (18, u "enqueue"), (0, u "(Lcom/example/admit1/admit1/lock/Wait;)V"), (0, u "dequeue"), (0, u "hasWaiting")] 12

def k2c0 : Code := { maxStack := 3, maxLocals := 3, code := prog_11_method_1_code, exceptionTable := #[], attributes := #[] }
def k2m0 : Method := { name := "<init>", desc := "(J)V", sig := { parameters := [.long], returnType := none }, accessFlags := 0, code := some k2c0 }
def k2c1 : Code := { maxStack := 3, maxLocals := 2, code := prog_11_method_10_code, exceptionTable := #[], attributes := #[] }
def k2m1 : Method := { name := "enqueue", desc := "(Lcom/example/admit1/admit1/lock/Wait;)V", sig := { parameters := [(.object "com/example/admit1/admit1/lock/Wait")], returnType := none }, accessFlags := 0, code := some k2c1 }
def k2c2 : Code := { maxStack := 2, maxLocals := 2, code := prog_11_method_11_code, exceptionTable := #[], attributes := #[] }
def k2m2 : Method := { name := "dequeue", desc := "(Lcom/example/admit1/admit1/lock/Wait;)V", sig := { parameters := [(.object "com/example/admit1/admit1/lock/Wait")], returnType := none }, accessFlags := 0, code := some k2c2 }
def k2c3 : Code := { maxStack := 1, maxLocals := 1, code := prog_11_method_12_code, exceptionTable := #[], attributes := #[] }
def k2m3 : Method := { name := "hasWaiting", desc := "()Z", sig := { parameters := [], returnType := some .boolean }, accessFlags := 0, code := some k2c3 }
/-- com/example/admit1/admit1/lock/LockEntry -/
def k2 : Class := { plain "com/example/admit1/admit1/lock/LockEntry" (some 0) with
  accessFlags := 48
  interfaces := #[]
  cf := some (fileOf pool2 8 #[.nestMembers #[117]] #[{ accessFlags := 0, nameIndex := 5, descriptorIndex := 154, attributes := #[] }, { accessFlags := 0, nameIndex := 173, descriptorIndex := 174, attributes := #[] }, { accessFlags := 0, nameIndex := 175, descriptorIndex := 174, attributes := #[] }, { accessFlags := 0, nameIndex := 176, descriptorIndex := 139, attributes := #[] }] 48 2 #[] #[{ accessFlags := 26, nameIndex := 11, descriptorIndex := 12, attributes := #[] }, { accessFlags := 16, nameIndex := 19, descriptorIndex := 20, attributes := #[] }, { accessFlags := 18, nameIndex := 15, descriptorIndex := 16, attributes := #[] }, { accessFlags := 2, nameIndex := 45, descriptorIndex := 46, attributes := #[] }, { accessFlags := 2, nameIndex := 52, descriptorIndex := 20, attributes := #[] }, { accessFlags := 2, nameIndex := 29, descriptorIndex := 30, attributes := #[] }, { accessFlags := 2, nameIndex := 115, descriptorIndex := 116, attributes := #[] }])
  fields := #[{ name := "MODES", type := (.array (.object "com/example/admit1/admit1/lock/LockMode")), accessFlags := 26, slot := 0, constantValue := 0 }, { name := "id", type := .long, accessFlags := 16, slot := 0, constantValue := 0 }, { name := "holdersByMode", type := (.array .int), accessFlags := 18, slot := 1, constantValue := 0 }, { name := "soleHolder", type := (.object "com/example/admit1/admit1/lock/LockSession"), accessFlags := 2, slot := 2, constantValue := 0 }, { name := "soleHolderSince", type := .long, accessFlags := 2, slot := 3, constantValue := 0 }, { name := "sharedHolders", type := (.object "java/util/Map"), accessFlags := 2, slot := 4, constantValue := 0 }, { name := "queues", type := (.object "com/example/admit1/admit1/lock/LockEntry$Queues"), accessFlags := 2, slot := 5, constantValue := 0 }]
  methods := #[k2m0, k2m1, k2m2, k2m3]
  instanceTypes := #[.long, (.array .int), (.object "com/example/admit1/admit1/lock/LockSession"), .long, (.object "java/util/Map"), (.object "com/example/admit1/admit1/lock/LockEntry$Queues")]
  staticTypes := #[(.array (.object "com/example/admit1/admit1/lock/LockMode"))]
  resolved := ((Array.replicate 189 none).setIfInBounds 117 (some (.cls 4))).setIfInBounds 119 (some (.method ⟨4, 0⟩))
  statics := some 0 }

def pool3 : Array CpInfo := pool [(1, .methodref 2 3), (0, .class_ 4), (0, .nameAndType 5 6), (0, u "java/lang/Object"), (0, u "<init>"), (0, u "()V"), (0, .fieldref 8 9), (0, .class_ 10), (0, .nameAndType 11 12), (0, u "com/example/admit1/admit1/lock/Wait"), (0, u "session"), (0, u "Lcom/example/admit1/admit1/lock/LockSession;"), (0, .fieldref 8 14), (0, .nameAndType 15 16), (0, u "lock"), (0, u "Lcom/example/admit1/admit1/lock/LockEntry;"), (0, .fieldref 8 18), (0, .nameAndType 19 20), (0, u "mode"), (0, u "Lcom/example/admit1/admit1/lock/LockMode;"), (0, .fieldref 8 22), (0, .nameAndType 23 24), (0, u "conversion"), (0, u "Z"), (0, .fieldref 8 26), (0, .nameAndType 27 24), (0, u "releaseOnCommit"), (0, .fieldref 8 29), (0, .nameAndType 30 31), (0, u "since"), (0, u "J"), (0, .fieldref 8 33), (0, .nameAndType 34 31), (0, u "deadline"), (0, .fieldref 8 36), (0, .nameAndType 37 31), (0, u "arrival"), (15, u "BY_DEADLINE"), (0, u "Ljava/util/Comparator;"), (2, u "(Lcom/example/admit1/admit1/lock/LockSession;Lcom/example/admit1/admit1/lock/LockEntry;Lcom/example/admit1/admit1/lock/LockMode;ZZJJJ)V")] 28

def k3c0 : Code := { maxStack := 3, maxLocals := 12, code := prog_21_method_1_code, exceptionTable := #[], attributes := #[] }
def k3m0 : Method := { name := "<init>", desc := "(Lcom/example/admit1/admit1/lock/LockSession;Lcom/example/admit1/admit1/lock/LockEntry;Lcom/example/admit1/admit1/lock/LockMode;ZZJJJ)V", sig := { parameters := [(.object "com/example/admit1/admit1/lock/LockSession"), (.object "com/example/admit1/admit1/lock/LockEntry"), (.object "com/example/admit1/admit1/lock/LockMode"), .boolean, .boolean, .long, .long, .long], returnType := none }, accessFlags := 0, code := some k3c0 }
/-- com/example/admit1/admit1/lock/Wait -/
def k3 : Class := { plain "com/example/admit1/admit1/lock/Wait" (some 0) with
  accessFlags := 48
  interfaces := #[]
  cf := some (fileOf pool3 8 #[] #[{ accessFlags := 0, nameIndex := 5, descriptorIndex := 57, attributes := #[] }] 48 2 #[] #[{ accessFlags := 24, nameIndex := 53, descriptorIndex := 54, attributes := #[] }, { accessFlags := 16, nameIndex := 11, descriptorIndex := 12, attributes := #[] }, { accessFlags := 16, nameIndex := 15, descriptorIndex := 16, attributes := #[] }, { accessFlags := 16, nameIndex := 19, descriptorIndex := 20, attributes := #[] }, { accessFlags := 16, nameIndex := 23, descriptorIndex := 24, attributes := #[] }, { accessFlags := 16, nameIndex := 27, descriptorIndex := 24, attributes := #[] }, { accessFlags := 16, nameIndex := 30, descriptorIndex := 31, attributes := #[] }, { accessFlags := 16, nameIndex := 34, descriptorIndex := 31, attributes := #[] }, { accessFlags := 16, nameIndex := 37, descriptorIndex := 31, attributes := #[] }])
  fields := #[{ name := "BY_DEADLINE", type := (.object "java/util/Comparator"), accessFlags := 24, slot := 0, constantValue := 0 }, { name := "session", type := (.object "com/example/admit1/admit1/lock/LockSession"), accessFlags := 16, slot := 0, constantValue := 0 }, { name := "lock", type := (.object "com/example/admit1/admit1/lock/LockEntry"), accessFlags := 16, slot := 1, constantValue := 0 }, { name := "mode", type := (.object "com/example/admit1/admit1/lock/LockMode"), accessFlags := 16, slot := 2, constantValue := 0 }, { name := "conversion", type := .boolean, accessFlags := 16, slot := 3, constantValue := 0 }, { name := "releaseOnCommit", type := .boolean, accessFlags := 16, slot := 4, constantValue := 0 }, { name := "since", type := .long, accessFlags := 16, slot := 5, constantValue := 0 }, { name := "deadline", type := .long, accessFlags := 16, slot := 6, constantValue := 0 }, { name := "arrival", type := .long, accessFlags := 16, slot := 7, constantValue := 0 }]
  methods := #[k3m0]
  instanceTypes := #[(.object "com/example/admit1/admit1/lock/LockSession"), (.object "com/example/admit1/admit1/lock/LockEntry"), (.object "com/example/admit1/admit1/lock/LockMode"), .boolean, .boolean, .long, .long, .long]
  staticTypes := #[(.object "java/util/Comparator")]
  resolved := Array.replicate 86 none
  statics := none }

def pool4 : Array CpInfo := pool [(1, .methodref 2 3), (0, .class_ 4), (0, .nameAndType 5 6), (0, u "java/lang/Object"), (0, u "<init>"), (0, u "()V"), (0, .class_ 8), (0, u "java/util/ArrayDeque"), (0, .methodref 7 3), (0, .fieldref 11 12), (0, .class_ 13), (0, .nameAndType 14 15), (0, u "com/example/admit1/admit1/lock/LockEntry$Queues"), (0, u "conversions"), (0, u "Ljava/util/ArrayDeque;"), (0, .fieldref 11 17), (0, .nameAndType 18 15), (0, u "requests"), (0, .fieldref 20 21), (0, .class_ 22), (0, .nameAndType 23 24), (0, u "com/example/admit1/admit1/lock/Wait"), (0, u "conversion"), (0, u "Z"), (4, u "of"), (0, u "(Lcom/example/admit1/admit1/lock/Wait;)Ljava/util/ArrayDeque;"), (5, .class_ 37), (0, u "com/example/admit1/admit1/lock/LockEntry")] 2

def k4c0 : Code := { maxStack := 3, maxLocals := 1, code := prog_12_method_1_code, exceptionTable := #[], attributes := #[] }
def k4m0 : Method := { name := "<init>", desc := "()V", sig := { parameters := [], returnType := none }, accessFlags := 2, code := some k4c0 }
def k4c1 : Code := { maxStack := 1, maxLocals := 2, code := prog_12_method_2_code, exceptionTable := #[], attributes := #[] }
def k4m1 : Method := { name := "of", desc := "(Lcom/example/admit1/admit1/lock/Wait;)Ljava/util/ArrayDeque;", sig := { parameters := [(.object "com/example/admit1/admit1/lock/Wait")], returnType := some (.object "java/util/ArrayDeque") }, accessFlags := 0, code := some k4c1 }
/-- com/example/admit1/admit1/lock/LockEntry$Queues -/
def k4 : Class := { plain "com/example/admit1/admit1/lock/LockEntry$Queues" (some 0) with
  accessFlags := 48
  interfaces := #[]
  cf := some (fileOf pool4 11 #[.nestHost 36] #[{ accessFlags := 2, nameIndex := 5, descriptorIndex := 6, attributes := #[] }, { accessFlags := 0, nameIndex := 29, descriptorIndex := 30, attributes := #[] }] 48 2 #[] #[{ accessFlags := 16, nameIndex := 14, descriptorIndex := 15, attributes := #[] }, { accessFlags := 16, nameIndex := 18, descriptorIndex := 15, attributes := #[] }])
  fields := #[{ name := "conversions", type := (.object "java/util/ArrayDeque"), accessFlags := 16, slot := 0, constantValue := 0 }, { name := "requests", type := (.object "java/util/ArrayDeque"), accessFlags := 16, slot := 1, constantValue := 0 }]
  methods := #[k4m0, k4m1]
  instanceTypes := #[(.object "java/util/ArrayDeque"), (.object "java/util/ArrayDeque")]
  staticTypes := #[]
  resolved := Array.replicate 40 none
  statics := none }

def pool5 : Array CpInfo := pool [(8, .class_ 10), (1, u "java/lang/Iterable"), (24, .class_ 36), (0, u "java/lang/Object")] 25

/-- java/lang/Iterable -/
def k5 : Class := { plain "java/lang/Iterable" (some 0) with
  accessFlags := 1537
  interfaces := #[]
  cf := some (fileOf pool5 8 #[] #[] 1537 35 #[] #[])
  fields := #[]
  methods := #[]
  instanceTypes := #[]
  staticTypes := #[]
  resolved := Array.replicate 62 none
  statics := none }

def pool6 : Array CpInfo := pool [(10, .class_ 12), (1, u "java/util/Collection"), (47, .class_ 61), (0, u "java/lang/Object"), (0, .class_ 63), (0, u "java/lang/Iterable")] 51

/-- java/util/Collection -/
def k6 : Class := { plain "java/util/Collection" (some 0) with
  accessFlags := 1537
  interfaces := #[5]
  cf := some (fileOf pool6 10 #[] #[] 1537 60 #[62] #[])
  fields := #[]
  methods := #[]
  instanceTypes := #[]
  staticTypes := #[]
  resolved := Array.replicate 115 none
  statics := none }

def pool7 : Array CpInfo := pool [(1, .methodref 2 3), (0, .class_ 4), (0, .nameAndType 5 6), (0, u "java/lang/Object"), (0, u "<init>"), (0, u "()V"), (1, .class_ 10), (1, u "java/util/AbstractCollection"), (66, .class_ 78), (0, u "java/util/Collection")] 81

def k7c0 : Code := { maxStack := 1, maxLocals := 1, code := jdk_22_method_1_code, exceptionTable := #[], attributes := #[] }
def k7m0 : Method := { name := "<init>", desc := "()V", sig := { parameters := [], returnType := none }, accessFlags := 4, code := some k7c0 }
/-- java/util/AbstractCollection -/
def k7 : Class := { plain "java/util/AbstractCollection" (some 0) with
  accessFlags := 1057
  interfaces := #[6]
  cf := some (fileOf pool7 8 #[] #[{ accessFlags := 4, nameIndex := 5, descriptorIndex := 6, attributes := #[] }] 1057 2 #[77] #[])
  fields := #[]
  methods := #[k7m0]
  instanceTypes := #[]
  staticTypes := #[]
  resolved := Array.replicate 160 none
  statics := none }

def pool8 : Array CpInfo := pool [(1, .class_ 2), (0, u "java/util/Queue"), (0, .class_ 4), (0, u "java/lang/Object"), (0, .class_ 6), (0, u "java/util/Collection")] 14

/-- java/util/Queue -/
def k8 : Class := { plain "java/util/Queue" (some 0) with
  accessFlags := 1537
  interfaces := #[6]
  cf := some (fileOf pool8 1 #[] #[] 1537 3 #[5] #[])
  fields := #[]
  methods := #[]
  instanceTypes := #[]
  staticTypes := #[]
  resolved := Array.replicate 21 none
  statics := none }

def pool9 : Array CpInfo := pool [(8, .class_ 10), (1, u "java/util/SequencedCollection"), (15, .class_ 27), (0, u "java/lang/Object"), (0, .class_ 29), (0, u "java/util/Collection")] 27

/-- java/util/SequencedCollection -/
def k9 : Class := { plain "java/util/SequencedCollection" (some 0) with
  accessFlags := 1537
  interfaces := #[6]
  cf := some (fileOf pool9 8 #[] #[] 1537 26 #[28] #[])
  fields := #[]
  methods := #[]
  instanceTypes := #[]
  staticTypes := #[]
  resolved := Array.replicate 57 none
  statics := none }

def pool10 : Array CpInfo := pool [(8, .class_ 10), (1, u "java/util/Deque"), (2, .class_ 14), (0, u "java/lang/Object"), (0, .class_ 16), (0, u "java/util/Queue"), (0, .class_ 18), (0, u "java/util/SequencedCollection")] 51

/-- java/util/Deque -/
def k10 : Class := { plain "java/util/Deque" (some 0) with
  accessFlags := 1537
  interfaces := #[8, 9]
  cf := some (fileOf pool10 8 #[] #[] 1537 13 #[15, 17] #[])
  fields := #[]
  methods := #[]
  instanceTypes := #[]
  staticTypes := #[]
  resolved := Array.replicate 70 none
  statics := none }

def pool11 : Array CpInfo := pool [(1, .class_ 2), (0, u "java/lang/Cloneable"), (0, .class_ 4), (0, u "java/lang/Object")] 2

/-- java/lang/Cloneable -/
def k11 : Class := { plain "java/lang/Cloneable" (some 0) with
  accessFlags := 1537
  interfaces := #[]
  cf := some (fileOf pool11 1 #[] #[] 1537 3 #[] #[])
  fields := #[]
  methods := #[]
  instanceTypes := #[]
  staticTypes := #[]
  resolved := Array.replicate 7 none
  statics := none }

def pool12 : Array CpInfo := pool [(1, .class_ 2), (0, u "java/io/Serializable"), (0, .class_ 4), (0, u "java/lang/Object")] 2

/-- java/io/Serializable -/
def k12 : Class := { plain "java/io/Serializable" (some 0) with
  accessFlags := 1537
  interfaces := #[]
  cf := some (fileOf pool12 1 #[] #[] 1537 3 #[] #[])
  fields := #[]
  methods := #[]
  instanceTypes := #[]
  staticTypes := #[]
  resolved := Array.replicate 7 none
  statics := none }

def pool13 : Array CpInfo := pool [(3, .fieldref 4 5), (0, .class_ 6), (0, .nameAndType 7 8), (0, u "java/util/ArrayDeque"), (0, u "elements"), (0, u "[Ljava/lang/Object;"), (4, u "(II)I"), (6, .fieldref 4 21), (0, .nameAndType 22 23), (0, u "tail"), (0, u "I"), (0, .fieldref 4 25), (0, .nameAndType 26 23), (0, u "head"), (0, .methodref 28 29), (0, .class_ 30), (0, .nameAndType 31 32), (0, u "java/lang/System"), (0, u "arraycopy"), (0, u "(Ljava/lang/Object;ILjava/lang/Object;II)V"), (6, u "<init>"), (2, .methodref 43 44), (0, .class_ 45), (0, .nameAndType 39 46), (0, u "java/util/AbstractCollection"), (0, u "()V"), (0, .class_ 48), (0, u "java/lang/Object"), (19, .methodref 4 69), (0, .nameAndType 70 13), (0, u "dec"), (3, .methodref 4 75), (0, .nameAndType 76 13), (0, u "inc"), (12, u "(Ljava/lang/Object;)V"), (2, u "addLast"), (14, .methodref 47 108), (0, .nameAndType 109 110), (0, u "equals"), (0, u "(Ljava/lang/Object;)Z"), (0, .methodref 4 112), (0, .nameAndType 113 114), (0, u "delete"), (0, u "(I)Z"), (12, .methodref 4 128), (0, .nameAndType 129 130), (0, u "sub"), (0, u "(III)I"), (0, .class_ 132), (0, u "java/util/ArrayDeque$DeqIterator"), (3, .class_ 137), (0, u "java/util/ArrayDeque$DescendingIterator"), (1, .class_ 140), (0, u "java/util/ArrayDeque$DeqSpliterator"), (44, .methodref 4 186), (0, .nameAndType 187 110), (0, u "removeFirstOccurrence"), (90, .class_ 279), (0, u "java/util/Deque"), (0, .class_ 281), (0, u "java/lang/Cloneable"), (0, .class_ 283), (0, u "java/io/Serializable"), (0, u "MAX_ARRAY_SIZE"), (1, u "serialVersionUID"), (0, u "J"), (50, u "remove"), (8, u "isEmpty"), (0, u "()Z")] 89

def k13c0 : Code := { maxStack := 2, maxLocals := 1, code := jdk_21_method_3_code, exceptionTable := #[], attributes := #[] }
def k13m0 : Method := { name := "<init>", desc := "()V", sig := { parameters := [], returnType := none }, accessFlags := 1, code := some k13c0 }
def k13c1 : Code := { maxStack := 2, maxLocals := 2, code := jdk_21_method_6_code, exceptionTable := #[], attributes := #[] }
def k13m1 : Method := { name := "inc", desc := "(II)I", sig := { parameters := [.int, .int], returnType := some .int }, accessFlags := 24, code := some k13c1 }
def k13c2 : Code := { maxStack := 2, maxLocals := 2, code := jdk_21_method_7_code, exceptionTable := #[], attributes := #[] }
def k13m2 : Method := { name := "dec", desc := "(II)I", sig := { parameters := [.int, .int], returnType := some .int }, accessFlags := 24, code := some k13c2 }
def k13c3 : Code := { maxStack := 2, maxLocals := 3, code := jdk_21_method_9_code, exceptionTable := #[], attributes := #[] }
def k13m3 : Method := { name := "sub", desc := "(III)I", sig := { parameters := [.int, .int, .int], returnType := some .int }, accessFlags := 24, code := some k13c3 }
def k13c4 : Code := { maxStack := 4, maxLocals := 3, code := jdk_21_method_13_code, exceptionTable := #[], attributes := #[] }
def k13m4 : Method := { name := "addLast", desc := "(Ljava/lang/Object;)V", sig := { parameters := [(.object "java/lang/Object")], returnType := none }, accessFlags := 1, code := some k13c4 }
def k13c5 : Code := { maxStack := 3, maxLocals := 6, code := jdk_21_method_26_code, exceptionTable := #[], attributes := #[] }
def k13m5 : Method := { name := "removeFirstOccurrence", desc := "(Ljava/lang/Object;)Z", sig := { parameters := [(.object "java/lang/Object")], returnType := some .boolean }, accessFlags := 1, code := some k13c5 }
def k13c6 : Code := { maxStack := 7, maxLocals := 8, code := jdk_21_method_36_code, exceptionTable := #[], attributes := #[] }
def k13m6 : Method := { name := "delete", desc := "(I)Z", sig := { parameters := [.int], returnType := some .boolean }, accessFlags := 0, code := some k13c6 }
def k13c7 : Code := { maxStack := 2, maxLocals := 1, code := jdk_21_method_38_code, exceptionTable := #[], attributes := #[] }
def k13m7 : Method := { name := "isEmpty", desc := "()Z", sig := { parameters := [], returnType := some .boolean }, accessFlags := 1, code := some k13c7 }
def k13c8 : Code := { maxStack := 2, maxLocals := 2, code := jdk_21_method_52_code, exceptionTable := #[], attributes := #[] }
def k13m8 : Method := { name := "remove", desc := "(Ljava/lang/Object;)Z", sig := { parameters := [(.object "java/lang/Object")], returnType := some .boolean }, accessFlags := 1, code := some k13c8 }
/-- java/util/ArrayDeque -/
def k13 : Class := { plain "java/util/ArrayDeque" (some 7) with
  accessFlags := 33
  interfaces := #[10, 11, 12]
  cf := some (fileOf pool13 4 #[.nestMembers #[139, 136, 131]] #[{ accessFlags := 1, nameIndex := 39, descriptorIndex := 46, attributes := #[] }, { accessFlags := 24, nameIndex := 76, descriptorIndex := 13, attributes := #[] }, { accessFlags := 24, nameIndex := 70, descriptorIndex := 13, attributes := #[] }, { accessFlags := 24, nameIndex := 129, descriptorIndex := 130, attributes := #[] }, { accessFlags := 1, nameIndex := 92, descriptorIndex := 89, attributes := #[] }, { accessFlags := 1, nameIndex := 187, descriptorIndex := 110, attributes := #[] }, { accessFlags := 0, nameIndex := 113, descriptorIndex := 114, attributes := #[] }, { accessFlags := 1, nameIndex := 347, descriptorIndex := 348, attributes := #[] }, { accessFlags := 1, nameIndex := 338, descriptorIndex := 110, attributes := #[] }] 33 43 #[278, 280, 282] #[{ accessFlags := 128, nameIndex := 7, descriptorIndex := 8, attributes := #[] }, { accessFlags := 128, nameIndex := 26, descriptorIndex := 23, attributes := #[] }, { accessFlags := 128, nameIndex := 22, descriptorIndex := 23, attributes := #[] }, { accessFlags := 26, nameIndex := 284, descriptorIndex := 23, attributes := #[] }, { accessFlags := 26, nameIndex := 286, descriptorIndex := 287, attributes := #[] }])
  fields := #[{ name := "elements", type := (.array (.object "java/lang/Object")), accessFlags := 128, slot := 0, constantValue := 0 }, { name := "head", type := .int, accessFlags := 128, slot := 1, constantValue := 0 }, { name := "tail", type := .int, accessFlags := 128, slot := 2, constantValue := 0 }, { name := "MAX_ARRAY_SIZE", type := .int, accessFlags := 26, slot := 0, constantValue := 0 }, { name := "serialVersionUID", type := .long, accessFlags := 26, slot := 1, constantValue := 0 }]
  methods := #[k13m0, k13m1, k13m2, k13m3, k13m4, k13m5, k13m6, k13m7, k13m8]
  instanceTypes := #[(.array (.object "java/lang/Object")), .int, .int]
  staticTypes := #[.int, .long]
  resolved := Array.replicate 438 none
  statics := none }

def pool14 : Array CpInfo := pool [(2, .class_ 4), (1, u "java/lang/Object"), (0, u "<init>"), (0, u "()V"), (1, .class_ 10), (1, u "java/lang/System"), (0, u "allowSecurityManager"), (0, u "I"), (16, u "cons"), (0, u "Ljava/io/Console;"), (77, .class_ 110), (1, u "java/lang/System$CallersHolder"), (43, u "initialErrStream"), (0, u "Ljava/io/PrintStream;"), (19, u "security"), (0, u "Ljava/lang/SecurityManager;"), (31, .class_ 209), (0, u "java/lang/System$1"), (7, u "props"), (0, u "Ljava/util/Properties;"), (2, u "lineSeparator"), (0, u "Ljava/lang/String;"), (96, .class_ 321), (1, u "java/lang/System$LoggerFinder"), (5, .class_ 328), (0, u "java/lang/System$Logger"), (67, u "err"), (2, u "out"), (91, u "notSupportedJnuEncoding"), (15, u "in"), (17, u "initialIn"), (0, u "Ljava/io/InputStream;"), (35, u "bootLayer"), (0, u "Ljava/lang/ModuleLayer;"), (99, .class_ 664), (0, u "java/lang/System$2"), (9, u "NEVER"), (2, u "MAYBE"), (49, u "arraycopy"), (0, u "(Ljava/lang/Object;ILjava/lang/Object;II)V"), (72, .class_ 802), (0, u "java/lang/System$Logger$Level")] 31

def k14m0 : Method := { name := "<init>", desc := "()V", sig := { parameters := [], returnType := none }, accessFlags := 2, code := none }
def k14m1 : Method := { name := "arraycopy", desc := "(Ljava/lang/Object;ILjava/lang/Object;II)V", sig := { parameters := [(.object "java/lang/Object"), .int, (.object "java/lang/Object"), .int, .int], returnType := none }, accessFlags := 265, code := none }
/-- java/lang/System -/
def k14 : Class := { plain "java/lang/System" (some 0) with
  accessFlags := 49
  interfaces := #[]
  cf := some (fileOf pool14 8 #[.nestMembers #[319, 327, 801, 108, 663, 208]] #[{ accessFlags := 2, nameIndex := 5, descriptorIndex := 6, attributes := #[] }, { accessFlags := 265, nameIndex := 727, descriptorIndex := 728, attributes := #[] }] 49 2 #[] #[{ accessFlags := 25, nameIndex := 507, descriptorIndex := 526, attributes := #[] }, { accessFlags := 25, nameIndex := 399, descriptorIndex := 155, attributes := #[] }, { accessFlags := 25, nameIndex := 396, descriptorIndex := 155, attributes := #[] }, { accessFlags := 10, nameIndex := 525, descriptorIndex := 526, attributes := #[] }, { accessFlags := 26, nameIndex := 674, descriptorIndex := 12, attributes := #[] }, { accessFlags := 26, nameIndex := 677, descriptorIndex := 12, attributes := #[] }, { accessFlags := 10, nameIndex := 11, descriptorIndex := 12, attributes := #[] }, { accessFlags := 74, nameIndex := 175, descriptorIndex := 176, attributes := #[] }, { accessFlags := 10, nameIndex := 491, descriptorIndex := 222, attributes := #[] }, { accessFlags := 74, nameIndex := 29, descriptorIndex := 30, attributes := #[] }, { accessFlags := 74, nameIndex := 154, descriptorIndex := 155, attributes := #[] }, { accessFlags := 10, nameIndex := 217, descriptorIndex := 218, attributes := #[] }, { accessFlags := 10, nameIndex := 221, descriptorIndex := 222, attributes := #[] }, { accessFlags := 8, nameIndex := 562, descriptorIndex := 563, attributes := #[] }])
  fields := #[{ name := "in", type := (.object "java/io/InputStream"), accessFlags := 25, slot := 0, constantValue := 0 }, { name := "out", type := (.object "java/io/PrintStream"), accessFlags := 25, slot := 1, constantValue := 0 }, { name := "err", type := (.object "java/io/PrintStream"), accessFlags := 25, slot := 2, constantValue := 0 }, { name := "initialIn", type := (.object "java/io/InputStream"), accessFlags := 10, slot := 3, constantValue := 0 }, { name := "NEVER", type := .int, accessFlags := 26, slot := 4, constantValue := 0 }, { name := "MAYBE", type := .int, accessFlags := 26, slot := 5, constantValue := 0 }, { name := "allowSecurityManager", type := .int, accessFlags := 10, slot := 6, constantValue := 0 }, { name := "security", type := (.object "java/lang/SecurityManager"), accessFlags := 74, slot := 7, constantValue := 0 }, { name := "notSupportedJnuEncoding", type := (.object "java/lang/String"), accessFlags := 10, slot := 8, constantValue := 0 }, { name := "cons", type := (.object "java/io/Console"), accessFlags := 74, slot := 9, constantValue := 0 }, { name := "initialErrStream", type := (.object "java/io/PrintStream"), accessFlags := 74, slot := 10, constantValue := 0 }, { name := "props", type := (.object "java/util/Properties"), accessFlags := 10, slot := 11, constantValue := 0 }, { name := "lineSeparator", type := (.object "java/lang/String"), accessFlags := 10, slot := 12, constantValue := 0 }, { name := "bootLayer", type := (.object "java/lang/ModuleLayer"), accessFlags := 8, slot := 13, constantValue := 0 }]
  methods := #[k14m0, k14m1]
  instanceTypes := #[]
  staticTypes := #[(.object "java/io/InputStream"), (.object "java/io/PrintStream"), (.object "java/io/PrintStream"), (.object "java/io/InputStream"), .int, .int, .int, (.object "java/lang/SecurityManager"), (.object "java/lang/String"), (.object "java/io/Console"), (.object "java/io/PrintStream"), (.object "java/util/Properties"), (.object "java/lang/String"), (.object "java/lang/ModuleLayer")]
  resolved := Array.replicate 834 none
  statics := none }

def pool15 : Array CpInfo := pool [(1, .class_ 2), (0, u "java/lang/constant/Constable"), (0, .class_ 4), (0, u "java/lang/Object")] 6

/-- java/lang/constant/Constable -/
def k15 : Class := { plain "java/lang/constant/Constable" (some 0) with
  accessFlags := 1537
  interfaces := #[]
  cf := some (fileOf pool15 1 #[] #[] 1537 3 #[] #[])
  fields := #[]
  methods := #[]
  instanceTypes := #[]
  staticTypes := #[]
  resolved := Array.replicate 11 none
  statics := none }

def pool16 : Array CpInfo := pool [(1, .class_ 2), (0, u "java/lang/Comparable"), (0, .class_ 4), (0, u "java/lang/Object")] 7

/-- java/lang/Comparable -/
def k16 : Class := { plain "java/lang/Comparable" (some 0) with
  accessFlags := 1537
  interfaces := #[]
  cf := some (fileOf pool16 1 #[] #[] 1537 3 #[] #[])
  fields := #[]
  methods := #[]
  instanceTypes := #[]
  staticTypes := #[]
  resolved := Array.replicate 12 none
  statics := none }

def pool17 : Array CpInfo := pool [(2, .class_ 4), (1, u "java/lang/Enum"), (0, u "name"), (0, u "Ljava/lang/String;"), (2, u "ordinal"), (0, u "I"), (1, .class_ 14), (1, u "java/lang/Object"), (4, u "hash"), (86, .class_ 108), (1, u "java/lang/Enum$EnumDesc"), (2, .class_ 112), (0, u "java/lang/constant/Constable"), (0, .class_ 114), (0, u "java/lang/Comparable"), (0, .class_ 116), (0, u "java/io/Serializable")] 87

/-- java/lang/Enum -/
def k17 : Class := { plain "java/lang/Enum" (some 0) with
  accessFlags := 1057
  interfaces := #[15, 16, 12]
  cf := some (fileOf pool17 2 #[.nestMembers #[106]] #[] 1057 12 #[111, 113, 115] #[{ accessFlags := 18, nameIndex := 5, descriptorIndex := 6, attributes := #[] }, { accessFlags := 18, nameIndex := 9, descriptorIndex := 10, attributes := #[] }, { accessFlags := 2, nameIndex := 19, descriptorIndex := 10, attributes := #[] }])
  fields := #[{ name := "name", type := (.object "java/lang/String"), accessFlags := 18, slot := 0, constantValue := 0 }, { name := "ordinal", type := .int, accessFlags := 18, slot := 1, constantValue := 0 }, { name := "hash", type := .int, accessFlags := 2, slot := 2, constantValue := 0 }]
  methods := #[]
  instanceTypes := #[(.object "java/lang/String"), .int, .int]
  staticTypes := #[]
  resolved := Array.replicate 204 none
  statics := none }

def pool18 : Array CpInfo := pool [(1, .class_ 2), (0, u "com/example/admit1/admit1/lock/LockMode"), (2, u "NL"), (0, u "Lcom/example/admit1/admit1/lock/LockMode;"), (2, u "SS"), (2, u "SX"), (2, u "S"), (2, u "SSX"), (2, u "X"), (2, u "$VALUES"), (0, u "[Lcom/example/admit1/admit1/lock/LockMode;"), (6, .class_ 34), (1, u "java/lang/Enum"), (8, u "number"), (0, u "I"), (2, u "COMPATIBLE"), (0, u "[[Z")] 84

/-- com/example/admit1/admit1/lock/LockMode -/
def k18 : Class := { plain "com/example/admit1/admit1/lock/LockMode" (some 17) with
  accessFlags := 16433
  interfaces := #[]
  cf := some (fileOf pool18 1 #[] #[] 16433 32 #[] #[{ accessFlags := 16409, nameIndex := 5, descriptorIndex := 6, attributes := #[] }, { accessFlags := 16409, nameIndex := 9, descriptorIndex := 6, attributes := #[] }, { accessFlags := 16409, nameIndex := 12, descriptorIndex := 6, attributes := #[] }, { accessFlags := 16409, nameIndex := 15, descriptorIndex := 6, attributes := #[] }, { accessFlags := 16409, nameIndex := 18, descriptorIndex := 6, attributes := #[] }, { accessFlags := 16409, nameIndex := 21, descriptorIndex := 6, attributes := #[] }, { accessFlags := 26, nameIndex := 47, descriptorIndex := 48, attributes := #[] }, { accessFlags := 18, nameIndex := 43, descriptorIndex := 44, attributes := #[] }, { accessFlags := 4122, nameIndex := 24, descriptorIndex := 25, attributes := #[] }])
  fields := #[{ name := "NL", type := (.object "com/example/admit1/admit1/lock/LockMode"), accessFlags := 16409, slot := 0, constantValue := 0 }, { name := "SS", type := (.object "com/example/admit1/admit1/lock/LockMode"), accessFlags := 16409, slot := 1, constantValue := 0 }, { name := "SX", type := (.object "com/example/admit1/admit1/lock/LockMode"), accessFlags := 16409, slot := 2, constantValue := 0 }, { name := "S", type := (.object "com/example/admit1/admit1/lock/LockMode"), accessFlags := 16409, slot := 3, constantValue := 0 }, { name := "SSX", type := (.object "com/example/admit1/admit1/lock/LockMode"), accessFlags := 16409, slot := 4, constantValue := 0 }, { name := "X", type := (.object "com/example/admit1/admit1/lock/LockMode"), accessFlags := 16409, slot := 5, constantValue := 0 }, { name := "COMPATIBLE", type := (.array (.array .boolean)), accessFlags := 26, slot := 6, constantValue := 0 }, { name := "number", type := .int, accessFlags := 18, slot := 3, constantValue := 0 }, { name := "$VALUES", type := (.array (.object "com/example/admit1/admit1/lock/LockMode")), accessFlags := 4122, slot := 7, constantValue := 0 }]
  methods := #[]
  instanceTypes := #[(.object "java/lang/String"), .int, .int, .int]
  staticTypes := #[(.object "com/example/admit1/admit1/lock/LockMode"), (.object "com/example/admit1/admit1/lock/LockMode"), (.object "com/example/admit1/admit1/lock/LockMode"), (.object "com/example/admit1/admit1/lock/LockMode"), (.object "com/example/admit1/admit1/lock/LockMode"), (.object "com/example/admit1/admit1/lock/LockMode"), (.array (.array .boolean)), (.array (.object "com/example/admit1/admit1/lock/LockMode"))]
  resolved := Array.replicate 133 none
  statics := none }

/-- the primitive byte -/
def k19 : Class := { plain "byte" none with kind := .primitive 'B', accessFlags := 0x411 }
/-- [B -/
def k20 : Class := { plain "[B" (some 0) with kind := .array 19 .byte, interfaces := #[11, 12], accessFlags := 1041 }

/-- the primitive int -/
def k21 : Class := { plain "int" none with kind := .primitive 'I', accessFlags := 0x411 }
/-- [I -/
def k22 : Class := { plain "[I" (some 0) with kind := .array 21 .int, interfaces := #[11, 12], accessFlags := 1041 }

/-- [Lcom/example/admit1/admit1/lock/LockMode; -/
def k23 : Class := { plain "[Lcom/example/admit1/admit1/lock/LockMode;" (some 0) with kind := .array 18 (.object "com/example/admit1/admit1/lock/LockMode"), interfaces := #[11, 12], accessFlags := 1041 }

/-- [Ljava/lang/Object; -/
def k24 : Class := { plain "[Ljava/lang/Object;" (some 0) with kind := .array 0 (.object "java/lang/Object"), interfaces := #[11, 12], accessFlags := 1041 }

def heap : Heap := #[{ cls := 2, slots := #[.ref 1], vm := .statics 2 },
  { cls := 23, slots := #[.null, .null, .null, .null, .null, .null], vm := .none }]
def classes : Array Class := #[k0, k1, k2, k3, k4, k5, k6, k7, k8, k9, k10, k11, k12, k13, k14, k15, k16, k17, k18, k19, k20, k21, k22, k23, k24]
def interned : List (Array UInt16 × Addr) := []
def slotsUsed : Nat := 7
def theMethod : MethodId := ⟨1, 1⟩
def args0 : Array Value := #[.long 5, .int 7]
def aboutOver (below : List Frame) : State where
  vm := { classes := classes, interned := interned.toArray }
  heap := heap
  slotsUsed := slotsUsed
  threads := #[{ frames := .invoking theMethod args0 :: below }]
def below0 : List Frame := [.native { method := ⟨0, 0⟩, args := #[] }]
def about1 : State := aboutOver below0
def p0 : Program := .bare "" "" ""
def e0 : Env := launch0.env 0 0 0
theorem w_frames : about1.frames = Frame.invoking theMethod args0 :: below0 := rfl
set_option maxRecDepth 65536 in
theorem w_args : argsFit about1.vm theMethod args0 = true := by decide +kernel
set_option maxRecDepth 65536 in
theorem w_heap : heapFits about1 = true := by decide +kernel
set_option maxRecDepth 65536 in
theorem w_runnable : about1.curStatus? = some .runnable := by decide +kernel
set_option maxRecDepth 65536 in
theorem w_alone : about1.alone = true := by decide +kernel
set_option maxRecDepth 65536 in
theorem w_named : about1.methodNamed? x = some theMethod := by decide +kernel
set_option maxRecDepth 65536 in
theorem w_hears : about1.hears theMethod below0 = true := by decide +kernel
set_option maxRecDepth 65536 in
theorem w_ripe : about1.ripe theMethod args0 below0 = true := by decide +kernel
theorem w_running : about1.status = .running := rfl
set_option maxRecDepth 65536 in
theorem w_room : about1.hasRoom e0.platform room_1 = true :=
  launch0.hasRoom_least _ room_1 (by decide +kernel) (by decide +kernel) (by decide +kernel) (by decide +kernel) (by decide +kernel) (by decide +kernel)
theorem allAtoms_all (ts : List Jvm.Cond) (a : Array Jvm.Value) (st : Jvm.State) : (allAtoms ts).before a st = ts.all (fun c => c.before a st) := by
  induction ts with
  | nil => rfl
  | cons c t ih =>
    show (Jvm.Cond.and c (allAtoms t)).before a st = _
    rw [Jvm.Cond.before_and, ih, List.all_cons]
def words1 : List Jvm.Cond := Jvm.Cond.code x code maxLocals ret :: tables_1
/-- a 'code' word, met by the world's own term for the bytes: nothing is compared byte by byte -/
theorem code_word {y : MethodName} {bytes : ByteArray} {mx : Nat} {rt : Option FieldType} {a : Array Value} {s : State} {m : MethodId} {meth : Method} {c : Code} (h1 : s.methodNamed? y = some m) (h2 : s.vm.method? m = some meth) (h3 : meth.code = some c) (h4 : c.code = bytes)
    (h5 : (c.maxLocals == mx && c.exceptionTable.isEmpty && decide (c.maxStack ≤ mostOperands) && decide (meth.sig.returnType = rt) && !meth.locks && decide (parseMethodDescriptor y.desc = some meth.sig)) = true) : (Jvm.Cond.code y bytes mx rt).before a s = true := by
  simp only [Bool.and_eq_true, beq_iff_eq, Bool.not_eq_true', decide_eq_true_eq] at h5
  obtain ⟨⟨⟨⟨⟨g1, g2⟩, g3⟩, g4⟩, g5⟩, g6⟩ := h5
  simp [Cond.before, Cond.holds, Cond.value, h1, h2, h3, h4, g1, g2, g3, g4, g5, g6]
def isCode : Jvm.Cond → Bool
  | .code _ _ _ _ => true
  | _ => false
theorem all_split {L : List Jvm.Cond} {P : Jvm.Cond → Bool} (h1 : L.all (fun c => isCode c || P c) = true) (h2 : ∀ c ∈ L.filter isCode, P c = true) : L.all P = true := by
  refine List.all_eq_true.mpr fun c hc => ?_
  have h := List.all_eq_true.mp h1 c hc
  rcases Bool.eq_false_or_eq_true (isCode c) with hi | hi
  · exact h2 c (List.mem_filter.mpr ⟨hc, hi⟩)
  · simpa [hi] using h
set_option maxRecDepth 65536 in
theorem w_c0 : (Jvm.Cond.code x code maxLocals ret).before args0 about1 = true := code_word (m := ⟨1, 1⟩) (meth := k1m1) (c := k1c1) (by decide +kernel) rfl rfl rfl (by decide +kernel)
set_option maxRecDepth 65536 in
theorem w_c1 : (Jvm.Cond.code ({ cls := "com/example/admit1/admit1/lock/LockEntry", name := "<init>", desc := "(J)V" } : Jvm.MethodName) prog_11_method_1_code (3 : Nat) (Option.none : Option Jvm.ClassFile.FieldType)).before args0 about1 = true := code_word (m := ⟨2, 0⟩) (meth := k2m0) (c := k2c0) (by decide +kernel) rfl rfl rfl (by decide +kernel)
set_option maxRecDepth 65536 in
theorem w_c2 : (Jvm.Cond.code ({ cls := "java/lang/Object", name := "<init>", desc := "()V" } : Jvm.MethodName) object_method_1_code (1 : Nat) (Option.none : Option Jvm.ClassFile.FieldType)).before args0 about1 = true := code_word (m := ⟨0, 0⟩) (meth := k0m0) (c := k0c0) (by decide +kernel) rfl rfl rfl (by decide +kernel)
set_option maxRecDepth 65536 in
theorem w_c3 : (Jvm.Cond.code ({ cls := "com/example/admit1/admit1/lock/Wait", name := "<init>", desc := "(Lcom/example/admit1/admit1/lock/LockSession;Lcom/example/admit1/admit1/lock/LockEntry;Lcom/example/admit1/admit1/lock/LockMode;ZZJJJ)V" } : Jvm.MethodName) prog_21_method_1_code (12 : Nat) (Option.none : Option Jvm.ClassFile.FieldType)).before args0 about1 = true := code_word (m := ⟨3, 0⟩) (meth := k3m0) (c := k3c0) (by decide +kernel) rfl rfl rfl (by decide +kernel)
set_option maxRecDepth 65536 in
theorem w_c4 : (Jvm.Cond.code ({ cls := "com/example/admit1/admit1/lock/LockEntry", name := "hasWaiting", desc := "()Z" } : Jvm.MethodName) prog_11_method_12_code (1 : Nat) (Option.some Jvm.ClassFile.FieldType.boolean)).before args0 about1 = true := code_word (m := ⟨2, 3⟩) (meth := k2m3) (c := k2c3) (by decide +kernel) rfl rfl rfl (by decide +kernel)
set_option maxRecDepth 65536 in
theorem w_c5 : (Jvm.Cond.code ({ cls := "com/example/admit1/admit1/lock/LockEntry", name := "enqueue", desc := "(Lcom/example/admit1/admit1/lock/Wait;)V" } : Jvm.MethodName) prog_11_method_10_code (2 : Nat) (Option.none : Option Jvm.ClassFile.FieldType)).before args0 about1 = true := code_word (m := ⟨2, 1⟩) (meth := k2m1) (c := k2c1) (by decide +kernel) rfl rfl rfl (by decide +kernel)
set_option maxRecDepth 65536 in
theorem w_c6 : (Jvm.Cond.code ({ cls := "com/example/admit1/admit1/lock/LockEntry$Queues", name := "<init>", desc := "()V" } : Jvm.MethodName) prog_12_method_1_code (1 : Nat) (Option.none : Option Jvm.ClassFile.FieldType)).before args0 about1 = true := code_word (m := ⟨4, 0⟩) (meth := k4m0) (c := k4c0) (by decide +kernel) rfl rfl rfl (by decide +kernel)
set_option maxRecDepth 65536 in
theorem w_c7 : (Jvm.Cond.code ({ cls := "java/util/ArrayDeque", name := "<init>", desc := "()V" } : Jvm.MethodName) jdk_21_method_3_code (1 : Nat) (Option.none : Option Jvm.ClassFile.FieldType)).before args0 about1 = true := code_word (m := ⟨13, 0⟩) (meth := k13m0) (c := k13c0) (by decide +kernel) rfl rfl rfl (by decide +kernel)
set_option maxRecDepth 65536 in
theorem w_c8 : (Jvm.Cond.code ({ cls := "java/util/AbstractCollection", name := "<init>", desc := "()V" } : Jvm.MethodName) jdk_22_method_1_code (1 : Nat) (Option.none : Option Jvm.ClassFile.FieldType)).before args0 about1 = true := code_word (m := ⟨7, 0⟩) (meth := k7m0) (c := k7c0) (by decide +kernel) rfl rfl rfl (by decide +kernel)
set_option maxRecDepth 65536 in
theorem w_c9 : (Jvm.Cond.code ({ cls := "com/example/admit1/admit1/lock/LockEntry$Queues", name := "of", desc := "(Lcom/example/admit1/admit1/lock/Wait;)Ljava/util/ArrayDeque;" } : Jvm.MethodName) prog_12_method_2_code (2 : Nat) (Option.some (Jvm.ClassFile.FieldType.object "java/util/ArrayDeque"))).before args0 about1 = true := code_word (m := ⟨4, 1⟩) (meth := k4m1) (c := k4c1) (by decide +kernel) rfl rfl rfl (by decide +kernel)
set_option maxRecDepth 65536 in
theorem w_c10 : (Jvm.Cond.code ({ cls := "java/util/ArrayDeque", name := "addLast", desc := "(Ljava/lang/Object;)V" } : Jvm.MethodName) jdk_21_method_13_code (3 : Nat) (Option.none : Option Jvm.ClassFile.FieldType)).before args0 about1 = true := code_word (m := ⟨13, 4⟩) (meth := k13m4) (c := k13c4) (by decide +kernel) rfl rfl rfl (by decide +kernel)
set_option maxRecDepth 65536 in
theorem w_c11 : (Jvm.Cond.code ({ cls := "java/util/ArrayDeque", name := "inc", desc := "(II)I" } : Jvm.MethodName) jdk_21_method_6_code (2 : Nat) (Option.some Jvm.ClassFile.FieldType.int)).before args0 about1 = true := code_word (m := ⟨13, 1⟩) (meth := k13m1) (c := k13c1) (by decide +kernel) rfl rfl rfl (by decide +kernel)
set_option maxRecDepth 65536 in
theorem w_c12 : (Jvm.Cond.code ({ cls := "com/example/admit1/admit1/lock/LockEntry", name := "dequeue", desc := "(Lcom/example/admit1/admit1/lock/Wait;)V" } : Jvm.MethodName) prog_11_method_11_code (2 : Nat) (Option.none : Option Jvm.ClassFile.FieldType)).before args0 about1 = true := code_word (m := ⟨2, 2⟩) (meth := k2m2) (c := k2c2) (by decide +kernel) rfl rfl rfl (by decide +kernel)
set_option maxRecDepth 65536 in
theorem w_c13 : (Jvm.Cond.code ({ cls := "java/util/ArrayDeque", name := "remove", desc := "(Ljava/lang/Object;)Z" } : Jvm.MethodName) jdk_21_method_52_code (2 : Nat) (Option.some Jvm.ClassFile.FieldType.boolean)).before args0 about1 = true := code_word (m := ⟨13, 8⟩) (meth := k13m8) (c := k13c8) (by decide +kernel) rfl rfl rfl (by decide +kernel)
set_option maxRecDepth 65536 in
theorem w_c14 : (Jvm.Cond.code ({ cls := "java/util/ArrayDeque", name := "removeFirstOccurrence", desc := "(Ljava/lang/Object;)Z" } : Jvm.MethodName) jdk_21_method_26_code (6 : Nat) (Option.some Jvm.ClassFile.FieldType.boolean)).before args0 about1 = true := code_word (m := ⟨13, 5⟩) (meth := k13m5) (c := k13c5) (by decide +kernel) rfl rfl rfl (by decide +kernel)
set_option maxRecDepth 65536 in
theorem w_c15 : (Jvm.Cond.code ({ cls := "java/lang/Object", name := "equals", desc := "(Ljava/lang/Object;)Z" } : Jvm.MethodName) object_method_4_code (2 : Nat) (Option.some Jvm.ClassFile.FieldType.boolean)).before args0 about1 = true := code_word (m := ⟨0, 1⟩) (meth := k0m1) (c := k0c1) (by decide +kernel) rfl rfl rfl (by decide +kernel)
set_option maxRecDepth 65536 in
theorem w_c16 : (Jvm.Cond.code ({ cls := "java/util/ArrayDeque", name := "delete", desc := "(I)Z" } : Jvm.MethodName) jdk_21_method_36_code (8 : Nat) (Option.some Jvm.ClassFile.FieldType.boolean)).before args0 about1 = true := code_word (m := ⟨13, 6⟩) (meth := k13m6) (c := k13c6) (by decide +kernel) rfl rfl rfl (by decide +kernel)
set_option maxRecDepth 65536 in
theorem w_c17 : (Jvm.Cond.code ({ cls := "java/util/ArrayDeque", name := "sub", desc := "(III)I" } : Jvm.MethodName) jdk_21_method_9_code (3 : Nat) (Option.some Jvm.ClassFile.FieldType.int)).before args0 about1 = true := code_word (m := ⟨13, 3⟩) (meth := k13m3) (c := k13c3) (by decide +kernel) rfl rfl rfl (by decide +kernel)
set_option maxRecDepth 65536 in
theorem w_c18 : (Jvm.Cond.code ({ cls := "java/util/ArrayDeque", name := "dec", desc := "(II)I" } : Jvm.MethodName) jdk_21_method_7_code (2 : Nat) (Option.some Jvm.ClassFile.FieldType.int)).before args0 about1 = true := code_word (m := ⟨13, 2⟩) (meth := k13m2) (c := k13c2) (by decide +kernel) rfl rfl rfl (by decide +kernel)
set_option maxRecDepth 65536 in
theorem w_c19 : (Jvm.Cond.code ({ cls := "java/util/ArrayDeque", name := "isEmpty", desc := "()Z" } : Jvm.MethodName) jdk_21_method_38_code (1 : Nat) (Option.some Jvm.ClassFile.FieldType.boolean)).before args0 about1 = true := code_word (m := ⟨13, 7⟩) (meth := k13m7) (c := k13c7) (by decide +kernel) rfl rfl rfl (by decide +kernel)
def codes1 : List Jvm.Cond := [Jvm.Cond.code x code maxLocals ret, Jvm.Cond.code ({ cls := "com/example/admit1/admit1/lock/LockEntry", name := "<init>", desc := "(J)V" } : Jvm.MethodName) prog_11_method_1_code (3 : Nat) (Option.none : Option Jvm.ClassFile.FieldType), Jvm.Cond.code ({ cls := "java/lang/Object", name := "<init>", desc := "()V" } : Jvm.MethodName) object_method_1_code (1 : Nat) (Option.none : Option Jvm.ClassFile.FieldType), Jvm.Cond.code ({ cls := "com/example/admit1/admit1/lock/Wait", name := "<init>", desc := "(Lcom/example/admit1/admit1/lock/LockSession;Lcom/example/admit1/admit1/lock/LockEntry;Lcom/example/admit1/admit1/lock/LockMode;ZZJJJ)V" } : Jvm.MethodName) prog_21_method_1_code (12 : Nat) (Option.none : Option Jvm.ClassFile.FieldType), Jvm.Cond.code ({ cls := "com/example/admit1/admit1/lock/LockEntry", name := "hasWaiting", desc := "()Z" } : Jvm.MethodName) prog_11_method_12_code (1 : Nat) (Option.some Jvm.ClassFile.FieldType.boolean), Jvm.Cond.code ({ cls := "com/example/admit1/admit1/lock/LockEntry", name := "enqueue", desc := "(Lcom/example/admit1/admit1/lock/Wait;)V" } : Jvm.MethodName) prog_11_method_10_code (2 : Nat) (Option.none : Option Jvm.ClassFile.FieldType), Jvm.Cond.code ({ cls := "com/example/admit1/admit1/lock/LockEntry$Queues", name := "<init>", desc := "()V" } : Jvm.MethodName) prog_12_method_1_code (1 : Nat) (Option.none : Option Jvm.ClassFile.FieldType), Jvm.Cond.code ({ cls := "java/util/ArrayDeque", name := "<init>", desc := "()V" } : Jvm.MethodName) jdk_21_method_3_code (1 : Nat) (Option.none : Option Jvm.ClassFile.FieldType), Jvm.Cond.code ({ cls := "java/util/AbstractCollection", name := "<init>", desc := "()V" } : Jvm.MethodName) jdk_22_method_1_code (1 : Nat) (Option.none : Option Jvm.ClassFile.FieldType), Jvm.Cond.code ({ cls := "com/example/admit1/admit1/lock/LockEntry$Queues", name := "of", desc := "(Lcom/example/admit1/admit1/lock/Wait;)Ljava/util/ArrayDeque;" } : Jvm.MethodName) prog_12_method_2_code (2 : Nat) (Option.some (Jvm.ClassFile.FieldType.object "java/util/ArrayDeque")), Jvm.Cond.code ({ cls := "java/util/ArrayDeque", name := "addLast", desc := "(Ljava/lang/Object;)V" } : Jvm.MethodName) jdk_21_method_13_code (3 : Nat) (Option.none : Option Jvm.ClassFile.FieldType), Jvm.Cond.code ({ cls := "java/util/ArrayDeque", name := "inc", desc := "(II)I" } : Jvm.MethodName) jdk_21_method_6_code (2 : Nat) (Option.some Jvm.ClassFile.FieldType.int), Jvm.Cond.code ({ cls := "com/example/admit1/admit1/lock/LockEntry", name := "dequeue", desc := "(Lcom/example/admit1/admit1/lock/Wait;)V" } : Jvm.MethodName) prog_11_method_11_code (2 : Nat) (Option.none : Option Jvm.ClassFile.FieldType), Jvm.Cond.code ({ cls := "java/util/ArrayDeque", name := "remove", desc := "(Ljava/lang/Object;)Z" } : Jvm.MethodName) jdk_21_method_52_code (2 : Nat) (Option.some Jvm.ClassFile.FieldType.boolean), Jvm.Cond.code ({ cls := "java/util/ArrayDeque", name := "removeFirstOccurrence", desc := "(Ljava/lang/Object;)Z" } : Jvm.MethodName) jdk_21_method_26_code (6 : Nat) (Option.some Jvm.ClassFile.FieldType.boolean), Jvm.Cond.code ({ cls := "java/lang/Object", name := "equals", desc := "(Ljava/lang/Object;)Z" } : Jvm.MethodName) object_method_4_code (2 : Nat) (Option.some Jvm.ClassFile.FieldType.boolean), Jvm.Cond.code ({ cls := "java/util/ArrayDeque", name := "delete", desc := "(I)Z" } : Jvm.MethodName) jdk_21_method_36_code (8 : Nat) (Option.some Jvm.ClassFile.FieldType.boolean), Jvm.Cond.code ({ cls := "java/util/ArrayDeque", name := "sub", desc := "(III)I" } : Jvm.MethodName) jdk_21_method_9_code (3 : Nat) (Option.some Jvm.ClassFile.FieldType.int), Jvm.Cond.code ({ cls := "java/util/ArrayDeque", name := "dec", desc := "(II)I" } : Jvm.MethodName) jdk_21_method_7_code (2 : Nat) (Option.some Jvm.ClassFile.FieldType.int), Jvm.Cond.code ({ cls := "java/util/ArrayDeque", name := "isEmpty", desc := "()Z" } : Jvm.MethodName) jdk_21_method_38_code (1 : Nat) (Option.some Jvm.ClassFile.FieldType.boolean)]
set_option maxRecDepth 65536 in
theorem codes_eq : words1.filter isCode = codes1 := rfl
theorem w_codes : ∀ c ∈ words1.filter isCode, c.before args0 about1 = true := by
  rw [codes_eq]
  intro c hc
  simp only [codes1, List.mem_cons, List.not_mem_nil, or_false] at hc
  rcases hc with rfl | rfl | rfl | rfl | rfl | rfl | rfl | rfl | rfl | rfl | rfl | rfl | rfl | rfl | rfl | rfl | rfl | rfl | rfl | rfl
  · exact w_c0
  · exact w_c1
  · exact w_c2
  · exact w_c3
  · exact w_c4
  · exact w_c5
  · exact w_c6
  · exact w_c7
  · exact w_c8
  · exact w_c9
  · exact w_c10
  · exact w_c11
  · exact w_c12
  · exact w_c13
  · exact w_c14
  · exact w_c15
  · exact w_c16
  · exact w_c17
  · exact w_c18
  · exact w_c19
set_option maxRecDepth 65536 in
theorem w_t1 : (words1.take 24).all (fun c => isCode c || c.before args0 about1) = true := by decide +kernel
set_option maxRecDepth 65536 in
theorem w_t2 : ((words1.drop 24).take 24).all (fun c => isCode c || c.before args0 about1) = true := by decide +kernel
set_option maxRecDepth 65536 in
theorem w_t3 : (((words1.drop 24).drop 24).take 24).all (fun c => isCode c || c.before args0 about1) = true := by decide +kernel
set_option maxRecDepth 65536 in
theorem w_t4 : ((((words1.drop 24).drop 24).drop 24).take 24).all (fun c => isCode c || c.before args0 about1) = true := by decide +kernel
set_option maxRecDepth 65536 in
theorem w_t5 : (((((words1.drop 24).drop 24).drop 24).drop 24).take 24).all (fun c => isCode c || c.before args0 about1) = true := by decide +kernel
set_option maxRecDepth 65536 in
theorem w_t6 : (((((words1.drop 24).drop 24).drop 24).drop 24).drop 24).all (fun c => isCode c || c.before args0 about1) = true := by decide +kernel
theorem w_tables : (allAtoms (Jvm.Cond.code x code maxLocals ret :: tables_1)).before args0 about1 = true := by
  rw [allAtoms_all]
  show words1.all (fun c => c.before args0 about1) = true
  refine all_split ?_ w_codes
  rw [← List.take_append_drop 24 words1, List.all_append, w_t1, ← List.take_append_drop 24 (words1.drop 24), List.all_append, w_t2, ← List.take_append_drop 24 ((words1.drop 24).drop 24), List.all_append, w_t3, ← List.take_append_drop 24 (((words1.drop 24).drop 24).drop 24), List.all_append, w_t4, ← List.take_append_drop 24 ((((words1.drop 24).drop 24).drop 24).drop 24), List.all_append, w_t5, w_t6]
  rfl
set_option maxRecDepth 65536 in
theorem w_case : (Jvm.Cond.and given_1 narrow_1).before args0 about1 = true := by decide +kernel
theorem w_applies : (headSpec (Jvm.Cond.code x code maxLocals ret :: tables_1) room_1).applies x e0.platform about1 = true :=
  (Spec.applies_iff w_frames).mpr ⟨w_running, w_runnable, w_alone, w_named, w_hears, w_ripe, w_room, w_tables⟩
theorem atStart : AtStart classFile x code maxLocals ret World_1 tables_1 room_1 Calls_1 rest_1 Pre_1 launch0 p0 e0 about1 theMethod args0 below0 :=
  ⟨lists_1, trivial, launch0.admits_env _ _ _, launch0.least_env, fairChoices_fair.cas, fairChoices_fair.clock, w_frames, w_args, w_heap, w_applies, trivial, trivial, w_case⟩
end start1
theorem witness_1 : WitnessClaimed_1 := ⟨start1.p0, start1.e0, start1.about1, start1.theMethod, start1.args0, start1.below0, start1.atStart⟩
end Jvm.Pilot.@@N@@
