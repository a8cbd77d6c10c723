import JvmDerived
import JvmDerived.Pilot.@@N@@Statement
import JvmDerived.Pilot.@@N@@Code
set_option linter.unusedVariables false
set_option linter.unusedSimpArgs false
namespace Jvm.RoadKit
open Sem ClassFile Op Lib Jvm.Stand Jvm.Free Jvm.LawKit
section New
variable {p : Program} {l : Launch} {e : Env} {R : Room} {s : State} {m : MethodId} {args : Array Value} {below : List Frame} {meth : Method} {c : Code} {T : State} {locs : List Loc} {cells slots : Nat}
theorem retI (X : Stand p l e R s m args below meth c T locs cells slots) (hx : p.tables.exec = Jvm.exec) {pc : Nat} {Ls : Array Slot} {z : Int32} {rest : List Value} (hret : meth.sig.returnType = some .int) (hd : decode c.code pc = .ok (.ireturn, 1)) {fs : List Frame}
    (hl : ∀ (f : JFrame) (acts : List Action), f.method = m → f.locked = none → f.entered = [] → (doReturn e (T.setTop f) acts (some (.int z))).1 = T.setFrames fs) : Steps p.tables e below (T.setTop (mkF m pc Ls (.int z :: rest))) (T.setFrames fs) :=
  retOut X hx hret rfl (Or.inl ⟨rfl, Or.inl rfl, _, rfl⟩) hd hl
end New
end Jvm.RoadKit
namespace Jvm.Pilot.@@N@@
open Jvm Jvm.ClassFile Sem Op Lib Jvm.Free Jvm.Stand Jvm.LawKit Jvm.RoadKit Bundle Jvm.Pilot.@@N@@.Jvm.D
/-- the run goes on from A and comes to an end of which R holds -/
def own_Go (p : Program) (e : Env) (below : List Frame) (A : State) (R : State → Outcome → Prop) : Prop := ∃ s₂ o, Steps p.tables e below A s₂ ∧ s₂.status = .running ∧ Ended s₂ below o ∧ R s₂ o
theorem own_by {p : Program} {e : Env} {below : List Frame} {A B : State} {R : State → Outcome → Prop} (k : ∀ t, Steps p.tables e below B t → Steps p.tables e below A t) (h : own_Go p e below B R) : own_Go p e below A R := by
  obtain ⟨s₂, o, h1, h2⟩ := h
  exact ⟨s₂, o, k _ h1, h2⟩
theorem own_ne {x y : Nat} (h : x ≠ y) : x ≠ y := h
theorem own_cat {v : Value} (h : v.isRef = true) : v.category = 1 := by rcases ref_cases h with rfl | ⟨_, rfl⟩ <;> rfl
theorem own_Ins_keep {Z : State} {h h' : Heap} {a : Addr} {C : String} {bo : Bool} {ws : List Addr} (F : Ins Z h a C bo) (K : Keep h h' ws) : Ins Z h' a C bo := by
  obtain ⟨cell, cT, h1, h2, h3⟩ := F
  obtain ⟨c', q, r1, r2, -⟩ := K.2.2 a cell h1
  exact ⟨c', cT, q, h2, by rw [r1, r2]; exact h3⟩
theorem own_narrow_ref {t : FieldType} {v : Value} (ht : t.isReference = true) (hv : v.isRef = true) : narrow t v = v := by
  cases t <;> first | (cases ht; done) | (cases v <;> first | rfl | (cases hv; done))
theorem own_fits_ref {t : FieldType} {v : Value} (hv : v.isRef = true) (ht : t.isReference = true := by rfl) : fits t v = true := by
  cases t <;> first | (cases ht; done) | (cases v <;> first | rfl | (cases hv; done))
theorem own_eq_int {args : Array Value} {first s : State} {o : Option Outcome} {idx : List Nat} {t : Term} {n : Int32} (h : (Cond.eq t (.int n)).value args first o s idx = some true) : t.eval args first o idx s = some (.int n) := by
  simp only [Cond.value, Term.eval] at h
  cases ht : t.eval args first o idx s with
  | none => simp [ht] at h
  | some x => cases x <;> simp [ht] at h ⊢; exact h
theorem own_sta_via {s : State} {args : Array Value} {C n d n' d' : String} {v : Value} (wl : (Cond.laysStatic C n' d').before args s = true) (wi : (Cond.initializedFor C n' d').before args s = true) (w : (Cond.laysStatic C n d).before args s = true) (ev : (Term.static C n d).eval args s none [] s = some v) : Sta s s.heap C n d v := by
  have ini : (Cond.initialized C).before args s = true := by
    obtain ⟨c, k, i, f, a, cell, h1, h2, -⟩ := Cond.laysStatic_spec wl
    have q := Cond.initializedFor_spec h2 wi
    have hk := State.fieldFound?_class h2
    simp [Cond.before, Cond.holds, Cond.value, h1, hk, q]
  exact Sta.start ev (Or.inr ⟨ini, w⟩)
theorem own_static_idx {s : State} {args : Array Value} {C n d : String} {v : Value} {idx : List Nat} (h : (Term.static C n d).eval args s none [] s = some v) : (Term.static C n d).eval args s none idx s = some v := h
theorem own_len {s : State} {args : Array Value} {t : Term} {a : Addr} {c : Cell} {ty : FieldType} {n : Int32} (ht : t.eval args s none [] s = some (.ref a)) (A : Arr s s.heap a c ty) (h : (Cond.eq (.length t) (.int n)).value args s none s [] = some true) : c.slots.size < 2 ^ 31 ∧ c.slots.size.toInt32 = n := by
  have e := own_eq_int h
  have ha := A.fin (U := s) (Vm.Alike.refl _)
  by_cases q : c.slots.size < 2 ^ 31
  · rw [len_f ht ha q] at e
    exact ⟨q, by simpa using e⟩
  · simp [Term.eval, ht, ha, q] at e
theorem own_idx {s : State} {args : Array Value} {j : Int32} (nj : ¬ j < 0) : (Term.sub (.index 0) (.int 128)).eval args s none [j.toNatClampNeg] s = some (.int (j - 128)) := by
  have := idx_at (args := args) (s := s) (first := s) (o := none) nj
  simp [Term.eval] at this ⊢
  simp [this]
theorem own_box_i {s : State} {args : Array Value} {X : Term} {j : Int32} (nj : ¬ j < 0) (h : (Cond.eq X (.sub (.index 0) (.int 128))).value args s none s [j.toNatClampNeg] = some true) : X.eval args s none [j.toNatClampNeg] s = some (.int (j - 128)) := eqv_i (own_idx nj) h
theorem own_box_l {s : State} {args : Array Value} {X : Term} {j : Int32} (nj : ¬ j < 0) (h : (Cond.eq X (.op1 .i2l (.sub (.index 0) (.int 128)))).value args s none s [j.toNatClampNeg] = some true) : X.eval args s none [j.toNatClampNeg] s = some (.long (j - 128).toInt64) := eqv_l (i2l_at (own_idx nj)) h
def own_b (x : Int32) : Int32 := nar .byte (x.toInt8.toInt32)
def own_ch (x : Int32) : Int32 := (x &&& 255)
theorem fits_nar_byte2 (x : Int32) : fits .byte (.int (own_b x)) = true := fits_nar_byte _
theorem own_mask_c (x : Int32) : nar .char (x &&& 255) = x &&& 255 := i2c_mask x
theorem own_ret_char (x : Int32) : some (Value.int (nar .char (x &&& 255))) = some (.int (x &&& 255)) := by rw [own_mask_c]
theorem own_ret_ch (x : Int32) : some (Value.int (nar .char (own_ch x))) = some (.int (own_ch x)) := own_ret_char x
theorem own_fits_c (x : Int32) : fits .char (.int (x &&& 255)) = true := by rw [← own_mask_c]; exact fits_nar_char _
theorem own_mask_nat (x : Int32) : ∃ i : Fin 256, x &&& 255 = Int32.ofNat i.1 := by
  have h : (x &&& 255).toBitVec.toNat < 256 := by
    show (x.toBitVec &&& 255#32).toNat < 256
    rw [BitVec.toNat_and]
    exact Nat.lt_of_le_of_lt Nat.and_le_right (by decide)
  refine ⟨⟨_, h⟩, ?_⟩
  apply Int32.toBitVec_inj.mp
  show _ = BitVec.ofNat 32 _
  simp
theorem own_ch_all : ∀ i : Fin 256, own_ch (own_b (Int32.ofNat i.1)) = Int32.ofNat i.1 ∧ ¬ ((255 : Int32) < Int32.ofNat i.1) := by decide +kernel
theorem own_mask_hi (x : Int32) : ¬ ((255 : Int32) < x &&& 255) := by obtain ⟨i, e⟩ := own_mask_nat x; rw [e]; exact (own_ch_all i).2
theorem own_ch_mask (x : Int32) : own_ch (own_b (x &&& 255)) = x &&& 255 := by obtain ⟨i, e⟩ := own_mask_nat x; rw [e]; exact (own_ch_all i).1
theorem own_lcmp_self (q : Int64) : lcmpW q q = 0 := by simp [lcmpW]
theorem own_wS {Z : State} {a0 : Array Value} (hw : ∀ d ∈ tables_1, d.before a0 Z = true) : ∀ a ∈ Bundle.stringAtoms, a.before a0 Z = true := fun a ha => by
  simp only [Bundle.stringAtoms, List.mem_cons, List.not_mem_nil, or_false] at ha
  rcases ha with rfl | rfl | rfl | rfl | rfl | rfl | rfl
  · exact hw _ (List.mem_of_getElem? (i := 18) rfl)
  · exact hw _ (List.mem_of_getElem? (i := 17) rfl)
  · exact hw _ (List.mem_of_getElem? (i := 34) rfl)
  · exact hw _ (List.mem_of_getElem? (i := 44) rfl)
  · exact hw _ (List.mem_of_getElem? (i := 42) rfl)
  · exact hw _ (List.mem_of_getElem? (i := 52) rfl)
  · exact hw _ (List.mem_of_getElem? (i := 53) rfl)
theorem own_ib_in {p : Int32} (h1 : ¬ p < (-128 : Int32)) (h2 : ¬ (127 : Int32) < p) : ¬ (p + 128 : Int32) < 0 ∧ (p + 128 : Int32) < 256 := by
  have e := c_iadd p 128
  have b1 := Int32.toInt_lt (p + 128); have b2 := Int32.le_toInt (p + 128)
  simp only [Int32.lt_iff_toInt_lt] at *
  simp at *
  omega
theorem own_ib_val {p : Int32} (h1 : ¬ p < (-128 : Int32)) (h2 : ¬ (127 : Int32) < p) : (p + 128 - 128 : Int32) = p := by simp
theorem own_lb_rng {q : Int64} (h1 : ¬ lcmpW q (-128 : Int64) < (0 : Int32)) (h2 : ¬ (0 : Int32) < lcmpW q (127 : Int64)) : -128 ≤ q.toInt ∧ q.toInt ≤ 127 := by
  rw [lcW, lc_lt] at h1; rw [lcW, lc_gt] at h2
  simp only [Int64.lt_iff_toInt_lt] at h1 h2
  simp at h1 h2
  exact ⟨h1, h2⟩
theorem own_lb_i {q : Int64} (h1 : ¬ lcmpW q (-128 : Int64) < (0 : Int32)) (h2 : ¬ (0 : Int32) < lcmpW q (127 : Int64)) : q.toInt32.toInt = q.toInt := by
  obtain ⟨a, b⟩ := own_lb_rng h1 h2
  rw [Int64.toInt_toInt32]
  exact Int.bmod_eq_of_le (by omega) (by omega)
theorem own_lb_in {q : Int64} (h1 : ¬ lcmpW q (-128 : Int64) < (0 : Int32)) (h2 : ¬ (0 : Int32) < lcmpW q (127 : Int64)) : ¬ (q.toInt32 + 128 : Int32) < 0 ∧ (q.toInt32 + 128 : Int32) < 256 := by
  obtain ⟨a, b⟩ := own_lb_rng h1 h2
  have c := own_lb_i h1 h2
  refine own_ib_in ?_ ?_
  · rw [Int32.lt_iff_toInt_lt, c]; show ¬ q.toInt < -128; omega
  · rw [Int32.lt_iff_toInt_lt, c]; show ¬ (127 : Int) < q.toInt; omega
theorem own_lb_val {q : Int64} (h1 : ¬ lcmpW q (-128 : Int64) < (0 : Int32)) (h2 : ¬ (0 : Int32) < lcmpW q (127 : Int64)) : (q.toInt32 + 128 - 128 : Int32).toInt64 = q := by
  have c := own_lb_i h1 h2
  have e : (q.toInt32 + 128 - 128 : Int32) = q.toInt32 := by simp
  rw [e]
  apply Int64.toInt_inj.mp
  rw [Int32.toInt_toInt64, c]
theorem own_pn_java_lang_Number : plainName "java/lang/Number" = true := by first | (simp [plainName, overriddenIn]; done) | decide +kernel
theorem own_pn_java_lang_Integer : plainName "java/lang/Integer" = true := by first | (simp [plainName, overriddenIn]; done) | decide +kernel
theorem own_pn_java_lang_Long : plainName "java/lang/Long" = true := by first | (simp [plainName, overriddenIn]; done) | decide +kernel
theorem own_pn_java_util_Objects : plainName "java/util/Objects" = true := by first | (simp [plainName, overriddenIn]; done) | decide +kernel
theorem own_pn_com_example_commit_to_chain_committochain_core_ChainAnswer : plainName "com/example/commit_to_chain/committochain/core/ChainAnswer" = true := by first | (simp [plainName, overriddenIn]; done) | decide +kernel
theorem own_pn_java_lang_StringUTF16 : plainName "java/lang/StringUTF16" = true := by first | (simp [plainName, overriddenIn]; done) | decide +kernel
theorem own_pn_java_lang_String : plainName "java/lang/String" = true := by first | (simp [plainName, overriddenIn]; done) | decide +kernel
theorem own_pn_jdk_internal_util_Preconditions : plainName "jdk/internal/util/Preconditions" = true := by first | (simp [plainName, overriddenIn]; done) | decide +kernel
theorem own_pn_java_lang_StringLatin1 : plainName "java/lang/StringLatin1" = true := by first | (simp [plainName, overriddenIn]; done) | decide +kernel
theorem own_pn_com_example_commit_to_chain_committochain_core_ChainAnswerOfPinLaw : plainName "com/example/commit_to_chain/committochain/core/ChainAnswerOfPinLaw" = true := by first | (simp [plainName, overriddenIn]; done) | decide +kernel
theorem own_pd__28_29V : parseMethodDescriptor "()V" = some ⟨[], none⟩ := by decide +kernel
theorem own_pd__28I_29V : parseMethodDescriptor "(I)V" = some ⟨[.int], none⟩ := by decide +kernel
theorem own_pd__28J_29V : parseMethodDescriptor "(J)V" = some ⟨[.long], none⟩ := by decide +kernel
theorem own_pd__28Ljava_2flang_2fObject_3bLjava_2flang_2fString_3b_29Ljava_2flang_2fObject_3b : parseMethodDescriptor "(Ljava/lang/Object;Ljava/lang/String;)Ljava/lang/Object;" = some ⟨[(.object "java/lang/Object"), (.object "java/lang/String")], some (.object "java/lang/Object")⟩ := by decide +kernel
theorem own_pd__28Ljava_2flang_2fObject_3bLcom_2fexample_2fcommit_to_chain_2fcommittochain_2fcore_2fChainException_3b_29V : parseMethodDescriptor "(Ljava/lang/Object;Lcom/example/commit_to_chain/committochain/core/ChainException;)V" = some ⟨[(.object "java/lang/Object"), (.object "com/example/commit_to_chain/committochain/core/ChainException")], none⟩ := by decide +kernel
theorem own_pd__28_5bCI_5bBII_29I : parseMethodDescriptor "([CI[BII)I" = some ⟨[(.array .char), .int, (.array .byte), .int, .int], some .int⟩ := by decide +kernel
theorem own_pd__28_5bCII_29_5bB : parseMethodDescriptor "([CII)[B" = some ⟨[(.array .char), .int, .int], some (.array .byte)⟩ := by decide +kernel
theorem own_pd__28_5bBI_29B : parseMethodDescriptor "([BI)B" = some ⟨[(.array .byte), .int], some .byte⟩ := by decide +kernel
theorem own_pd__28_5bCIILjava_2flang_2fVoid_3b_29V : parseMethodDescriptor "([CIILjava/lang/Void;)V" = some ⟨[(.array .char), .int, .int, (.object "java/lang/Void")], none⟩ := by decide +kernel
theorem own_pd__28_29B : parseMethodDescriptor "()B" = some ⟨[], some .byte⟩ := by decide +kernel
theorem own_pd__28IILjava_2futil_2ffunction_2fBiFunction_3b_29I : parseMethodDescriptor "(IILjava/util/function/BiFunction;)I" = some ⟨[.int, .int, (.object "java/util/function/BiFunction")], some .int⟩ := by decide +kernel
theorem own_pd__28II_29V : parseMethodDescriptor "(II)V" = some ⟨[.int, .int], none⟩ := by decide +kernel
theorem own_pd__28_29Z : parseMethodDescriptor "()Z" = some ⟨[], some .boolean⟩ := by decide +kernel
theorem own_pd__28_5bBI_29C : parseMethodDescriptor "([BI)C" = some ⟨[(.array .byte), .int], some .char⟩ := by decide +kernel
theorem own_pd__28I_29Ljava_2flang_2fInteger_3b : parseMethodDescriptor "(I)Ljava/lang/Integer;" = some ⟨[.int], some (.object "java/lang/Integer")⟩ := by decide +kernel
theorem own_pd__28J_29Ljava_2flang_2fLong_3b : parseMethodDescriptor "(J)Ljava/lang/Long;" = some ⟨[.long], some (.object "java/lang/Long")⟩ := by decide +kernel
theorem own_pd__28_5bC_29V : parseMethodDescriptor "([C)V" = some ⟨[(.array .char)], none⟩ := by decide +kernel
theorem own_pd__28Ljava_2flang_2fObject_3b_29Lcom_2fexample_2fcommit_to_chain_2fcommittochain_2fcore_2fChainAnswer_3b : parseMethodDescriptor "(Ljava/lang/Object;)Lcom/example/commit_to_chain/committochain/core/ChainAnswer;" = some ⟨[(.object "java/lang/Object")], some (.object "com/example/commit_to_chain/committochain/core/ChainAnswer")⟩ := by decide +kernel
theorem own_pd__28_29Ljava_2flang_2fObject_3b : parseMethodDescriptor "()Ljava/lang/Object;" = some ⟨[], some (.object "java/lang/Object")⟩ := by decide +kernel
theorem own_pd__28_29I : parseMethodDescriptor "()I" = some ⟨[], some .int⟩ := by decide +kernel
theorem own_pd__28_29J : parseMethodDescriptor "()J" = some ⟨[], some .long⟩ := by decide +kernel
theorem own_pd__28I_29C : parseMethodDescriptor "(I)C" = some ⟨[.int], some .char⟩ := by decide +kernel
theorem d_rm_num_0 : decode jdk_18_method_1_code 0 = .ok (.aload_n 0, 1) := by decide +kernel
theorem d_rm_num_1 : decode jdk_18_method_1_code 1 = .ok (.invokespecial 1, 3) := by decide +kernel
theorem d_rm_num_4 : decode jdk_18_method_1_code 4 = .ok (.return_, 1) := by decide +kernel
def Q_rm_num (Z : State) (t1 : Addr) (h0 : Heap) (n0 : Nat) (v : Option Value) (h : Heap) (L : List Loc) : Prop := v = none ∧ Fr n0 L ∧ h = h0
theorem ef_rm_num (m : MethodId) (t1 : Addr) : entryFrame m #[(.ref t1)] 1 = mkF m 0 #[.val (.ref t1)] [] := by first | (simp [entryFrame, mkF, argsToLocals, Value.category]; done) | rfl
set_option maxRecDepth 65536 in
set_option maxHeartbeats 40000000 in
theorem rm_num (l : Launch) (Z : State) (a0 : Array Value) (hw : ∀ d ∈ tables_1, d.before a0 Z = true) (ws : List Jvm.Cond) (t1 : Addr) (h0 : Heap) (n0 : Nat) (O0 : Old Z n0 h0) :
    MetFree l (⟨"java/lang/Number", "<init>", "()V"⟩ : MethodName) (head1 (Jvm.Cond.code (⟨"java/lang/Number", "<init>", "()V"⟩ : MethodName) jdk_18_method_1_code 1 none :: ws) ({ frames := 1, cells := 0, slots := 0, locals := 12 } : Room)) (fun a U => a = #[(.ref t1)] ∧ Z.Warmed39 U.vm ∧ U.heap = h0) (fun _ _ _ _ _ => True) (fun _ U o U' => ∃ v L, o = .returned v ∧ Q_rm_num Z t1 h0 n0 v U'.heap L ∧ FrameEnd U o U' L ({ frames := 1, cells := 0, slots := 0, locals := 12 } : Room).cells ({ frames := 1, cells := 0, slots := 0, locals := 12 } : Room).slots) := by
  refine MetFree.of_bodySF (plainFor_of_name own_pn_java_lang_Number) hisR ?_
  intro p e s m args below meth c s₁ Bd hml0 hP hK
  obtain ⟨rfl, hZ, hh⟩ := hP
  have hx := Bd.exec
  have hby := Bd.bytes
  have hml : c.maxLocals = 1 := hml0
  have hown : s.vm.findClass "java/lang/Number" = some m.cls := findClass_of_methodNamed Bd.named
  have hnm := (name_of_methodNamed Bd.named Bd.method).1
  have X0 : Stand p l e ({ frames := 1, cells := 0, slots := 0, locals := 12 } : Room) s m #[(.ref t1)] below meth c s₁ [] 0 0 := Stand.of_body Bd
  have e0 : s₁.heap = h0 := by rw [← hh, Bd.state]; rfl
  have N0 := Fr.nil n0
  have Z0 : n0 ≤ h0.size := by rw [← O0.1]; exact O0.2.1
  show own_Go p e below (s₁.setTop (entryFrame m #[(.ref t1)] 1)) (fun t o => ∃ v L, o = .returned v ∧ Q_rm_num Z t1 h0 n0 v t.heap L ∧ FrameEnd s o t L ({ frames := 1, cells := 0, slots := 0, locals := 12 } : Room).cells ({ frames := 1, cells := 0, slots := 0, locals := 12 } : Room).slots)
  rw [ef_rm_num m t1]
  refine own_by (fun _ k => XS.aloadN X0.here hx rfl (hb hby d_rm_num_0) rfl rfl k) ?_
  show own_Go p e below (s₁.setTop (mkF m 1 #[.val (.ref t1)] [(.ref t1)])) _
  obtain ⟨T1, X1, e1, st1⟩ := initO X0 hx hZ hown (hw _ (List.mem_of_getElem? (i := 132) rfl)) (hw _ (List.mem_of_getElem? (i := 27) rfl)) (hw _ (List.mem_of_getElem? (i := 28) rfl)) e0 (g := (mkF m 1 #[.val (.ref t1)] [(.ref t1)])) rfl (by rw [hml]; rfl) rfl (hb hby d_rm_num_1) (by decide) (W := 0) (by show 2 * 0 + _ ≤ _; exact Nat.le_of_eq rfl) (by decide)
  refine own_by st1 ?_
  show own_Go p e below (T1.setTop (mkF m 4 #[.val (.ref t1)] [])) _
  obtain ⟨fs, hr, hrun, hended, hW, hsame⟩ := X1.leave (v := none) (fun h => rfl)
  refine ⟨_, _, X1.returnOut hx Bd.returns (hb hby d_rm_num_4) hr, hrun, hended, _, _, rfl, ?_, ⟨_, rfl⟩, hW, hsame.mono (by decide) (by decide)⟩
  show Q_rm_num Z t1 h0 n0 _ T1.heap _
  rw [e1]
  exact ⟨rfl, N0, rfl⟩
theorem d_rm_iinit_0 : decode jdk_33_method_23_code 0 = .ok (.aload_n 0, 1) := by decide +kernel
theorem d_rm_iinit_1 : decode jdk_33_method_23_code 1 = .ok (.invokespecial 202, 3) := by decide +kernel
theorem d_rm_iinit_4 : decode jdk_33_method_23_code 4 = .ok (.aload_n 0, 1) := by decide +kernel
theorem d_rm_iinit_5 : decode jdk_33_method_23_code 5 = .ok (.iload_n 1, 1) := by decide +kernel
theorem d_rm_iinit_6 : decode jdk_33_method_23_code 6 = .ok (.putfield 205, 3) := by decide +kernel
theorem d_rm_iinit_9 : decode jdk_33_method_23_code 9 = .ok (.return_, 1) := by decide +kernel
def Q_rm_iinit (Z : State) (t1 : Addr) (p1 : Int32) (h0 : Heap) (n0 : Nat) (v : Option Value) (h : Heap) (L : List Loc) : Prop := v = none ∧ Fr n0 L ∧ Keep h0 h [t1] ∧ Exa Z h t1 "java/lang/Integer" ∧ Fld Z h t1 "java/lang/Integer" "value" "I" (.int p1)
theorem ef_rm_iinit (m : MethodId) (t1 : Addr) (p1 : Int32) : entryFrame m #[(.ref t1), (.int p1)] 2 = mkF m 0 #[.val (.ref t1), .val (.int p1)] [] := by first | (simp [entryFrame, mkF, argsToLocals, Value.category]; done) | rfl
set_option maxRecDepth 65536 in
set_option maxHeartbeats 40000000 in
theorem rm_iinit (l : Launch) (Z : State) (a0 : Array Value) (hw : ∀ d ∈ tables_1, d.before a0 Z = true) (ws : List Jvm.Cond) (t1 : Addr) (p1 : Int32) (h0 : Heap) (n0 : Nat) (O0 : Old Z n0 h0) (Et : Exa Z h0 t1 "java/lang/Integer") (Ft : Fld Z h0 t1 "java/lang/Integer" "value" "I" (.int (0 : Int32))) (gt : n0 ≤ t1) :
    MetFree l (⟨"java/lang/Integer", "<init>", "(I)V"⟩ : MethodName) (head1 (Jvm.Cond.code (⟨"java/lang/Integer", "<init>", "(I)V"⟩ : MethodName) jdk_33_method_23_code 2 none :: ws) ({ frames := 2, cells := 0, slots := 0, locals := 24 } : Room)) (fun a U => a = #[(.ref t1), (.int p1)] ∧ Z.Warmed39 U.vm ∧ U.heap = h0) (fun _ _ _ _ _ => True) (fun _ U o U' => ∃ v L, o = .returned v ∧ Q_rm_iinit Z t1 p1 h0 n0 v U'.heap L ∧ FrameEnd U o U' L ({ frames := 2, cells := 0, slots := 0, locals := 24 } : Room).cells ({ frames := 2, cells := 0, slots := 0, locals := 24 } : Room).slots) := by
  refine MetFree.of_bodySF (plainFor_of_name own_pn_java_lang_Integer) hisR ?_
  intro p e s m args below meth c s₁ Bd hml0 hP hK
  obtain ⟨rfl, hZ, hh⟩ := hP
  have hx := Bd.exec
  have hby := Bd.bytes
  have hml : c.maxLocals = 2 := hml0
  have hown : s.vm.findClass "java/lang/Integer" = some m.cls := findClass_of_methodNamed Bd.named
  have hnm := (name_of_methodNamed Bd.named Bd.method).1
  have X0 : Stand p l e ({ frames := 2, cells := 0, slots := 0, locals := 24 } : Room) s m #[(.ref t1), (.int p1)] below meth c s₁ [] 0 0 := Stand.of_body Bd
  have e0 : s₁.heap = h0 := by rw [← hh, Bd.state]; rfl
  have N0 := Fr.nil n0
  have Z0 : n0 ≤ h0.size := by rw [← O0.1]; exact O0.2.1
  show own_Go p e below (s₁.setTop (entryFrame m #[(.ref t1), (.int p1)] 2)) (fun t o => ∃ v L, o = .returned v ∧ Q_rm_iinit Z t1 p1 h0 n0 v t.heap L ∧ FrameEnd s o t L ({ frames := 2, cells := 0, slots := 0, locals := 24 } : Room).cells ({ frames := 2, cells := 0, slots := 0, locals := 24 } : Room).slots)
  rw [ef_rm_iinit m t1 p1]
  have lt_Et : h0.size > t1 := Et.lt
  have lt_Ft : h0.size > t1 := Ft.lt
  refine own_by (fun _ k => XS.aloadN X0.here hx rfl (hb hby d_rm_iinit_0) rfl rfl k) ?_
  show own_Go p e below (s₁.setTop (mkF m 1 #[.val (.ref t1), .val (.int p1)] [(.ref t1)])) _
  obtain ⟨_, _, ⟨T1, L1, k1, n1⟩, -, X1, ⟨Lc1, hQ1, l1, y1, z1⟩, st1⟩ := X0.specialBack hx (y := (⟨"java/lang/Number", "<init>", "()V"⟩ : MethodName)) rfl hown (mvT hZ (hw _ (List.mem_of_getElem? (i := 138) rfl))) (mvT hZ (hw _ (List.mem_of_getElem? (i := 127) rfl))) (mvT hZ (hw _ (List.mem_of_getElem? (i := 131) rfl))) (by decide) (backOf (W := 0) (rm_num l Z a0 hw [] t1 h0 n0 O0) hZ (hw _ (List.mem_of_getElem? (i := 131) rfl)) (hw _ (List.mem_of_getElem? (i := 130) rfl)) (by decide) (by decide)) (g := (mkF m 1 #[.val (.ref t1), .val (.int p1)] [(.ref t1)])) rfl (by rw [hml]; rfl) (Steps.refl _) (a := t1) (argsL := []) (rest := []) (lenOf own_pd__28_29V rfl) rfl (by show 2 * 0 + _ ≤ _; exact Nat.le_of_eq rfl) (hb hby d_rm_iinit_1) (fun _ _ => ⟨rfl, e0, (by decide : 0 + 0 ≤ _), (by decide : 0 + 0 ≤ _)⟩)
  dsimp only [Pt.U, Pt.locs, Pt.cells, Pt.slots] at X1 l1 y1 z1 st1 hQ1
  subst l1 y1 z1
  obtain ⟨rfl, M1, K1⟩ := hQ1
  have N1 := Fr.app N0 M1
  refine own_by (fun _ k => st1.trans k) ?_
  show own_Go p e below (T1.setTop (mkF m 4 #[.val (.ref t1), .val (.int p1)] [])) _
  refine own_by (fun _ k => XS.aloadN X1.here hx rfl (hb hby d_rm_iinit_4) rfl rfl k) ?_
  show own_Go p e below (T1.setTop (mkF m 5 #[.val (.ref t1), .val (.int p1)] [(.ref t1)])) _
  refine own_by (fun _ k => XS.iloadN X1.here hx rfl (hb hby d_rm_iinit_5) rfl k) ?_
  show own_Go p e below (T1.setTop (mkF m 6 #[.val (.ref t1), .val (.int p1)] [(.int p1), (.ref t1)])) _
  obtain ⟨T2, h2, X2, e2, W2, st2⟩ := putF X1 hx hZ hown (host := "") (Or.inl (hw _ (List.mem_of_getElem? (i := 80) rfl))) Via.refl K1 Ft Et (Or.inr ⟨(hw _ (List.mem_of_getElem? (i := 81) rfl)), rfl, hnm⟩) (hw _ (List.mem_of_getElem? (i := 134) rfl)) (ty := .int) (by decide) rfl rfl (g := (mkF m 6 #[.val (.ref t1), .val (.int p1)] [(.int p1), (.ref t1)])) rfl rfl (hb hby d_rm_iinit_6)
  refine own_by st2 ?_
  have z2 := W2.size
  have N2 := Fr.snoc X2 N1 (by omega)
  have Fw2 : Fld Z h2 t1 "java/lang/Integer" "value" "I" (.int p1) := Ft.same W2
  show own_Go p e below (T2.setTop (mkF m 9 #[.val (.ref t1), .val (.int p1)] [])) _
  have fc3 : Exa Z h2 t1 "java/lang/Integer" := (Et.wr W2)
  have K4 : Keep h0 h2 [t1] := ((Keep.refl h0 [t1]).wr W2 (Or.inl (List.mem_of_getElem? (i := 0) rfl)))
  obtain ⟨fs, hr, hrun, hended, hW, hsame⟩ := X2.leave (v := none) (fun h => rfl)
  refine ⟨_, _, X2.returnOut hx Bd.returns (hb hby d_rm_iinit_9) hr, hrun, hended, _, _, rfl, ?_, ⟨_, rfl⟩, hW, hsame.mono (by decide) (by decide)⟩
  show Q_rm_iinit Z t1 p1 h0 n0 _ T2.heap _
  rw [e2]
  exact ⟨rfl, N2, K4, fc3, Fw2⟩
theorem d_rm_linit_0 : decode jdk_35_method_26_code 0 = .ok (.aload_n 0, 1) := by decide +kernel
theorem d_rm_linit_1 : decode jdk_35_method_26_code 1 = .ok (.invokespecial 270, 3) := by decide +kernel
theorem d_rm_linit_4 : decode jdk_35_method_26_code 4 = .ok (.aload_n 0, 1) := by decide +kernel
theorem d_rm_linit_5 : decode jdk_35_method_26_code 5 = .ok (.lload_n 1, 1) := by decide +kernel
theorem d_rm_linit_6 : decode jdk_35_method_26_code 6 = .ok (.putfield 273, 3) := by decide +kernel
theorem d_rm_linit_9 : decode jdk_35_method_26_code 9 = .ok (.return_, 1) := by decide +kernel
def Q_rm_linit (Z : State) (t1 : Addr) (q : Int64) (h0 : Heap) (n0 : Nat) (v : Option Value) (h : Heap) (L : List Loc) : Prop := v = none ∧ Fr n0 L ∧ Keep h0 h [t1] ∧ Exa Z h t1 "java/lang/Long" ∧ Fld Z h t1 "java/lang/Long" "value" "J" (.long q)
theorem ef_rm_linit (m : MethodId) (t1 : Addr) (q : Int64) : entryFrame m #[(.ref t1), (.long q)] 3 = mkF m 0 #[.val (.ref t1), .val (.long q), .second] [] := by first | (simp [entryFrame, mkF, argsToLocals, Value.category]; done) | rfl
set_option maxRecDepth 65536 in
set_option maxHeartbeats 40000000 in
theorem rm_linit (l : Launch) (Z : State) (a0 : Array Value) (hw : ∀ d ∈ tables_1, d.before a0 Z = true) (ws : List Jvm.Cond) (t1 : Addr) (q : Int64) (h0 : Heap) (n0 : Nat) (O0 : Old Z n0 h0) (Et : Exa Z h0 t1 "java/lang/Long") (Ft : Fld Z h0 t1 "java/lang/Long" "value" "J" (.long (0 : Int64))) (gt : n0 ≤ t1) :
    MetFree l (⟨"java/lang/Long", "<init>", "(J)V"⟩ : MethodName) (head1 (Jvm.Cond.code (⟨"java/lang/Long", "<init>", "(J)V"⟩ : MethodName) jdk_35_method_26_code 3 none :: ws) ({ frames := 2, cells := 0, slots := 0, locals := 24 } : Room)) (fun a U => a = #[(.ref t1), (.long q)] ∧ Z.Warmed39 U.vm ∧ U.heap = h0) (fun _ _ _ _ _ => True) (fun _ U o U' => ∃ v L, o = .returned v ∧ Q_rm_linit Z t1 q h0 n0 v U'.heap L ∧ FrameEnd U o U' L ({ frames := 2, cells := 0, slots := 0, locals := 24 } : Room).cells ({ frames := 2, cells := 0, slots := 0, locals := 24 } : Room).slots) := by
  refine MetFree.of_bodySF (plainFor_of_name own_pn_java_lang_Long) hisR ?_
  intro p e s m args below meth c s₁ Bd hml0 hP hK
  obtain ⟨rfl, hZ, hh⟩ := hP
  have hx := Bd.exec
  have hby := Bd.bytes
  have hml : c.maxLocals = 3 := hml0
  have hown : s.vm.findClass "java/lang/Long" = some m.cls := findClass_of_methodNamed Bd.named
  have hnm := (name_of_methodNamed Bd.named Bd.method).1
  have X0 : Stand p l e ({ frames := 2, cells := 0, slots := 0, locals := 24 } : Room) s m #[(.ref t1), (.long q)] below meth c s₁ [] 0 0 := Stand.of_body Bd
  have e0 : s₁.heap = h0 := by rw [← hh, Bd.state]; rfl
  have N0 := Fr.nil n0
  have Z0 : n0 ≤ h0.size := by rw [← O0.1]; exact O0.2.1
  show own_Go p e below (s₁.setTop (entryFrame m #[(.ref t1), (.long q)] 3)) (fun t o => ∃ v L, o = .returned v ∧ Q_rm_linit Z t1 q h0 n0 v t.heap L ∧ FrameEnd s o t L ({ frames := 2, cells := 0, slots := 0, locals := 24 } : Room).cells ({ frames := 2, cells := 0, slots := 0, locals := 24 } : Room).slots)
  rw [ef_rm_linit m t1 q]
  have lt_Et : h0.size > t1 := Et.lt
  have lt_Ft : h0.size > t1 := Ft.lt
  refine own_by (fun _ k => XS.aloadN X0.here hx rfl (hb hby d_rm_linit_0) rfl rfl k) ?_
  show own_Go p e below (s₁.setTop (mkF m 1 #[.val (.ref t1), .val (.long q), .second] [(.ref t1)])) _
  obtain ⟨_, _, ⟨T1, L1, k1, n1⟩, -, X1, ⟨Lc1, hQ1, l1, y1, z1⟩, st1⟩ := X0.specialBack hx (y := (⟨"java/lang/Number", "<init>", "()V"⟩ : MethodName)) rfl hown (mvT hZ (hw _ (List.mem_of_getElem? (i := 126) rfl))) (mvT hZ (hw _ (List.mem_of_getElem? (i := 127) rfl))) (mvT hZ (hw _ (List.mem_of_getElem? (i := 131) rfl))) (by decide) (backOf (W := 0) (rm_num l Z a0 hw [] t1 h0 n0 O0) hZ (hw _ (List.mem_of_getElem? (i := 131) rfl)) (hw _ (List.mem_of_getElem? (i := 130) rfl)) (by decide) (by decide)) (g := (mkF m 1 #[.val (.ref t1), .val (.long q), .second] [(.ref t1)])) rfl (by rw [hml]; rfl) (Steps.refl _) (a := t1) (argsL := []) (rest := []) (lenOf own_pd__28_29V rfl) rfl (by show 2 * 0 + _ ≤ _; exact Nat.le_of_eq rfl) (hb hby d_rm_linit_1) (fun _ _ => ⟨rfl, e0, (by decide : 0 + 0 ≤ _), (by decide : 0 + 0 ≤ _)⟩)
  dsimp only [Pt.U, Pt.locs, Pt.cells, Pt.slots] at X1 l1 y1 z1 st1 hQ1
  subst l1 y1 z1
  obtain ⟨rfl, M1, K1⟩ := hQ1
  have N1 := Fr.app N0 M1
  refine own_by (fun _ k => st1.trans k) ?_
  show own_Go p e below (T1.setTop (mkF m 4 #[.val (.ref t1), .val (.long q), .second] [])) _
  refine own_by (fun _ k => XS.aloadN X1.here hx rfl (hb hby d_rm_linit_4) rfl rfl k) ?_
  show own_Go p e below (T1.setTop (mkF m 5 #[.val (.ref t1), .val (.long q), .second] [(.ref t1)])) _
  refine own_by (fun _ k => XS.lloadN X1.here hx rfl (hb hby d_rm_linit_5) rfl k) ?_
  show own_Go p e below (T1.setTop (mkF m 6 #[.val (.ref t1), .val (.long q), .second] [(.long q), (.ref t1)])) _
  obtain ⟨T2, h2, X2, e2, W2, st2⟩ := putF X1 hx hZ hown (host := "") (Or.inl (hw _ (List.mem_of_getElem? (i := 87) rfl))) Via.refl K1 Ft Et (Or.inr ⟨(hw _ (List.mem_of_getElem? (i := 88) rfl)), rfl, hnm⟩) (hw _ (List.mem_of_getElem? (i := 122) rfl)) (ty := .long) (by decide) rfl rfl (g := (mkF m 6 #[.val (.ref t1), .val (.long q), .second] [(.long q), (.ref t1)])) rfl rfl (hb hby d_rm_linit_6)
  refine own_by st2 ?_
  have z2 := W2.size
  have N2 := Fr.snoc X2 N1 (by omega)
  have Fw2 : Fld Z h2 t1 "java/lang/Long" "value" "J" (.long q) := Ft.same W2
  show own_Go p e below (T2.setTop (mkF m 9 #[.val (.ref t1), .val (.long q), .second] [])) _
  have fc3 : Exa Z h2 t1 "java/lang/Long" := (Et.wr W2)
  have K4 : Keep h0 h2 [t1] := ((Keep.refl h0 [t1]).wr W2 (Or.inl (List.mem_of_getElem? (i := 0) rfl)))
  obtain ⟨fs, hr, hrun, hended, hW, hsame⟩ := X2.leave (v := none) (fun h => rfl)
  refine ⟨_, _, X2.returnOut hx Bd.returns (hb hby d_rm_linit_9) hr, hrun, hended, _, _, rfl, ?_, ⟨_, rfl⟩, hW, hsame.mono (by decide) (by decide)⟩
  show Q_rm_linit Z t1 q h0 n0 _ T2.heap _
  rw [e2]
  exact ⟨rfl, N2, K4, fc3, Fw2⟩
theorem d_rm_ival_0 : decode jdk_33_method_22_code 0 = .ok (.iload_n 0, 1) := by decide +kernel
theorem d_rm_ival_1 : decode jdk_33_method_22_code 1 = .ok (.bipush (-128), 2) := by decide +kernel
theorem d_rm_ival_3 : decode jdk_33_method_22_code 3 = .ok (.if_icmp .lt 20, 3) := by decide +kernel
theorem d_rm_ival_6 : decode jdk_33_method_22_code 6 = .ok (.iload_n 0, 1) := by decide +kernel
theorem d_rm_ival_7 : decode jdk_33_method_22_code 7 = .ok (.getstatic 191, 3) := by decide +kernel
theorem d_rm_ival_10 : decode jdk_33_method_22_code 10 = .ok (.if_icmp .gt 13, 3) := by decide +kernel
theorem d_rm_ival_13 : decode jdk_33_method_22_code 13 = .ok (.getstatic 195, 3) := by decide +kernel
theorem d_rm_ival_16 : decode jdk_33_method_22_code 16 = .ok (.iload_n 0, 1) := by decide +kernel
theorem d_rm_ival_17 : decode jdk_33_method_22_code 17 = .ok (.sipush 128, 3) := by decide +kernel
theorem d_rm_ival_20 : decode jdk_33_method_22_code 20 = .ok (.iadd, 1) := by decide +kernel
theorem d_rm_ival_21 : decode jdk_33_method_22_code 21 = .ok (.aaload, 1) := by decide +kernel
theorem d_rm_ival_22 : decode jdk_33_method_22_code 22 = .ok (.areturn, 1) := by decide +kernel
theorem d_rm_ival_23 : decode jdk_33_method_22_code 23 = .ok (.new 1, 3) := by decide +kernel
theorem d_rm_ival_26 : decode jdk_33_method_22_code 26 = .ok (.dup, 1) := by decide +kernel
theorem d_rm_ival_27 : decode jdk_33_method_22_code 27 = .ok (.iload_n 0, 1) := by decide +kernel
theorem d_rm_ival_28 : decode jdk_33_method_22_code 28 = .ok (.invokespecial 199, 3) := by decide +kernel
theorem d_rm_ival_31 : decode jdk_33_method_22_code 31 = .ok (.areturn, 1) := by decide +kernel
def Q_rm_ival (Z : State) (p1 : Int32) (ci : Addr) (cci : Cell) (h0 : Heap) (n0 : Nat) (v : Option Value) (h : Heap) (L : List Loc) : Prop := ∃ (r : Addr), v = some (.ref r) ∧ Fr n0 L ∧ Keep h0 h [] ∧ Exa Z h r "java/lang/Integer" ∧ Fld Z h r "java/lang/Integer" "value" "I" (.int p1)
theorem ef_rm_ival (m : MethodId) (p1 : Int32) (ci : Addr) (cci : Cell) : entryFrame m #[(.int p1)] 1 = mkF m 0 #[.val (.int p1)] [] := by first | (simp [entryFrame, mkF, argsToLocals, Value.category]; done) | rfl
set_option maxRecDepth 65536 in
set_option maxHeartbeats 40000000 in
theorem rm_ival (l : Launch) (Z : State) (a0 : Array Value) (hw : ∀ d ∈ tables_1, d.before a0 Z = true) (ws : List Jvm.Cond) (p1 : Int32) (ci : Addr) (cci : Cell) (h0 : Heap) (n0 : Nat) (O0 : Old Z n0 h0) (S_high : Sta Z Z.heap "java/lang/Integer$IntegerCache" "high" "I" (.int (127 : Int32))) (S_icache : Sta Z Z.heap "java/lang/Integer$IntegerCache" "cache" "[Ljava/lang/Integer;" (.ref ci)) (Bxi : Bxs Z ci cci "java/lang/Integer" "I" (256 : Int32) (fun j => .int (j - 128))) :
    MetFree l (⟨"java/lang/Integer", "valueOf", "(I)Ljava/lang/Integer;"⟩ : MethodName) (head1 (Jvm.Cond.code (⟨"java/lang/Integer", "valueOf", "(I)Ljava/lang/Integer;"⟩ : MethodName) jdk_33_method_22_code 1 (some (.object "java/lang/Integer")) :: ws) ({ frames := 3, cells := 1, slots := 1, locals := 38 } : Room)) (fun a U => a = #[(.int p1)] ∧ Z.Warmed39 U.vm ∧ U.heap = h0) (fun _ _ _ _ _ => True) (fun _ U o U' => ∃ v L, o = .returned v ∧ Q_rm_ival Z p1 ci cci h0 n0 v U'.heap L ∧ FrameEnd U o U' L ({ frames := 3, cells := 1, slots := 1, locals := 38 } : Room).cells ({ frames := 3, cells := 1, slots := 1, locals := 38 } : Room).slots) := by
  refine MetFree.of_bodySF (plainFor_of_name own_pn_java_lang_Integer) hisR ?_
  intro p e s m args below meth c s₁ Bd hml0 hP hK
  obtain ⟨rfl, hZ, hh⟩ := hP
  have hx := Bd.exec
  have hby := Bd.bytes
  have hml : c.maxLocals = 1 := hml0
  have hown : s.vm.findClass "java/lang/Integer" = some m.cls := findClass_of_methodNamed Bd.named
  have hnm := (name_of_methodNamed Bd.named Bd.method).1
  have X0 : Stand p l e ({ frames := 3, cells := 1, slots := 1, locals := 38 } : Room) s m #[(.int p1)] below meth c s₁ [] 0 0 := Stand.of_body Bd
  have e0 : s₁.heap = h0 := by rw [← hh, Bd.state]; rfl
  have N0 := Fr.nil n0
  have Z0 : n0 ≤ h0.size := by rw [← O0.1]; exact O0.2.1
  show own_Go p e below (s₁.setTop (entryFrame m #[(.int p1)] 1)) (fun t o => ∃ v L, o = .returned v ∧ Q_rm_ival Z p1 ci cci h0 n0 v t.heap L ∧ FrameEnd s o t L ({ frames := 3, cells := 1, slots := 1, locals := 38 } : Room).cells ({ frames := 3, cells := 1, slots := 1, locals := 38 } : Room).slots)
  rw [ef_rm_ival m p1 ci cci]
  refine own_by (fun _ k => XS.iloadN X0.here hx rfl (hb hby d_rm_ival_0) rfl k) ?_
  show own_Go p e below (s₁.setTop (mkF m 1 #[.val (.int p1)] [(.int p1)])) _
  refine own_by (fun _ k => XS.bipush X0.here hx rfl (hb hby d_rm_ival_1) k) ?_
  show own_Go p e below (s₁.setTop (mkF m 3 #[.val (.int p1)] [(.int (-128 : Int32)), (.int p1)])) _
  by_cases hc1 : p1 < (-128 : Int32)
  · skip
    refine own_by (fun _ k => XS.icmpYes X0.here hx rfl (pc0 := 3) (pc' := 23) rfl (hb hby d_rm_ival_3) rfl (tlt hc1).1 (by decide) (by decide) k) ?_
    show own_Go p e below (s₁.setTop (mkF m 23 #[.val (.int p1)] [])) _
    obtain ⟨T2, h2, X2, e2, E2, A2, D2, U2, st2⟩ := newO X0 hx hZ hown (hw _ (List.mem_of_getElem? (i := 133) rfl)) (hw _ (List.mem_of_getElem? (i := 134) rfl)) (hw _ (List.mem_of_getElem? (i := 2) rfl)) e0 (g := (mkF m 23 #[.val (.int p1)] [])) rfl (hb hby d_rm_ival_23) (by decide) (by decide)
    obtain ⟨ob2, g2⟩ : ∃ z, z = h0.size := ⟨_, rfl⟩
    rw [← g2] at A2 D2 U2 st2
    refine own_by st2 ?_
    have z2 := E2.1
    have lt2 : h2.size > ob2 := A2.lt
    show own_Go p e below (T2.setTop (mkF m 26 #[.val (.int p1)] [(.ref ob2)])) _
    refine own_by (fun _ k => XS.dup X2.here hx rfl (hb hby d_rm_ival_26) rfl rfl k) ?_
    show own_Go p e below (T2.setTop (mkF m 27 #[.val (.int p1)] [(.ref ob2), (.ref ob2)])) _
    refine own_by (fun _ k => XS.iloadN X2.here hx rfl (hb hby d_rm_ival_27) rfl k) ?_
    show own_Go p e below (T2.setTop (mkF m 28 #[.val (.int p1)] [(.int p1), (.ref ob2), (.ref ob2)])) _
    have O3 : Old Z n0 h2 := (O0.ext E2)
    obtain ⟨_, _, ⟨T4, L4, k4, n4⟩, -, X4, ⟨Lc4, hQ4, l4, y4, z4⟩, st4⟩ := X2.specialBack hx (y := (⟨"java/lang/Integer", "<init>", "(I)V"⟩ : MethodName)) rfl hown (mvT hZ (hw _ (List.mem_of_getElem? (i := 135) rfl))) (mvT hZ (hw _ (List.mem_of_getElem? (i := 136) rfl))) (mvT hZ (hw _ (List.mem_of_getElem? (i := 137) rfl))) (by decide) (backOf (W := 1) (rm_iinit l Z a0 hw [] ob2 p1 h2 n0 O3 A2 (show Fld Z h2 ob2 "java/lang/Integer" "value" "I" (.int (0 : Int32)) from D2 (Or.inr (hw _ (List.mem_of_getElem? (i := 81) rfl))) (ty := .int) (by decide)) (by first | assumption | omega | decide)) hZ (hw _ (List.mem_of_getElem? (i := 137) rfl)) (hw _ (List.mem_of_getElem? (i := 2) rfl)) (by decide) (by decide)) (g := (mkF m 28 #[.val (.int p1)] [(.int p1), (.ref ob2), (.ref ob2)])) rfl (by rw [hml]; rfl) (Steps.refl _) (a := ob2) (argsL := [(.int p1)]) (rest := [(.ref ob2)]) (lenOf own_pd__28I_29V rfl) rfl (by show 2 * 0 + _ ≤ _; exact Nat.le_of_eq rfl) (hb hby d_rm_ival_28) (fun _ _ => ⟨rfl, e2, (by decide : 1 + 0 ≤ _), (by decide : 1 + 0 ≤ _)⟩)
    dsimp only [Pt.U, Pt.locs, Pt.cells, Pt.slots] at X4 l4 y4 z4 st4 hQ4
    subst l4 y4 z4
    obtain ⟨rfl, M4, K4, g4_0, g4_1⟩ := hQ4
    have N4 := Fr.app N0 M4
    refine own_by (fun _ k => st4.trans k) ?_
    have z4 := K4.1
    have lt_g4_0 : T4.heap.size > ob2 := g4_0.lt
    have lt_g4_1 : T4.heap.size > ob2 := g4_1.lt
    show own_Go p e below (T4.setTop (mkF m 31 #[.val (.int p1)] [(.ref ob2)])) _
    have K5 : Keep h0 T4.heap [] := (((Keep.refl h0 []).ext E2).trans K4 (allS (P := fun x => x ∈ [] ∨ h0.size ≤ x) (Or.inr (by omega)) all0))
    obtain ⟨fs, hr, hrun, hended, hW, hsame⟩ := X4.leave (v := some (.ref ob2)) (fun h => by rw [Bd.returns] at h; cases h)
    refine ⟨_, _, retOut X4 hx Bd.returns (own_narrow_ref (by decide) rfl) (Or.inr (Or.inr (Or.inr (Or.inr ⟨rfl, by decide, rfl⟩)))) (hb hby d_rm_ival_31) hr, hrun, hended, _, _, rfl, ?_, ⟨_, rfl⟩, hW, hsame.mono (by decide) (by decide)⟩
    show Q_rm_ival Z p1 ci cci h0 n0 _ T4.heap _
    exact ⟨ob2, rfl, N4, K5, g4_0, g4_1⟩
  · skip
    refine own_by (fun _ k => XS.icmpNo X0.here hx rfl (hb hby d_rm_ival_3) rfl (flt hc1).1 k) ?_
    show own_Go p e below (s₁.setTop (mkF m 6 #[.val (.int p1)] [])) _
    refine own_by (fun _ k => XS.iloadN X0.here hx rfl (hb hby d_rm_ival_6) rfl k) ?_
    show own_Go p e below (s₁.setTop (mkF m 7 #[.val (.int p1)] [(.int p1)])) _
    obtain ⟨T6, X6, e6, st6⟩ := getS2 X0 hx hZ hown (host := "") (Or.inl (hw _ (List.mem_of_getElem? (i := 4) rfl))) Via.refl e0 (S_high.ext O0.2) (g := (mkF m 7 #[.val (.int p1)] [(.int p1)])) rfl (hb hby d_rm_ival_7)
    refine own_by st6 ?_
    show own_Go p e below (T6.setTop (mkF m 10 #[.val (.int p1)] [(.int (127 : Int32)), (.int p1)])) _
    by_cases hc7 : (127 : Int32) < p1
    · skip
      refine own_by (fun _ k => XS.icmpYes X6.here hx rfl (pc0 := 10) (pc' := 23) rfl (hb hby d_rm_ival_10) rfl (tlt hc7).2.2.1 (by decide) (by decide) k) ?_
      show own_Go p e below (T6.setTop (mkF m 23 #[.val (.int p1)] [])) _
      obtain ⟨T8, h8, X8, e8, E8, A8, D8, U8, st8⟩ := newO X6 hx hZ hown (hw _ (List.mem_of_getElem? (i := 133) rfl)) (hw _ (List.mem_of_getElem? (i := 134) rfl)) (hw _ (List.mem_of_getElem? (i := 2) rfl)) e6 (g := (mkF m 23 #[.val (.int p1)] [])) rfl (hb hby d_rm_ival_23) (by decide) (by decide)
      obtain ⟨ob8, g8⟩ : ∃ z, z = h0.size := ⟨_, rfl⟩
      rw [← g8] at A8 D8 U8 st8
      refine own_by st8 ?_
      have z8 := E8.1
      have lt8 : h8.size > ob8 := A8.lt
      show own_Go p e below (T8.setTop (mkF m 26 #[.val (.int p1)] [(.ref ob8)])) _
      refine own_by (fun _ k => XS.dup X8.here hx rfl (hb hby d_rm_ival_26) rfl rfl k) ?_
      show own_Go p e below (T8.setTop (mkF m 27 #[.val (.int p1)] [(.ref ob8), (.ref ob8)])) _
      refine own_by (fun _ k => XS.iloadN X8.here hx rfl (hb hby d_rm_ival_27) rfl k) ?_
      show own_Go p e below (T8.setTop (mkF m 28 #[.val (.int p1)] [(.int p1), (.ref ob8), (.ref ob8)])) _
      have O9 : Old Z n0 h8 := (O0.ext E8)
      obtain ⟨_, _, ⟨T10, L10, k10, n10⟩, -, X10, ⟨Lc10, hQ10, l10, y10, z10⟩, st10⟩ := X8.specialBack hx (y := (⟨"java/lang/Integer", "<init>", "(I)V"⟩ : MethodName)) rfl hown (mvT hZ (hw _ (List.mem_of_getElem? (i := 135) rfl))) (mvT hZ (hw _ (List.mem_of_getElem? (i := 136) rfl))) (mvT hZ (hw _ (List.mem_of_getElem? (i := 137) rfl))) (by decide) (backOf (W := 1) (rm_iinit l Z a0 hw [] ob8 p1 h8 n0 O9 A8 (show Fld Z h8 ob8 "java/lang/Integer" "value" "I" (.int (0 : Int32)) from D8 (Or.inr (hw _ (List.mem_of_getElem? (i := 81) rfl))) (ty := .int) (by decide)) (by first | assumption | omega | decide)) hZ (hw _ (List.mem_of_getElem? (i := 137) rfl)) (hw _ (List.mem_of_getElem? (i := 2) rfl)) (by decide) (by decide)) (g := (mkF m 28 #[.val (.int p1)] [(.int p1), (.ref ob8), (.ref ob8)])) rfl (by rw [hml]; rfl) (Steps.refl _) (a := ob8) (argsL := [(.int p1)]) (rest := [(.ref ob8)]) (lenOf own_pd__28I_29V rfl) rfl (by show 2 * 0 + _ ≤ _; exact Nat.le_of_eq rfl) (hb hby d_rm_ival_28) (fun _ _ => ⟨rfl, e8, (by decide : 1 + 0 ≤ _), (by decide : 1 + 0 ≤ _)⟩)
      dsimp only [Pt.U, Pt.locs, Pt.cells, Pt.slots] at X10 l10 y10 z10 st10 hQ10
      subst l10 y10 z10
      obtain ⟨rfl, M10, K10, g10_0, g10_1⟩ := hQ10
      have N10 := Fr.app N0 M10
      refine own_by (fun _ k => st10.trans k) ?_
      have z10 := K10.1
      have lt_g10_0 : T10.heap.size > ob8 := g10_0.lt
      have lt_g10_1 : T10.heap.size > ob8 := g10_1.lt
      show own_Go p e below (T10.setTop (mkF m 31 #[.val (.int p1)] [(.ref ob8)])) _
      have K11 : Keep h0 T10.heap [] := (((Keep.refl h0 []).ext E8).trans K10 (allS (P := fun x => x ∈ [] ∨ h0.size ≤ x) (Or.inr (by omega)) all0))
      obtain ⟨fs, hr, hrun, hended, hW, hsame⟩ := X10.leave (v := some (.ref ob8)) (fun h => by rw [Bd.returns] at h; cases h)
      refine ⟨_, _, retOut X10 hx Bd.returns (own_narrow_ref (by decide) rfl) (Or.inr (Or.inr (Or.inr (Or.inr ⟨rfl, by decide, rfl⟩)))) (hb hby d_rm_ival_31) hr, hrun, hended, _, _, rfl, ?_, ⟨_, rfl⟩, hW, hsame.mono (by decide) (by decide)⟩
      show Q_rm_ival Z p1 ci cci h0 n0 _ T10.heap _
      exact ⟨ob8, rfl, N10, K11, g10_0, g10_1⟩
    · skip
      refine own_by (fun _ k => XS.icmpNo X6.here hx rfl (hb hby d_rm_ival_10) rfl (flt hc7).2.2.1 k) ?_
      show own_Go p e below (T6.setTop (mkF m 13 #[.val (.int p1)] [])) _
      obtain ⟨T12, X12, e12, st12⟩ := getS2 X6 hx hZ hown (host := "") (Or.inl (hw _ (List.mem_of_getElem? (i := 6) rfl))) Via.refl e6 (S_icache.ext O0.2) (g := (mkF m 13 #[.val (.int p1)] [])) rfl (hb hby d_rm_ival_13)
      refine own_by st12 ?_
      show own_Go p e below (T12.setTop (mkF m 16 #[.val (.int p1)] [(.ref ci)])) _
      refine own_by (fun _ k => XS.iloadN X12.here hx rfl (hb hby d_rm_ival_16) rfl k) ?_
      show own_Go p e below (T12.setTop (mkF m 17 #[.val (.int p1)] [(.int p1), (.ref ci)])) _
      refine own_by (fun _ k => XS.sipush X12.here hx rfl (hb hby d_rm_ival_17) k) ?_
      show own_Go p e below (T12.setTop (mkF m 20 #[.val (.int p1)] [(.int (128 : Int32)), (.int p1), (.ref ci)])) _
      refine own_by (fun _ k => XS.iadd X12.here hx rfl (hb hby d_rm_ival_20) rfl k) ?_
      show own_Go p e below (T12.setTop (mkF m 21 #[.val (.int p1)] [(.int (p1 + (128 : Int32))), (.ref ci)])) _
      have hj13 : ¬ ((p1 + (128 : Int32)) < 0 ∨ cci.slots.size ≤ ((p1 + (128 : Int32))).toNatClampNeg) := inb_of Bxi.2.1 (own_ib_in hc1 hc7)
      obtain ⟨x13, u13, v13, w13⟩ := Bxi.2.2.2 (p1 + (128 : Int32)) hj13
      have w13 : Fld Z Z.heap x13 "java/lang/Integer" "value" "I" (.int p1) := by have q := w13; simp only [own_ib_val hc1 hc7] at q; exact q
      refine own_by (X12.aaload hx (j := (p1 + (128 : Int32))) (v := (.ref x13)) (by rw [e12]; exact (Bxi.1.ext O0.2).1) (State.isArrayOf_alike hZ.alike Bxi.1.2.1) rfl Bxi.1.2.2 hj13 u13 (g := (mkF m 21 #[.val (.int p1)] [(.int (p1 + (128 : Int32))), (.ref ci)])) rfl rfl (hb hby d_rm_ival_21)) ?_
      show own_Go p e below (T12.setTop (mkF m 22 #[.val (.int p1)] [(.ref x13)])) _
      have fc14 : Exa Z h0 x13 "java/lang/Integer" := v13.ext O0.2
      have fc15 : Fld Z h0 x13 "java/lang/Integer" "value" "I" (.int p1) := w13.ext O0.2
      have K16 : Keep h0 h0 [] := (Keep.refl h0 [])
      obtain ⟨fs, hr, hrun, hended, hW, hsame⟩ := X12.leave (v := some (.ref x13)) (fun h => by rw [Bd.returns] at h; cases h)
      refine ⟨_, _, retOut X12 hx Bd.returns (own_narrow_ref (by decide) rfl) (Or.inr (Or.inr (Or.inr (Or.inr ⟨rfl, by decide, rfl⟩)))) (hb hby d_rm_ival_22) hr, hrun, hended, _, _, rfl, ?_, ⟨_, rfl⟩, hW, hsame.mono (by decide) (by decide)⟩
      show Q_rm_ival Z p1 ci cci h0 n0 _ T12.heap _
      rw [e12]
      exact ⟨x13, rfl, N0, K16, fc14, fc15⟩
theorem d_rm_lval_0 : decode jdk_35_method_24_code 0 = .ok (.sipush 128, 3) := by decide +kernel
theorem d_rm_lval_3 : decode jdk_35_method_24_code 3 = .ok (.istore_n 2, 1) := by decide +kernel
theorem d_rm_lval_4 : decode jdk_35_method_24_code 4 = .ok (.lload_n 0, 1) := by decide +kernel
theorem d_rm_lval_5 : decode jdk_35_method_24_code 5 = .ok (.ldc2_w 230, 3) := by decide +kernel
theorem d_rm_lval_8 : decode jdk_35_method_24_code 8 = .ok (.lcmp, 1) := by decide +kernel
theorem d_rm_lval_9 : decode jdk_35_method_24_code 9 = .ok (.ifCond .lt 22, 3) := by decide +kernel
theorem d_rm_lval_12 : decode jdk_35_method_24_code 12 = .ok (.lload_n 0, 1) := by decide +kernel
theorem d_rm_lval_13 : decode jdk_35_method_24_code 13 = .ok (.ldc2_w 232, 3) := by decide +kernel
theorem d_rm_lval_16 : decode jdk_35_method_24_code 16 = .ok (.lcmp, 1) := by decide +kernel
theorem d_rm_lval_17 : decode jdk_35_method_24_code 17 = .ok (.ifCond .gt 14, 3) := by decide +kernel
theorem d_rm_lval_20 : decode jdk_35_method_24_code 20 = .ok (.getstatic 234, 3) := by decide +kernel
theorem d_rm_lval_23 : decode jdk_35_method_24_code 23 = .ok (.lload_n 0, 1) := by decide +kernel
theorem d_rm_lval_24 : decode jdk_35_method_24_code 24 = .ok (.l2i, 1) := by decide +kernel
theorem d_rm_lval_25 : decode jdk_35_method_24_code 25 = .ok (.sipush 128, 3) := by decide +kernel
theorem d_rm_lval_28 : decode jdk_35_method_24_code 28 = .ok (.iadd, 1) := by decide +kernel
theorem d_rm_lval_29 : decode jdk_35_method_24_code 29 = .ok (.aaload, 1) := by decide +kernel
theorem d_rm_lval_30 : decode jdk_35_method_24_code 30 = .ok (.areturn, 1) := by decide +kernel
theorem d_rm_lval_31 : decode jdk_35_method_24_code 31 = .ok (.new 1, 3) := by decide +kernel
theorem d_rm_lval_34 : decode jdk_35_method_24_code 34 = .ok (.dup, 1) := by decide +kernel
theorem d_rm_lval_35 : decode jdk_35_method_24_code 35 = .ok (.lload_n 0, 1) := by decide +kernel
theorem d_rm_lval_36 : decode jdk_35_method_24_code 36 = .ok (.invokespecial 240, 3) := by decide +kernel
theorem d_rm_lval_39 : decode jdk_35_method_24_code 39 = .ok (.areturn, 1) := by decide +kernel
def Q_rm_lval (Z : State) (q : Int64) (cl : Addr) (ccl : Cell) (h0 : Heap) (n0 : Nat) (v : Option Value) (h : Heap) (L : List Loc) : Prop := ∃ (r : Addr), v = some (.ref r) ∧ Fr n0 L ∧ Keep h0 h [] ∧ Exa Z h r "java/lang/Long" ∧ Fld Z h r "java/lang/Long" "value" "J" (.long q)
theorem ef_rm_lval (m : MethodId) (q : Int64) (cl : Addr) (ccl : Cell) : entryFrame m #[(.long q)] 3 = mkF m 0 #[.val (.long q), .second, .unset] [] := by first | (simp [entryFrame, mkF, argsToLocals, Value.category]; done) | rfl
set_option maxRecDepth 65536 in
set_option maxHeartbeats 40000000 in
theorem rm_lval (l : Launch) (Z : State) (a0 : Array Value) (hw : ∀ d ∈ tables_1, d.before a0 Z = true) (ws : List Jvm.Cond) (q : Int64) (cl : Addr) (ccl : Cell) (h0 : Heap) (n0 : Nat) (O0 : Old Z n0 h0) (S_lcache : Sta Z Z.heap "java/lang/Long$LongCache" "cache" "[Ljava/lang/Long;" (.ref cl)) (Bxl : Bxs Z cl ccl "java/lang/Long" "J" (256 : Int32) (fun j => .long (j - 128).toInt64)) :
    MetFree l (⟨"java/lang/Long", "valueOf", "(J)Ljava/lang/Long;"⟩ : MethodName) (head1 (Jvm.Cond.code (⟨"java/lang/Long", "valueOf", "(J)Ljava/lang/Long;"⟩ : MethodName) jdk_35_method_24_code 3 (some (.object "java/lang/Long")) :: ws) ({ frames := 3, cells := 1, slots := 1, locals := 39 } : Room)) (fun a U => a = #[(.long q)] ∧ Z.Warmed39 U.vm ∧ U.heap = h0) (fun _ _ _ _ _ => True) (fun _ U o U' => ∃ v L, o = .returned v ∧ Q_rm_lval Z q cl ccl h0 n0 v U'.heap L ∧ FrameEnd U o U' L ({ frames := 3, cells := 1, slots := 1, locals := 39 } : Room).cells ({ frames := 3, cells := 1, slots := 1, locals := 39 } : Room).slots) := by
  refine MetFree.of_bodySF (plainFor_of_name own_pn_java_lang_Long) hisR ?_
  intro p e s m args below meth c s₁ Bd hml0 hP hK
  obtain ⟨rfl, hZ, hh⟩ := hP
  have hx := Bd.exec
  have hby := Bd.bytes
  have hml : c.maxLocals = 3 := hml0
  have hown : s.vm.findClass "java/lang/Long" = some m.cls := findClass_of_methodNamed Bd.named
  have hnm := (name_of_methodNamed Bd.named Bd.method).1
  have X0 : Stand p l e ({ frames := 3, cells := 1, slots := 1, locals := 39 } : Room) s m #[(.long q)] below meth c s₁ [] 0 0 := Stand.of_body Bd
  have e0 : s₁.heap = h0 := by rw [← hh, Bd.state]; rfl
  have N0 := Fr.nil n0
  have Z0 : n0 ≤ h0.size := by rw [← O0.1]; exact O0.2.1
  show own_Go p e below (s₁.setTop (entryFrame m #[(.long q)] 3)) (fun t o => ∃ v L, o = .returned v ∧ Q_rm_lval Z q cl ccl h0 n0 v t.heap L ∧ FrameEnd s o t L ({ frames := 3, cells := 1, slots := 1, locals := 39 } : Room).cells ({ frames := 3, cells := 1, slots := 1, locals := 39 } : Room).slots)
  rw [ef_rm_lval m q cl ccl]
  refine own_by (fun _ k => XS.sipush X0.here hx rfl (hb hby d_rm_lval_0) k) ?_
  show own_Go p e below (s₁.setTop (mkF m 3 #[.val (.long q), .second, .unset] [(.int (128 : Int32))])) _
  refine own_by (fun _ k => XS.istoreN X0.here hx rfl (hb hby d_rm_lval_3) rfl (l' := #[.val (.long q), .second, .val (.int (128 : Int32))]) rfl k) ?_
  show own_Go p e below (s₁.setTop (mkF m 4 #[.val (.long q), .second, .val (.int (128 : Int32))] [])) _
  refine own_by (fun _ k => XS.lloadN X0.here hx rfl (hb hby d_rm_lval_4) rfl k) ?_
  show own_Go p e below (s₁.setTop (mkF m 5 #[.val (.long q), .second, .val (.int (128 : Int32))] [(.long q)])) _
  refine own_by (X0.ldc2Long hx hown (mvT hZ (hw _ (List.mem_of_getElem? (i := 11) rfl))) (g := (mkF m 5 #[.val (.long q), .second, .val (.int (128 : Int32))] [(.long q)])) rfl (hb hby d_rm_lval_5)) ?_
  show own_Go p e below (s₁.setTop (mkF m 8 #[.val (.long q), .second, .val (.int (128 : Int32))] [(.long (-128 : Int64)), (.long q)])) _
  refine own_by (fun _ k => XS.lcmp X0.here hx rfl (hb hby d_rm_lval_8) rfl k) ?_
  show own_Go p e below (s₁.setTop (mkF m 9 #[.val (.long q), .second, .val (.int (128 : Int32))] [(.int (lcmpW q (-128 : Int64)))])) _
  by_cases hc1 : (lcmpW q (-128 : Int64)) < (0 : Int32)
  · skip
    refine own_by (fun _ k => XS.ifYes X0.here hx rfl (pc0 := 9) (pc' := 31) rfl (hb hby d_rm_lval_9) rfl ((if0 _ _).trans (tlt hc1).1) (by decide) (by decide) k) ?_
    show own_Go p e below (s₁.setTop (mkF m 31 #[.val (.long q), .second, .val (.int (128 : Int32))] [])) _
    obtain ⟨T2, h2, X2, e2, E2, A2, D2, U2, st2⟩ := newO X0 hx hZ hown (hw _ (List.mem_of_getElem? (i := 121) rfl)) (hw _ (List.mem_of_getElem? (i := 122) rfl)) (hw _ (List.mem_of_getElem? (i := 9) rfl)) e0 (g := (mkF m 31 #[.val (.long q), .second, .val (.int (128 : Int32))] [])) rfl (hb hby d_rm_lval_31) (by decide) (by decide)
    obtain ⟨ob2, g2⟩ : ∃ z, z = h0.size := ⟨_, rfl⟩
    rw [← g2] at A2 D2 U2 st2
    refine own_by st2 ?_
    have z2 := E2.1
    have lt2 : h2.size > ob2 := A2.lt
    show own_Go p e below (T2.setTop (mkF m 34 #[.val (.long q), .second, .val (.int (128 : Int32))] [(.ref ob2)])) _
    refine own_by (fun _ k => XS.dup X2.here hx rfl (hb hby d_rm_lval_34) rfl rfl k) ?_
    show own_Go p e below (T2.setTop (mkF m 35 #[.val (.long q), .second, .val (.int (128 : Int32))] [(.ref ob2), (.ref ob2)])) _
    refine own_by (fun _ k => XS.lloadN X2.here hx rfl (hb hby d_rm_lval_35) rfl k) ?_
    show own_Go p e below (T2.setTop (mkF m 36 #[.val (.long q), .second, .val (.int (128 : Int32))] [(.long q), (.ref ob2), (.ref ob2)])) _
    have O3 : Old Z n0 h2 := (O0.ext E2)
    obtain ⟨_, _, ⟨T4, L4, k4, n4⟩, -, X4, ⟨Lc4, hQ4, l4, y4, z4⟩, st4⟩ := X2.specialBack hx (y := (⟨"java/lang/Long", "<init>", "(J)V"⟩ : MethodName)) rfl hown (mvT hZ (hw _ (List.mem_of_getElem? (i := 123) rfl))) (mvT hZ (hw _ (List.mem_of_getElem? (i := 124) rfl))) (mvT hZ (hw _ (List.mem_of_getElem? (i := 125) rfl))) (by decide) (backOf (W := 1) (rm_linit l Z a0 hw [] ob2 q h2 n0 O3 A2 (show Fld Z h2 ob2 "java/lang/Long" "value" "J" (.long (0 : Int64)) from D2 (Or.inr (hw _ (List.mem_of_getElem? (i := 88) rfl))) (ty := .long) (by decide)) (by first | assumption | omega | decide)) hZ (hw _ (List.mem_of_getElem? (i := 125) rfl)) (hw _ (List.mem_of_getElem? (i := 9) rfl)) (by decide) (by decide)) (g := (mkF m 36 #[.val (.long q), .second, .val (.int (128 : Int32))] [(.long q), (.ref ob2), (.ref ob2)])) rfl (by rw [hml]; rfl) (Steps.refl _) (a := ob2) (argsL := [(.long q)]) (rest := [(.ref ob2)]) (lenOf own_pd__28J_29V rfl) rfl (by show 2 * 0 + _ ≤ _; exact Nat.le_of_eq rfl) (hb hby d_rm_lval_36) (fun _ _ => ⟨rfl, e2, (by decide : 1 + 0 ≤ _), (by decide : 1 + 0 ≤ _)⟩)
    dsimp only [Pt.U, Pt.locs, Pt.cells, Pt.slots] at X4 l4 y4 z4 st4 hQ4
    subst l4 y4 z4
    obtain ⟨rfl, M4, K4, g4_0, g4_1⟩ := hQ4
    have N4 := Fr.app N0 M4
    refine own_by (fun _ k => st4.trans k) ?_
    have z4 := K4.1
    have lt_g4_0 : T4.heap.size > ob2 := g4_0.lt
    have lt_g4_1 : T4.heap.size > ob2 := g4_1.lt
    show own_Go p e below (T4.setTop (mkF m 39 #[.val (.long q), .second, .val (.int (128 : Int32))] [(.ref ob2)])) _
    have K5 : Keep h0 T4.heap [] := (((Keep.refl h0 []).ext E2).trans K4 (allS (P := fun x => x ∈ [] ∨ h0.size ≤ x) (Or.inr (by omega)) all0))
    obtain ⟨fs, hr, hrun, hended, hW, hsame⟩ := X4.leave (v := some (.ref ob2)) (fun h => by rw [Bd.returns] at h; cases h)
    refine ⟨_, _, retOut X4 hx Bd.returns (own_narrow_ref (by decide) rfl) (Or.inr (Or.inr (Or.inr (Or.inr ⟨rfl, by decide, rfl⟩)))) (hb hby d_rm_lval_39) hr, hrun, hended, _, _, rfl, ?_, ⟨_, rfl⟩, hW, hsame.mono (by decide) (by decide)⟩
    show Q_rm_lval Z q cl ccl h0 n0 _ T4.heap _
    exact ⟨ob2, rfl, N4, K5, g4_0, g4_1⟩
  · skip
    refine own_by (fun _ k => XS.ifNo X0.here hx rfl (hb hby d_rm_lval_9) rfl ((if0 _ _).trans (flt hc1).1) k) ?_
    show own_Go p e below (s₁.setTop (mkF m 12 #[.val (.long q), .second, .val (.int (128 : Int32))] [])) _
    refine own_by (fun _ k => XS.lloadN X0.here hx rfl (hb hby d_rm_lval_12) rfl k) ?_
    show own_Go p e below (s₁.setTop (mkF m 13 #[.val (.long q), .second, .val (.int (128 : Int32))] [(.long q)])) _
    refine own_by (X0.ldc2Long hx hown (mvT hZ (hw _ (List.mem_of_getElem? (i := 12) rfl))) (g := (mkF m 13 #[.val (.long q), .second, .val (.int (128 : Int32))] [(.long q)])) rfl (hb hby d_rm_lval_13)) ?_
    show own_Go p e below (s₁.setTop (mkF m 16 #[.val (.long q), .second, .val (.int (128 : Int32))] [(.long (127 : Int64)), (.long q)])) _
    refine own_by (fun _ k => XS.lcmp X0.here hx rfl (hb hby d_rm_lval_16) rfl k) ?_
    show own_Go p e below (s₁.setTop (mkF m 17 #[.val (.long q), .second, .val (.int (128 : Int32))] [(.int (lcmpW q (127 : Int64)))])) _
    by_cases hc6 : (0 : Int32) < (lcmpW q (127 : Int64))
    · skip
      refine own_by (fun _ k => XS.ifYes X0.here hx rfl (pc0 := 17) (pc' := 31) rfl (hb hby d_rm_lval_17) rfl ((if0 _ _).trans (tlt hc6).2.2.1) (by decide) (by decide) k) ?_
      show own_Go p e below (s₁.setTop (mkF m 31 #[.val (.long q), .second, .val (.int (128 : Int32))] [])) _
      obtain ⟨T7, h7, X7, e7, E7, A7, D7, U7, st7⟩ := newO X0 hx hZ hown (hw _ (List.mem_of_getElem? (i := 121) rfl)) (hw _ (List.mem_of_getElem? (i := 122) rfl)) (hw _ (List.mem_of_getElem? (i := 9) rfl)) e0 (g := (mkF m 31 #[.val (.long q), .second, .val (.int (128 : Int32))] [])) rfl (hb hby d_rm_lval_31) (by decide) (by decide)
      obtain ⟨ob7, g7⟩ : ∃ z, z = h0.size := ⟨_, rfl⟩
      rw [← g7] at A7 D7 U7 st7
      refine own_by st7 ?_
      have z7 := E7.1
      have lt7 : h7.size > ob7 := A7.lt
      show own_Go p e below (T7.setTop (mkF m 34 #[.val (.long q), .second, .val (.int (128 : Int32))] [(.ref ob7)])) _
      refine own_by (fun _ k => XS.dup X7.here hx rfl (hb hby d_rm_lval_34) rfl rfl k) ?_
      show own_Go p e below (T7.setTop (mkF m 35 #[.val (.long q), .second, .val (.int (128 : Int32))] [(.ref ob7), (.ref ob7)])) _
      refine own_by (fun _ k => XS.lloadN X7.here hx rfl (hb hby d_rm_lval_35) rfl k) ?_
      show own_Go p e below (T7.setTop (mkF m 36 #[.val (.long q), .second, .val (.int (128 : Int32))] [(.long q), (.ref ob7), (.ref ob7)])) _
      have O8 : Old Z n0 h7 := (O0.ext E7)
      obtain ⟨_, _, ⟨T9, L9, k9, n9⟩, -, X9, ⟨Lc9, hQ9, l9, y9, z9⟩, st9⟩ := X7.specialBack hx (y := (⟨"java/lang/Long", "<init>", "(J)V"⟩ : MethodName)) rfl hown (mvT hZ (hw _ (List.mem_of_getElem? (i := 123) rfl))) (mvT hZ (hw _ (List.mem_of_getElem? (i := 124) rfl))) (mvT hZ (hw _ (List.mem_of_getElem? (i := 125) rfl))) (by decide) (backOf (W := 1) (rm_linit l Z a0 hw [] ob7 q h7 n0 O8 A7 (show Fld Z h7 ob7 "java/lang/Long" "value" "J" (.long (0 : Int64)) from D7 (Or.inr (hw _ (List.mem_of_getElem? (i := 88) rfl))) (ty := .long) (by decide)) (by first | assumption | omega | decide)) hZ (hw _ (List.mem_of_getElem? (i := 125) rfl)) (hw _ (List.mem_of_getElem? (i := 9) rfl)) (by decide) (by decide)) (g := (mkF m 36 #[.val (.long q), .second, .val (.int (128 : Int32))] [(.long q), (.ref ob7), (.ref ob7)])) rfl (by rw [hml]; rfl) (Steps.refl _) (a := ob7) (argsL := [(.long q)]) (rest := [(.ref ob7)]) (lenOf own_pd__28J_29V rfl) rfl (by show 2 * 0 + _ ≤ _; exact Nat.le_of_eq rfl) (hb hby d_rm_lval_36) (fun _ _ => ⟨rfl, e7, (by decide : 1 + 0 ≤ _), (by decide : 1 + 0 ≤ _)⟩)
      dsimp only [Pt.U, Pt.locs, Pt.cells, Pt.slots] at X9 l9 y9 z9 st9 hQ9
      subst l9 y9 z9
      obtain ⟨rfl, M9, K9, g9_0, g9_1⟩ := hQ9
      have N9 := Fr.app N0 M9
      refine own_by (fun _ k => st9.trans k) ?_
      have z9 := K9.1
      have lt_g9_0 : T9.heap.size > ob7 := g9_0.lt
      have lt_g9_1 : T9.heap.size > ob7 := g9_1.lt
      show own_Go p e below (T9.setTop (mkF m 39 #[.val (.long q), .second, .val (.int (128 : Int32))] [(.ref ob7)])) _
      have K10 : Keep h0 T9.heap [] := (((Keep.refl h0 []).ext E7).trans K9 (allS (P := fun x => x ∈ [] ∨ h0.size ≤ x) (Or.inr (by omega)) all0))
      obtain ⟨fs, hr, hrun, hended, hW, hsame⟩ := X9.leave (v := some (.ref ob7)) (fun h => by rw [Bd.returns] at h; cases h)
      refine ⟨_, _, retOut X9 hx Bd.returns (own_narrow_ref (by decide) rfl) (Or.inr (Or.inr (Or.inr (Or.inr ⟨rfl, by decide, rfl⟩)))) (hb hby d_rm_lval_39) hr, hrun, hended, _, _, rfl, ?_, ⟨_, rfl⟩, hW, hsame.mono (by decide) (by decide)⟩
      show Q_rm_lval Z q cl ccl h0 n0 _ T9.heap _
      exact ⟨ob7, rfl, N9, K10, g9_0, g9_1⟩
    · skip
      refine own_by (fun _ k => XS.ifNo X0.here hx rfl (hb hby d_rm_lval_17) rfl ((if0 _ _).trans (flt hc6).2.2.1) k) ?_
      show own_Go p e below (s₁.setTop (mkF m 20 #[.val (.long q), .second, .val (.int (128 : Int32))] [])) _
      obtain ⟨T11, X11, e11, st11⟩ := getS2 X0 hx hZ hown (host := "") (Or.inl (hw _ (List.mem_of_getElem? (i := 13) rfl))) Via.refl e0 (S_lcache.ext O0.2) (g := (mkF m 20 #[.val (.long q), .second, .val (.int (128 : Int32))] [])) rfl (hb hby d_rm_lval_20)
      refine own_by st11 ?_
      show own_Go p e below (T11.setTop (mkF m 23 #[.val (.long q), .second, .val (.int (128 : Int32))] [(.ref cl)])) _
      refine own_by (fun _ k => XS.lloadN X11.here hx rfl (hb hby d_rm_lval_23) rfl k) ?_
      show own_Go p e below (T11.setTop (mkF m 24 #[.val (.long q), .second, .val (.int (128 : Int32))] [(.long q), (.ref cl)])) _
      refine own_by (fun _ k => XS.l2i X11.here hx rfl (hb hby d_rm_lval_24) rfl k) ?_
      show own_Go p e below (T11.setTop (mkF m 25 #[.val (.long q), .second, .val (.int (128 : Int32))] [(.int (q.toInt32)), (.ref cl)])) _
      refine own_by (fun _ k => XS.sipush X11.here hx rfl (hb hby d_rm_lval_25) k) ?_
      show own_Go p e below (T11.setTop (mkF m 28 #[.val (.long q), .second, .val (.int (128 : Int32))] [(.int (128 : Int32)), (.int (q.toInt32)), (.ref cl)])) _
      refine own_by (fun _ k => XS.iadd X11.here hx rfl (hb hby d_rm_lval_28) rfl k) ?_
      show own_Go p e below (T11.setTop (mkF m 29 #[.val (.long q), .second, .val (.int (128 : Int32))] [(.int ((q.toInt32) + (128 : Int32))), (.ref cl)])) _
      have hj12 : ¬ (((q.toInt32) + (128 : Int32)) < 0 ∨ ccl.slots.size ≤ (((q.toInt32) + (128 : Int32))).toNatClampNeg) := inb_of Bxl.2.1 (own_lb_in hc1 hc6)
      obtain ⟨x12, u12, v12, w12⟩ := Bxl.2.2.2 ((q.toInt32) + (128 : Int32)) hj12
      have w12 : Fld Z Z.heap x12 "java/lang/Long" "value" "J" (.long q) := by have q := w12; simp only [own_lb_val hc1 hc6] at q; exact q
      refine own_by (X11.aaload hx (j := ((q.toInt32) + (128 : Int32))) (v := (.ref x12)) (by rw [e11]; exact (Bxl.1.ext O0.2).1) (State.isArrayOf_alike hZ.alike Bxl.1.2.1) rfl Bxl.1.2.2 hj12 u12 (g := (mkF m 29 #[.val (.long q), .second, .val (.int (128 : Int32))] [(.int ((q.toInt32) + (128 : Int32))), (.ref cl)])) rfl rfl (hb hby d_rm_lval_29)) ?_
      show own_Go p e below (T11.setTop (mkF m 30 #[.val (.long q), .second, .val (.int (128 : Int32))] [(.ref x12)])) _
      have fc13 : Exa Z h0 x12 "java/lang/Long" := v12.ext O0.2
      have fc14 : Fld Z h0 x12 "java/lang/Long" "value" "J" (.long q) := w12.ext O0.2
      have K15 : Keep h0 h0 [] := (Keep.refl h0 [])
      obtain ⟨fs, hr, hrun, hended, hW, hsame⟩ := X11.leave (v := some (.ref x12)) (fun h => by rw [Bd.returns] at h; cases h)
      refine ⟨_, _, retOut X11 hx Bd.returns (own_narrow_ref (by decide) rfl) (Or.inr (Or.inr (Or.inr (Or.inr ⟨rfl, by decide, rfl⟩)))) (hb hby d_rm_lval_30) hr, hrun, hended, _, _, rfl, ?_, ⟨_, rfl⟩, hW, hsame.mono (by decide) (by decide)⟩
      show Q_rm_lval Z q cl ccl h0 n0 _ T11.heap _
      rw [e11]
      exact ⟨x12, rfl, N0, K15, fc13, fc14⟩
theorem d_rm_rq_0 : decode jdk_31_method_11_code 0 = .ok (.aload_n 0, 1) := by decide +kernel
theorem d_rm_rq_1 : decode jdk_31_method_11_code 1 = .ok (.ifnonnull 12, 3) := by decide +kernel
theorem d_rm_rq_13 : decode jdk_31_method_11_code 13 = .ok (.aload_n 0, 1) := by decide +kernel
theorem d_rm_rq_14 : decode jdk_31_method_11_code 14 = .ok (.areturn, 1) := by decide +kernel
def Q_rm_rq (Z : State) (r : Addr) (m_ : Addr) (h0 : Heap) (n0 : Nat) (v : Option Value) (h : Heap) (L : List Loc) : Prop := v = some (.ref r) ∧ Fr n0 L ∧ h = h0
theorem ef_rm_rq (m : MethodId) (r : Addr) (m_ : Addr) : entryFrame m #[(.ref r), (.ref m_)] 2 = mkF m 0 #[.val (.ref r), .val (.ref m_)] [] := by first | (simp [entryFrame, mkF, argsToLocals, Value.category]; done) | rfl
set_option maxRecDepth 65536 in
set_option maxHeartbeats 40000000 in
theorem rm_rq (l : Launch) (Z : State) (a0 : Array Value) (hw : ∀ d ∈ tables_1, d.before a0 Z = true) (ws : List Jvm.Cond) (r : Addr) (m_ : Addr) (h0 : Heap) (n0 : Nat) (O0 : Old Z n0 h0) :
    MetFree l (⟨"java/util/Objects", "requireNonNull", "(Ljava/lang/Object;Ljava/lang/String;)Ljava/lang/Object;"⟩ : MethodName) (head1 (Jvm.Cond.code (⟨"java/util/Objects", "requireNonNull", "(Ljava/lang/Object;Ljava/lang/String;)Ljava/lang/Object;"⟩ : MethodName) jdk_31_method_11_code 2 (some (.object "java/lang/Object")) :: ws) ({ frames := 0, cells := 0, slots := 0, locals := 0 } : Room)) (fun a U => a = #[(.ref r), (.ref m_)] ∧ Z.Warmed39 U.vm ∧ U.heap = h0) (fun _ _ _ _ _ => True) (fun _ U o U' => ∃ v L, o = .returned v ∧ Q_rm_rq Z r m_ h0 n0 v U'.heap L ∧ FrameEnd U o U' L ({ frames := 0, cells := 0, slots := 0, locals := 0 } : Room).cells ({ frames := 0, cells := 0, slots := 0, locals := 0 } : Room).slots) := by
  refine MetFree.of_bodySF (plainFor_of_name own_pn_java_util_Objects) hisR ?_
  intro p e s m args below meth c s₁ Bd hml0 hP hK
  obtain ⟨rfl, hZ, hh⟩ := hP
  have hx := Bd.exec
  have hby := Bd.bytes
  have hml : c.maxLocals = 2 := hml0
  have hown : s.vm.findClass "java/util/Objects" = some m.cls := findClass_of_methodNamed Bd.named
  have hnm := (name_of_methodNamed Bd.named Bd.method).1
  have X0 : Stand p l e ({ frames := 0, cells := 0, slots := 0, locals := 0 } : Room) s m #[(.ref r), (.ref m_)] below meth c s₁ [] 0 0 := Stand.of_body Bd
  have e0 : s₁.heap = h0 := by rw [← hh, Bd.state]; rfl
  have N0 := Fr.nil n0
  have Z0 : n0 ≤ h0.size := by rw [← O0.1]; exact O0.2.1
  show own_Go p e below (s₁.setTop (entryFrame m #[(.ref r), (.ref m_)] 2)) (fun t o => ∃ v L, o = .returned v ∧ Q_rm_rq Z r m_ h0 n0 v t.heap L ∧ FrameEnd s o t L ({ frames := 0, cells := 0, slots := 0, locals := 0 } : Room).cells ({ frames := 0, cells := 0, slots := 0, locals := 0 } : Room).slots)
  rw [ef_rm_rq m r m_]
  refine own_by (fun _ k => XS.aloadN X0.here hx rfl (hb hby d_rm_rq_0) rfl rfl k) ?_
  show own_Go p e below (s₁.setTop (mkF m 1 #[.val (.ref r), .val (.ref m_)] [(.ref r)])) _
  refine own_by (fun _ k => XS.ifnonnullYes X0.here hx rfl (pc0 := 1) (pc' := 13) rfl (hb hby d_rm_rq_1) rfl (by decide) (by decide) k) ?_
  show own_Go p e below (s₁.setTop (mkF m 13 #[.val (.ref r), .val (.ref m_)] [])) _
  refine own_by (fun _ k => XS.aloadN X0.here hx rfl (hb hby d_rm_rq_13) rfl rfl k) ?_
  show own_Go p e below (s₁.setTop (mkF m 14 #[.val (.ref r), .val (.ref m_)] [(.ref r)])) _
  obtain ⟨fs, hr, hrun, hended, hW, hsame⟩ := X0.leave (v := some (.ref r)) (fun h => by rw [Bd.returns] at h; cases h)
  refine ⟨_, _, retOut X0 hx Bd.returns (own_narrow_ref (by decide) rfl) (Or.inr (Or.inr (Or.inr (Or.inr ⟨rfl, by decide, rfl⟩)))) (hb hby d_rm_rq_14) hr, hrun, hended, _, _, rfl, ?_, ⟨_, rfl⟩, hW, hsame.mono (by decide) (by decide)⟩
  show Q_rm_rq Z r m_ h0 n0 _ s₁.heap _
  rw [e0]
  exact ⟨rfl, N0, rfl⟩
theorem d_rm_cainit_0 : decode prog_5_method_1_code 0 = .ok (.aload_n 0, 1) := by decide +kernel
theorem d_rm_cainit_1 : decode prog_5_method_1_code 1 = .ok (.invokespecial 1, 3) := by decide +kernel
theorem d_rm_cainit_4 : decode prog_5_method_1_code 4 = .ok (.aload_n 0, 1) := by decide +kernel
theorem d_rm_cainit_5 : decode prog_5_method_1_code 5 = .ok (.aload_n 1, 1) := by decide +kernel
theorem d_rm_cainit_6 : decode prog_5_method_1_code 6 = .ok (.putfield 7, 3) := by decide +kernel
theorem d_rm_cainit_9 : decode prog_5_method_1_code 9 = .ok (.aload_n 0, 1) := by decide +kernel
theorem d_rm_cainit_10 : decode prog_5_method_1_code 10 = .ok (.aload_n 2, 1) := by decide +kernel
theorem d_rm_cainit_11 : decode prog_5_method_1_code 11 = .ok (.putfield 13, 3) := by decide +kernel
theorem d_rm_cainit_14 : decode prog_5_method_1_code 14 = .ok (.return_, 1) := by decide +kernel
def Q_rm_cainit (Z : State) (t1 : Addr) (r : Addr) (h0 : Heap) (n0 : Nat) (v : Option Value) (h : Heap) (L : List Loc) : Prop := v = none ∧ Fr n0 L ∧ Keep h0 h [t1] ∧ Exa Z h t1 "com/example/commit_to_chain/committochain/core/ChainAnswer" ∧ Fld Z h t1 "com/example/commit_to_chain/committochain/core/ChainAnswer" "result" "Ljava/lang/Object;" (.ref r) ∧ Fld Z h t1 "com/example/commit_to_chain/committochain/core/ChainAnswer" "failure" "Lcom/example/commit_to_chain/committochain/core/ChainException;" .null
theorem ef_rm_cainit (m : MethodId) (t1 : Addr) (r : Addr) : entryFrame m #[(.ref t1), (.ref r), .null] 3 = mkF m 0 #[.val (.ref t1), .val (.ref r), .val .null] [] := by first | (simp [entryFrame, mkF, argsToLocals, Value.category]; done) | rfl
set_option maxRecDepth 65536 in
set_option maxHeartbeats 40000000 in
theorem rm_cainit (l : Launch) (Z : State) (a0 : Array Value) (hw : ∀ d ∈ tables_1, d.before a0 Z = true) (ws : List Jvm.Cond) (t1 : Addr) (r : Addr) (h0 : Heap) (n0 : Nat) (O0 : Old Z n0 h0) (Et : Exa Z h0 t1 "com/example/commit_to_chain/committochain/core/ChainAnswer") (F1 : Fld Z h0 t1 "com/example/commit_to_chain/committochain/core/ChainAnswer" "result" "Ljava/lang/Object;" .null) (F2 : Fld Z h0 t1 "com/example/commit_to_chain/committochain/core/ChainAnswer" "failure" "Lcom/example/commit_to_chain/committochain/core/ChainException;" .null) (gt : n0 ≤ t1) :
    MetFree l (⟨"com/example/commit_to_chain/committochain/core/ChainAnswer", "<init>", "(Ljava/lang/Object;Lcom/example/commit_to_chain/committochain/core/ChainException;)V"⟩ : MethodName) (head1 (Jvm.Cond.code (⟨"com/example/commit_to_chain/committochain/core/ChainAnswer", "<init>", "(Ljava/lang/Object;Lcom/example/commit_to_chain/committochain/core/ChainException;)V"⟩ : MethodName) prog_5_method_1_code 3 none :: ws) ({ frames := 1, cells := 0, slots := 0, locals := 12 } : Room)) (fun a U => a = #[(.ref t1), (.ref r), .null] ∧ Z.Warmed39 U.vm ∧ U.heap = h0) (fun _ _ _ _ _ => True) (fun _ U o U' => ∃ v L, o = .returned v ∧ Q_rm_cainit Z t1 r h0 n0 v U'.heap L ∧ FrameEnd U o U' L ({ frames := 1, cells := 0, slots := 0, locals := 12 } : Room).cells ({ frames := 1, cells := 0, slots := 0, locals := 12 } : Room).slots) := by
  refine MetFree.of_bodySF (plainFor_of_name own_pn_com_example_commit_to_chain_committochain_core_ChainAnswer) hisR ?_
  intro p e s m args below meth c s₁ Bd hml0 hP hK
  obtain ⟨rfl, hZ, hh⟩ := hP
  have hx := Bd.exec
  have hby := Bd.bytes
  have hml : c.maxLocals = 3 := hml0
  have hown : s.vm.findClass "com/example/commit_to_chain/committochain/core/ChainAnswer" = some m.cls := findClass_of_methodNamed Bd.named
  have hnm := (name_of_methodNamed Bd.named Bd.method).1
  have X0 : Stand p l e ({ frames := 1, cells := 0, slots := 0, locals := 12 } : Room) s m #[(.ref t1), (.ref r), .null] below meth c s₁ [] 0 0 := Stand.of_body Bd
  have e0 : s₁.heap = h0 := by rw [← hh, Bd.state]; rfl
  have N0 := Fr.nil n0
  have Z0 : n0 ≤ h0.size := by rw [← O0.1]; exact O0.2.1
  show own_Go p e below (s₁.setTop (entryFrame m #[(.ref t1), (.ref r), .null] 3)) (fun t o => ∃ v L, o = .returned v ∧ Q_rm_cainit Z t1 r h0 n0 v t.heap L ∧ FrameEnd s o t L ({ frames := 1, cells := 0, slots := 0, locals := 12 } : Room).cells ({ frames := 1, cells := 0, slots := 0, locals := 12 } : Room).slots)
  rw [ef_rm_cainit m t1 r]
  have lt_Et : h0.size > t1 := Et.lt
  have lt_F1 : h0.size > t1 := F1.lt
  have lt_F2 : h0.size > t1 := F2.lt
  refine own_by (fun _ k => XS.aloadN X0.here hx rfl (hb hby d_rm_cainit_0) rfl rfl k) ?_
  show own_Go p e below (s₁.setTop (mkF m 1 #[.val (.ref t1), .val (.ref r), .val .null] [(.ref t1)])) _
  obtain ⟨T1, X1, e1, st1⟩ := initO X0 hx hZ hown (hw _ (List.mem_of_getElem? (i := 61) rfl)) (hw _ (List.mem_of_getElem? (i := 27) rfl)) (hw _ (List.mem_of_getElem? (i := 28) rfl)) e0 (g := (mkF m 1 #[.val (.ref t1), .val (.ref r), .val .null] [(.ref t1)])) rfl (by rw [hml]; rfl) rfl (hb hby d_rm_cainit_1) (by decide) (W := 0) (by show 2 * 0 + _ ≤ _; exact Nat.le_of_eq rfl) (by decide)
  refine own_by st1 ?_
  show own_Go p e below (T1.setTop (mkF m 4 #[.val (.ref t1), .val (.ref r), .val .null] [])) _
  refine own_by (fun _ k => XS.aloadN X1.here hx rfl (hb hby d_rm_cainit_4) rfl rfl k) ?_
  show own_Go p e below (T1.setTop (mkF m 5 #[.val (.ref t1), .val (.ref r), .val .null] [(.ref t1)])) _
  refine own_by (fun _ k => XS.aloadN X1.here hx rfl (hb hby d_rm_cainit_5) rfl rfl k) ?_
  show own_Go p e below (T1.setTop (mkF m 6 #[.val (.ref t1), .val (.ref r), .val .null] [(.ref r), (.ref t1)])) _
  obtain ⟨T2, h2, X2, e2, W2, st2⟩ := putF X1 hx hZ hown (host := "") (Or.inl (hw _ (List.mem_of_getElem? (i := 62) rfl))) Via.refl e1 F1 Et (Or.inr ⟨(hw _ (List.mem_of_getElem? (i := 63) rfl)), rfl, hnm⟩) (hw _ (List.mem_of_getElem? (i := 50) rfl)) (ty := (.object "java/lang/Object")) (by decide) rfl rfl (g := (mkF m 6 #[.val (.ref t1), .val (.ref r), .val .null] [(.ref r), (.ref t1)])) rfl rfl (hb hby d_rm_cainit_6)
  refine own_by st2 ?_
  have z2 := W2.size
  have N2 := Fr.snoc X2 N0 (by omega)
  have Fw2 : Fld Z h2 t1 "com/example/commit_to_chain/committochain/core/ChainAnswer" "result" "Ljava/lang/Object;" (.ref r) := F1.same W2
  show own_Go p e below (T2.setTop (mkF m 9 #[.val (.ref t1), .val (.ref r), .val .null] [])) _
  refine own_by (fun _ k => XS.aloadN X2.here hx rfl (hb hby d_rm_cainit_9) rfl rfl k) ?_
  show own_Go p e below (T2.setTop (mkF m 10 #[.val (.ref t1), .val (.ref r), .val .null] [(.ref t1)])) _
  refine own_by (fun _ k => XS.aloadN X2.here hx rfl (hb hby d_rm_cainit_10) rfl rfl k) ?_
  show own_Go p e below (T2.setTop (mkF m 11 #[.val (.ref t1), .val (.ref r), .val .null] [.null, (.ref t1)])) _
  have fc3 : Fld Z h2 t1 "com/example/commit_to_chain/committochain/core/ChainAnswer" "failure" "Lcom/example/commit_to_chain/committochain/core/ChainException;" .null := (F2.other W2 (Or.inr (slot_ne (a0 := a0) (Or.inr (hw _ (List.mem_of_getElem? (i := 65) rfl))) (Or.inr (hw _ (List.mem_of_getElem? (i := 63) rfl))) (by decide) (t := (.object "com/example/commit_to_chain/committochain/core/ChainException")) (by decide) (t' := (.object "java/lang/Object")) (by decide))))
  have fc4 : Exa Z h2 t1 "com/example/commit_to_chain/committochain/core/ChainAnswer" := (Et.wr W2)
  obtain ⟨T5, h5, X5, e5, W5, st5⟩ := putF X2 hx hZ hown (host := "") (Or.inl (hw _ (List.mem_of_getElem? (i := 64) rfl))) Via.refl e2 fc3 fc4 (Or.inr ⟨(hw _ (List.mem_of_getElem? (i := 65) rfl)), rfl, hnm⟩) (hw _ (List.mem_of_getElem? (i := 50) rfl)) (ty := (.object "com/example/commit_to_chain/committochain/core/ChainException")) (by decide) rfl rfl (g := (mkF m 11 #[.val (.ref t1), .val (.ref r), .val .null] [.null, (.ref t1)])) rfl rfl (hb hby d_rm_cainit_11)
  refine own_by st5 ?_
  have z5 := W5.size
  have N5 := Fr.snoc X5 N2 (by omega)
  have Fw5 : Fld Z h5 t1 "com/example/commit_to_chain/committochain/core/ChainAnswer" "failure" "Lcom/example/commit_to_chain/committochain/core/ChainException;" .null := fc3.same W5
  show own_Go p e below (T5.setTop (mkF m 14 #[.val (.ref t1), .val (.ref r), .val .null] [])) _
  have fc6 : Exa Z h5 t1 "com/example/commit_to_chain/committochain/core/ChainAnswer" := (fc4.wr W5)
  have fc7 : Fld Z h5 t1 "com/example/commit_to_chain/committochain/core/ChainAnswer" "result" "Ljava/lang/Object;" (.ref r) := (Fw2.other W5 (Or.inr (slot_ne (a0 := a0) (Or.inr (hw _ (List.mem_of_getElem? (i := 63) rfl))) (Or.inr (hw _ (List.mem_of_getElem? (i := 65) rfl))) (by decide) (t := (.object "java/lang/Object")) (by decide) (t' := (.object "com/example/commit_to_chain/committochain/core/ChainException")) (by decide))))
  have K8 : Keep h0 h5 [t1] := (((Keep.refl h0 [t1]).wr W2 (Or.inl (List.mem_of_getElem? (i := 0) rfl))).wr W5 (Or.inl (List.mem_of_getElem? (i := 0) rfl)))
  obtain ⟨fs, hr, hrun, hended, hW, hsame⟩ := X5.leave (v := none) (fun h => rfl)
  refine ⟨_, _, X5.returnOut hx Bd.returns (hb hby d_rm_cainit_14) hr, hrun, hended, _, _, rfl, ?_, ⟨_, rfl⟩, hW, hsame.mono (by decide) (by decide)⟩
  show Q_rm_cainit Z t1 r h0 n0 _ T5.heap _
  rw [e5]
  exact ⟨rfl, N5, K8, fc6, fc7, Fw5⟩
theorem d_rm_of_0 : decode prog_5_method_2_code 0 = .ok (.new 8, 3) := by decide +kernel
theorem d_rm_of_3 : decode prog_5_method_2_code 3 = .ok (.dup, 1) := by decide +kernel
theorem d_rm_of_4 : decode prog_5_method_2_code 4 = .ok (.aload_n 0, 1) := by decide +kernel
theorem d_rm_of_5 : decode prog_5_method_2_code 5 = .ok (.ldc 17, 2) := by decide +kernel
theorem d_rm_of_7 : decode prog_5_method_2_code 7 = .ok (.invokestatic 18, 3) := by decide +kernel
theorem d_rm_of_10 : decode prog_5_method_2_code 10 = .ok (.aconst_null, 1) := by decide +kernel
theorem d_rm_of_11 : decode prog_5_method_2_code 11 = .ok (.invokespecial 24, 3) := by decide +kernel
theorem d_rm_of_14 : decode prog_5_method_2_code 14 = .ok (.areturn, 1) := by decide +kernel
def Q_rm_of (Z : State) (r : Addr) (h0 : Heap) (n0 : Nat) (v : Option Value) (h : Heap) (L : List Loc) : Prop := ∃ (t1 : Addr), v = some (.ref t1) ∧ Fr n0 L ∧ Keep h0 h [] ∧ Exa Z h t1 "com/example/commit_to_chain/committochain/core/ChainAnswer" ∧ Fld Z h t1 "com/example/commit_to_chain/committochain/core/ChainAnswer" "result" "Ljava/lang/Object;" (.ref r) ∧ Fld Z h t1 "com/example/commit_to_chain/committochain/core/ChainAnswer" "failure" "Lcom/example/commit_to_chain/committochain/core/ChainException;" .null ∧ h0.size ≤ t1
theorem ef_rm_of (m : MethodId) (r : Addr) : entryFrame m #[(.ref r)] 1 = mkF m 0 #[.val (.ref r)] [] := by first | (simp [entryFrame, mkF, argsToLocals, Value.category]; done) | rfl
set_option maxRecDepth 65536 in
set_option maxHeartbeats 40000000 in
theorem rm_of (l : Launch) (Z : State) (a0 : Array Value) (hw : ∀ d ∈ tables_1, d.before a0 Z = true) (ws : List Jvm.Cond) (r : Addr) (h0 : Heap) (n0 : Nat) (O0 : Old Z n0 h0) :
    MetFree l (⟨"com/example/commit_to_chain/committochain/core/ChainAnswer", "of", "(Ljava/lang/Object;)Lcom/example/commit_to_chain/committochain/core/ChainAnswer;"⟩ : MethodName) (head1 (Jvm.Cond.code (⟨"com/example/commit_to_chain/committochain/core/ChainAnswer", "of", "(Ljava/lang/Object;)Lcom/example/commit_to_chain/committochain/core/ChainAnswer;"⟩ : MethodName) prog_5_method_2_code 1 (some (.object "com/example/commit_to_chain/committochain/core/ChainAnswer")) :: ws) ({ frames := 2, cells := 3, slots := 30, locals := 27 } : Room)) (fun a U => a = #[(.ref r)] ∧ Z.Warmed39 U.vm ∧ U.heap = h0) (fun _ _ _ _ _ => True) (fun _ U o U' => ∃ v L, o = .returned v ∧ Q_rm_of Z r h0 n0 v U'.heap L ∧ ReturnedEndW U o U' L ({ frames := 2, cells := 3, slots := 30, locals := 27 } : Room).cells ({ frames := 2, cells := 3, slots := 30, locals := 27 } : Room).slots) := by
  refine MetFree.of_bodySF (plainFor_of_name own_pn_com_example_commit_to_chain_committochain_core_ChainAnswer) hisR ?_
  intro p e s m args below meth c s₁ Bd hml0 hP hK
  obtain ⟨rfl, hZ, hh⟩ := hP
  have hx := Bd.exec
  have hby := Bd.bytes
  have hml : c.maxLocals = 1 := hml0
  have hown : s.vm.findClass "com/example/commit_to_chain/committochain/core/ChainAnswer" = some m.cls := findClass_of_methodNamed Bd.named
  have hnm := (name_of_methodNamed Bd.named Bd.method).1
  have X0 : Stand p l e ({ frames := 2, cells := 3, slots := 30, locals := 27 } : Room) (s.setVm s.vm) m #[(.ref r)] below meth c s₁ [] 0 0 := Stand.of_body Bd
  have S0 : s.Since s.vm h0.size := (State.WarmedH.refl s).since _
  have hZ : Z.Warmed39 (s.setVm s.vm).vm := hZ
  have hown : (s.setVm s.vm).vm.findClass "com/example/commit_to_chain/committochain/core/ChainAnswer" = some m.cls := hown
  have e0 : s₁.heap = h0 := by rw [← hh, Bd.state]; rfl
  have N0 := Fr.nil n0
  have Z0 : n0 ≤ h0.size := by rw [← O0.1]; exact O0.2.1
  show own_Go p e below (s₁.setTop (entryFrame m #[(.ref r)] 1)) (fun t o => ∃ v L, o = .returned v ∧ Q_rm_of Z r h0 n0 v t.heap L ∧ ReturnedEndW s o t L ({ frames := 2, cells := 3, slots := 30, locals := 27 } : Room).cells ({ frames := 2, cells := 3, slots := 30, locals := 27 } : Room).slots)
  rw [ef_rm_of m r]
  obtain ⟨T1, h1, X1, e1, E1, A1, D1, U1, st1⟩ := newO X0 hx hZ hown (hw _ (List.mem_of_getElem? (i := 49) rfl)) (hw _ (List.mem_of_getElem? (i := 50) rfl)) (hw _ (List.mem_of_getElem? (i := 47) rfl)) e0 (g := (mkF m 0 #[.val (.ref r)] [])) rfl (hb hby d_rm_of_0) (by decide) (by decide)
  obtain ⟨ob1, g1⟩ : ∃ z, z = h0.size := ⟨_, rfl⟩
  rw [← g1] at A1 D1 U1 st1
  refine own_by st1 ?_
  have z1 := E1.1
  have lt1 : h1.size > ob1 := A1.lt
  show own_Go p e below (T1.setTop (mkF m 3 #[.val (.ref r)] [(.ref ob1)])) _
  refine own_by (fun _ k => XS.dup X1.here hx rfl (hb hby d_rm_of_3) rfl rfl k) ?_
  show own_Go p e below (T1.setTop (mkF m 4 #[.val (.ref r)] [(.ref ob1), (.ref ob1)])) _
  refine own_by (fun _ k => XS.aloadN X1.here hx rfl (hb hby d_rm_of_4) rfl rfl k) ?_
  show own_Go p e below (T1.setTop (mkF m 5 #[.val (.ref r)] [(.ref r), (.ref ob1), (.ref ob1)])) _
  obtain ⟨b2, T2, h2, k2, X2, e2, E2, S2, kk2, hZ2, ho2, st2⟩ := ldcS X1 hx hZ hown (hw _ (List.mem_of_getElem? (i := 51) rfl)) (own_wS hw) e1 S0 (by omega) (g := (mkF m 5 #[.val (.ref r)] [(.ref r), (.ref ob1), (.ref ob1)])) rfl (hb hby d_rm_of_5) (n := 24) (by decide) (by decide) (by decide) (by decide)
  refine own_by st2 ?_
  have z2 := E2.1
  show own_Go p e below (T2.setTop (mkF m 7 #[.val (.ref r)] [(.ref b2), (.ref r), (.ref ob1), (.ref ob1)])) _
  have O3 : Old Z n0 h2 := ((O0.ext E1).ext E2)
  obtain ⟨_, _, ⟨T4, L4, k4, n4⟩, -, X4, ⟨Lc4, hQ4, l4, y4, z4⟩, st4⟩ := Jvm.LawKit.callS X2 hx (y := (⟨"java/util/Objects", "requireNonNull", "(Ljava/lang/Object;Ljava/lang/String;)Ljava/lang/Object;"⟩ : MethodName)) ho2 (mvT hZ2 (hw _ (List.mem_of_getElem? (i := 54) rfl))) (mvT hZ2 (hw _ (List.mem_of_getElem? (i := 55) rfl))) (mvT hZ2 (hw _ (List.mem_of_getElem? (i := 56) rfl))) (mvT hZ2 (hw _ (List.mem_of_getElem? (i := 57) rfl))) (by decide) (backOf (W := 2) (rm_rq l Z a0 hw [] r b2 h2 n0 O3) hZ2 (hw _ (List.mem_of_getElem? (i := 57) rfl)) (hw _ (List.mem_of_getElem? (i := 56) rfl)) (by decide) (by decide)) (g := (mkF m 7 #[.val (.ref r)] [(.ref b2), (.ref r), (.ref ob1), (.ref ob1)])) rfl (by rw [hml]; rfl) (argsL := [(.ref r), (.ref b2)]) (rest := [(.ref ob1), (.ref ob1)]) (lenOf own_pd__28Ljava_2flang_2fObject_3bLjava_2flang_2fString_3b_29Ljava_2flang_2fObject_3b rfl) rfl (by show 2 * 0 + _ ≤ _; exact Nat.le_of_eq rfl) (hb hby d_rm_of_7) (fun _ _ => ⟨rfl, e2, (by decide : 3 + 0 ≤ _), (by decide : 30 + 0 ≤ _)⟩)
  dsimp only [Pt.U, Pt.locs, Pt.cells, Pt.slots] at X4 l4 y4 z4 st4 hQ4
  subst l4 y4 z4
  obtain ⟨rfl, M4, K4⟩ := hQ4
  have N4 := Fr.app N0 M4
  refine own_by st4 ?_
  show own_Go p e below (T4.setTop (mkF m 10 #[.val (.ref r)] [(.ref r), (.ref ob1), (.ref ob1)])) _
  refine own_by (fun _ k => XS.aconstNull X4.here hx rfl (hb hby d_rm_of_10) k) ?_
  show own_Go p e below (T4.setTop (mkF m 11 #[.val (.ref r)] [.null, (.ref r), (.ref ob1), (.ref ob1)])) _
  have fc5 : Exa Z h2 ob1 "com/example/commit_to_chain/committochain/core/ChainAnswer" := (A1.ext E2)
  have fc6 : Fld Z h2 ob1 "com/example/commit_to_chain/committochain/core/ChainAnswer" "result" "Ljava/lang/Object;" .null := ((show Fld Z h1 ob1 "com/example/commit_to_chain/committochain/core/ChainAnswer" "result" "Ljava/lang/Object;" .null from D1 (Or.inr (hw _ (List.mem_of_getElem? (i := 63) rfl))) (ty := (.object "java/lang/Object")) (by decide)).ext E2)
  have fc7 : Fld Z h2 ob1 "com/example/commit_to_chain/committochain/core/ChainAnswer" "failure" "Lcom/example/commit_to_chain/committochain/core/ChainException;" .null := ((show Fld Z h1 ob1 "com/example/commit_to_chain/committochain/core/ChainAnswer" "failure" "Lcom/example/commit_to_chain/committochain/core/ChainException;" .null from D1 (Or.inr (hw _ (List.mem_of_getElem? (i := 65) rfl))) (ty := (.object "com/example/commit_to_chain/committochain/core/ChainException")) (by decide)).ext E2)
  obtain ⟨_, _, ⟨T8, L8, k8, n8⟩, -, X8, ⟨Lc8, hQ8, l8, y8, z8⟩, st8⟩ := X4.specialBack hx (y := (⟨"com/example/commit_to_chain/committochain/core/ChainAnswer", "<init>", "(Ljava/lang/Object;Lcom/example/commit_to_chain/committochain/core/ChainException;)V"⟩ : MethodName)) rfl ho2 (mvT hZ2 (hw _ (List.mem_of_getElem? (i := 58) rfl))) (mvT hZ2 (hw _ (List.mem_of_getElem? (i := 59) rfl))) (mvT hZ2 (hw _ (List.mem_of_getElem? (i := 60) rfl))) (by decide) (backOf (W := 1) (rm_cainit l Z a0 hw [] ob1 r h2 n0 O3 fc5 fc6 fc7 (by first | assumption | omega | decide)) hZ2 (hw _ (List.mem_of_getElem? (i := 60) rfl)) (hw _ (List.mem_of_getElem? (i := 47) rfl)) (by decide) (by decide)) (g := (mkF m 11 #[.val (.ref r)] [.null, (.ref r), (.ref ob1), (.ref ob1)])) rfl (by rw [hml]; rfl) (Steps.refl _) (a := ob1) (argsL := [(.ref r), .null]) (rest := [(.ref ob1)]) (lenOf own_pd__28Ljava_2flang_2fObject_3bLcom_2fexample_2fcommit_to_chain_2fcommittochain_2fcore_2fChainException_3b_29V rfl) rfl (by show 2 * 0 + _ ≤ _; exact Nat.le_of_eq rfl) (hb hby d_rm_of_11) (fun _ _ => ⟨rfl, K4, (by decide : 3 + 0 ≤ _), (by decide : 30 + 0 ≤ _)⟩)
  dsimp only [Pt.U, Pt.locs, Pt.cells, Pt.slots] at X8 l8 y8 z8 st8 hQ8
  subst l8 y8 z8
  obtain ⟨rfl, M8, K8, g8_0, g8_1, g8_2⟩ := hQ8
  have N8 := Fr.app N4 M8
  refine own_by (fun _ k => st8.trans k) ?_
  have z8 := K8.1
  have lt_g8_0 : T8.heap.size > ob1 := g8_0.lt
  have lt_g8_1 : T8.heap.size > ob1 := g8_1.lt
  have lt_g8_2 : T8.heap.size > ob1 := g8_2.lt
  show own_Go p e below (T8.setTop (mkF m 14 #[.val (.ref r)] [(.ref ob1)])) _
  have K9 : Keep h0 T8.heap [] := ((((Keep.refl h0 []).ext E1).ext E2).trans K8 (allS (P := fun x => x ∈ [] ∨ h0.size ≤ x) (Or.inr (by omega)) all0))
  obtain ⟨fs, hr, hrun, hended, hW⟩ := X8.leaveW S2 (by first | omega | (rw [e0]; omega)) (v := some (.ref ob1)) (fun h => by rw [Bd.returns] at h; cases h)
  refine ⟨_, _, retOut X8 hx Bd.returns (own_narrow_ref (by decide) rfl) (Or.inr (Or.inr (Or.inr (Or.inr ⟨rfl, by decide, rfl⟩)))) (hb hby d_rm_of_14) hr, hrun, hended, _, _, rfl, ?_, ⟨_, rfl⟩, hW.2.1, hW.2.2.1, hW.2.2.2.mono (by decide) (by decide)⟩
  show Q_rm_of Z r h0 n0 _ T8.heap _
  exact ⟨ob1, rfl, N8, K9, g8_0, g8_1, g8_2, (by first | assumption | omega)⟩
theorem d_rm_get_0 : decode prog_5_method_4_code 0 = .ok (.aload_n 0, 1) := by decide +kernel
theorem d_rm_get_1 : decode prog_5_method_4_code 1 = .ok (.getfield 13, 3) := by decide +kernel
theorem d_rm_get_4 : decode prog_5_method_4_code 4 = .ok (.ifnull 8, 3) := by decide +kernel
theorem d_rm_get_12 : decode prog_5_method_4_code 12 = .ok (.aload_n 0, 1) := by decide +kernel
theorem d_rm_get_13 : decode prog_5_method_4_code 13 = .ok (.getfield 7, 3) := by decide +kernel
theorem d_rm_get_16 : decode prog_5_method_4_code 16 = .ok (.areturn, 1) := by decide +kernel
def Q_rm_get (Z : State) (t1 : Addr) (r : Addr) (h0 : Heap) (n0 : Nat) (v : Option Value) (h : Heap) (L : List Loc) : Prop := v = some (.ref r) ∧ Fr n0 L ∧ h = h0
theorem ef_rm_get (m : MethodId) (t1 : Addr) (r : Addr) : entryFrame m #[(.ref t1)] 1 = mkF m 0 #[.val (.ref t1)] [] := by first | (simp [entryFrame, mkF, argsToLocals, Value.category]; done) | rfl
set_option maxRecDepth 65536 in
set_option maxHeartbeats 40000000 in
theorem rm_get (l : Launch) (Z : State) (a0 : Array Value) (hw : ∀ d ∈ tables_1, d.before a0 Z = true) (ws : List Jvm.Cond) (t1 : Addr) (r : Addr) (h0 : Heap) (n0 : Nat) (O0 : Old Z n0 h0) (F1 : Fld Z h0 t1 "com/example/commit_to_chain/committochain/core/ChainAnswer" "result" "Ljava/lang/Object;" (.ref r)) (F2 : Fld Z h0 t1 "com/example/commit_to_chain/committochain/core/ChainAnswer" "failure" "Lcom/example/commit_to_chain/committochain/core/ChainException;" .null) :
    MetFree l (⟨"com/example/commit_to_chain/committochain/core/ChainAnswer", "get", "()Ljava/lang/Object;"⟩ : MethodName) (head1 (Jvm.Cond.code (⟨"com/example/commit_to_chain/committochain/core/ChainAnswer", "get", "()Ljava/lang/Object;"⟩ : MethodName) prog_5_method_4_code 1 (some (.object "java/lang/Object")) :: ws) ({ frames := 0, cells := 0, slots := 0, locals := 0 } : Room)) (fun a U => a = #[(.ref t1)] ∧ Z.Warmed39 U.vm ∧ U.heap = h0) (fun _ _ _ _ _ => True) (fun _ U o U' => ∃ v L, o = .returned v ∧ Q_rm_get Z t1 r h0 n0 v U'.heap L ∧ FrameEnd U o U' L ({ frames := 0, cells := 0, slots := 0, locals := 0 } : Room).cells ({ frames := 0, cells := 0, slots := 0, locals := 0 } : Room).slots) := by
  refine MetFree.of_bodySF (plainFor_of_name own_pn_com_example_commit_to_chain_committochain_core_ChainAnswer) hisR ?_
  intro p e s m args below meth c s₁ Bd hml0 hP hK
  obtain ⟨rfl, hZ, hh⟩ := hP
  have hx := Bd.exec
  have hby := Bd.bytes
  have hml : c.maxLocals = 1 := hml0
  have hown : s.vm.findClass "com/example/commit_to_chain/committochain/core/ChainAnswer" = some m.cls := findClass_of_methodNamed Bd.named
  have hnm := (name_of_methodNamed Bd.named Bd.method).1
  have X0 : Stand p l e ({ frames := 0, cells := 0, slots := 0, locals := 0 } : Room) s m #[(.ref t1)] below meth c s₁ [] 0 0 := Stand.of_body Bd
  have e0 : s₁.heap = h0 := by rw [← hh, Bd.state]; rfl
  have N0 := Fr.nil n0
  have Z0 : n0 ≤ h0.size := by rw [← O0.1]; exact O0.2.1
  show own_Go p e below (s₁.setTop (entryFrame m #[(.ref t1)] 1)) (fun t o => ∃ v L, o = .returned v ∧ Q_rm_get Z t1 r h0 n0 v t.heap L ∧ FrameEnd s o t L ({ frames := 0, cells := 0, slots := 0, locals := 0 } : Room).cells ({ frames := 0, cells := 0, slots := 0, locals := 0 } : Room).slots)
  rw [ef_rm_get m t1 r]
  have lt_F1 : h0.size > t1 := F1.lt
  have lt_F2 : h0.size > t1 := F2.lt
  refine own_by (fun _ k => XS.aloadN X0.here hx rfl (hb hby d_rm_get_0) rfl rfl k) ?_
  show own_Go p e below (s₁.setTop (mkF m 1 #[.val (.ref t1)] [(.ref t1)])) _
  obtain ⟨T1, X1, e1, st1⟩ := getF X0 hx hZ hown (host := "") (Or.inl (hw _ (List.mem_of_getElem? (i := 64) rfl))) Via.refl e0 F2 (g := (mkF m 1 #[.val (.ref t1)] [(.ref t1)])) rfl rfl (hb hby d_rm_get_1)
  refine own_by st1 ?_
  show own_Go p e below (T1.setTop (mkF m 4 #[.val (.ref t1)] [.null])) _
  refine own_by (fun _ k => XS.ifnullYes X1.here hx rfl (pc0 := 4) (pc' := 12) rfl (hb hby d_rm_get_4) rfl (by decide) (by decide) k) ?_
  show own_Go p e below (T1.setTop (mkF m 12 #[.val (.ref t1)] [])) _
  refine own_by (fun _ k => XS.aloadN X1.here hx rfl (hb hby d_rm_get_12) rfl rfl k) ?_
  show own_Go p e below (T1.setTop (mkF m 13 #[.val (.ref t1)] [(.ref t1)])) _
  obtain ⟨T2, X2, e2, st2⟩ := getF X1 hx hZ hown (host := "") (Or.inl (hw _ (List.mem_of_getElem? (i := 62) rfl))) Via.refl e1 F1 (g := (mkF m 13 #[.val (.ref t1)] [(.ref t1)])) rfl rfl (hb hby d_rm_get_13)
  refine own_by st2 ?_
  show own_Go p e below (T2.setTop (mkF m 16 #[.val (.ref t1)] [(.ref r)])) _
  obtain ⟨fs, hr, hrun, hended, hW, hsame⟩ := X2.leave (v := some (.ref r)) (fun h => by rw [Bd.returns] at h; cases h)
  refine ⟨_, _, retOut X2 hx Bd.returns (own_narrow_ref (by decide) rfl) (Or.inr (Or.inr (Or.inr (Or.inr ⟨rfl, by decide, rfl⟩)))) (hb hby d_rm_get_16) hr, hrun, hended, _, _, rfl, ?_, ⟨_, rfl⟩, hW, hsame.mono (by decide) (by decide)⟩
  show Q_rm_get Z t1 r h0 n0 _ T2.heap _
  rw [e2]
  exact ⟨rfl, N0, rfl⟩
theorem d_rm_iget_0 : decode jdk_33_method_27_code 0 = .ok (.aload_n 0, 1) := by decide +kernel
theorem d_rm_iget_1 : decode jdk_33_method_27_code 1 = .ok (.getfield 205, 3) := by decide +kernel
theorem d_rm_iget_4 : decode jdk_33_method_27_code 4 = .ok (.ireturn, 1) := by decide +kernel
def Q_rm_iget (Z : State) (t1 : Addr) (p1 : Int32) (h0 : Heap) (n0 : Nat) (v : Option Value) (h : Heap) (L : List Loc) : Prop := v = some (.int p1) ∧ Fr n0 L ∧ h = h0
theorem ef_rm_iget (m : MethodId) (t1 : Addr) (p1 : Int32) : entryFrame m #[(.ref t1)] 1 = mkF m 0 #[.val (.ref t1)] [] := by first | (simp [entryFrame, mkF, argsToLocals, Value.category]; done) | rfl
set_option maxRecDepth 65536 in
set_option maxHeartbeats 40000000 in
theorem rm_iget (l : Launch) (Z : State) (a0 : Array Value) (hw : ∀ d ∈ tables_1, d.before a0 Z = true) (ws : List Jvm.Cond) (t1 : Addr) (p1 : Int32) (h0 : Heap) (n0 : Nat) (O0 : Old Z n0 h0) (F1 : Fld Z h0 t1 "java/lang/Integer" "value" "I" (.int p1)) :
    MetFree l (⟨"java/lang/Integer", "intValue", "()I"⟩ : MethodName) (head1 (Jvm.Cond.code (⟨"java/lang/Integer", "intValue", "()I"⟩ : MethodName) jdk_33_method_27_code 1 (some .int) :: ws) ({ frames := 0, cells := 0, slots := 0, locals := 0 } : Room)) (fun a U => a = #[(.ref t1)] ∧ Z.Warmed39 U.vm ∧ U.heap = h0) (fun _ _ _ _ _ => True) (fun _ U o U' => ∃ v L, o = .returned v ∧ Q_rm_iget Z t1 p1 h0 n0 v U'.heap L ∧ FrameEnd U o U' L ({ frames := 0, cells := 0, slots := 0, locals := 0 } : Room).cells ({ frames := 0, cells := 0, slots := 0, locals := 0 } : Room).slots) := by
  refine MetFree.of_bodySF (plainFor_of_name own_pn_java_lang_Integer) hisR ?_
  intro p e s m args below meth c s₁ Bd hml0 hP hK
  obtain ⟨rfl, hZ, hh⟩ := hP
  have hx := Bd.exec
  have hby := Bd.bytes
  have hml : c.maxLocals = 1 := hml0
  have hown : s.vm.findClass "java/lang/Integer" = some m.cls := findClass_of_methodNamed Bd.named
  have hnm := (name_of_methodNamed Bd.named Bd.method).1
  have X0 : Stand p l e ({ frames := 0, cells := 0, slots := 0, locals := 0 } : Room) s m #[(.ref t1)] below meth c s₁ [] 0 0 := Stand.of_body Bd
  have e0 : s₁.heap = h0 := by rw [← hh, Bd.state]; rfl
  have N0 := Fr.nil n0
  have Z0 : n0 ≤ h0.size := by rw [← O0.1]; exact O0.2.1
  show own_Go p e below (s₁.setTop (entryFrame m #[(.ref t1)] 1)) (fun t o => ∃ v L, o = .returned v ∧ Q_rm_iget Z t1 p1 h0 n0 v t.heap L ∧ FrameEnd s o t L ({ frames := 0, cells := 0, slots := 0, locals := 0 } : Room).cells ({ frames := 0, cells := 0, slots := 0, locals := 0 } : Room).slots)
  rw [ef_rm_iget m t1 p1]
  have lt_F1 : h0.size > t1 := F1.lt
  refine own_by (fun _ k => XS.aloadN X0.here hx rfl (hb hby d_rm_iget_0) rfl rfl k) ?_
  show own_Go p e below (s₁.setTop (mkF m 1 #[.val (.ref t1)] [(.ref t1)])) _
  obtain ⟨T1, X1, e1, st1⟩ := getF X0 hx hZ hown (host := "") (Or.inl (hw _ (List.mem_of_getElem? (i := 80) rfl))) Via.refl e0 F1 (g := (mkF m 1 #[.val (.ref t1)] [(.ref t1)])) rfl rfl (hb hby d_rm_iget_1)
  refine own_by st1 ?_
  show own_Go p e below (T1.setTop (mkF m 4 #[.val (.ref t1)] [(.int p1)])) _
  obtain ⟨fs, hr, hrun, hended, hW, hsame⟩ := X1.leave (v := some (.int p1)) (fun h => by rw [Bd.returns] at h; cases h)
  refine ⟨_, _, retI X1 hx Bd.returns (hb hby d_rm_iget_4) hr, hrun, hended, _, _, rfl, ?_, ⟨_, rfl⟩, hW, hsame.mono (by decide) (by decide)⟩
  show Q_rm_iget Z t1 p1 h0 n0 _ T1.heap _
  rw [e1]
  exact ⟨rfl, N0, rfl⟩
theorem d_rm_lget_0 : decode jdk_35_method_31_code 0 = .ok (.aload_n 0, 1) := by decide +kernel
theorem d_rm_lget_1 : decode jdk_35_method_31_code 1 = .ok (.getfield 273, 3) := by decide +kernel
theorem d_rm_lget_4 : decode jdk_35_method_31_code 4 = .ok (.lreturn, 1) := by decide +kernel
def Q_rm_lget (Z : State) (t1 : Addr) (q : Int64) (h0 : Heap) (n0 : Nat) (v : Option Value) (h : Heap) (L : List Loc) : Prop := v = some (.long q) ∧ Fr n0 L ∧ h = h0
theorem ef_rm_lget (m : MethodId) (t1 : Addr) (q : Int64) : entryFrame m #[(.ref t1)] 1 = mkF m 0 #[.val (.ref t1)] [] := by first | (simp [entryFrame, mkF, argsToLocals, Value.category]; done) | rfl
set_option maxRecDepth 65536 in
set_option maxHeartbeats 40000000 in
theorem rm_lget (l : Launch) (Z : State) (a0 : Array Value) (hw : ∀ d ∈ tables_1, d.before a0 Z = true) (ws : List Jvm.Cond) (t1 : Addr) (q : Int64) (h0 : Heap) (n0 : Nat) (O0 : Old Z n0 h0) (F1 : Fld Z h0 t1 "java/lang/Long" "value" "J" (.long q)) :
    MetFree l (⟨"java/lang/Long", "longValue", "()J"⟩ : MethodName) (head1 (Jvm.Cond.code (⟨"java/lang/Long", "longValue", "()J"⟩ : MethodName) jdk_35_method_31_code 1 (some .long) :: ws) ({ frames := 0, cells := 0, slots := 0, locals := 0 } : Room)) (fun a U => a = #[(.ref t1)] ∧ Z.Warmed39 U.vm ∧ U.heap = h0) (fun _ _ _ _ _ => True) (fun _ U o U' => ∃ v L, o = .returned v ∧ Q_rm_lget Z t1 q h0 n0 v U'.heap L ∧ FrameEnd U o U' L ({ frames := 0, cells := 0, slots := 0, locals := 0 } : Room).cells ({ frames := 0, cells := 0, slots := 0, locals := 0 } : Room).slots) := by
  refine MetFree.of_bodySF (plainFor_of_name own_pn_java_lang_Long) hisR ?_
  intro p e s m args below meth c s₁ Bd hml0 hP hK
  obtain ⟨rfl, hZ, hh⟩ := hP
  have hx := Bd.exec
  have hby := Bd.bytes
  have hml : c.maxLocals = 1 := hml0
  have hown : s.vm.findClass "java/lang/Long" = some m.cls := findClass_of_methodNamed Bd.named
  have hnm := (name_of_methodNamed Bd.named Bd.method).1
  have X0 : Stand p l e ({ frames := 0, cells := 0, slots := 0, locals := 0 } : Room) s m #[(.ref t1)] below meth c s₁ [] 0 0 := Stand.of_body Bd
  have e0 : s₁.heap = h0 := by rw [← hh, Bd.state]; rfl
  have N0 := Fr.nil n0
  have Z0 : n0 ≤ h0.size := by rw [← O0.1]; exact O0.2.1
  show own_Go p e below (s₁.setTop (entryFrame m #[(.ref t1)] 1)) (fun t o => ∃ v L, o = .returned v ∧ Q_rm_lget Z t1 q h0 n0 v t.heap L ∧ FrameEnd s o t L ({ frames := 0, cells := 0, slots := 0, locals := 0 } : Room).cells ({ frames := 0, cells := 0, slots := 0, locals := 0 } : Room).slots)
  rw [ef_rm_lget m t1 q]
  have lt_F1 : h0.size > t1 := F1.lt
  refine own_by (fun _ k => XS.aloadN X0.here hx rfl (hb hby d_rm_lget_0) rfl rfl k) ?_
  show own_Go p e below (s₁.setTop (mkF m 1 #[.val (.ref t1)] [(.ref t1)])) _
  obtain ⟨T1, X1, e1, st1⟩ := getF X0 hx hZ hown (host := "") (Or.inl (hw _ (List.mem_of_getElem? (i := 87) rfl))) Via.refl e0 F1 (g := (mkF m 1 #[.val (.ref t1)] [(.ref t1)])) rfl rfl (hb hby d_rm_lget_1)
  refine own_by st1 ?_
  show own_Go p e below (T1.setTop (mkF m 4 #[.val (.ref t1)] [(.long q)])) _
  obtain ⟨fs, hr, hrun, hended, hW, hsame⟩ := X1.leave (v := some (.long q)) (fun h => by rw [Bd.returns] at h; cases h)
  refine ⟨_, _, retOut X1 hx Bd.returns rfl (Or.inr (Or.inl ⟨rfl, rfl, _, rfl⟩)) (hb hby d_rm_lget_4) hr, hrun, hended, _, _, rfl, ?_, ⟨_, rfl⟩, hW, hsame.mono (by decide) (by decide)⟩
  show Q_rm_lget Z t1 q h0 n0 _ T1.heap _
  rw [e1]
  exact ⟨rfl, N0, rfl⟩
theorem d_rm_comp5_2_0 : decode jdk_52_method_21_code 0 = .ok (.iconst 0, 1) := by decide +kernel
theorem d_rm_comp5_2_1 : decode jdk_52_method_21_code 1 = .ok (.istore 5, 2) := by decide +kernel
theorem d_rm_comp5_2_3 : decode jdk_52_method_21_code 3 = .ok (.iload 5, 2) := by decide +kernel
theorem d_rm_comp5_2_5 : decode jdk_52_method_21_code 5 = .ok (.iload 4, 2) := by decide +kernel
theorem d_rm_comp5_2_7 : decode jdk_52_method_21_code 7 = .ok (.if_icmp .ge 37, 3) := by decide +kernel
theorem d_rm_comp5_2_10 : decode jdk_52_method_21_code 10 = .ok (.aload_n 0, 1) := by decide +kernel
theorem d_rm_comp5_2_11 : decode jdk_52_method_21_code 11 = .ok (.iload_n 1, 1) := by decide +kernel
theorem d_rm_comp5_2_12 : decode jdk_52_method_21_code 12 = .ok (.caload, 1) := by decide +kernel
theorem d_rm_comp5_2_13 : decode jdk_52_method_21_code 13 = .ok (.istore 6, 2) := by decide +kernel
theorem d_rm_comp5_2_15 : decode jdk_52_method_21_code 15 = .ok (.iload 6, 2) := by decide +kernel
theorem d_rm_comp5_2_17 : decode jdk_52_method_21_code 17 = .ok (.sipush 255, 3) := by decide +kernel
theorem d_rm_comp5_2_20 : decode jdk_52_method_21_code 20 = .ok (.if_icmp .le 6, 3) := by decide +kernel
theorem d_rm_comp5_2_26 : decode jdk_52_method_21_code 26 = .ok (.aload_n 2, 1) := by decide +kernel
theorem d_rm_comp5_2_27 : decode jdk_52_method_21_code 27 = .ok (.iload_n 3, 1) := by decide +kernel
theorem d_rm_comp5_2_28 : decode jdk_52_method_21_code 28 = .ok (.iload 6, 2) := by decide +kernel
theorem d_rm_comp5_2_30 : decode jdk_52_method_21_code 30 = .ok (.i2b, 1) := by decide +kernel
theorem d_rm_comp5_2_31 : decode jdk_52_method_21_code 31 = .ok (.bastore, 1) := by decide +kernel
theorem d_rm_comp5_2_32 : decode jdk_52_method_21_code 32 = .ok (.iinc 1 1, 3) := by decide +kernel
theorem d_rm_comp5_2_35 : decode jdk_52_method_21_code 35 = .ok (.iinc 3 1, 3) := by decide +kernel
theorem d_rm_comp5_2_38 : decode jdk_52_method_21_code 38 = .ok (.iinc 5 1, 3) := by decide +kernel
theorem d_rm_comp5_2_41 : decode jdk_52_method_21_code 41 = .ok (.goto (-38), 3) := by decide +kernel
theorem d_rm_comp5_2_44 : decode jdk_52_method_21_code 44 = .ok (.iload 4, 2) := by decide +kernel
theorem d_rm_comp5_2_46 : decode jdk_52_method_21_code 46 = .ok (.ireturn, 1) := by decide +kernel
def Q_rm_comp5_2 (Z : State) (a1 : Addr) (b : Addr) (ka : ClassId) (kb : ClassId) (c1 : Int32) (c2 : Int32) (h0 : Heap) (n0 : Nat) (v : Option Value) (h : Heap) (L : List Loc) : Prop := v = some (.int (2 : Int32)) ∧ Fr n0 L ∧ Keep h0 h [b] ∧ Arv Z h b kb .byte (2 : Int32) [(.int (own_b c1)), (.int (own_b c2))] (.int (0 : Int32))
theorem ef_rm_comp5_2 (m : MethodId) (a1 : Addr) (b : Addr) (ka : ClassId) (kb : ClassId) (c1 : Int32) (c2 : Int32) : entryFrame m #[(.ref a1), (.int (0 : Int32)), (.ref b), (.int (0 : Int32)), (.int (2 : Int32))] 7 = mkF m 0 #[.val (.ref a1), .val (.int (0 : Int32)), .val (.ref b), .val (.int (0 : Int32)), .val (.int (2 : Int32)), .unset, .unset] [] := by first | (simp [entryFrame, mkF, argsToLocals, Value.category]; done) | rfl
set_option maxRecDepth 65536 in
set_option maxHeartbeats 40000000 in
theorem rm_comp5_2 (l : Launch) (Z : State) (a0 : Array Value) (hw : ∀ d ∈ tables_1, d.before a0 Z = true) (ws : List Jvm.Cond) (a1 : Addr) (b : Addr) (ka : ClassId) (kb : ClassId) (c1 : Int32) (c2 : Int32) (h0 : Heap) (n0 : Nat) (O0 : Old Z n0 h0) (Va : Arv Z h0 a1 ka .char (2 : Int32) [(.int c1), (.int c2)] (.int (0 : Int32))) (Vb : Arv Z h0 b kb .byte (2 : Int32) [] (.int (0 : Int32))) (rc1 : ¬ ((255 : Int32) < c1)) (rc2 : ¬ ((255 : Int32) < c2)) (gb : n0 ≤ b) (nab : ¬ (@Eq Nat a1 b)) :
    MetFree l (⟨"java/lang/StringUTF16", "compress", "([CI[BII)I"⟩ : MethodName) (head1 (Jvm.Cond.code (⟨"java/lang/StringUTF16", "compress", "([CI[BII)I"⟩ : MethodName) jdk_52_method_21_code 7 (some .int) :: ws) ({ frames := 0, cells := 0, slots := 0, locals := 0 } : Room)) (fun a U => a = #[(.ref a1), (.int (0 : Int32)), (.ref b), (.int (0 : Int32)), (.int (2 : Int32))] ∧ Z.Warmed39 U.vm ∧ U.heap = h0) (fun _ _ _ _ _ => True) (fun _ U o U' => ∃ v L, o = .returned v ∧ Q_rm_comp5_2 Z a1 b ka kb c1 c2 h0 n0 v U'.heap L ∧ FrameEnd U o U' L ({ frames := 0, cells := 0, slots := 0, locals := 0 } : Room).cells ({ frames := 0, cells := 0, slots := 0, locals := 0 } : Room).slots) := by
  refine MetFree.of_bodySF (plainFor_of_name own_pn_java_lang_StringUTF16) hisR ?_
  intro p e s m args below meth c s₁ Bd hml0 hP hK
  obtain ⟨rfl, hZ, hh⟩ := hP
  have hx := Bd.exec
  have hby := Bd.bytes
  have hml : c.maxLocals = 7 := hml0
  have hown : s.vm.findClass "java/lang/StringUTF16" = some m.cls := findClass_of_methodNamed Bd.named
  have hnm := (name_of_methodNamed Bd.named Bd.method).1
  have X0 : Stand p l e ({ frames := 0, cells := 0, slots := 0, locals := 0 } : Room) s m #[(.ref a1), (.int (0 : Int32)), (.ref b), (.int (0 : Int32)), (.int (2 : Int32))] below meth c s₁ [] 0 0 := Stand.of_body Bd
  have e0 : s₁.heap = h0 := by rw [← hh, Bd.state]; rfl
  have N0 := Fr.nil n0
  have Z0 : n0 ≤ h0.size := by rw [← O0.1]; exact O0.2.1
  show own_Go p e below (s₁.setTop (entryFrame m #[(.ref a1), (.int (0 : Int32)), (.ref b), (.int (0 : Int32)), (.int (2 : Int32))] 7)) (fun t o => ∃ v L, o = .returned v ∧ Q_rm_comp5_2 Z a1 b ka kb c1 c2 h0 n0 v t.heap L ∧ FrameEnd s o t L ({ frames := 0, cells := 0, slots := 0, locals := 0 } : Room).cells ({ frames := 0, cells := 0, slots := 0, locals := 0 } : Room).slots)
  rw [ef_rm_comp5_2 m a1 b ka kb c1 c2]
  have lt_Va : h0.size > a1 := Va.lt
  have lt_Vb : h0.size > b := Vb.lt
  refine own_by (fun _ k => XS.iconst X0.here hx rfl (hb hby d_rm_comp5_2_0) k) ?_
  show own_Go p e below (s₁.setTop (mkF m 1 #[.val (.ref a1), .val (.int (0 : Int32)), .val (.ref b), .val (.int (0 : Int32)), .val (.int (2 : Int32)), .unset, .unset] [(.int (0 : Int32))])) _
  refine own_by (fun _ k => XS.istore X0.here hx rfl (hb hby d_rm_comp5_2_1) rfl (l' := #[.val (.ref a1), .val (.int (0 : Int32)), .val (.ref b), .val (.int (0 : Int32)), .val (.int (2 : Int32)), .val (.int (0 : Int32)), .unset]) rfl k) ?_
  show own_Go p e below (s₁.setTop (mkF m 3 #[.val (.ref a1), .val (.int (0 : Int32)), .val (.ref b), .val (.int (0 : Int32)), .val (.int (2 : Int32)), .val (.int (0 : Int32)), .unset] [])) _
  refine own_by (fun _ k => XS.iload X0.here hx rfl (hb hby d_rm_comp5_2_3) rfl k) ?_
  show own_Go p e below (s₁.setTop (mkF m 5 #[.val (.ref a1), .val (.int (0 : Int32)), .val (.ref b), .val (.int (0 : Int32)), .val (.int (2 : Int32)), .val (.int (0 : Int32)), .unset] [(.int (0 : Int32))])) _
  refine own_by (fun _ k => XS.iload X0.here hx rfl (hb hby d_rm_comp5_2_5) rfl k) ?_
  show own_Go p e below (s₁.setTop (mkF m 7 #[.val (.ref a1), .val (.int (0 : Int32)), .val (.ref b), .val (.int (0 : Int32)), .val (.int (2 : Int32)), .val (.int (0 : Int32)), .unset] [(.int (2 : Int32)), (.int (0 : Int32))])) _
  refine own_by (fun _ k => XS.icmpNo X0.here hx rfl (hb hby d_rm_comp5_2_7) rfl (tlt (by decide : (0 : Int32) < (2 : Int32))).2.1 k) ?_
  show own_Go p e below (s₁.setTop (mkF m 10 #[.val (.ref a1), .val (.int (0 : Int32)), .val (.ref b), .val (.int (0 : Int32)), .val (.int (2 : Int32)), .val (.int (0 : Int32)), .unset] [])) _
  refine own_by (fun _ k => XS.aloadN X0.here hx rfl (hb hby d_rm_comp5_2_10) rfl rfl k) ?_
  show own_Go p e below (s₁.setTop (mkF m 11 #[.val (.ref a1), .val (.int (0 : Int32)), .val (.ref b), .val (.int (0 : Int32)), .val (.int (2 : Int32)), .val (.int (0 : Int32)), .unset] [(.ref a1)])) _
  refine own_by (fun _ k => XS.iloadN X0.here hx rfl (hb hby d_rm_comp5_2_11) rfl k) ?_
  show own_Go p e below (s₁.setTop (mkF m 12 #[.val (.ref a1), .val (.int (0 : Int32)), .val (.ref b), .val (.int (0 : Int32)), .val (.int (2 : Int32)), .val (.int (0 : Int32)), .unset] [(.int (0 : Int32)), (.ref a1)])) _
  obtain ⟨cl1, Ar1, q1, S1, M1, H1, G1⟩ := (id Va)
  have hin1 : ¬ ((0 : Int32) < 0 ∨ cl1.slots.size ≤ ((0 : Int32)).toNatClampNeg) := inb_of S1 ⟨by decide, by decide⟩
  refine own_by (X0.caload hx (j := (0 : Int32)) (v := (.int c1)) (by rw [e0]; exact Ar1.1) (State.isArrayOf_alike hZ.alike Ar1.2.1) Ar1.2.2 hin1 (H1.at hin1 rfl) (g := (mkF m 12 #[.val (.ref a1), .val (.int (0 : Int32)), .val (.ref b), .val (.int (0 : Int32)), .val (.int (2 : Int32)), .val (.int (0 : Int32)), .unset] [(.int (0 : Int32)), (.ref a1)])) rfl rfl (hb hby d_rm_comp5_2_12)) ?_
  show own_Go p e below (s₁.setTop (mkF m 13 #[.val (.ref a1), .val (.int (0 : Int32)), .val (.ref b), .val (.int (0 : Int32)), .val (.int (2 : Int32)), .val (.int (0 : Int32)), .unset] [(.int c1)])) _
  refine own_by (fun _ k => XS.istore X0.here hx rfl (hb hby d_rm_comp5_2_13) rfl (l' := #[.val (.ref a1), .val (.int (0 : Int32)), .val (.ref b), .val (.int (0 : Int32)), .val (.int (2 : Int32)), .val (.int (0 : Int32)), .val (.int c1)]) rfl k) ?_
  show own_Go p e below (s₁.setTop (mkF m 15 #[.val (.ref a1), .val (.int (0 : Int32)), .val (.ref b), .val (.int (0 : Int32)), .val (.int (2 : Int32)), .val (.int (0 : Int32)), .val (.int c1)] [])) _
  refine own_by (fun _ k => XS.iload X0.here hx rfl (hb hby d_rm_comp5_2_15) rfl k) ?_
  show own_Go p e below (s₁.setTop (mkF m 17 #[.val (.ref a1), .val (.int (0 : Int32)), .val (.ref b), .val (.int (0 : Int32)), .val (.int (2 : Int32)), .val (.int (0 : Int32)), .val (.int c1)] [(.int c1)])) _
  refine own_by (fun _ k => XS.sipush X0.here hx rfl (hb hby d_rm_comp5_2_17) k) ?_
  show own_Go p e below (s₁.setTop (mkF m 20 #[.val (.ref a1), .val (.int (0 : Int32)), .val (.ref b), .val (.int (0 : Int32)), .val (.int (2 : Int32)), .val (.int (0 : Int32)), .val (.int c1)] [(.int (255 : Int32)), (.int c1)])) _
  refine own_by (fun _ k => XS.icmpYes X0.here hx rfl (pc0 := 20) (pc' := 26) rfl (hb hby d_rm_comp5_2_20) rfl (flt rc1).2.2.2 (by decide) (by decide) k) ?_
  show own_Go p e below (s₁.setTop (mkF m 26 #[.val (.ref a1), .val (.int (0 : Int32)), .val (.ref b), .val (.int (0 : Int32)), .val (.int (2 : Int32)), .val (.int (0 : Int32)), .val (.int c1)] [])) _
  refine own_by (fun _ k => XS.aloadN X0.here hx rfl (hb hby d_rm_comp5_2_26) rfl rfl k) ?_
  show own_Go p e below (s₁.setTop (mkF m 27 #[.val (.ref a1), .val (.int (0 : Int32)), .val (.ref b), .val (.int (0 : Int32)), .val (.int (2 : Int32)), .val (.int (0 : Int32)), .val (.int c1)] [(.ref b)])) _
  refine own_by (fun _ k => XS.iloadN X0.here hx rfl (hb hby d_rm_comp5_2_27) rfl k) ?_
  show own_Go p e below (s₁.setTop (mkF m 28 #[.val (.ref a1), .val (.int (0 : Int32)), .val (.ref b), .val (.int (0 : Int32)), .val (.int (2 : Int32)), .val (.int (0 : Int32)), .val (.int c1)] [(.int (0 : Int32)), (.ref b)])) _
  refine own_by (fun _ k => XS.iload X0.here hx rfl (hb hby d_rm_comp5_2_28) rfl k) ?_
  show own_Go p e below (s₁.setTop (mkF m 30 #[.val (.ref a1), .val (.int (0 : Int32)), .val (.ref b), .val (.int (0 : Int32)), .val (.int (2 : Int32)), .val (.int (0 : Int32)), .val (.int c1)] [(.int c1), (.int (0 : Int32)), (.ref b)])) _
  refine own_by (fun _ k => XS.i2b X0.here hx rfl (hb hby d_rm_comp5_2_30) rfl k) ?_
  show own_Go p e below (s₁.setTop (mkF m 31 #[.val (.ref a1), .val (.int (0 : Int32)), .val (.ref b), .val (.int (0 : Int32)), .val (.int (2 : Int32)), .val (.int (0 : Int32)), .val (.int c1)] [(.int (c1.toInt8.toInt32)), (.int (0 : Int32)), (.ref b)])) _
  have Vw2 : Arv Z h0 b kb .byte (2 : Int32) [(.int (0 : Int32))] (.int (0 : Int32)) := Vb.pad (pad_rep [] (.int (0 : Int32)) 1)
  obtain ⟨cl3, Ar3, q3, S3, M3, H3, G3⟩ := (id Vw2)
  have hin3 : ¬ ((0 : Int32) < 0 ∨ cl3.slots.size ≤ ((0 : Int32)).toNatClampNeg) := inb_of S3 ⟨by decide, by decide⟩
  obtain ⟨T3, h3, X3, e3, W3, st3⟩ := stB X0 hx hZ e0 Ar3 (j := (0 : Int32)) hin3 (g := (mkF m 31 #[.val (.ref a1), .val (.int (0 : Int32)), .val (.ref b), .val (.int (0 : Int32)), .val (.int (2 : Int32)), .val (.int (0 : Int32)), .val (.int c1)] [(.int (c1.toInt8.toInt32)), (.int (0 : Int32)), (.ref b)])) rfl rfl (hb hby d_rm_comp5_2_31)
  refine own_by st3 ?_
  have z3 := W3.size
  have N3 := Fr.snoc X3 N0 (by omega)
  have Vw3 : Arv Z h3 b kb .byte (2 : Int32) [(.int (own_b c1))] (.int (0 : Int32)) := Arv.set Ar3 q3 S3 M3 H3 G3 (fits_nar_byte2 _) W3 0 rfl (Nat.le_of_ble_eq_true rfl)
  show own_Go p e below (T3.setTop (mkF m 32 #[.val (.ref a1), .val (.int (0 : Int32)), .val (.ref b), .val (.int (0 : Int32)), .val (.int (2 : Int32)), .val (.int (0 : Int32)), .val (.int c1)] [])) _
  refine own_by (fun _ k => XS.iinc X3.here hx rfl (hb hby d_rm_comp5_2_32) rfl (l' := #[.val (.ref a1), .val (.int (1 : Int32)), .val (.ref b), .val (.int (0 : Int32)), .val (.int (2 : Int32)), .val (.int (0 : Int32)), .val (.int c1)]) rfl k) ?_
  show own_Go p e below (T3.setTop (mkF m 35 #[.val (.ref a1), .val (.int (1 : Int32)), .val (.ref b), .val (.int (0 : Int32)), .val (.int (2 : Int32)), .val (.int (0 : Int32)), .val (.int c1)] [])) _
  refine own_by (fun _ k => XS.iinc X3.here hx rfl (hb hby d_rm_comp5_2_35) rfl (l' := #[.val (.ref a1), .val (.int (1 : Int32)), .val (.ref b), .val (.int (1 : Int32)), .val (.int (2 : Int32)), .val (.int (0 : Int32)), .val (.int c1)]) rfl k) ?_
  show own_Go p e below (T3.setTop (mkF m 38 #[.val (.ref a1), .val (.int (1 : Int32)), .val (.ref b), .val (.int (1 : Int32)), .val (.int (2 : Int32)), .val (.int (0 : Int32)), .val (.int c1)] [])) _
  refine own_by (fun _ k => XS.iinc X3.here hx rfl (hb hby d_rm_comp5_2_38) rfl (l' := #[.val (.ref a1), .val (.int (1 : Int32)), .val (.ref b), .val (.int (1 : Int32)), .val (.int (2 : Int32)), .val (.int (1 : Int32)), .val (.int c1)]) rfl k) ?_
  show own_Go p e below (T3.setTop (mkF m 41 #[.val (.ref a1), .val (.int (1 : Int32)), .val (.ref b), .val (.int (1 : Int32)), .val (.int (2 : Int32)), .val (.int (1 : Int32)), .val (.int c1)] [])) _
  refine own_by (fun _ k => XS.goto X3.here hx rfl (pc0 := 41) (pc' := 3) rfl (hb hby d_rm_comp5_2_41) (by decide) (by decide) k) ?_
  show own_Go p e below (T3.setTop (mkF m 3 #[.val (.ref a1), .val (.int (1 : Int32)), .val (.ref b), .val (.int (1 : Int32)), .val (.int (2 : Int32)), .val (.int (1 : Int32)), .val (.int c1)] [])) _
  refine own_by (fun _ k => XS.iload X3.here hx rfl (hb hby d_rm_comp5_2_3) rfl k) ?_
  show own_Go p e below (T3.setTop (mkF m 5 #[.val (.ref a1), .val (.int (1 : Int32)), .val (.ref b), .val (.int (1 : Int32)), .val (.int (2 : Int32)), .val (.int (1 : Int32)), .val (.int c1)] [(.int (1 : Int32))])) _
  refine own_by (fun _ k => XS.iload X3.here hx rfl (hb hby d_rm_comp5_2_5) rfl k) ?_
  show own_Go p e below (T3.setTop (mkF m 7 #[.val (.ref a1), .val (.int (1 : Int32)), .val (.ref b), .val (.int (1 : Int32)), .val (.int (2 : Int32)), .val (.int (1 : Int32)), .val (.int c1)] [(.int (2 : Int32)), (.int (1 : Int32))])) _
  refine own_by (fun _ k => XS.icmpNo X3.here hx rfl (hb hby d_rm_comp5_2_7) rfl (tlt (by decide : (1 : Int32) < (2 : Int32))).2.1 k) ?_
  show own_Go p e below (T3.setTop (mkF m 10 #[.val (.ref a1), .val (.int (1 : Int32)), .val (.ref b), .val (.int (1 : Int32)), .val (.int (2 : Int32)), .val (.int (1 : Int32)), .val (.int c1)] [])) _
  refine own_by (fun _ k => XS.aloadN X3.here hx rfl (hb hby d_rm_comp5_2_10) rfl rfl k) ?_
  show own_Go p e below (T3.setTop (mkF m 11 #[.val (.ref a1), .val (.int (1 : Int32)), .val (.ref b), .val (.int (1 : Int32)), .val (.int (2 : Int32)), .val (.int (1 : Int32)), .val (.int c1)] [(.ref a1)])) _
  refine own_by (fun _ k => XS.iloadN X3.here hx rfl (hb hby d_rm_comp5_2_11) rfl k) ?_
  show own_Go p e below (T3.setTop (mkF m 12 #[.val (.ref a1), .val (.int (1 : Int32)), .val (.ref b), .val (.int (1 : Int32)), .val (.int (2 : Int32)), .val (.int (1 : Int32)), .val (.int c1)] [(.int (1 : Int32)), (.ref a1)])) _
  have fc4 : Arv Z h3 a1 ka .char (2 : Int32) [(.int c1), (.int c2)] (.int (0 : Int32)) := (Va.other W3 (own_ne (by omega)))
  obtain ⟨cl5, Ar5, q5, S5, M5, H5, G5⟩ := (id fc4)
  have hin5 : ¬ ((1 : Int32) < 0 ∨ cl5.slots.size ≤ ((1 : Int32)).toNatClampNeg) := inb_of S5 ⟨by decide, by decide⟩
  refine own_by (X3.caload hx (j := (1 : Int32)) (v := (.int c2)) (by rw [e3]; exact Ar5.1) (State.isArrayOf_alike hZ.alike Ar5.2.1) Ar5.2.2 hin5 (H5.at hin5 rfl) (g := (mkF m 12 #[.val (.ref a1), .val (.int (1 : Int32)), .val (.ref b), .val (.int (1 : Int32)), .val (.int (2 : Int32)), .val (.int (1 : Int32)), .val (.int c1)] [(.int (1 : Int32)), (.ref a1)])) rfl rfl (hb hby d_rm_comp5_2_12)) ?_
  show own_Go p e below (T3.setTop (mkF m 13 #[.val (.ref a1), .val (.int (1 : Int32)), .val (.ref b), .val (.int (1 : Int32)), .val (.int (2 : Int32)), .val (.int (1 : Int32)), .val (.int c1)] [(.int c2)])) _
  refine own_by (fun _ k => XS.istore X3.here hx rfl (hb hby d_rm_comp5_2_13) rfl (l' := #[.val (.ref a1), .val (.int (1 : Int32)), .val (.ref b), .val (.int (1 : Int32)), .val (.int (2 : Int32)), .val (.int (1 : Int32)), .val (.int c2)]) rfl k) ?_
  show own_Go p e below (T3.setTop (mkF m 15 #[.val (.ref a1), .val (.int (1 : Int32)), .val (.ref b), .val (.int (1 : Int32)), .val (.int (2 : Int32)), .val (.int (1 : Int32)), .val (.int c2)] [])) _
  refine own_by (fun _ k => XS.iload X3.here hx rfl (hb hby d_rm_comp5_2_15) rfl k) ?_
  show own_Go p e below (T3.setTop (mkF m 17 #[.val (.ref a1), .val (.int (1 : Int32)), .val (.ref b), .val (.int (1 : Int32)), .val (.int (2 : Int32)), .val (.int (1 : Int32)), .val (.int c2)] [(.int c2)])) _
  refine own_by (fun _ k => XS.sipush X3.here hx rfl (hb hby d_rm_comp5_2_17) k) ?_
  show own_Go p e below (T3.setTop (mkF m 20 #[.val (.ref a1), .val (.int (1 : Int32)), .val (.ref b), .val (.int (1 : Int32)), .val (.int (2 : Int32)), .val (.int (1 : Int32)), .val (.int c2)] [(.int (255 : Int32)), (.int c2)])) _
  refine own_by (fun _ k => XS.icmpYes X3.here hx rfl (pc0 := 20) (pc' := 26) rfl (hb hby d_rm_comp5_2_20) rfl (flt rc2).2.2.2 (by decide) (by decide) k) ?_
  show own_Go p e below (T3.setTop (mkF m 26 #[.val (.ref a1), .val (.int (1 : Int32)), .val (.ref b), .val (.int (1 : Int32)), .val (.int (2 : Int32)), .val (.int (1 : Int32)), .val (.int c2)] [])) _
  refine own_by (fun _ k => XS.aloadN X3.here hx rfl (hb hby d_rm_comp5_2_26) rfl rfl k) ?_
  show own_Go p e below (T3.setTop (mkF m 27 #[.val (.ref a1), .val (.int (1 : Int32)), .val (.ref b), .val (.int (1 : Int32)), .val (.int (2 : Int32)), .val (.int (1 : Int32)), .val (.int c2)] [(.ref b)])) _
  refine own_by (fun _ k => XS.iloadN X3.here hx rfl (hb hby d_rm_comp5_2_27) rfl k) ?_
  show own_Go p e below (T3.setTop (mkF m 28 #[.val (.ref a1), .val (.int (1 : Int32)), .val (.ref b), .val (.int (1 : Int32)), .val (.int (2 : Int32)), .val (.int (1 : Int32)), .val (.int c2)] [(.int (1 : Int32)), (.ref b)])) _
  refine own_by (fun _ k => XS.iload X3.here hx rfl (hb hby d_rm_comp5_2_28) rfl k) ?_
  show own_Go p e below (T3.setTop (mkF m 30 #[.val (.ref a1), .val (.int (1 : Int32)), .val (.ref b), .val (.int (1 : Int32)), .val (.int (2 : Int32)), .val (.int (1 : Int32)), .val (.int c2)] [(.int c2), (.int (1 : Int32)), (.ref b)])) _
  refine own_by (fun _ k => XS.i2b X3.here hx rfl (hb hby d_rm_comp5_2_30) rfl k) ?_
  show own_Go p e below (T3.setTop (mkF m 31 #[.val (.ref a1), .val (.int (1 : Int32)), .val (.ref b), .val (.int (1 : Int32)), .val (.int (2 : Int32)), .val (.int (1 : Int32)), .val (.int c2)] [(.int (c2.toInt8.toInt32)), (.int (1 : Int32)), (.ref b)])) _
  have Vw6 : Arv Z h3 b kb .byte (2 : Int32) [(.int (own_b c1)), (.int (0 : Int32))] (.int (0 : Int32)) := Vw3.pad (pad_rep [(.int (own_b c1))] (.int (0 : Int32)) 1)
  obtain ⟨cl7, Ar7, q7, S7, M7, H7, G7⟩ := (id Vw6)
  have hin7 : ¬ ((1 : Int32) < 0 ∨ cl7.slots.size ≤ ((1 : Int32)).toNatClampNeg) := inb_of S7 ⟨by decide, by decide⟩
  obtain ⟨T7, h7, X7, e7, W7, st7⟩ := stB X3 hx hZ e3 Ar7 (j := (1 : Int32)) hin7 (g := (mkF m 31 #[.val (.ref a1), .val (.int (1 : Int32)), .val (.ref b), .val (.int (1 : Int32)), .val (.int (2 : Int32)), .val (.int (1 : Int32)), .val (.int c2)] [(.int (c2.toInt8.toInt32)), (.int (1 : Int32)), (.ref b)])) rfl rfl (hb hby d_rm_comp5_2_31)
  refine own_by st7 ?_
  have z7 := W7.size
  have N7 := Fr.snoc X7 N3 (by omega)
  have Vw7 : Arv Z h7 b kb .byte (2 : Int32) [(.int (own_b c1)), (.int (own_b c2))] (.int (0 : Int32)) := Arv.set Ar7 q7 S7 M7 H7 G7 (fits_nar_byte2 _) W7 1 rfl (Nat.le_of_ble_eq_true rfl)
  show own_Go p e below (T7.setTop (mkF m 32 #[.val (.ref a1), .val (.int (1 : Int32)), .val (.ref b), .val (.int (1 : Int32)), .val (.int (2 : Int32)), .val (.int (1 : Int32)), .val (.int c2)] [])) _
  refine own_by (fun _ k => XS.iinc X7.here hx rfl (hb hby d_rm_comp5_2_32) rfl (l' := #[.val (.ref a1), .val (.int (2 : Int32)), .val (.ref b), .val (.int (1 : Int32)), .val (.int (2 : Int32)), .val (.int (1 : Int32)), .val (.int c2)]) rfl k) ?_
  show own_Go p e below (T7.setTop (mkF m 35 #[.val (.ref a1), .val (.int (2 : Int32)), .val (.ref b), .val (.int (1 : Int32)), .val (.int (2 : Int32)), .val (.int (1 : Int32)), .val (.int c2)] [])) _
  refine own_by (fun _ k => XS.iinc X7.here hx rfl (hb hby d_rm_comp5_2_35) rfl (l' := #[.val (.ref a1), .val (.int (2 : Int32)), .val (.ref b), .val (.int (2 : Int32)), .val (.int (2 : Int32)), .val (.int (1 : Int32)), .val (.int c2)]) rfl k) ?_
  show own_Go p e below (T7.setTop (mkF m 38 #[.val (.ref a1), .val (.int (2 : Int32)), .val (.ref b), .val (.int (2 : Int32)), .val (.int (2 : Int32)), .val (.int (1 : Int32)), .val (.int c2)] [])) _
  refine own_by (fun _ k => XS.iinc X7.here hx rfl (hb hby d_rm_comp5_2_38) rfl (l' := #[.val (.ref a1), .val (.int (2 : Int32)), .val (.ref b), .val (.int (2 : Int32)), .val (.int (2 : Int32)), .val (.int (2 : Int32)), .val (.int c2)]) rfl k) ?_
  show own_Go p e below (T7.setTop (mkF m 41 #[.val (.ref a1), .val (.int (2 : Int32)), .val (.ref b), .val (.int (2 : Int32)), .val (.int (2 : Int32)), .val (.int (2 : Int32)), .val (.int c2)] [])) _
  refine own_by (fun _ k => XS.goto X7.here hx rfl (pc0 := 41) (pc' := 3) rfl (hb hby d_rm_comp5_2_41) (by decide) (by decide) k) ?_
  show own_Go p e below (T7.setTop (mkF m 3 #[.val (.ref a1), .val (.int (2 : Int32)), .val (.ref b), .val (.int (2 : Int32)), .val (.int (2 : Int32)), .val (.int (2 : Int32)), .val (.int c2)] [])) _
  refine own_by (fun _ k => XS.iload X7.here hx rfl (hb hby d_rm_comp5_2_3) rfl k) ?_
  show own_Go p e below (T7.setTop (mkF m 5 #[.val (.ref a1), .val (.int (2 : Int32)), .val (.ref b), .val (.int (2 : Int32)), .val (.int (2 : Int32)), .val (.int (2 : Int32)), .val (.int c2)] [(.int (2 : Int32))])) _
  refine own_by (fun _ k => XS.iload X7.here hx rfl (hb hby d_rm_comp5_2_5) rfl k) ?_
  show own_Go p e below (T7.setTop (mkF m 7 #[.val (.ref a1), .val (.int (2 : Int32)), .val (.ref b), .val (.int (2 : Int32)), .val (.int (2 : Int32)), .val (.int (2 : Int32)), .val (.int c2)] [(.int (2 : Int32)), (.int (2 : Int32))])) _
  refine own_by (fun _ k => XS.icmpYes X7.here hx rfl (pc0 := 7) (pc' := 44) rfl (hb hby d_rm_comp5_2_7) rfl (flt (by decide : ¬ ((2 : Int32) < (2 : Int32)))).2.1 (by decide) (by decide) k) ?_
  show own_Go p e below (T7.setTop (mkF m 44 #[.val (.ref a1), .val (.int (2 : Int32)), .val (.ref b), .val (.int (2 : Int32)), .val (.int (2 : Int32)), .val (.int (2 : Int32)), .val (.int c2)] [])) _
  refine own_by (fun _ k => XS.iload X7.here hx rfl (hb hby d_rm_comp5_2_44) rfl k) ?_
  show own_Go p e below (T7.setTop (mkF m 46 #[.val (.ref a1), .val (.int (2 : Int32)), .val (.ref b), .val (.int (2 : Int32)), .val (.int (2 : Int32)), .val (.int (2 : Int32)), .val (.int c2)] [(.int (2 : Int32))])) _
  have K8 : Keep h0 h7 [b] := (((Keep.refl h0 [b]).wr W3 (Or.inl (List.mem_of_getElem? (i := 0) rfl))).wr W7 (Or.inl (List.mem_of_getElem? (i := 0) rfl)))
  obtain ⟨fs, hr, hrun, hended, hW, hsame⟩ := X7.leave (v := some (.int (2 : Int32))) (fun h => by rw [Bd.returns] at h; cases h)
  refine ⟨_, _, retI X7 hx Bd.returns (hb hby d_rm_comp5_2_46) hr, hrun, hended, _, _, rfl, ?_, ⟨_, rfl⟩, hW, hsame.mono (by decide) (by decide)⟩
  show Q_rm_comp5_2 Z a1 b ka kb c1 c2 h0 n0 _ T7.heap _
  rw [e7]
  exact ⟨rfl, N7, K8, Vw7⟩
theorem d_rm_comp3_2_0 : decode jdk_52_method_16_code 0 = .ok (.iload_n 2, 1) := by decide +kernel
theorem d_rm_comp3_2_1 : decode jdk_52_method_16_code 1 = .ok (.newarray .byte, 2) := by decide +kernel
theorem d_rm_comp3_2_3 : decode jdk_52_method_16_code 3 = .ok (.astore_n 3, 1) := by decide +kernel
theorem d_rm_comp3_2_4 : decode jdk_52_method_16_code 4 = .ok (.aload_n 0, 1) := by decide +kernel
theorem d_rm_comp3_2_5 : decode jdk_52_method_16_code 5 = .ok (.iload_n 1, 1) := by decide +kernel
theorem d_rm_comp3_2_6 : decode jdk_52_method_16_code 6 = .ok (.aload_n 3, 1) := by decide +kernel
theorem d_rm_comp3_2_7 : decode jdk_52_method_16_code 7 = .ok (.iconst 0, 1) := by decide +kernel
theorem d_rm_comp3_2_8 : decode jdk_52_method_16_code 8 = .ok (.iload_n 2, 1) := by decide +kernel
theorem d_rm_comp3_2_9 : decode jdk_52_method_16_code 9 = .ok (.invokestatic 115, 3) := by decide +kernel
theorem d_rm_comp3_2_12 : decode jdk_52_method_16_code 12 = .ok (.istore 4, 2) := by decide +kernel
theorem d_rm_comp3_2_14 : decode jdk_52_method_16_code 14 = .ok (.iload 4, 2) := by decide +kernel
theorem d_rm_comp3_2_16 : decode jdk_52_method_16_code 16 = .ok (.iload_n 2, 1) := by decide +kernel
theorem d_rm_comp3_2_17 : decode jdk_52_method_16_code 17 = .ok (.if_icmp .eq 40, 3) := by decide +kernel
theorem d_rm_comp3_2_57 : decode jdk_52_method_16_code 57 = .ok (.aload_n 3, 1) := by decide +kernel
theorem d_rm_comp3_2_58 : decode jdk_52_method_16_code 58 = .ok (.areturn, 1) := by decide +kernel
def Q_rm_comp3_2 (Z : State) (a1 : Addr) (ka : ClassId) (c1 : Int32) (c2 : Int32) (h0 : Heap) (n0 : Nat) (v : Option Value) (h : Heap) (L : List Loc) : Prop := ∃ (b : Addr), ∃ (kb : ClassId), v = some (.ref b) ∧ Fr n0 L ∧ Keep h0 h [] ∧ Arv Z h b kb .byte (2 : Int32) [(.int (own_b c1)), (.int (own_b c2))] (.int (0 : Int32)) ∧ h0.size ≤ b
theorem ef_rm_comp3_2 (m : MethodId) (a1 : Addr) (ka : ClassId) (c1 : Int32) (c2 : Int32) : entryFrame m #[(.ref a1), (.int (0 : Int32)), (.int (2 : Int32))] 6 = mkF m 0 #[.val (.ref a1), .val (.int (0 : Int32)), .val (.int (2 : Int32)), .unset, .unset, .unset] [] := by first | (simp [entryFrame, mkF, argsToLocals, Value.category]; done) | rfl
set_option maxRecDepth 65536 in
set_option maxHeartbeats 40000000 in
theorem rm_comp3_2 (l : Launch) (Z : State) (a0 : Array Value) (hw : ∀ d ∈ tables_1, d.before a0 Z = true) (ws : List Jvm.Cond) (a1 : Addr) (ka : ClassId) (c1 : Int32) (c2 : Int32) (h0 : Heap) (n0 : Nat) (O0 : Old Z n0 h0) (Va : Arv Z h0 a1 ka .char (2 : Int32) [(.int c1), (.int c2)] (.int (0 : Int32))) (rc1 : ¬ ((255 : Int32) < c1)) (rc2 : ¬ ((255 : Int32) < c2)) :
    MetFree l (⟨"java/lang/StringUTF16", "compress", "([CII)[B"⟩ : MethodName) (head1 (Jvm.Cond.code (⟨"java/lang/StringUTF16", "compress", "([CII)[B"⟩ : MethodName) jdk_52_method_16_code 6 (some (.array .byte)) :: ws) ({ frames := 1, cells := 1, slots := 2, locals := 18 } : Room)) (fun a U => a = #[(.ref a1), (.int (0 : Int32)), (.int (2 : Int32))] ∧ Z.Warmed39 U.vm ∧ U.heap = h0) (fun _ _ _ _ _ => True) (fun _ U o U' => ∃ v L, o = .returned v ∧ Q_rm_comp3_2 Z a1 ka c1 c2 h0 n0 v U'.heap L ∧ FrameEnd U o U' L ({ frames := 1, cells := 1, slots := 2, locals := 18 } : Room).cells ({ frames := 1, cells := 1, slots := 2, locals := 18 } : Room).slots) := by
  refine MetFree.of_bodySF (plainFor_of_name own_pn_java_lang_StringUTF16) hisR ?_
  intro p e s m args below meth c s₁ Bd hml0 hP hK
  obtain ⟨rfl, hZ, hh⟩ := hP
  have hx := Bd.exec
  have hby := Bd.bytes
  have hml : c.maxLocals = 6 := hml0
  have hown : s.vm.findClass "java/lang/StringUTF16" = some m.cls := findClass_of_methodNamed Bd.named
  have hnm := (name_of_methodNamed Bd.named Bd.method).1
  have X0 : Stand p l e ({ frames := 1, cells := 1, slots := 2, locals := 18 } : Room) s m #[(.ref a1), (.int (0 : Int32)), (.int (2 : Int32))] below meth c s₁ [] 0 0 := Stand.of_body Bd
  have e0 : s₁.heap = h0 := by rw [← hh, Bd.state]; rfl
  have N0 := Fr.nil n0
  have Z0 : n0 ≤ h0.size := by rw [← O0.1]; exact O0.2.1
  show own_Go p e below (s₁.setTop (entryFrame m #[(.ref a1), (.int (0 : Int32)), (.int (2 : Int32))] 6)) (fun t o => ∃ v L, o = .returned v ∧ Q_rm_comp3_2 Z a1 ka c1 c2 h0 n0 v t.heap L ∧ FrameEnd s o t L ({ frames := 1, cells := 1, slots := 2, locals := 18 } : Room).cells ({ frames := 1, cells := 1, slots := 2, locals := 18 } : Room).slots)
  rw [ef_rm_comp3_2 m a1 ka c1 c2]
  have lt_Va : h0.size > a1 := Va.lt
  refine own_by (fun _ k => XS.iloadN X0.here hx rfl (hb hby d_rm_comp3_2_0) rfl k) ?_
  show own_Go p e below (s₁.setTop (mkF m 1 #[.val (.ref a1), .val (.int (0 : Int32)), .val (.int (2 : Int32)), .unset, .unset, .unset] [(.int (2 : Int32))])) _
  obtain ⟨T1, h1, k1, X1, e1, E1, A1, st1⟩ := newP X0 hx hZ (hw _ (List.mem_of_getElem? (i := 34) rfl)) e0 (g := (mkF m 1 #[.val (.ref a1), .val (.int (0 : Int32)), .val (.int (2 : Int32)), .unset, .unset, .unset] [(.int (2 : Int32))])) rfl (hb hby d_rm_comp3_2_1) rfl (by decide) (cap := 2) (by decide) (by decide) (by decide) (by decide)
  obtain ⟨ob1, g1⟩ : ∃ z, z = h0.size := ⟨_, rfl⟩
  rw [← g1] at A1 st1
  refine own_by st1 ?_
  have z1 := E1.1
  have Vw1 : Arv Z h1 ob1 k1 .byte (2 : Int32) [] (.int (0 : Int32)) := Arv.new A1 (by decide)
  have lt1 : h1.size > ob1 := Vw1.lt
  show own_Go p e below (T1.setTop (mkF m 3 #[.val (.ref a1), .val (.int (0 : Int32)), .val (.int (2 : Int32)), .unset, .unset, .unset] [(.ref ob1)])) _
  refine own_by (fun _ k => XS.astoreN X1.here hx rfl (hb hby d_rm_comp3_2_3) rfl rfl (l' := #[.val (.ref a1), .val (.int (0 : Int32)), .val (.int (2 : Int32)), .val (.ref ob1), .unset, .unset]) rfl k) ?_
  show own_Go p e below (T1.setTop (mkF m 4 #[.val (.ref a1), .val (.int (0 : Int32)), .val (.int (2 : Int32)), .val (.ref ob1), .unset, .unset] [])) _
  refine own_by (fun _ k => XS.aloadN X1.here hx rfl (hb hby d_rm_comp3_2_4) rfl rfl k) ?_
  show own_Go p e below (T1.setTop (mkF m 5 #[.val (.ref a1), .val (.int (0 : Int32)), .val (.int (2 : Int32)), .val (.ref ob1), .unset, .unset] [(.ref a1)])) _
  refine own_by (fun _ k => XS.iloadN X1.here hx rfl (hb hby d_rm_comp3_2_5) rfl k) ?_
  show own_Go p e below (T1.setTop (mkF m 6 #[.val (.ref a1), .val (.int (0 : Int32)), .val (.int (2 : Int32)), .val (.ref ob1), .unset, .unset] [(.int (0 : Int32)), (.ref a1)])) _
  refine own_by (fun _ k => XS.aloadN X1.here hx rfl (hb hby d_rm_comp3_2_6) rfl rfl k) ?_
  show own_Go p e below (T1.setTop (mkF m 7 #[.val (.ref a1), .val (.int (0 : Int32)), .val (.int (2 : Int32)), .val (.ref ob1), .unset, .unset] [(.ref ob1), (.int (0 : Int32)), (.ref a1)])) _
  refine own_by (fun _ k => XS.iconst X1.here hx rfl (hb hby d_rm_comp3_2_7) k) ?_
  show own_Go p e below (T1.setTop (mkF m 8 #[.val (.ref a1), .val (.int (0 : Int32)), .val (.int (2 : Int32)), .val (.ref ob1), .unset, .unset] [(.int (0 : Int32)), (.ref ob1), (.int (0 : Int32)), (.ref a1)])) _
  refine own_by (fun _ k => XS.iloadN X1.here hx rfl (hb hby d_rm_comp3_2_8) rfl k) ?_
  show own_Go p e below (T1.setTop (mkF m 9 #[.val (.ref a1), .val (.int (0 : Int32)), .val (.int (2 : Int32)), .val (.ref ob1), .unset, .unset] [(.int (2 : Int32)), (.int (0 : Int32)), (.ref ob1), (.int (0 : Int32)), (.ref a1)])) _
  have fc2 : Arv Z h1 a1 ka .char (2 : Int32) [(.int c1), (.int c2)] (.int (0 : Int32)) := (Va.ext E1)
  have O3 : Old Z n0 h1 := (O0.ext E1)
  obtain ⟨_, _, ⟨T4, L4, k4, n4⟩, -, X4, ⟨Lc4, hQ4, l4, y4, z4⟩, st4⟩ := Jvm.LawKit.callS X1 hx (y := (⟨"java/lang/StringUTF16", "compress", "([CI[BII)I"⟩ : MethodName)) hown (mvT hZ (hw _ (List.mem_of_getElem? (i := 35) rfl))) (mvT hZ (hw _ (List.mem_of_getElem? (i := 36) rfl))) (mvT hZ (hw _ (List.mem_of_getElem? (i := 32) rfl))) (mvT hZ (hw _ (List.mem_of_getElem? (i := 37) rfl))) (by decide) (backOf (W := 0) (rm_comp5_2 l Z a0 hw [] a1 ob1 ka k1 c1 c2 h1 n0 O3 fc2 Vw1 rc1 rc2 (by first | assumption | omega | decide) (by first | assumption | omega | decide)) hZ (hw _ (List.mem_of_getElem? (i := 37) rfl)) (hw _ (List.mem_of_getElem? (i := 32) rfl)) (by decide) (by decide)) (g := (mkF m 9 #[.val (.ref a1), .val (.int (0 : Int32)), .val (.int (2 : Int32)), .val (.ref ob1), .unset, .unset] [(.int (2 : Int32)), (.int (0 : Int32)), (.ref ob1), (.int (0 : Int32)), (.ref a1)])) rfl (by rw [hml]; rfl) (argsL := [(.ref a1), (.int (0 : Int32)), (.ref ob1), (.int (0 : Int32)), (.int (2 : Int32))]) (rest := []) (lenOf own_pd__28_5bCI_5bBII_29I rfl) rfl (by show 2 * 0 + _ ≤ _; exact Nat.le_of_eq rfl) (hb hby d_rm_comp3_2_9) (fun _ _ => ⟨rfl, e1, (by decide : 1 + 0 ≤ _), (by decide : 2 + 0 ≤ _)⟩)
  dsimp only [Pt.U, Pt.locs, Pt.cells, Pt.slots] at X4 l4 y4 z4 st4 hQ4
  subst l4 y4 z4
  obtain ⟨rfl, M4, K4, g4_0⟩ := hQ4
  have N4 := Fr.app N0 M4
  refine own_by st4 ?_
  have z4 := K4.1
  have lt_g4_0 : T4.heap.size > ob1 := g4_0.lt
  show own_Go p e below (T4.setTop (mkF m 12 #[.val (.ref a1), .val (.int (0 : Int32)), .val (.int (2 : Int32)), .val (.ref ob1), .unset, .unset] [(.int (2 : Int32))])) _
  refine own_by (fun _ k => XS.istore X4.here hx rfl (hb hby d_rm_comp3_2_12) rfl (l' := #[.val (.ref a1), .val (.int (0 : Int32)), .val (.int (2 : Int32)), .val (.ref ob1), .val (.int (2 : Int32)), .unset]) rfl k) ?_
  show own_Go p e below (T4.setTop (mkF m 14 #[.val (.ref a1), .val (.int (0 : Int32)), .val (.int (2 : Int32)), .val (.ref ob1), .val (.int (2 : Int32)), .unset] [])) _
  refine own_by (fun _ k => XS.iload X4.here hx rfl (hb hby d_rm_comp3_2_14) rfl k) ?_
  show own_Go p e below (T4.setTop (mkF m 16 #[.val (.ref a1), .val (.int (0 : Int32)), .val (.int (2 : Int32)), .val (.ref ob1), .val (.int (2 : Int32)), .unset] [(.int (2 : Int32))])) _
  refine own_by (fun _ k => XS.iloadN X4.here hx rfl (hb hby d_rm_comp3_2_16) rfl k) ?_
  show own_Go p e below (T4.setTop (mkF m 17 #[.val (.ref a1), .val (.int (0 : Int32)), .val (.int (2 : Int32)), .val (.ref ob1), .val (.int (2 : Int32)), .unset] [(.int (2 : Int32)), (.int (2 : Int32))])) _
  refine own_by (fun _ k => XS.icmpYes X4.here hx rfl (pc0 := 17) (pc' := 57) rfl (hb hby d_rm_comp3_2_17) rfl (teq (by decide : (2 : Int32) = (2 : Int32))).1 (by decide) (by decide) k) ?_
  show own_Go p e below (T4.setTop (mkF m 57 #[.val (.ref a1), .val (.int (0 : Int32)), .val (.int (2 : Int32)), .val (.ref ob1), .val (.int (2 : Int32)), .unset] [])) _
  refine own_by (fun _ k => XS.aloadN X4.here hx rfl (hb hby d_rm_comp3_2_57) rfl rfl k) ?_
  show own_Go p e below (T4.setTop (mkF m 58 #[.val (.ref a1), .val (.int (0 : Int32)), .val (.int (2 : Int32)), .val (.ref ob1), .val (.int (2 : Int32)), .unset] [(.ref ob1)])) _
  have K5 : Keep h0 T4.heap [] := (((Keep.refl h0 []).ext E1).trans K4 (allS (P := fun x => x ∈ [] ∨ h0.size ≤ x) (Or.inr (by omega)) all0))
  obtain ⟨fs, hr, hrun, hended, hW, hsame⟩ := X4.leave (v := some (.ref ob1)) (fun h => by rw [Bd.returns] at h; cases h)
  refine ⟨_, _, retOut X4 hx Bd.returns (own_narrow_ref (by decide) rfl) (Or.inr (Or.inr (Or.inr (Or.inr ⟨rfl, by decide, rfl⟩)))) (hb hby d_rm_comp3_2_58) hr, hrun, hended, _, _, rfl, ?_, ⟨_, rfl⟩, hW, hsame.mono (by decide) (by decide)⟩
  show Q_rm_comp3_2 Z a1 ka c1 c2 h0 n0 _ T4.heap _
  exact ⟨ob1, k1, rfl, N4, K5, g4_0, (by first | assumption | omega)⟩
theorem d_rm_cfal_2_0 : decode jdk_52_method_15_code 0 = .ok (.iload_n 1, 1) := by decide +kernel
theorem d_rm_cfal_2_1 : decode jdk_52_method_15_code 1 = .ok (.aload_n 0, 1) := by decide +kernel
theorem d_rm_cfal_2_2 : decode jdk_52_method_15_code 2 = .ok (.arraylength, 1) := by decide +kernel
theorem d_rm_cfal_2_3 : decode jdk_52_method_15_code 3 = .ok (.isub, 1) := by decide +kernel
theorem d_rm_cfal_2_4 : decode jdk_52_method_15_code 4 = .ok (.bipush 31, 2) := by decide +kernel
theorem d_rm_cfal_2_6 : decode jdk_52_method_15_code 6 = .ok (.iushr, 1) := by decide +kernel
theorem d_rm_cfal_2_7 : decode jdk_52_method_15_code 7 = .ok (.i2b, 1) := by decide +kernel
theorem d_rm_cfal_2_8 : decode jdk_52_method_15_code 8 = .ok (.ireturn, 1) := by decide +kernel
def Q_rm_cfal_2 (Z : State) (b : Addr) (kb : ClassId) (d1 : Int32) (d2 : Int32) (h0 : Heap) (n0 : Nat) (v : Option Value) (h : Heap) (L : List Loc) : Prop := v = some (.int (0 : Int32)) ∧ Fr n0 L ∧ h = h0
theorem ef_rm_cfal_2 (m : MethodId) (b : Addr) (kb : ClassId) (d1 : Int32) (d2 : Int32) : entryFrame m #[(.ref b), (.int (2 : Int32))] 2 = mkF m 0 #[.val (.ref b), .val (.int (2 : Int32))] [] := by first | (simp [entryFrame, mkF, argsToLocals, Value.category]; done) | rfl
set_option maxRecDepth 65536 in
set_option maxHeartbeats 40000000 in
theorem rm_cfal_2 (l : Launch) (Z : State) (a0 : Array Value) (hw : ∀ d ∈ tables_1, d.before a0 Z = true) (ws : List Jvm.Cond) (b : Addr) (kb : ClassId) (d1 : Int32) (d2 : Int32) (h0 : Heap) (n0 : Nat) (O0 : Old Z n0 h0) (Vb : Arv Z h0 b kb .byte (2 : Int32) [(.int d1), (.int d2)] (.int (0 : Int32))) :
    MetFree l (⟨"java/lang/StringUTF16", "coderFromArrayLen", "([BI)B"⟩ : MethodName) (head1 (Jvm.Cond.code (⟨"java/lang/StringUTF16", "coderFromArrayLen", "([BI)B"⟩ : MethodName) jdk_52_method_15_code 2 (some .byte) :: ws) ({ frames := 0, cells := 0, slots := 0, locals := 0 } : Room)) (fun a U => a = #[(.ref b), (.int (2 : Int32))] ∧ Z.Warmed39 U.vm ∧ U.heap = h0) (fun _ _ _ _ _ => True) (fun _ U o U' => ∃ v L, o = .returned v ∧ Q_rm_cfal_2 Z b kb d1 d2 h0 n0 v U'.heap L ∧ FrameEnd U o U' L ({ frames := 0, cells := 0, slots := 0, locals := 0 } : Room).cells ({ frames := 0, cells := 0, slots := 0, locals := 0 } : Room).slots) := by
  refine MetFree.of_bodySF (plainFor_of_name own_pn_java_lang_StringUTF16) hisR ?_
  intro p e s m args below meth c s₁ Bd hml0 hP hK
  obtain ⟨rfl, hZ, hh⟩ := hP
  have hx := Bd.exec
  have hby := Bd.bytes
  have hml : c.maxLocals = 2 := hml0
  have hown : s.vm.findClass "java/lang/StringUTF16" = some m.cls := findClass_of_methodNamed Bd.named
  have hnm := (name_of_methodNamed Bd.named Bd.method).1
  have X0 : Stand p l e ({ frames := 0, cells := 0, slots := 0, locals := 0 } : Room) s m #[(.ref b), (.int (2 : Int32))] below meth c s₁ [] 0 0 := Stand.of_body Bd
  have e0 : s₁.heap = h0 := by rw [← hh, Bd.state]; rfl
  have N0 := Fr.nil n0
  have Z0 : n0 ≤ h0.size := by rw [← O0.1]; exact O0.2.1
  show own_Go p e below (s₁.setTop (entryFrame m #[(.ref b), (.int (2 : Int32))] 2)) (fun t o => ∃ v L, o = .returned v ∧ Q_rm_cfal_2 Z b kb d1 d2 h0 n0 v t.heap L ∧ FrameEnd s o t L ({ frames := 0, cells := 0, slots := 0, locals := 0 } : Room).cells ({ frames := 0, cells := 0, slots := 0, locals := 0 } : Room).slots)
  rw [ef_rm_cfal_2 m b kb d1 d2]
  have lt_Vb : h0.size > b := Vb.lt
  refine own_by (fun _ k => XS.iloadN X0.here hx rfl (hb hby d_rm_cfal_2_0) rfl k) ?_
  show own_Go p e below (s₁.setTop (mkF m 1 #[.val (.ref b), .val (.int (2 : Int32))] [(.int (2 : Int32))])) _
  refine own_by (fun _ k => XS.aloadN X0.here hx rfl (hb hby d_rm_cfal_2_1) rfl rfl k) ?_
  show own_Go p e below (s₁.setTop (mkF m 2 #[.val (.ref b), .val (.int (2 : Int32))] [(.ref b), (.int (2 : Int32))])) _
  obtain ⟨cl1, Ar1, q1, S1, M1, H1, G1⟩ := (id Vb)
  refine own_by (X0.arraylength hx (by rw [e0]; exact Ar1.1) (State.isArrayOf_alike hZ.alike Ar1.2.1) (g := (mkF m 2 #[.val (.ref b), .val (.int (2 : Int32))] [(.ref b), (.int (2 : Int32))])) rfl rfl (hb hby d_rm_cfal_2_2)) ?_
  rw [len_of S1 M1]
  show own_Go p e below (s₁.setTop (mkF m 3 #[.val (.ref b), .val (.int (2 : Int32))] [(.int (2 : Int32)), (.int (2 : Int32))])) _
  refine own_by (fun _ k => XS.isub X0.here hx rfl (hb hby d_rm_cfal_2_3) rfl k) ?_
  show own_Go p e below (s₁.setTop (mkF m 4 #[.val (.ref b), .val (.int (2 : Int32))] [(.int (0 : Int32))])) _
  refine own_by (fun _ k => XS.bipush X0.here hx rfl (hb hby d_rm_cfal_2_4) k) ?_
  show own_Go p e below (s₁.setTop (mkF m 6 #[.val (.ref b), .val (.int (2 : Int32))] [(.int (31 : Int32)), (.int (0 : Int32))])) _
  refine own_by (fun _ k => XS.iushr X0.here hx rfl (hb hby d_rm_cfal_2_6) rfl k) ?_
  show own_Go p e below (s₁.setTop (mkF m 7 #[.val (.ref b), .val (.int (2 : Int32))] [(.int (0 : Int32))])) _
  refine own_by (fun _ k => XS.i2b X0.here hx rfl (hb hby d_rm_cfal_2_7) rfl k) ?_
  show own_Go p e below (s₁.setTop (mkF m 8 #[.val (.ref b), .val (.int (2 : Int32))] [(.int (0 : Int32))])) _
  obtain ⟨fs, hr, hrun, hended, hW, hsame⟩ := X0.leave (v := some (.int (0 : Int32))) (fun h => by rw [Bd.returns] at h; cases h)
  refine ⟨_, _, retN X0 hx (t := .byte) Bd.returns (by simp) (hb hby d_rm_cfal_2_8) hr, hrun, hended, _, _, rfl, ?_, ⟨_, rfl⟩, hW, hsame.mono (by decide) (by decide)⟩
  show Q_rm_cfal_2 Z b kb d1 d2 h0 n0 _ s₁.heap _
  rw [e0]
  exact ⟨rfl, N0, rfl⟩
theorem d_rm_sinit4_2_0 : decode jdk_42_method_149_code 0 = .ok (.aload_n 0, 1) := by decide +kernel
theorem d_rm_sinit4_2_1 : decode jdk_42_method_149_code 1 = .ok (.invokespecial 1, 3) := by decide +kernel
theorem d_rm_sinit4_2_4 : decode jdk_42_method_149_code 4 = .ok (.iload_n 3, 1) := by decide +kernel
theorem d_rm_sinit4_2_5 : decode jdk_42_method_149_code 5 = .ok (.ifCond .ne 22, 3) := by decide +kernel
theorem d_rm_sinit4_2_27 : decode jdk_42_method_149_code 27 = .ok (.getstatic 38, 3) := by decide +kernel
theorem d_rm_sinit4_2_30 : decode jdk_42_method_149_code 30 = .ok (.ifCond .eq 28, 3) := by decide +kernel
theorem d_rm_sinit4_2_33 : decode jdk_42_method_149_code 33 = .ok (.aload_n 1, 1) := by decide +kernel
theorem d_rm_sinit4_2_34 : decode jdk_42_method_149_code 34 = .ok (.iload_n 2, 1) := by decide +kernel
theorem d_rm_sinit4_2_35 : decode jdk_42_method_149_code 35 = .ok (.iload_n 3, 1) := by decide +kernel
theorem d_rm_sinit4_2_36 : decode jdk_42_method_149_code 36 = .ok (.invokestatic 177, 3) := by decide +kernel
theorem d_rm_sinit4_2_39 : decode jdk_42_method_149_code 39 = .ok (.astore 5, 2) := by decide +kernel
theorem d_rm_sinit4_2_41 : decode jdk_42_method_149_code 41 = .ok (.aload_n 0, 1) := by decide +kernel
theorem d_rm_sinit4_2_42 : decode jdk_42_method_149_code 42 = .ok (.aload 5, 2) := by decide +kernel
theorem d_rm_sinit4_2_44 : decode jdk_42_method_149_code 44 = .ok (.iload_n 3, 1) := by decide +kernel
theorem d_rm_sinit4_2_45 : decode jdk_42_method_149_code 45 = .ok (.invokestatic 47, 3) := by decide +kernel
theorem d_rm_sinit4_2_48 : decode jdk_42_method_149_code 48 = .ok (.putfield 15, 3) := by decide +kernel
theorem d_rm_sinit4_2_51 : decode jdk_42_method_149_code 51 = .ok (.aload_n 0, 1) := by decide +kernel
theorem d_rm_sinit4_2_52 : decode jdk_42_method_149_code 52 = .ok (.aload 5, 2) := by decide +kernel
theorem d_rm_sinit4_2_54 : decode jdk_42_method_149_code 54 = .ok (.putfield 9, 3) := by decide +kernel
theorem d_rm_sinit4_2_57 : decode jdk_42_method_149_code 57 = .ok (.return_, 1) := by decide +kernel
def Q_rm_sinit4_2 (Z : State) (t1 : Addr) (a1 : Addr) (ka : ClassId) (cs : Int32) (c1 : Int32) (c2 : Int32) (h0 : Heap) (n0 : Nat) (v : Option Value) (h : Heap) (L : List Loc) : Prop := ∃ (b : Addr), ∃ (kb : ClassId), v = none ∧ Fr n0 L ∧ Keep h0 h [t1] ∧ Exa Z h t1 "java/lang/String" ∧ Fld Z h t1 "java/lang/String" "coder" "B" (.int (0 : Int32)) ∧ Fld Z h t1 "java/lang/String" "value" "[B" (.ref b) ∧ Arv Z h b kb .byte (2 : Int32) [(.int (own_b c1)), (.int (own_b c2))] (.int (0 : Int32)) ∧ h0.size ≤ b
theorem ef_rm_sinit4_2 (m : MethodId) (t1 : Addr) (a1 : Addr) (ka : ClassId) (cs : Int32) (c1 : Int32) (c2 : Int32) : entryFrame m #[(.ref t1), (.ref a1), (.int (0 : Int32)), (.int (2 : Int32)), .null] 6 = mkF m 0 #[.val (.ref t1), .val (.ref a1), .val (.int (0 : Int32)), .val (.int (2 : Int32)), .val .null, .unset] [] := by first | (simp [entryFrame, mkF, argsToLocals, Value.category]; done) | rfl
set_option maxRecDepth 65536 in
set_option maxHeartbeats 40000000 in
theorem rm_sinit4_2 (l : Launch) (Z : State) (a0 : Array Value) (hw : ∀ d ∈ tables_1, d.before a0 Z = true) (ws : List Jvm.Cond) (t1 : Addr) (a1 : Addr) (ka : ClassId) (cs : Int32) (c1 : Int32) (c2 : Int32) (h0 : Heap) (n0 : Nat) (O0 : Old Z n0 h0) (S_COMPACT : Sta Z Z.heap "java/lang/String" "COMPACT_STRINGS" "Z" (.int cs)) (Et : Exa Z h0 t1 "java/lang/String") (Fv : Fld Z h0 t1 "java/lang/String" "value" "[B" .null) (Fc : Fld Z h0 t1 "java/lang/String" "coder" "B" (.int (0 : Int32))) (Va : Arv Z h0 a1 ka .char (2 : Int32) [(.int c1), (.int c2)] (.int (0 : Int32))) (rc1 : ¬ ((255 : Int32) < c1)) (rc2 : ¬ ((255 : Int32) < c2)) (gt : n0 ≤ t1) (hcs : ¬ (cs = (0 : Int32))) (nta : ¬ (@Eq Nat a1 t1)) :
    MetFree l (⟨"java/lang/String", "<init>", "([CIILjava/lang/Void;)V"⟩ : MethodName) (head1 (Jvm.Cond.code (⟨"java/lang/String", "<init>", "([CIILjava/lang/Void;)V"⟩ : MethodName) jdk_42_method_149_code 6 none :: ws) ({ frames := 2, cells := 1, slots := 2, locals := 35 } : Room)) (fun a U => a = #[(.ref t1), (.ref a1), (.int (0 : Int32)), (.int (2 : Int32)), .null] ∧ Z.Warmed39 U.vm ∧ U.heap = h0) (fun _ _ _ _ _ => True) (fun _ U o U' => ∃ v L, o = .returned v ∧ Q_rm_sinit4_2 Z t1 a1 ka cs c1 c2 h0 n0 v U'.heap L ∧ FrameEnd U o U' L ({ frames := 2, cells := 1, slots := 2, locals := 35 } : Room).cells ({ frames := 2, cells := 1, slots := 2, locals := 35 } : Room).slots) := by
  refine MetFree.of_bodySF (plainFor_of_name own_pn_java_lang_String) hisR ?_
  intro p e s m args below meth c s₁ Bd hml0 hP hK
  obtain ⟨rfl, hZ, hh⟩ := hP
  have hx := Bd.exec
  have hby := Bd.bytes
  have hml : c.maxLocals = 6 := hml0
  have hown : s.vm.findClass "java/lang/String" = some m.cls := findClass_of_methodNamed Bd.named
  have hnm := (name_of_methodNamed Bd.named Bd.method).1
  have X0 : Stand p l e ({ frames := 2, cells := 1, slots := 2, locals := 35 } : Room) s m #[(.ref t1), (.ref a1), (.int (0 : Int32)), (.int (2 : Int32)), .null] below meth c s₁ [] 0 0 := Stand.of_body Bd
  have e0 : s₁.heap = h0 := by rw [← hh, Bd.state]; rfl
  have N0 := Fr.nil n0
  have Z0 : n0 ≤ h0.size := by rw [← O0.1]; exact O0.2.1
  show own_Go p e below (s₁.setTop (entryFrame m #[(.ref t1), (.ref a1), (.int (0 : Int32)), (.int (2 : Int32)), .null] 6)) (fun t o => ∃ v L, o = .returned v ∧ Q_rm_sinit4_2 Z t1 a1 ka cs c1 c2 h0 n0 v t.heap L ∧ FrameEnd s o t L ({ frames := 2, cells := 1, slots := 2, locals := 35 } : Room).cells ({ frames := 2, cells := 1, slots := 2, locals := 35 } : Room).slots)
  rw [ef_rm_sinit4_2 m t1 a1 ka cs c1 c2]
  have lt_Et : h0.size > t1 := Et.lt
  have lt_Fv : h0.size > t1 := Fv.lt
  have lt_Fc : h0.size > t1 := Fc.lt
  have lt_Va : h0.size > a1 := Va.lt
  refine own_by (fun _ k => XS.aloadN X0.here hx rfl (hb hby d_rm_sinit4_2_0) rfl rfl k) ?_
  show own_Go p e below (s₁.setTop (mkF m 1 #[.val (.ref t1), .val (.ref a1), .val (.int (0 : Int32)), .val (.int (2 : Int32)), .val .null, .unset] [(.ref t1)])) _
  obtain ⟨T1, X1, e1, st1⟩ := initO X0 hx hZ hown (hw _ (List.mem_of_getElem? (i := 26) rfl)) (hw _ (List.mem_of_getElem? (i := 27) rfl)) (hw _ (List.mem_of_getElem? (i := 28) rfl)) e0 (g := (mkF m 1 #[.val (.ref t1), .val (.ref a1), .val (.int (0 : Int32)), .val (.int (2 : Int32)), .val .null, .unset] [(.ref t1)])) rfl (by rw [hml]; rfl) rfl (hb hby d_rm_sinit4_2_1) (by decide) (W := 0) (by show 2 * 0 + _ ≤ _; exact Nat.le_of_eq rfl) (by decide)
  refine own_by st1 ?_
  show own_Go p e below (T1.setTop (mkF m 4 #[.val (.ref t1), .val (.ref a1), .val (.int (0 : Int32)), .val (.int (2 : Int32)), .val .null, .unset] [])) _
  refine own_by (fun _ k => XS.iloadN X1.here hx rfl (hb hby d_rm_sinit4_2_4) rfl k) ?_
  show own_Go p e below (T1.setTop (mkF m 5 #[.val (.ref t1), .val (.ref a1), .val (.int (0 : Int32)), .val (.int (2 : Int32)), .val .null, .unset] [(.int (2 : Int32))])) _
  refine own_by (fun _ k => XS.ifYes X1.here hx rfl (pc0 := 5) (pc' := 27) rfl (hb hby d_rm_sinit4_2_5) rfl ((if0 _ _).trans (feq (by decide : ¬ ((2 : Int32) = (0 : Int32)))).2) (by decide) (by decide) k) ?_
  show own_Go p e below (T1.setTop (mkF m 27 #[.val (.ref t1), .val (.ref a1), .val (.int (0 : Int32)), .val (.int (2 : Int32)), .val .null, .unset] [])) _
  obtain ⟨T2, X2, e2, st2⟩ := getS2 X1 hx hZ hown (host := "") (Or.inl (hw _ (List.mem_of_getElem? (i := 29) rfl))) Via.refl e1 (S_COMPACT.ext O0.2) (g := (mkF m 27 #[.val (.ref t1), .val (.ref a1), .val (.int (0 : Int32)), .val (.int (2 : Int32)), .val .null, .unset] [])) rfl (hb hby d_rm_sinit4_2_27)
  refine own_by st2 ?_
  show own_Go p e below (T2.setTop (mkF m 30 #[.val (.ref t1), .val (.ref a1), .val (.int (0 : Int32)), .val (.int (2 : Int32)), .val .null, .unset] [(.int cs)])) _
  refine own_by (fun _ k => XS.ifNo X2.here hx rfl (hb hby d_rm_sinit4_2_30) rfl ((if0 _ _).trans (feq hcs).1) k) ?_
  show own_Go p e below (T2.setTop (mkF m 33 #[.val (.ref t1), .val (.ref a1), .val (.int (0 : Int32)), .val (.int (2 : Int32)), .val .null, .unset] [])) _
  refine own_by (fun _ k => XS.aloadN X2.here hx rfl (hb hby d_rm_sinit4_2_33) rfl rfl k) ?_
  show own_Go p e below (T2.setTop (mkF m 34 #[.val (.ref t1), .val (.ref a1), .val (.int (0 : Int32)), .val (.int (2 : Int32)), .val .null, .unset] [(.ref a1)])) _
  refine own_by (fun _ k => XS.iloadN X2.here hx rfl (hb hby d_rm_sinit4_2_34) rfl k) ?_
  show own_Go p e below (T2.setTop (mkF m 35 #[.val (.ref t1), .val (.ref a1), .val (.int (0 : Int32)), .val (.int (2 : Int32)), .val .null, .unset] [(.int (0 : Int32)), (.ref a1)])) _
  refine own_by (fun _ k => XS.iloadN X2.here hx rfl (hb hby d_rm_sinit4_2_35) rfl k) ?_
  show own_Go p e below (T2.setTop (mkF m 36 #[.val (.ref t1), .val (.ref a1), .val (.int (0 : Int32)), .val (.int (2 : Int32)), .val .null, .unset] [(.int (2 : Int32)), (.int (0 : Int32)), (.ref a1)])) _
  obtain ⟨_, _, ⟨T3, L3, k3, n3⟩, -, X3, ⟨Lc3, hQ3, l3, y3, z3⟩, st3⟩ := Jvm.LawKit.callS X2 hx (y := (⟨"java/lang/StringUTF16", "compress", "([CII)[B"⟩ : MethodName)) hown (mvT hZ (hw _ (List.mem_of_getElem? (i := 30) rfl))) (mvT hZ (hw _ (List.mem_of_getElem? (i := 31) rfl))) (mvT hZ (hw _ (List.mem_of_getElem? (i := 32) rfl))) (mvT hZ (hw _ (List.mem_of_getElem? (i := 33) rfl))) (by decide) (backOf (W := 0) (rm_comp3_2 l Z a0 hw [] a1 ka c1 c2 h0 n0 O0 Va rc1 rc2) hZ (hw _ (List.mem_of_getElem? (i := 33) rfl)) (hw _ (List.mem_of_getElem? (i := 32) rfl)) (by decide) (by decide)) (g := (mkF m 36 #[.val (.ref t1), .val (.ref a1), .val (.int (0 : Int32)), .val (.int (2 : Int32)), .val .null, .unset] [(.int (2 : Int32)), (.int (0 : Int32)), (.ref a1)])) rfl (by rw [hml]; rfl) (argsL := [(.ref a1), (.int (0 : Int32)), (.int (2 : Int32))]) (rest := []) (lenOf own_pd__28_5bCII_29_5bB rfl) rfl (by show 2 * 0 + _ ≤ _; exact Nat.le_of_eq rfl) (hb hby d_rm_sinit4_2_36) (fun _ _ => ⟨rfl, e2, (by decide : 0 + 1 ≤ _), (by decide : 0 + 2 ≤ _)⟩)
  dsimp only [Pt.U, Pt.locs, Pt.cells, Pt.slots] at X3 l3 y3 z3 st3 hQ3
  subst l3 y3 z3
  obtain ⟨b_3, kb_3, rfl, M3, K3, g3_0, r3_0⟩ := hQ3
  have N3 := Fr.app N0 M3
  refine own_by st3 ?_
  have z3 := K3.1
  have lt_g3_0 : T3.heap.size > b_3 := g3_0.lt
  show own_Go p e below (T3.setTop (mkF m 39 #[.val (.ref t1), .val (.ref a1), .val (.int (0 : Int32)), .val (.int (2 : Int32)), .val .null, .unset] [(.ref b_3)])) _
  refine own_by (fun _ k => XS.astore X3.here hx rfl (hb hby d_rm_sinit4_2_39) rfl rfl (l' := #[.val (.ref t1), .val (.ref a1), .val (.int (0 : Int32)), .val (.int (2 : Int32)), .val .null, .val (.ref b_3)]) rfl k) ?_
  show own_Go p e below (T3.setTop (mkF m 41 #[.val (.ref t1), .val (.ref a1), .val (.int (0 : Int32)), .val (.int (2 : Int32)), .val .null, .val (.ref b_3)] [])) _
  refine own_by (fun _ k => XS.aloadN X3.here hx rfl (hb hby d_rm_sinit4_2_41) rfl rfl k) ?_
  show own_Go p e below (T3.setTop (mkF m 42 #[.val (.ref t1), .val (.ref a1), .val (.int (0 : Int32)), .val (.int (2 : Int32)), .val .null, .val (.ref b_3)] [(.ref t1)])) _
  refine own_by (fun _ k => XS.aload X3.here hx rfl (hb hby d_rm_sinit4_2_42) rfl rfl k) ?_
  show own_Go p e below (T3.setTop (mkF m 44 #[.val (.ref t1), .val (.ref a1), .val (.int (0 : Int32)), .val (.int (2 : Int32)), .val .null, .val (.ref b_3)] [(.ref b_3), (.ref t1)])) _
  refine own_by (fun _ k => XS.iloadN X3.here hx rfl (hb hby d_rm_sinit4_2_44) rfl k) ?_
  show own_Go p e below (T3.setTop (mkF m 45 #[.val (.ref t1), .val (.ref a1), .val (.int (0 : Int32)), .val (.int (2 : Int32)), .val .null, .val (.ref b_3)] [(.int (2 : Int32)), (.ref b_3), (.ref t1)])) _
  have O4 : Old Z n0 T3.heap := (O0.keep K3 all0)
  obtain ⟨_, _, ⟨T5, L5, k5, n5⟩, -, X5, ⟨Lc5, hQ5, l5, y5, z5⟩, st5⟩ := Jvm.LawKit.callS X3 hx (y := (⟨"java/lang/StringUTF16", "coderFromArrayLen", "([BI)B"⟩ : MethodName)) hown (mvT hZ (hw _ (List.mem_of_getElem? (i := 38) rfl))) (mvT hZ (hw _ (List.mem_of_getElem? (i := 39) rfl))) (mvT hZ (hw _ (List.mem_of_getElem? (i := 32) rfl))) (mvT hZ (hw _ (List.mem_of_getElem? (i := 40) rfl))) (by decide) (backOf (W := 1) (rm_cfal_2 l Z a0 hw [] b_3 kb_3 (own_b c1) (own_b c2) T3.heap n0 O4 g3_0) hZ (hw _ (List.mem_of_getElem? (i := 40) rfl)) (hw _ (List.mem_of_getElem? (i := 32) rfl)) (by decide) (by decide)) (g := (mkF m 45 #[.val (.ref t1), .val (.ref a1), .val (.int (0 : Int32)), .val (.int (2 : Int32)), .val .null, .val (.ref b_3)] [(.int (2 : Int32)), (.ref b_3), (.ref t1)])) rfl (by rw [hml]; rfl) (argsL := [(.ref b_3), (.int (2 : Int32))]) (rest := [(.ref t1)]) (lenOf own_pd__28_5bBI_29B rfl) rfl (by show 2 * 0 + _ ≤ _; exact Nat.le_of_eq rfl) (hb hby d_rm_sinit4_2_45) (fun _ _ => ⟨rfl, rfl, (by decide : 1 + 0 ≤ _), (by decide : 2 + 0 ≤ _)⟩)
  dsimp only [Pt.U, Pt.locs, Pt.cells, Pt.slots] at X5 l5 y5 z5 st5 hQ5
  subst l5 y5 z5
  obtain ⟨rfl, M5, K5⟩ := hQ5
  have N5 := Fr.app N3 M5
  refine own_by st5 ?_
  show own_Go p e below (T5.setTop (mkF m 48 #[.val (.ref t1), .val (.ref a1), .val (.int (0 : Int32)), .val (.int (2 : Int32)), .val .null, .val (.ref b_3)] [(.int (0 : Int32)), (.ref t1)])) _
  have fc6 : Fld Z T3.heap t1 "java/lang/String" "coder" "B" (.int (0 : Int32)) := (Fc.keep K3 nin0)
  have fc7 : Exa Z T3.heap t1 "java/lang/String" := (Et.keep K3)
  obtain ⟨T8, h8, X8, e8, W8, st8⟩ := putFN X5 hx hZ hown (hw _ (List.mem_of_getElem? (i := 41) rfl)) Via.refl K5 fc6 fc7 (Or.inr ⟨(hw _ (List.mem_of_getElem? (i := 42) rfl)), rfl, hnm⟩) (hw _ (List.mem_of_getElem? (i := 17) rfl)) (ty := .byte) (v' := (.int (0 : Int32))) (by decide) rfl rfl (g := (mkF m 48 #[.val (.ref t1), .val (.ref a1), .val (.int (0 : Int32)), .val (.int (2 : Int32)), .val .null, .val (.ref b_3)] [(.int (0 : Int32)), (.ref t1)])) rfl rfl (hb hby d_rm_sinit4_2_48)
  refine own_by st8 ?_
  have z8 := W8.size
  have N8 := Fr.snoc X8 N5 (by omega)
  have Fw8 : Fld Z h8 t1 "java/lang/String" "coder" "B" (.int (0 : Int32)) := fc6.same W8
  show own_Go p e below (T8.setTop (mkF m 51 #[.val (.ref t1), .val (.ref a1), .val (.int (0 : Int32)), .val (.int (2 : Int32)), .val .null, .val (.ref b_3)] [])) _
  refine own_by (fun _ k => XS.aloadN X8.here hx rfl (hb hby d_rm_sinit4_2_51) rfl rfl k) ?_
  show own_Go p e below (T8.setTop (mkF m 52 #[.val (.ref t1), .val (.ref a1), .val (.int (0 : Int32)), .val (.int (2 : Int32)), .val .null, .val (.ref b_3)] [(.ref t1)])) _
  refine own_by (fun _ k => XS.aload X8.here hx rfl (hb hby d_rm_sinit4_2_52) rfl rfl k) ?_
  show own_Go p e below (T8.setTop (mkF m 54 #[.val (.ref t1), .val (.ref a1), .val (.int (0 : Int32)), .val (.int (2 : Int32)), .val .null, .val (.ref b_3)] [(.ref b_3), (.ref t1)])) _
  have fc9 : Fld Z h8 t1 "java/lang/String" "value" "[B" .null := ((Fv.keep K3 nin0).other W8 (Or.inr (slot_ne (a0 := a0) (Or.inr (hw _ (List.mem_of_getElem? (i := 44) rfl))) (Or.inr (hw _ (List.mem_of_getElem? (i := 42) rfl))) (by decide) (t := (.array .byte)) (by decide) (t' := .byte) (by decide))))
  have fc10 : Exa Z h8 t1 "java/lang/String" := (fc7.wr W8)
  obtain ⟨T11, h11, X11, e11, W11, st11⟩ := putF X8 hx hZ hown (host := "") (Or.inl (hw _ (List.mem_of_getElem? (i := 43) rfl))) Via.refl e8 fc9 fc10 (Or.inr ⟨(hw _ (List.mem_of_getElem? (i := 44) rfl)), rfl, hnm⟩) (hw _ (List.mem_of_getElem? (i := 17) rfl)) (ty := (.array .byte)) (by decide) rfl rfl (g := (mkF m 54 #[.val (.ref t1), .val (.ref a1), .val (.int (0 : Int32)), .val (.int (2 : Int32)), .val .null, .val (.ref b_3)] [(.ref b_3), (.ref t1)])) rfl rfl (hb hby d_rm_sinit4_2_54)
  refine own_by st11 ?_
  have z11 := W11.size
  have N11 := Fr.snoc X11 N8 (by omega)
  have Fw11 : Fld Z h11 t1 "java/lang/String" "value" "[B" (.ref b_3) := fc9.same W11
  show own_Go p e below (T11.setTop (mkF m 57 #[.val (.ref t1), .val (.ref a1), .val (.int (0 : Int32)), .val (.int (2 : Int32)), .val .null, .val (.ref b_3)] [])) _
  have fc12 : Exa Z h11 t1 "java/lang/String" := (fc10.wr W11)
  have fc13 : Fld Z h11 t1 "java/lang/String" "coder" "B" (.int (0 : Int32)) := (Fw8.other W11 (Or.inr (slot_ne (a0 := a0) (Or.inr (hw _ (List.mem_of_getElem? (i := 42) rfl))) (Or.inr (hw _ (List.mem_of_getElem? (i := 44) rfl))) (by decide) (t := .byte) (by decide) (t' := (.array .byte)) (by decide))))
  have fc14 : Arv Z h11 b_3 kb_3 .byte (2 : Int32) [(.int (own_b c1)), (.int (own_b c2))] (.int (0 : Int32)) := ((g3_0.other W8 (own_ne (by omega))).other W11 (own_ne (by omega)))
  have K15 : Keep h0 h11 [t1] := ((((Keep.refl h0 [t1]).trans K3 all0).wr W8 (Or.inl (List.mem_of_getElem? (i := 0) rfl))).wr W11 (Or.inl (List.mem_of_getElem? (i := 0) rfl)))
  obtain ⟨fs, hr, hrun, hended, hW, hsame⟩ := X11.leave (v := none) (fun h => rfl)
  refine ⟨_, _, X11.returnOut hx Bd.returns (hb hby d_rm_sinit4_2_57) hr, hrun, hended, _, _, rfl, ?_, ⟨_, rfl⟩, hW, hsame.mono (by decide) (by decide)⟩
  show Q_rm_sinit4_2 Z t1 a1 ka cs c1 c2 h0 n0 _ T11.heap _
  rw [e11]
  exact ⟨b_3, kb_3, rfl, N11, K15, fc12, fc13, Fw11, fc14, (by first | assumption | omega)⟩
theorem d_rm_sinit_2_0 : decode jdk_42_method_3_code 0 = .ok (.aload_n 0, 1) := by decide +kernel
theorem d_rm_sinit_2_1 : decode jdk_42_method_3_code 1 = .ok (.aload_n 1, 1) := by decide +kernel
theorem d_rm_sinit_2_2 : decode jdk_42_method_3_code 2 = .ok (.iconst 0, 1) := by decide +kernel
theorem d_rm_sinit_2_3 : decode jdk_42_method_3_code 3 = .ok (.aload_n 1, 1) := by decide +kernel
theorem d_rm_sinit_2_4 : decode jdk_42_method_3_code 4 = .ok (.arraylength, 1) := by decide +kernel
theorem d_rm_sinit_2_5 : decode jdk_42_method_3_code 5 = .ok (.aconst_null, 1) := by decide +kernel
theorem d_rm_sinit_2_6 : decode jdk_42_method_3_code 6 = .ok (.invokespecial 27, 3) := by decide +kernel
theorem d_rm_sinit_2_9 : decode jdk_42_method_3_code 9 = .ok (.return_, 1) := by decide +kernel
def Q_rm_sinit_2 (Z : State) (t1 : Addr) (a1 : Addr) (ka : ClassId) (cs : Int32) (c1 : Int32) (c2 : Int32) (h0 : Heap) (n0 : Nat) (v : Option Value) (h : Heap) (L : List Loc) : Prop := ∃ (b : Addr), ∃ (kb : ClassId), v = none ∧ Fr n0 L ∧ Keep h0 h [t1] ∧ Exa Z h t1 "java/lang/String" ∧ Fld Z h t1 "java/lang/String" "coder" "B" (.int (0 : Int32)) ∧ Fld Z h t1 "java/lang/String" "value" "[B" (.ref b) ∧ Arv Z h b kb .byte (2 : Int32) [(.int (own_b c1)), (.int (own_b c2))] (.int (0 : Int32)) ∧ h0.size ≤ b
theorem ef_rm_sinit_2 (m : MethodId) (t1 : Addr) (a1 : Addr) (ka : ClassId) (cs : Int32) (c1 : Int32) (c2 : Int32) : entryFrame m #[(.ref t1), (.ref a1)] 2 = mkF m 0 #[.val (.ref t1), .val (.ref a1)] [] := by first | (simp [entryFrame, mkF, argsToLocals, Value.category]; done) | rfl
set_option maxRecDepth 65536 in
set_option maxHeartbeats 40000000 in
theorem rm_sinit_2 (l : Launch) (Z : State) (a0 : Array Value) (hw : ∀ d ∈ tables_1, d.before a0 Z = true) (ws : List Jvm.Cond) (t1 : Addr) (a1 : Addr) (ka : ClassId) (cs : Int32) (c1 : Int32) (c2 : Int32) (h0 : Heap) (n0 : Nat) (O0 : Old Z n0 h0) (S_COMPACT : Sta Z Z.heap "java/lang/String" "COMPACT_STRINGS" "Z" (.int cs)) (Et : Exa Z h0 t1 "java/lang/String") (Fv : Fld Z h0 t1 "java/lang/String" "value" "[B" .null) (Fc : Fld Z h0 t1 "java/lang/String" "coder" "B" (.int (0 : Int32))) (Va : Arv Z h0 a1 ka .char (2 : Int32) [(.int c1), (.int c2)] (.int (0 : Int32))) (rc1 : ¬ ((255 : Int32) < c1)) (rc2 : ¬ ((255 : Int32) < c2)) (gt : n0 ≤ t1) (hcs : ¬ (cs = (0 : Int32))) (nta : ¬ (@Eq Nat a1 t1)) :
    MetFree l (⟨"java/lang/String", "<init>", "([C)V"⟩ : MethodName) (head1 (Jvm.Cond.code (⟨"java/lang/String", "<init>", "([C)V"⟩ : MethodName) jdk_42_method_3_code 2 none :: ws) ({ frames := 3, cells := 1, slots := 2, locals := 52 } : Room)) (fun a U => a = #[(.ref t1), (.ref a1)] ∧ Z.Warmed39 U.vm ∧ U.heap = h0) (fun _ _ _ _ _ => True) (fun _ U o U' => ∃ v L, o = .returned v ∧ Q_rm_sinit_2 Z t1 a1 ka cs c1 c2 h0 n0 v U'.heap L ∧ FrameEnd U o U' L ({ frames := 3, cells := 1, slots := 2, locals := 52 } : Room).cells ({ frames := 3, cells := 1, slots := 2, locals := 52 } : Room).slots) := by
  refine MetFree.of_bodySF (plainFor_of_name own_pn_java_lang_String) hisR ?_
  intro p e s m args below meth c s₁ Bd hml0 hP hK
  obtain ⟨rfl, hZ, hh⟩ := hP
  have hx := Bd.exec
  have hby := Bd.bytes
  have hml : c.maxLocals = 2 := hml0
  have hown : s.vm.findClass "java/lang/String" = some m.cls := findClass_of_methodNamed Bd.named
  have hnm := (name_of_methodNamed Bd.named Bd.method).1
  have X0 : Stand p l e ({ frames := 3, cells := 1, slots := 2, locals := 52 } : Room) s m #[(.ref t1), (.ref a1)] below meth c s₁ [] 0 0 := Stand.of_body Bd
  have e0 : s₁.heap = h0 := by rw [← hh, Bd.state]; rfl
  have N0 := Fr.nil n0
  have Z0 : n0 ≤ h0.size := by rw [← O0.1]; exact O0.2.1
  show own_Go p e below (s₁.setTop (entryFrame m #[(.ref t1), (.ref a1)] 2)) (fun t o => ∃ v L, o = .returned v ∧ Q_rm_sinit_2 Z t1 a1 ka cs c1 c2 h0 n0 v t.heap L ∧ FrameEnd s o t L ({ frames := 3, cells := 1, slots := 2, locals := 52 } : Room).cells ({ frames := 3, cells := 1, slots := 2, locals := 52 } : Room).slots)
  rw [ef_rm_sinit_2 m t1 a1 ka cs c1 c2]
  have lt_Et : h0.size > t1 := Et.lt
  have lt_Fv : h0.size > t1 := Fv.lt
  have lt_Fc : h0.size > t1 := Fc.lt
  have lt_Va : h0.size > a1 := Va.lt
  refine own_by (fun _ k => XS.aloadN X0.here hx rfl (hb hby d_rm_sinit_2_0) rfl rfl k) ?_
  show own_Go p e below (s₁.setTop (mkF m 1 #[.val (.ref t1), .val (.ref a1)] [(.ref t1)])) _
  refine own_by (fun _ k => XS.aloadN X0.here hx rfl (hb hby d_rm_sinit_2_1) rfl rfl k) ?_
  show own_Go p e below (s₁.setTop (mkF m 2 #[.val (.ref t1), .val (.ref a1)] [(.ref a1), (.ref t1)])) _
  refine own_by (fun _ k => XS.iconst X0.here hx rfl (hb hby d_rm_sinit_2_2) k) ?_
  show own_Go p e below (s₁.setTop (mkF m 3 #[.val (.ref t1), .val (.ref a1)] [(.int (0 : Int32)), (.ref a1), (.ref t1)])) _
  refine own_by (fun _ k => XS.aloadN X0.here hx rfl (hb hby d_rm_sinit_2_3) rfl rfl k) ?_
  show own_Go p e below (s₁.setTop (mkF m 4 #[.val (.ref t1), .val (.ref a1)] [(.ref a1), (.int (0 : Int32)), (.ref a1), (.ref t1)])) _
  obtain ⟨cl1, Ar1, q1, S1, M1, H1, G1⟩ := (id Va)
  refine own_by (X0.arraylength hx (by rw [e0]; exact Ar1.1) (State.isArrayOf_alike hZ.alike Ar1.2.1) (g := (mkF m 4 #[.val (.ref t1), .val (.ref a1)] [(.ref a1), (.int (0 : Int32)), (.ref a1), (.ref t1)])) rfl rfl (hb hby d_rm_sinit_2_4)) ?_
  rw [len_of S1 M1]
  show own_Go p e below (s₁.setTop (mkF m 5 #[.val (.ref t1), .val (.ref a1)] [(.int (2 : Int32)), (.int (0 : Int32)), (.ref a1), (.ref t1)])) _
  refine own_by (fun _ k => XS.aconstNull X0.here hx rfl (hb hby d_rm_sinit_2_5) k) ?_
  show own_Go p e below (s₁.setTop (mkF m 6 #[.val (.ref t1), .val (.ref a1)] [.null, (.int (2 : Int32)), (.int (0 : Int32)), (.ref a1), (.ref t1)])) _
  obtain ⟨_, _, ⟨T2, L2, k2, n2⟩, -, X2, ⟨Lc2, hQ2, l2, y2, z2⟩, st2⟩ := X0.specialBack hx (y := (⟨"java/lang/String", "<init>", "([CIILjava/lang/Void;)V"⟩ : MethodName)) rfl hown (mvT hZ (hw _ (List.mem_of_getElem? (i := 22) rfl))) (mvT hZ (hw _ (List.mem_of_getElem? (i := 23) rfl))) (mvT hZ (hw _ (List.mem_of_getElem? (i := 25) rfl))) (by decide) (backOf (W := 0) (rm_sinit4_2 l Z a0 hw [] t1 a1 ka cs c1 c2 h0 n0 O0 S_COMPACT Et Fv Fc Va rc1 rc2 gt hcs nta) hZ (hw _ (List.mem_of_getElem? (i := 25) rfl)) (hw _ (List.mem_of_getElem? (i := 18) rfl)) (by decide) (by decide)) (g := (mkF m 6 #[.val (.ref t1), .val (.ref a1)] [.null, (.int (2 : Int32)), (.int (0 : Int32)), (.ref a1), (.ref t1)])) rfl (by rw [hml]; rfl) (Steps.refl _) (a := t1) (argsL := [(.ref a1), (.int (0 : Int32)), (.int (2 : Int32)), .null]) (rest := []) (lenOf own_pd__28_5bCIILjava_2flang_2fVoid_3b_29V rfl) rfl (by show 2 * 0 + _ ≤ _; exact Nat.le_of_eq rfl) (hb hby d_rm_sinit_2_6) (fun _ _ => ⟨rfl, e0, (by decide : 0 + 1 ≤ _), (by decide : 0 + 2 ≤ _)⟩)
  dsimp only [Pt.U, Pt.locs, Pt.cells, Pt.slots] at X2 l2 y2 z2 st2 hQ2
  subst l2 y2 z2
  obtain ⟨b_2, kb_2, rfl, M2, K2, g2_0, g2_1, g2_2, g2_3, r2_0⟩ := hQ2
  have N2 := Fr.app N0 M2
  refine own_by (fun _ k => st2.trans k) ?_
  have z2 := K2.1
  have lt_g2_0 : T2.heap.size > t1 := g2_0.lt
  have lt_g2_1 : T2.heap.size > t1 := g2_1.lt
  have lt_g2_2 : T2.heap.size > t1 := g2_2.lt
  have lt_g2_3 : T2.heap.size > b_2 := g2_3.lt
  show own_Go p e below (T2.setTop (mkF m 9 #[.val (.ref t1), .val (.ref a1)] [])) _
  have K3 : Keep h0 T2.heap [t1] := ((Keep.refl h0 [t1]).trans K2 (allS (P := fun x => x ∈ [t1] ∨ h0.size ≤ x) (Or.inl (List.mem_of_getElem? (i := 0) rfl)) all0))
  obtain ⟨fs, hr, hrun, hended, hW, hsame⟩ := X2.leave (v := none) (fun h => rfl)
  refine ⟨_, _, X2.returnOut hx Bd.returns (hb hby d_rm_sinit_2_9) hr, hrun, hended, _, _, rfl, ?_, ⟨_, rfl⟩, hW, hsame.mono (by decide) (by decide)⟩
  show Q_rm_sinit_2 Z t1 a1 ka cs c1 c2 h0 n0 _ T2.heap _
  exact ⟨b_2, kb_2, rfl, N2, K3, g2_0, g2_1, g2_2, g2_3, (by first | assumption | omega)⟩
theorem d_rm_coder_0 : decode jdk_42_method_152_code 0 = .ok (.getstatic 38, 3) := by decide +kernel
theorem d_rm_coder_3 : decode jdk_42_method_152_code 3 = .ok (.ifCond .eq 10, 3) := by decide +kernel
theorem d_rm_coder_6 : decode jdk_42_method_152_code 6 = .ok (.aload_n 0, 1) := by decide +kernel
theorem d_rm_coder_7 : decode jdk_42_method_152_code 7 = .ok (.getfield 15, 3) := by decide +kernel
theorem d_rm_coder_10 : decode jdk_42_method_152_code 10 = .ok (.goto 4, 3) := by decide +kernel
theorem d_rm_coder_14 : decode jdk_42_method_152_code 14 = .ok (.ireturn, 1) := by decide +kernel
def Q_rm_coder (Z : State) (t1 : Addr) (cs : Int32) (h0 : Heap) (n0 : Nat) (v : Option Value) (h : Heap) (L : List Loc) : Prop := v = some (.int (0 : Int32)) ∧ Fr n0 L ∧ h = h0
theorem ef_rm_coder (m : MethodId) (t1 : Addr) (cs : Int32) : entryFrame m #[(.ref t1)] 1 = mkF m 0 #[.val (.ref t1)] [] := by first | (simp [entryFrame, mkF, argsToLocals, Value.category]; done) | rfl
set_option maxRecDepth 65536 in
set_option maxHeartbeats 40000000 in
theorem rm_coder (l : Launch) (Z : State) (a0 : Array Value) (hw : ∀ d ∈ tables_1, d.before a0 Z = true) (ws : List Jvm.Cond) (t1 : Addr) (cs : Int32) (h0 : Heap) (n0 : Nat) (O0 : Old Z n0 h0) (S_COMPACT : Sta Z Z.heap "java/lang/String" "COMPACT_STRINGS" "Z" (.int cs)) (Fc : Fld Z h0 t1 "java/lang/String" "coder" "B" (.int (0 : Int32))) (hcs : ¬ (cs = (0 : Int32))) :
    MetFree l (⟨"java/lang/String", "coder", "()B"⟩ : MethodName) (head1 (Jvm.Cond.code (⟨"java/lang/String", "coder", "()B"⟩ : MethodName) jdk_42_method_152_code 1 (some .byte) :: ws) ({ frames := 0, cells := 0, slots := 0, locals := 0 } : Room)) (fun a U => a = #[(.ref t1)] ∧ Z.Warmed39 U.vm ∧ U.heap = h0) (fun _ _ _ _ _ => True) (fun _ U o U' => ∃ v L, o = .returned v ∧ Q_rm_coder Z t1 cs h0 n0 v U'.heap L ∧ FrameEnd U o U' L ({ frames := 0, cells := 0, slots := 0, locals := 0 } : Room).cells ({ frames := 0, cells := 0, slots := 0, locals := 0 } : Room).slots) := by
  refine MetFree.of_bodySF (plainFor_of_name own_pn_java_lang_String) hisR ?_
  intro p e s m args below meth c s₁ Bd hml0 hP hK
  obtain ⟨rfl, hZ, hh⟩ := hP
  have hx := Bd.exec
  have hby := Bd.bytes
  have hml : c.maxLocals = 1 := hml0
  have hown : s.vm.findClass "java/lang/String" = some m.cls := findClass_of_methodNamed Bd.named
  have hnm := (name_of_methodNamed Bd.named Bd.method).1
  have X0 : Stand p l e ({ frames := 0, cells := 0, slots := 0, locals := 0 } : Room) s m #[(.ref t1)] below meth c s₁ [] 0 0 := Stand.of_body Bd
  have e0 : s₁.heap = h0 := by rw [← hh, Bd.state]; rfl
  have N0 := Fr.nil n0
  have Z0 : n0 ≤ h0.size := by rw [← O0.1]; exact O0.2.1
  show own_Go p e below (s₁.setTop (entryFrame m #[(.ref t1)] 1)) (fun t o => ∃ v L, o = .returned v ∧ Q_rm_coder Z t1 cs h0 n0 v t.heap L ∧ FrameEnd s o t L ({ frames := 0, cells := 0, slots := 0, locals := 0 } : Room).cells ({ frames := 0, cells := 0, slots := 0, locals := 0 } : Room).slots)
  rw [ef_rm_coder m t1 cs]
  have lt_Fc : h0.size > t1 := Fc.lt
  obtain ⟨T1, X1, e1, st1⟩ := getS2 X0 hx hZ hown (host := "") (Or.inl (hw _ (List.mem_of_getElem? (i := 29) rfl))) Via.refl e0 (S_COMPACT.ext O0.2) (g := (mkF m 0 #[.val (.ref t1)] [])) rfl (hb hby d_rm_coder_0)
  refine own_by st1 ?_
  show own_Go p e below (T1.setTop (mkF m 3 #[.val (.ref t1)] [(.int cs)])) _
  refine own_by (fun _ k => XS.ifNo X1.here hx rfl (hb hby d_rm_coder_3) rfl ((if0 _ _).trans (feq hcs).1) k) ?_
  show own_Go p e below (T1.setTop (mkF m 6 #[.val (.ref t1)] [])) _
  refine own_by (fun _ k => XS.aloadN X1.here hx rfl (hb hby d_rm_coder_6) rfl rfl k) ?_
  show own_Go p e below (T1.setTop (mkF m 7 #[.val (.ref t1)] [(.ref t1)])) _
  obtain ⟨T2, X2, e2, st2⟩ := getF X1 hx hZ hown (host := "") (Or.inl (hw _ (List.mem_of_getElem? (i := 41) rfl))) Via.refl e1 Fc (g := (mkF m 7 #[.val (.ref t1)] [(.ref t1)])) rfl rfl (hb hby d_rm_coder_7)
  refine own_by st2 ?_
  show own_Go p e below (T2.setTop (mkF m 10 #[.val (.ref t1)] [(.int (0 : Int32))])) _
  refine own_by (fun _ k => XS.goto X2.here hx rfl (pc0 := 10) (pc' := 14) rfl (hb hby d_rm_coder_10) (by decide) (by decide) k) ?_
  show own_Go p e below (T2.setTop (mkF m 14 #[.val (.ref t1)] [(.int (0 : Int32))])) _
  obtain ⟨fs, hr, hrun, hended, hW, hsame⟩ := X2.leave (v := some (.int (0 : Int32))) (fun h => by rw [Bd.returns] at h; cases h)
  refine ⟨_, _, retN X2 hx (t := .byte) Bd.returns (by simp) (hb hby d_rm_coder_14) hr, hrun, hended, _, _, rfl, ?_, ⟨_, rfl⟩, hW, hsame.mono (by decide) (by decide)⟩
  show Q_rm_coder Z t1 cs h0 n0 _ T2.heap _
  rw [e2]
  exact ⟨rfl, N0, rfl⟩
theorem d_rm_len_2_0 : decode jdk_42_method_54_code 0 = .ok (.aload_n 0, 1) := by decide +kernel
theorem d_rm_len_2_1 : decode jdk_42_method_54_code 1 = .ok (.getfield 9, 3) := by decide +kernel
theorem d_rm_len_2_4 : decode jdk_42_method_54_code 4 = .ok (.arraylength, 1) := by decide +kernel
theorem d_rm_len_2_5 : decode jdk_42_method_54_code 5 = .ok (.aload_n 0, 1) := by decide +kernel
theorem d_rm_len_2_6 : decode jdk_42_method_54_code 6 = .ok (.invokevirtual 335, 3) := by decide +kernel
theorem d_rm_len_2_9 : decode jdk_42_method_54_code 9 = .ok (.ishr, 1) := by decide +kernel
theorem d_rm_len_2_10 : decode jdk_42_method_54_code 10 = .ok (.ireturn, 1) := by decide +kernel
def Q_rm_len_2 (Z : State) (t1 : Addr) (b : Addr) (kb : ClassId) (cs : Int32) (d1 : Int32) (d2 : Int32) (h0 : Heap) (n0 : Nat) (v : Option Value) (h : Heap) (L : List Loc) : Prop := v = some (.int (2 : Int32)) ∧ Fr n0 L ∧ h = h0
theorem ef_rm_len_2 (m : MethodId) (t1 : Addr) (b : Addr) (kb : ClassId) (cs : Int32) (d1 : Int32) (d2 : Int32) : entryFrame m #[(.ref t1)] 1 = mkF m 0 #[.val (.ref t1)] [] := by first | (simp [entryFrame, mkF, argsToLocals, Value.category]; done) | rfl
set_option maxRecDepth 65536 in
set_option maxHeartbeats 40000000 in
theorem rm_len_2 (l : Launch) (Z : State) (a0 : Array Value) (hw : ∀ d ∈ tables_1, d.before a0 Z = true) (ws : List Jvm.Cond) (t1 : Addr) (b : Addr) (kb : ClassId) (cs : Int32) (d1 : Int32) (d2 : Int32) (h0 : Heap) (n0 : Nat) (O0 : Old Z n0 h0) (S_COMPACT : Sta Z Z.heap "java/lang/String" "COMPACT_STRINGS" "Z" (.int cs)) (Et : Exa Z h0 t1 "java/lang/String") (Fc : Fld Z h0 t1 "java/lang/String" "coder" "B" (.int (0 : Int32))) (Fv : Fld Z h0 t1 "java/lang/String" "value" "[B" (.ref b)) (Vb : Arv Z h0 b kb .byte (2 : Int32) [(.int d1), (.int d2)] (.int (0 : Int32))) (hcs : ¬ (cs = (0 : Int32))) :
    MetFree l (⟨"java/lang/String", "length", "()I"⟩ : MethodName) (head1 (Jvm.Cond.code (⟨"java/lang/String", "length", "()I"⟩ : MethodName) jdk_42_method_54_code 1 (some .int) :: ws) ({ frames := 1, cells := 0, slots := 0, locals := 13 } : Room)) (fun a U => a = #[(.ref t1)] ∧ Z.Warmed39 U.vm ∧ U.heap = h0) (fun _ _ _ _ _ => True) (fun _ U o U' => ∃ v L, o = .returned v ∧ Q_rm_len_2 Z t1 b kb cs d1 d2 h0 n0 v U'.heap L ∧ FrameEnd U o U' L ({ frames := 1, cells := 0, slots := 0, locals := 13 } : Room).cells ({ frames := 1, cells := 0, slots := 0, locals := 13 } : Room).slots) := by
  refine MetFree.of_bodySF (plainFor_of_name own_pn_java_lang_String) hisR ?_
  intro p e s m args below meth c s₁ Bd hml0 hP hK
  obtain ⟨rfl, hZ, hh⟩ := hP
  have hx := Bd.exec
  have hby := Bd.bytes
  have hml : c.maxLocals = 1 := hml0
  have hown : s.vm.findClass "java/lang/String" = some m.cls := findClass_of_methodNamed Bd.named
  have hnm := (name_of_methodNamed Bd.named Bd.method).1
  have X0 : Stand p l e ({ frames := 1, cells := 0, slots := 0, locals := 13 } : Room) s m #[(.ref t1)] below meth c s₁ [] 0 0 := Stand.of_body Bd
  have e0 : s₁.heap = h0 := by rw [← hh, Bd.state]; rfl
  have N0 := Fr.nil n0
  have Z0 : n0 ≤ h0.size := by rw [← O0.1]; exact O0.2.1
  show own_Go p e below (s₁.setTop (entryFrame m #[(.ref t1)] 1)) (fun t o => ∃ v L, o = .returned v ∧ Q_rm_len_2 Z t1 b kb cs d1 d2 h0 n0 v t.heap L ∧ FrameEnd s o t L ({ frames := 1, cells := 0, slots := 0, locals := 13 } : Room).cells ({ frames := 1, cells := 0, slots := 0, locals := 13 } : Room).slots)
  rw [ef_rm_len_2 m t1 b kb cs d1 d2]
  have lt_Et : h0.size > t1 := Et.lt
  have lt_Fc : h0.size > t1 := Fc.lt
  have lt_Fv : h0.size > t1 := Fv.lt
  have lt_Vb : h0.size > b := Vb.lt
  refine own_by (fun _ k => XS.aloadN X0.here hx rfl (hb hby d_rm_len_2_0) rfl rfl k) ?_
  show own_Go p e below (s₁.setTop (mkF m 1 #[.val (.ref t1)] [(.ref t1)])) _
  obtain ⟨T1, X1, e1, st1⟩ := getF X0 hx hZ hown (host := "") (Or.inl (hw _ (List.mem_of_getElem? (i := 43) rfl))) Via.refl e0 Fv (g := (mkF m 1 #[.val (.ref t1)] [(.ref t1)])) rfl rfl (hb hby d_rm_len_2_1)
  refine own_by st1 ?_
  show own_Go p e below (T1.setTop (mkF m 4 #[.val (.ref t1)] [(.ref b)])) _
  obtain ⟨cl2, Ar2, q2, S2, M2, H2, G2⟩ := (id Vb)
  refine own_by (X1.arraylength hx (by rw [e1]; exact Ar2.1) (State.isArrayOf_alike hZ.alike Ar2.2.1) (g := (mkF m 4 #[.val (.ref t1)] [(.ref b)])) rfl rfl (hb hby d_rm_len_2_4)) ?_
  rw [len_of S2 M2]
  show own_Go p e below (T1.setTop (mkF m 5 #[.val (.ref t1)] [(.int (2 : Int32))])) _
  refine own_by (fun _ k => XS.aloadN X1.here hx rfl (hb hby d_rm_len_2_5) rfl rfl k) ?_
  show own_Go p e below (T1.setTop (mkF m 6 #[.val (.ref t1)] [(.ref t1), (.int (2 : Int32))])) _
  obtain ⟨cq3, kq3, q3a, q3b, q3c⟩ := isOf hZ e1 Et
  obtain ⟨_, _, ⟨T3, L3, k3, n3⟩, -, X3, ⟨Lc3, hQ3, l3, y3, z3⟩, st3⟩ := X1.virtualBack hx (y := (⟨"java/lang/String", "coder", "()B"⟩ : MethodName)) (z := (⟨"java/lang/String", "coder", "()B"⟩ : MethodName)) hown (mvT hZ (hw _ (List.mem_of_getElem? (i := 94) rfl))) (mvT hZ (hw _ (List.mem_of_getElem? (i := 95) rfl))) (notFace_of_selects (args := #[]) (mvT hZ (hw _ (List.mem_of_getElem? (i := 97) rfl)))) (mvT hZ (hw _ (List.mem_of_getElem? (i := 97) rfl))) (mvT hZ (hw _ (List.mem_of_getElem? (i := 96) rfl))) (by decide) (backOf (W := 1) (rm_coder l Z a0 hw [] t1 cs h0 n0 O0 S_COMPACT Fc hcs) hZ (hw _ (List.mem_of_getElem? (i := 98) rfl)) (hw _ (List.mem_of_getElem? (i := 18) rfl)) (by decide) (by decide)) q3a q3c (g := (mkF m 6 #[.val (.ref t1)] [(.ref t1), (.int (2 : Int32))])) rfl (by rw [hml]; rfl) (Steps.refl _) (argsL := []) (rest := [(.int (2 : Int32))]) (lenOf own_pd__28_29B rfl) rfl (by show 2 * 0 + _ ≤ _; exact Nat.le_of_eq rfl) (hb hby d_rm_len_2_6) (fun _ _ => ⟨rfl, e1, (by decide : 0 + 0 ≤ _), (by decide : 0 + 0 ≤ _)⟩)
  dsimp only [Pt.U, Pt.locs, Pt.cells, Pt.slots] at X3 l3 y3 z3 st3 hQ3
  subst l3 y3 z3
  obtain ⟨rfl, M3, K3⟩ := hQ3
  have N3 := Fr.app N0 M3
  refine own_by (fun _ k => st3.trans k) ?_
  show own_Go p e below (T3.setTop (mkF m 9 #[.val (.ref t1)] [(.int (0 : Int32)), (.int (2 : Int32))])) _
  refine own_by (fun _ k => XS.ishr X3.here hx rfl (hb hby d_rm_len_2_9) rfl k) ?_
  show own_Go p e below (T3.setTop (mkF m 10 #[.val (.ref t1)] [(.int (2 : Int32))])) _
  obtain ⟨fs, hr, hrun, hended, hW, hsame⟩ := X3.leave (v := some (.int (2 : Int32))) (fun h => by rw [Bd.returns] at h; cases h)
  refine ⟨_, _, retI X3 hx Bd.returns (hb hby d_rm_len_2_10) hr, hrun, hended, _, _, rfl, ?_, ⟨_, rfl⟩, hW, hsame.mono (by decide) (by decide)⟩
  show Q_rm_len_2 Z t1 b kb cs d1 d2 h0 n0 _ T3.heap _
  rw [K3]
  exact ⟨rfl, N3, rfl⟩
theorem d_rm_latin_0 : decode jdk_42_method_154_code 0 = .ok (.getstatic 38, 3) := by decide +kernel
theorem d_rm_latin_3 : decode jdk_42_method_154_code 3 = .ok (.ifCond .eq 14, 3) := by decide +kernel
theorem d_rm_latin_6 : decode jdk_42_method_154_code 6 = .ok (.aload_n 0, 1) := by decide +kernel
theorem d_rm_latin_7 : decode jdk_42_method_154_code 7 = .ok (.getfield 15, 3) := by decide +kernel
theorem d_rm_latin_10 : decode jdk_42_method_154_code 10 = .ok (.ifCond .ne 7, 3) := by decide +kernel
theorem d_rm_latin_13 : decode jdk_42_method_154_code 13 = .ok (.iconst 1, 1) := by decide +kernel
theorem d_rm_latin_14 : decode jdk_42_method_154_code 14 = .ok (.goto 4, 3) := by decide +kernel
theorem d_rm_latin_18 : decode jdk_42_method_154_code 18 = .ok (.ireturn, 1) := by decide +kernel
def Q_rm_latin (Z : State) (t1 : Addr) (cs : Int32) (h0 : Heap) (n0 : Nat) (v : Option Value) (h : Heap) (L : List Loc) : Prop := v = some (.int (1 : Int32)) ∧ Fr n0 L ∧ h = h0
theorem ef_rm_latin (m : MethodId) (t1 : Addr) (cs : Int32) : entryFrame m #[(.ref t1)] 1 = mkF m 0 #[.val (.ref t1)] [] := by first | (simp [entryFrame, mkF, argsToLocals, Value.category]; done) | rfl
set_option maxRecDepth 65536 in
set_option maxHeartbeats 40000000 in
theorem rm_latin (l : Launch) (Z : State) (a0 : Array Value) (hw : ∀ d ∈ tables_1, d.before a0 Z = true) (ws : List Jvm.Cond) (t1 : Addr) (cs : Int32) (h0 : Heap) (n0 : Nat) (O0 : Old Z n0 h0) (S_COMPACT : Sta Z Z.heap "java/lang/String" "COMPACT_STRINGS" "Z" (.int cs)) (Fc : Fld Z h0 t1 "java/lang/String" "coder" "B" (.int (0 : Int32))) (hcs : ¬ (cs = (0 : Int32))) :
    MetFree l (⟨"java/lang/String", "isLatin1", "()Z"⟩ : MethodName) (head1 (Jvm.Cond.code (⟨"java/lang/String", "isLatin1", "()Z"⟩ : MethodName) jdk_42_method_154_code 1 (some .boolean) :: ws) ({ frames := 0, cells := 0, slots := 0, locals := 0 } : Room)) (fun a U => a = #[(.ref t1)] ∧ Z.Warmed39 U.vm ∧ U.heap = h0) (fun _ _ _ _ _ => True) (fun _ U o U' => ∃ v L, o = .returned v ∧ Q_rm_latin Z t1 cs h0 n0 v U'.heap L ∧ FrameEnd U o U' L ({ frames := 0, cells := 0, slots := 0, locals := 0 } : Room).cells ({ frames := 0, cells := 0, slots := 0, locals := 0 } : Room).slots) := by
  refine MetFree.of_bodySF (plainFor_of_name own_pn_java_lang_String) hisR ?_
  intro p e s m args below meth c s₁ Bd hml0 hP hK
  obtain ⟨rfl, hZ, hh⟩ := hP
  have hx := Bd.exec
  have hby := Bd.bytes
  have hml : c.maxLocals = 1 := hml0
  have hown : s.vm.findClass "java/lang/String" = some m.cls := findClass_of_methodNamed Bd.named
  have hnm := (name_of_methodNamed Bd.named Bd.method).1
  have X0 : Stand p l e ({ frames := 0, cells := 0, slots := 0, locals := 0 } : Room) s m #[(.ref t1)] below meth c s₁ [] 0 0 := Stand.of_body Bd
  have e0 : s₁.heap = h0 := by rw [← hh, Bd.state]; rfl
  have N0 := Fr.nil n0
  have Z0 : n0 ≤ h0.size := by rw [← O0.1]; exact O0.2.1
  show own_Go p e below (s₁.setTop (entryFrame m #[(.ref t1)] 1)) (fun t o => ∃ v L, o = .returned v ∧ Q_rm_latin Z t1 cs h0 n0 v t.heap L ∧ FrameEnd s o t L ({ frames := 0, cells := 0, slots := 0, locals := 0 } : Room).cells ({ frames := 0, cells := 0, slots := 0, locals := 0 } : Room).slots)
  rw [ef_rm_latin m t1 cs]
  have lt_Fc : h0.size > t1 := Fc.lt
  obtain ⟨T1, X1, e1, st1⟩ := getS2 X0 hx hZ hown (host := "") (Or.inl (hw _ (List.mem_of_getElem? (i := 29) rfl))) Via.refl e0 (S_COMPACT.ext O0.2) (g := (mkF m 0 #[.val (.ref t1)] [])) rfl (hb hby d_rm_latin_0)
  refine own_by st1 ?_
  show own_Go p e below (T1.setTop (mkF m 3 #[.val (.ref t1)] [(.int cs)])) _
  refine own_by (fun _ k => XS.ifNo X1.here hx rfl (hb hby d_rm_latin_3) rfl ((if0 _ _).trans (feq hcs).1) k) ?_
  show own_Go p e below (T1.setTop (mkF m 6 #[.val (.ref t1)] [])) _
  refine own_by (fun _ k => XS.aloadN X1.here hx rfl (hb hby d_rm_latin_6) rfl rfl k) ?_
  show own_Go p e below (T1.setTop (mkF m 7 #[.val (.ref t1)] [(.ref t1)])) _
  obtain ⟨T2, X2, e2, st2⟩ := getF X1 hx hZ hown (host := "") (Or.inl (hw _ (List.mem_of_getElem? (i := 41) rfl))) Via.refl e1 Fc (g := (mkF m 7 #[.val (.ref t1)] [(.ref t1)])) rfl rfl (hb hby d_rm_latin_7)
  refine own_by st2 ?_
  show own_Go p e below (T2.setTop (mkF m 10 #[.val (.ref t1)] [(.int (0 : Int32))])) _
  refine own_by (fun _ k => XS.ifNo X2.here hx rfl (hb hby d_rm_latin_10) rfl ((if0 _ _).trans (teq (by decide : (0 : Int32) = (0 : Int32))).2) k) ?_
  show own_Go p e below (T2.setTop (mkF m 13 #[.val (.ref t1)] [])) _
  refine own_by (fun _ k => XS.iconst X2.here hx rfl (hb hby d_rm_latin_13) k) ?_
  show own_Go p e below (T2.setTop (mkF m 14 #[.val (.ref t1)] [(.int (1 : Int32))])) _
  refine own_by (fun _ k => XS.goto X2.here hx rfl (pc0 := 14) (pc' := 18) rfl (hb hby d_rm_latin_14) (by decide) (by decide) k) ?_
  show own_Go p e below (T2.setTop (mkF m 18 #[.val (.ref t1)] [(.int (1 : Int32))])) _
  obtain ⟨fs, hr, hrun, hended, hW, hsame⟩ := X2.leave (v := some (.int (1 : Int32))) (fun h => by rw [Bd.returns] at h; cases h)
  refine ⟨_, _, retN X2 hx (t := .boolean) Bd.returns (by simp) (hb hby d_rm_latin_18) hr, hrun, hended, _, _, rfl, ?_, ⟨_, rfl⟩, hW, hsame.mono (by decide) (by decide)⟩
  show Q_rm_latin Z t1 cs h0 n0 _ T2.heap _
  rw [e2]
  exact ⟨rfl, N0, rfl⟩
theorem d_rm_pchk_2_0_0 : decode jdk_41_method_11_code 0 = .ok (.iload_n 0, 1) := by decide +kernel
theorem d_rm_pchk_2_0_1 : decode jdk_41_method_11_code 1 = .ok (.ifCond .lt 8, 3) := by decide +kernel
theorem d_rm_pchk_2_0_4 : decode jdk_41_method_11_code 4 = .ok (.iload_n 0, 1) := by decide +kernel
theorem d_rm_pchk_2_0_5 : decode jdk_41_method_11_code 5 = .ok (.iload_n 1, 1) := by decide +kernel
theorem d_rm_pchk_2_0_6 : decode jdk_41_method_11_code 6 = .ok (.if_icmp .lt 10, 3) := by decide +kernel
theorem d_rm_pchk_2_0_16 : decode jdk_41_method_11_code 16 = .ok (.iload_n 0, 1) := by decide +kernel
theorem d_rm_pchk_2_0_17 : decode jdk_41_method_11_code 17 = .ok (.ireturn, 1) := by decide +kernel
def Q_rm_pchk_2_0 (Z : State) (fmt : Value) (h0 : Heap) (n0 : Nat) (v : Option Value) (h : Heap) (L : List Loc) : Prop := v = some (.int (0 : Int32)) ∧ Fr n0 L ∧ h = h0
theorem ef_rm_pchk_2_0 (m : MethodId) (fmt : Value) (hfmt : fmt.isRef = true) : entryFrame m #[(.int (0 : Int32)), (.int (2 : Int32)), fmt] 3 = mkF m 0 #[.val (.int (0 : Int32)), .val (.int (2 : Int32)), .val fmt] [] := by rcases ref_cases hfmt with rfl | ⟨_, rfl⟩ <;> first | (simp [entryFrame, mkF, argsToLocals, Value.category]; done) | rfl
set_option maxRecDepth 65536 in
set_option maxHeartbeats 40000000 in
theorem rm_pchk_2_0 (l : Launch) (Z : State) (a0 : Array Value) (hw : ∀ d ∈ tables_1, d.before a0 Z = true) (ws : List Jvm.Cond) (fmt : Value) (h0 : Heap) (n0 : Nat) (O0 : Old Z n0 h0) (hfmt : fmt.isRef = true) :
    MetFree l (⟨"jdk/internal/util/Preconditions", "checkIndex", "(IILjava/util/function/BiFunction;)I"⟩ : MethodName) (head1 (Jvm.Cond.code (⟨"jdk/internal/util/Preconditions", "checkIndex", "(IILjava/util/function/BiFunction;)I"⟩ : MethodName) jdk_41_method_11_code 3 (some .int) :: ws) ({ frames := 0, cells := 0, slots := 0, locals := 0 } : Room)) (fun a U => a = #[(.int (0 : Int32)), (.int (2 : Int32)), fmt] ∧ Z.Warmed39 U.vm ∧ U.heap = h0) (fun _ _ _ _ _ => True) (fun _ U o U' => ∃ v L, o = .returned v ∧ Q_rm_pchk_2_0 Z fmt h0 n0 v U'.heap L ∧ FrameEnd U o U' L ({ frames := 0, cells := 0, slots := 0, locals := 0 } : Room).cells ({ frames := 0, cells := 0, slots := 0, locals := 0 } : Room).slots) := by
  refine MetFree.of_bodySF (plainFor_of_name own_pn_jdk_internal_util_Preconditions) hisR ?_
  intro p e s m args below meth c s₁ Bd hml0 hP hK
  obtain ⟨rfl, hZ, hh⟩ := hP
  have hx := Bd.exec
  have hby := Bd.bytes
  have hml : c.maxLocals = 3 := hml0
  have hown : s.vm.findClass "jdk/internal/util/Preconditions" = some m.cls := findClass_of_methodNamed Bd.named
  have hnm := (name_of_methodNamed Bd.named Bd.method).1
  have X0 : Stand p l e ({ frames := 0, cells := 0, slots := 0, locals := 0 } : Room) s m #[(.int (0 : Int32)), (.int (2 : Int32)), fmt] below meth c s₁ [] 0 0 := Stand.of_body Bd
  have e0 : s₁.heap = h0 := by rw [← hh, Bd.state]; rfl
  have N0 := Fr.nil n0
  have Z0 : n0 ≤ h0.size := by rw [← O0.1]; exact O0.2.1
  show own_Go p e below (s₁.setTop (entryFrame m #[(.int (0 : Int32)), (.int (2 : Int32)), fmt] 3)) (fun t o => ∃ v L, o = .returned v ∧ Q_rm_pchk_2_0 Z fmt h0 n0 v t.heap L ∧ FrameEnd s o t L ({ frames := 0, cells := 0, slots := 0, locals := 0 } : Room).cells ({ frames := 0, cells := 0, slots := 0, locals := 0 } : Room).slots)
  rw [ef_rm_pchk_2_0 m fmt hfmt]
  refine own_by (fun _ k => XS.iloadN X0.here hx rfl (hb hby d_rm_pchk_2_0_0) rfl k) ?_
  show own_Go p e below (s₁.setTop (mkF m 1 #[.val (.int (0 : Int32)), .val (.int (2 : Int32)), .val fmt] [(.int (0 : Int32))])) _
  refine own_by (fun _ k => XS.ifNo X0.here hx rfl (hb hby d_rm_pchk_2_0_1) rfl ((if0 _ _).trans (flt (by decide : ¬ ((0 : Int32) < (0 : Int32)))).1) k) ?_
  show own_Go p e below (s₁.setTop (mkF m 4 #[.val (.int (0 : Int32)), .val (.int (2 : Int32)), .val fmt] [])) _
  refine own_by (fun _ k => XS.iloadN X0.here hx rfl (hb hby d_rm_pchk_2_0_4) rfl k) ?_
  show own_Go p e below (s₁.setTop (mkF m 5 #[.val (.int (0 : Int32)), .val (.int (2 : Int32)), .val fmt] [(.int (0 : Int32))])) _
  refine own_by (fun _ k => XS.iloadN X0.here hx rfl (hb hby d_rm_pchk_2_0_5) rfl k) ?_
  show own_Go p e below (s₁.setTop (mkF m 6 #[.val (.int (0 : Int32)), .val (.int (2 : Int32)), .val fmt] [(.int (2 : Int32)), (.int (0 : Int32))])) _
  refine own_by (fun _ k => XS.icmpYes X0.here hx rfl (pc0 := 6) (pc' := 16) rfl (hb hby d_rm_pchk_2_0_6) rfl (tlt (by decide : (0 : Int32) < (2 : Int32))).1 (by decide) (by decide) k) ?_
  show own_Go p e below (s₁.setTop (mkF m 16 #[.val (.int (0 : Int32)), .val (.int (2 : Int32)), .val fmt] [])) _
  refine own_by (fun _ k => XS.iloadN X0.here hx rfl (hb hby d_rm_pchk_2_0_16) rfl k) ?_
  show own_Go p e below (s₁.setTop (mkF m 17 #[.val (.int (0 : Int32)), .val (.int (2 : Int32)), .val fmt] [(.int (0 : Int32))])) _
  obtain ⟨fs, hr, hrun, hended, hW, hsame⟩ := X0.leave (v := some (.int (0 : Int32))) (fun h => by rw [Bd.returns] at h; cases h)
  refine ⟨_, _, retI X0 hx Bd.returns (hb hby d_rm_pchk_2_0_17) hr, hrun, hended, _, _, rfl, ?_, ⟨_, rfl⟩, hW, hsame.mono (by decide) (by decide)⟩
  show Q_rm_pchk_2_0 Z fmt h0 n0 _ s₁.heap _
  rw [e0]
  exact ⟨rfl, N0, rfl⟩
theorem d_rm_chk_2_0_0 : decode jdk_42_method_155_code 0 = .ok (.iload_n 0, 1) := by decide +kernel
theorem d_rm_chk_2_0_1 : decode jdk_42_method_155_code 1 = .ok (.iload_n 1, 1) := by decide +kernel
theorem d_rm_chk_2_0_2 : decode jdk_42_method_155_code 2 = .ok (.getstatic 1053, 3) := by decide +kernel
theorem d_rm_chk_2_0_5 : decode jdk_42_method_155_code 5 = .ok (.invokestatic 1059, 3) := by decide +kernel
theorem d_rm_chk_2_0_8 : decode jdk_42_method_155_code 8 = .ok (.pop, 1) := by decide +kernel
theorem d_rm_chk_2_0_9 : decode jdk_42_method_155_code 9 = .ok (.return_, 1) := by decide +kernel
def Q_rm_chk_2_0 (Z : State) (fmt : Value) (h0 : Heap) (n0 : Nat) (v : Option Value) (h : Heap) (L : List Loc) : Prop := v = none ∧ Fr n0 L ∧ h = h0
theorem ef_rm_chk_2_0 (m : MethodId) (fmt : Value) : entryFrame m #[(.int (0 : Int32)), (.int (2 : Int32))] 2 = mkF m 0 #[.val (.int (0 : Int32)), .val (.int (2 : Int32))] [] := by first | (simp [entryFrame, mkF, argsToLocals, Value.category]; done) | rfl
set_option maxRecDepth 65536 in
set_option maxHeartbeats 40000000 in
theorem rm_chk_2_0 (l : Launch) (Z : State) (a0 : Array Value) (hw : ∀ d ∈ tables_1, d.before a0 Z = true) (ws : List Jvm.Cond) (fmt : Value) (h0 : Heap) (n0 : Nat) (O0 : Old Z n0 h0) (S_FMT : Sta Z Z.heap "jdk/internal/util/Preconditions" "SIOOBE_FORMATTER" "Ljava/util/function/BiFunction;" fmt) (hfmt : fmt.isRef = true) :
    MetFree l (⟨"java/lang/String", "checkIndex", "(II)V"⟩ : MethodName) (head1 (Jvm.Cond.code (⟨"java/lang/String", "checkIndex", "(II)V"⟩ : MethodName) jdk_42_method_155_code 2 none :: ws) ({ frames := 1, cells := 0, slots := 0, locals := 14 } : Room)) (fun a U => a = #[(.int (0 : Int32)), (.int (2 : Int32))] ∧ Z.Warmed39 U.vm ∧ U.heap = h0) (fun _ _ _ _ _ => True) (fun _ U o U' => ∃ v L, o = .returned v ∧ Q_rm_chk_2_0 Z fmt h0 n0 v U'.heap L ∧ FrameEnd U o U' L ({ frames := 1, cells := 0, slots := 0, locals := 14 } : Room).cells ({ frames := 1, cells := 0, slots := 0, locals := 14 } : Room).slots) := by
  refine MetFree.of_bodySF (plainFor_of_name own_pn_java_lang_String) hisR ?_
  intro p e s m args below meth c s₁ Bd hml0 hP hK
  obtain ⟨rfl, hZ, hh⟩ := hP
  have hx := Bd.exec
  have hby := Bd.bytes
  have hml : c.maxLocals = 2 := hml0
  have hown : s.vm.findClass "java/lang/String" = some m.cls := findClass_of_methodNamed Bd.named
  have hnm := (name_of_methodNamed Bd.named Bd.method).1
  have X0 : Stand p l e ({ frames := 1, cells := 0, slots := 0, locals := 14 } : Room) s m #[(.int (0 : Int32)), (.int (2 : Int32))] below meth c s₁ [] 0 0 := Stand.of_body Bd
  have e0 : s₁.heap = h0 := by rw [← hh, Bd.state]; rfl
  have N0 := Fr.nil n0
  have Z0 : n0 ≤ h0.size := by rw [← O0.1]; exact O0.2.1
  show own_Go p e below (s₁.setTop (entryFrame m #[(.int (0 : Int32)), (.int (2 : Int32))] 2)) (fun t o => ∃ v L, o = .returned v ∧ Q_rm_chk_2_0 Z fmt h0 n0 v t.heap L ∧ FrameEnd s o t L ({ frames := 1, cells := 0, slots := 0, locals := 14 } : Room).cells ({ frames := 1, cells := 0, slots := 0, locals := 14 } : Room).slots)
  rw [ef_rm_chk_2_0 m fmt]
  refine own_by (fun _ k => XS.iloadN X0.here hx rfl (hb hby d_rm_chk_2_0_0) rfl k) ?_
  show own_Go p e below (s₁.setTop (mkF m 1 #[.val (.int (0 : Int32)), .val (.int (2 : Int32))] [(.int (0 : Int32))])) _
  refine own_by (fun _ k => XS.iloadN X0.here hx rfl (hb hby d_rm_chk_2_0_1) rfl k) ?_
  show own_Go p e below (s₁.setTop (mkF m 2 #[.val (.int (0 : Int32)), .val (.int (2 : Int32))] [(.int (2 : Int32)), (.int (0 : Int32))])) _
  obtain ⟨T1, X1, e1, st1⟩ := getS2 X0 hx hZ hown (host := "") (Or.inl (hw _ (List.mem_of_getElem? (i := 116) rfl))) Via.refl e0 (S_FMT.ext O0.2) (g := (mkF m 2 #[.val (.int (0 : Int32)), .val (.int (2 : Int32))] [(.int (2 : Int32)), (.int (0 : Int32))])) rfl (hb hby d_rm_chk_2_0_2)
  refine own_by st1 ?_
  show own_Go p e below (T1.setTop (mkF m 5 #[.val (.int (0 : Int32)), .val (.int (2 : Int32))] [fmt, (.int (2 : Int32)), (.int (0 : Int32))])) _
  obtain ⟨_, _, ⟨T2, L2, k2, n2⟩, -, X2, ⟨Lc2, hQ2, l2, y2, z2⟩, st2⟩ := Jvm.LawKit.callS X1 hx (y := (⟨"jdk/internal/util/Preconditions", "checkIndex", "(IILjava/util/function/BiFunction;)I"⟩ : MethodName)) hown (mvT hZ (hw _ (List.mem_of_getElem? (i := 118) rfl))) (mvT hZ (hw _ (List.mem_of_getElem? (i := 119) rfl))) (mvT hZ (hw _ (List.mem_of_getElem? (i := 117) rfl))) (mvT hZ (hw _ (List.mem_of_getElem? (i := 120) rfl))) (by decide) (backOf (W := 0) (rm_pchk_2_0 l Z a0 hw [] fmt h0 n0 O0 hfmt) hZ (hw _ (List.mem_of_getElem? (i := 120) rfl)) (hw _ (List.mem_of_getElem? (i := 117) rfl)) (by decide) (by decide)) (g := (mkF m 5 #[.val (.int (0 : Int32)), .val (.int (2 : Int32))] [fmt, (.int (2 : Int32)), (.int (0 : Int32))])) rfl (by rw [hml]; rfl) (argsL := [(.int (0 : Int32)), (.int (2 : Int32)), fmt]) (rest := []) (lenOf own_pd__28IILjava_2futil_2ffunction_2fBiFunction_3b_29I rfl) rfl (by show 2 * 0 + _ ≤ _; exact Nat.le_of_eq rfl) (hb hby d_rm_chk_2_0_5) (fun _ _ => ⟨rfl, e1, (by decide : 0 + 0 ≤ _), (by decide : 0 + 0 ≤ _)⟩)
  dsimp only [Pt.U, Pt.locs, Pt.cells, Pt.slots] at X2 l2 y2 z2 st2 hQ2
  subst l2 y2 z2
  obtain ⟨rfl, M2, K2⟩ := hQ2
  have N2 := Fr.app N0 M2
  refine own_by st2 ?_
  show own_Go p e below (T2.setTop (mkF m 8 #[.val (.int (0 : Int32)), .val (.int (2 : Int32))] [(.int (0 : Int32))])) _
  refine own_by (fun _ k => XS.pop X2.here hx rfl (hb hby d_rm_chk_2_0_8) rfl rfl k) ?_
  show own_Go p e below (T2.setTop (mkF m 9 #[.val (.int (0 : Int32)), .val (.int (2 : Int32))] [])) _
  obtain ⟨fs, hr, hrun, hended, hW, hsame⟩ := X2.leave (v := none) (fun h => rfl)
  refine ⟨_, _, X2.returnOut hx Bd.returns (hb hby d_rm_chk_2_0_9) hr, hrun, hended, _, _, rfl, ?_, ⟨_, rfl⟩, hW, hsame.mono (by decide) (by decide)⟩
  show Q_rm_chk_2_0 Z fmt h0 n0 _ T2.heap _
  rw [K2]
  exact ⟨rfl, N2, rfl⟩
theorem d_rm_lch_2_0_0 : decode jdk_43_method_2_code 0 = .ok (.iload_n 1, 1) := by decide +kernel
theorem d_rm_lch_2_0_1 : decode jdk_43_method_2_code 1 = .ok (.aload_n 0, 1) := by decide +kernel
theorem d_rm_lch_2_0_2 : decode jdk_43_method_2_code 2 = .ok (.arraylength, 1) := by decide +kernel
theorem d_rm_lch_2_0_3 : decode jdk_43_method_2_code 3 = .ok (.invokestatic 9, 3) := by decide +kernel
theorem d_rm_lch_2_0_6 : decode jdk_43_method_2_code 6 = .ok (.aload_n 0, 1) := by decide +kernel
theorem d_rm_lch_2_0_7 : decode jdk_43_method_2_code 7 = .ok (.iload_n 1, 1) := by decide +kernel
theorem d_rm_lch_2_0_8 : decode jdk_43_method_2_code 8 = .ok (.baload, 1) := by decide +kernel
theorem d_rm_lch_2_0_9 : decode jdk_43_method_2_code 9 = .ok (.sipush 255, 3) := by decide +kernel
theorem d_rm_lch_2_0_12 : decode jdk_43_method_2_code 12 = .ok (.iand, 1) := by decide +kernel
theorem d_rm_lch_2_0_13 : decode jdk_43_method_2_code 13 = .ok (.i2c, 1) := by decide +kernel
theorem d_rm_lch_2_0_14 : decode jdk_43_method_2_code 14 = .ok (.ireturn, 1) := by decide +kernel
def Q_rm_lch_2_0 (Z : State) (b : Addr) (kb : ClassId) (fmt : Value) (d1 : Int32) (d2 : Int32) (h0 : Heap) (n0 : Nat) (v : Option Value) (h : Heap) (L : List Loc) : Prop := v = some (.int (own_ch d1)) ∧ Fr n0 L ∧ h = h0
theorem ef_rm_lch_2_0 (m : MethodId) (b : Addr) (kb : ClassId) (fmt : Value) (d1 : Int32) (d2 : Int32) : entryFrame m #[(.ref b), (.int (0 : Int32))] 2 = mkF m 0 #[.val (.ref b), .val (.int (0 : Int32))] [] := by first | (simp [entryFrame, mkF, argsToLocals, Value.category]; done) | rfl
set_option maxRecDepth 65536 in
set_option maxHeartbeats 40000000 in
theorem rm_lch_2_0 (l : Launch) (Z : State) (a0 : Array Value) (hw : ∀ d ∈ tables_1, d.before a0 Z = true) (ws : List Jvm.Cond) (b : Addr) (kb : ClassId) (fmt : Value) (d1 : Int32) (d2 : Int32) (h0 : Heap) (n0 : Nat) (O0 : Old Z n0 h0) (S_FMT : Sta Z Z.heap "jdk/internal/util/Preconditions" "SIOOBE_FORMATTER" "Ljava/util/function/BiFunction;" fmt) (Vb : Arv Z h0 b kb .byte (2 : Int32) [(.int d1), (.int d2)] (.int (0 : Int32))) (hfmt : fmt.isRef = true) :
    MetFree l (⟨"java/lang/StringLatin1", "charAt", "([BI)C"⟩ : MethodName) (head1 (Jvm.Cond.code (⟨"java/lang/StringLatin1", "charAt", "([BI)C"⟩ : MethodName) jdk_43_method_2_code 2 (some .char) :: ws) ({ frames := 2, cells := 0, slots := 0, locals := 27 } : Room)) (fun a U => a = #[(.ref b), (.int (0 : Int32))] ∧ Z.Warmed39 U.vm ∧ U.heap = h0) (fun _ _ _ _ _ => True) (fun _ U o U' => ∃ v L, o = .returned v ∧ Q_rm_lch_2_0 Z b kb fmt d1 d2 h0 n0 v U'.heap L ∧ FrameEnd U o U' L ({ frames := 2, cells := 0, slots := 0, locals := 27 } : Room).cells ({ frames := 2, cells := 0, slots := 0, locals := 27 } : Room).slots) := by
  refine MetFree.of_bodySF (plainFor_of_name own_pn_java_lang_StringLatin1) hisR ?_
  intro p e s m args below meth c s₁ Bd hml0 hP hK
  obtain ⟨rfl, hZ, hh⟩ := hP
  have hx := Bd.exec
  have hby := Bd.bytes
  have hml : c.maxLocals = 2 := hml0
  have hown : s.vm.findClass "java/lang/StringLatin1" = some m.cls := findClass_of_methodNamed Bd.named
  have hnm := (name_of_methodNamed Bd.named Bd.method).1
  have X0 : Stand p l e ({ frames := 2, cells := 0, slots := 0, locals := 27 } : Room) s m #[(.ref b), (.int (0 : Int32))] below meth c s₁ [] 0 0 := Stand.of_body Bd
  have e0 : s₁.heap = h0 := by rw [← hh, Bd.state]; rfl
  have N0 := Fr.nil n0
  have Z0 : n0 ≤ h0.size := by rw [← O0.1]; exact O0.2.1
  show own_Go p e below (s₁.setTop (entryFrame m #[(.ref b), (.int (0 : Int32))] 2)) (fun t o => ∃ v L, o = .returned v ∧ Q_rm_lch_2_0 Z b kb fmt d1 d2 h0 n0 v t.heap L ∧ FrameEnd s o t L ({ frames := 2, cells := 0, slots := 0, locals := 27 } : Room).cells ({ frames := 2, cells := 0, slots := 0, locals := 27 } : Room).slots)
  rw [ef_rm_lch_2_0 m b kb fmt d1 d2]
  have lt_Vb : h0.size > b := Vb.lt
  refine own_by (fun _ k => XS.iloadN X0.here hx rfl (hb hby d_rm_lch_2_0_0) rfl k) ?_
  show own_Go p e below (s₁.setTop (mkF m 1 #[.val (.ref b), .val (.int (0 : Int32))] [(.int (0 : Int32))])) _
  refine own_by (fun _ k => XS.aloadN X0.here hx rfl (hb hby d_rm_lch_2_0_1) rfl rfl k) ?_
  show own_Go p e below (s₁.setTop (mkF m 2 #[.val (.ref b), .val (.int (0 : Int32))] [(.ref b), (.int (0 : Int32))])) _
  obtain ⟨cl1, Ar1, q1, S1, M1, H1, G1⟩ := (id Vb)
  refine own_by (X0.arraylength hx (by rw [e0]; exact Ar1.1) (State.isArrayOf_alike hZ.alike Ar1.2.1) (g := (mkF m 2 #[.val (.ref b), .val (.int (0 : Int32))] [(.ref b), (.int (0 : Int32))])) rfl rfl (hb hby d_rm_lch_2_0_2)) ?_
  rw [len_of S1 M1]
  show own_Go p e below (s₁.setTop (mkF m 3 #[.val (.ref b), .val (.int (0 : Int32))] [(.int (2 : Int32)), (.int (0 : Int32))])) _
  obtain ⟨_, _, ⟨T2, L2, k2, n2⟩, -, X2, ⟨Lc2, hQ2, l2, y2, z2⟩, st2⟩ := Jvm.LawKit.callS X0 hx (y := (⟨"java/lang/String", "checkIndex", "(II)V"⟩ : MethodName)) hown (mvT hZ (hw _ (List.mem_of_getElem? (i := 113) rfl))) (mvT hZ (hw _ (List.mem_of_getElem? (i := 114) rfl))) (mvT hZ (hw _ (List.mem_of_getElem? (i := 18) rfl))) (mvT hZ (hw _ (List.mem_of_getElem? (i := 115) rfl))) (by decide) (backOf (W := 0) (rm_chk_2_0 l Z a0 hw [] fmt h0 n0 O0 S_FMT hfmt) hZ (hw _ (List.mem_of_getElem? (i := 115) rfl)) (hw _ (List.mem_of_getElem? (i := 18) rfl)) (by decide) (by decide)) (g := (mkF m 3 #[.val (.ref b), .val (.int (0 : Int32))] [(.int (2 : Int32)), (.int (0 : Int32))])) rfl (by rw [hml]; rfl) (argsL := [(.int (0 : Int32)), (.int (2 : Int32))]) (rest := []) (lenOf own_pd__28II_29V rfl) rfl (by show 2 * 0 + _ ≤ _; exact Nat.le_of_eq rfl) (hb hby d_rm_lch_2_0_3) (fun _ _ => ⟨rfl, e0, (by decide : 0 + 0 ≤ _), (by decide : 0 + 0 ≤ _)⟩)
  dsimp only [Pt.U, Pt.locs, Pt.cells, Pt.slots] at X2 l2 y2 z2 st2 hQ2
  subst l2 y2 z2
  obtain ⟨rfl, M2, K2⟩ := hQ2
  have N2 := Fr.app N0 M2
  refine own_by st2 ?_
  show own_Go p e below (T2.setTop (mkF m 6 #[.val (.ref b), .val (.int (0 : Int32))] [])) _
  refine own_by (fun _ k => XS.aloadN X2.here hx rfl (hb hby d_rm_lch_2_0_6) rfl rfl k) ?_
  show own_Go p e below (T2.setTop (mkF m 7 #[.val (.ref b), .val (.int (0 : Int32))] [(.ref b)])) _
  refine own_by (fun _ k => XS.iloadN X2.here hx rfl (hb hby d_rm_lch_2_0_7) rfl k) ?_
  show own_Go p e below (T2.setTop (mkF m 8 #[.val (.ref b), .val (.int (0 : Int32))] [(.int (0 : Int32)), (.ref b)])) _
  obtain ⟨cl3, Ar3, q3, S3, M3, H3, G3⟩ := (id Vb)
  have hin3 : ¬ ((0 : Int32) < 0 ∨ cl3.slots.size ≤ ((0 : Int32)).toNatClampNeg) := inb_of S3 ⟨by decide, by decide⟩
  refine own_by (X2.baloadBytes hx (j := (0 : Int32)) (v := (.int d1)) (by rw [K2]; exact Ar3.1) (State.isArrayOf_alike hZ.alike Ar3.2.1) Ar3.2.2 hin3 (H3.at hin3 rfl) (g := (mkF m 8 #[.val (.ref b), .val (.int (0 : Int32))] [(.int (0 : Int32)), (.ref b)])) rfl rfl (hb hby d_rm_lch_2_0_8)) ?_
  show own_Go p e below (T2.setTop (mkF m 9 #[.val (.ref b), .val (.int (0 : Int32))] [(.int d1)])) _
  refine own_by (fun _ k => XS.sipush X2.here hx rfl (hb hby d_rm_lch_2_0_9) k) ?_
  show own_Go p e below (T2.setTop (mkF m 12 #[.val (.ref b), .val (.int (0 : Int32))] [(.int (255 : Int32)), (.int d1)])) _
  refine own_by (fun _ k => XS.iand X2.here hx rfl (hb hby d_rm_lch_2_0_12) rfl k) ?_
  show own_Go p e below (T2.setTop (mkF m 13 #[.val (.ref b), .val (.int (0 : Int32))] [(.int (d1 &&& (255 : Int32)))])) _
  refine own_by (fun _ k => XS.i2c X2.here hx rfl (hb hby d_rm_lch_2_0_13) rfl k) ?_
  rw [i2c_mask]
  show own_Go p e below (T2.setTop (mkF m 14 #[.val (.ref b), .val (.int (0 : Int32))] [(.int (d1 &&& (255 : Int32)))])) _
  obtain ⟨fs, hr, hrun, hended, hW, hsame⟩ := X2.leave (v := some (.int (nar .char (d1 &&& (255 : Int32))))) (fun h => by rw [Bd.returns] at h; cases h)
  refine ⟨_, _, retN X2 hx (t := .char) Bd.returns (by simp) (hb hby d_rm_lch_2_0_14) hr, hrun, hended, _, _, rfl, ?_, ⟨_, rfl⟩, hW, hsame.mono (by decide) (by decide)⟩
  show Q_rm_lch_2_0 Z b kb fmt d1 d2 h0 n0 _ T2.heap _
  rw [K2]
  exact ⟨(own_ret_char _), N2, rfl⟩
theorem d_rm_ch_2_0_0 : decode jdk_42_method_56_code 0 = .ok (.aload_n 0, 1) := by decide +kernel
theorem d_rm_ch_2_0_1 : decode jdk_42_method_56_code 1 = .ok (.invokevirtual 492, 3) := by decide +kernel
theorem d_rm_ch_2_0_4 : decode jdk_42_method_56_code 4 = .ok (.ifCond .eq 12, 3) := by decide +kernel
theorem d_rm_ch_2_0_7 : decode jdk_42_method_56_code 7 = .ok (.aload_n 0, 1) := by decide +kernel
theorem d_rm_ch_2_0_8 : decode jdk_42_method_56_code 8 = .ok (.getfield 9, 3) := by decide +kernel
theorem d_rm_ch_2_0_11 : decode jdk_42_method_56_code 11 = .ok (.iload_n 1, 1) := by decide +kernel
theorem d_rm_ch_2_0_12 : decode jdk_42_method_56_code 12 = .ok (.invokestatic 495, 3) := by decide +kernel
theorem d_rm_ch_2_0_15 : decode jdk_42_method_56_code 15 = .ok (.ireturn, 1) := by decide +kernel
def Q_rm_ch_2_0 (Z : State) (t1 : Addr) (b : Addr) (kb : ClassId) (cs : Int32) (fmt : Value) (d1 : Int32) (d2 : Int32) (h0 : Heap) (n0 : Nat) (v : Option Value) (h : Heap) (L : List Loc) : Prop := v = some (.int (own_ch d1)) ∧ Fr n0 L ∧ h = h0
theorem ef_rm_ch_2_0 (m : MethodId) (t1 : Addr) (b : Addr) (kb : ClassId) (cs : Int32) (fmt : Value) (d1 : Int32) (d2 : Int32) : entryFrame m #[(.ref t1), (.int (0 : Int32))] 2 = mkF m 0 #[.val (.ref t1), .val (.int (0 : Int32))] [] := by first | (simp [entryFrame, mkF, argsToLocals, Value.category]; done) | rfl
set_option maxRecDepth 65536 in
set_option maxHeartbeats 40000000 in
theorem rm_ch_2_0 (l : Launch) (Z : State) (a0 : Array Value) (hw : ∀ d ∈ tables_1, d.before a0 Z = true) (ws : List Jvm.Cond) (t1 : Addr) (b : Addr) (kb : ClassId) (cs : Int32) (fmt : Value) (d1 : Int32) (d2 : Int32) (h0 : Heap) (n0 : Nat) (O0 : Old Z n0 h0) (S_COMPACT : Sta Z Z.heap "java/lang/String" "COMPACT_STRINGS" "Z" (.int cs)) (S_FMT : Sta Z Z.heap "jdk/internal/util/Preconditions" "SIOOBE_FORMATTER" "Ljava/util/function/BiFunction;" fmt) (Et : Exa Z h0 t1 "java/lang/String") (Fc : Fld Z h0 t1 "java/lang/String" "coder" "B" (.int (0 : Int32))) (Fv : Fld Z h0 t1 "java/lang/String" "value" "[B" (.ref b)) (Vb : Arv Z h0 b kb .byte (2 : Int32) [(.int d1), (.int d2)] (.int (0 : Int32))) (hcs : ¬ (cs = (0 : Int32))) (hfmt : fmt.isRef = true) :
    MetFree l (⟨"java/lang/String", "charAt", "(I)C"⟩ : MethodName) (head1 (Jvm.Cond.code (⟨"java/lang/String", "charAt", "(I)C"⟩ : MethodName) jdk_42_method_56_code 2 (some .char) :: ws) ({ frames := 3, cells := 0, slots := 0, locals := 40 } : Room)) (fun a U => a = #[(.ref t1), (.int (0 : Int32))] ∧ Z.Warmed39 U.vm ∧ U.heap = h0) (fun _ _ _ _ _ => True) (fun _ U o U' => ∃ v L, o = .returned v ∧ Q_rm_ch_2_0 Z t1 b kb cs fmt d1 d2 h0 n0 v U'.heap L ∧ FrameEnd U o U' L ({ frames := 3, cells := 0, slots := 0, locals := 40 } : Room).cells ({ frames := 3, cells := 0, slots := 0, locals := 40 } : Room).slots) := by
  refine MetFree.of_bodySF (plainFor_of_name own_pn_java_lang_String) hisR ?_
  intro p e s m args below meth c s₁ Bd hml0 hP hK
  obtain ⟨rfl, hZ, hh⟩ := hP
  have hx := Bd.exec
  have hby := Bd.bytes
  have hml : c.maxLocals = 2 := hml0
  have hown : s.vm.findClass "java/lang/String" = some m.cls := findClass_of_methodNamed Bd.named
  have hnm := (name_of_methodNamed Bd.named Bd.method).1
  have X0 : Stand p l e ({ frames := 3, cells := 0, slots := 0, locals := 40 } : Room) s m #[(.ref t1), (.int (0 : Int32))] below meth c s₁ [] 0 0 := Stand.of_body Bd
  have e0 : s₁.heap = h0 := by rw [← hh, Bd.state]; rfl
  have N0 := Fr.nil n0
  have Z0 : n0 ≤ h0.size := by rw [← O0.1]; exact O0.2.1
  show own_Go p e below (s₁.setTop (entryFrame m #[(.ref t1), (.int (0 : Int32))] 2)) (fun t o => ∃ v L, o = .returned v ∧ Q_rm_ch_2_0 Z t1 b kb cs fmt d1 d2 h0 n0 v t.heap L ∧ FrameEnd s o t L ({ frames := 3, cells := 0, slots := 0, locals := 40 } : Room).cells ({ frames := 3, cells := 0, slots := 0, locals := 40 } : Room).slots)
  rw [ef_rm_ch_2_0 m t1 b kb cs fmt d1 d2]
  have lt_Et : h0.size > t1 := Et.lt
  have lt_Fc : h0.size > t1 := Fc.lt
  have lt_Fv : h0.size > t1 := Fv.lt
  have lt_Vb : h0.size > b := Vb.lt
  refine own_by (fun _ k => XS.aloadN X0.here hx rfl (hb hby d_rm_ch_2_0_0) rfl rfl k) ?_
  show own_Go p e below (s₁.setTop (mkF m 1 #[.val (.ref t1), .val (.int (0 : Int32))] [(.ref t1)])) _
  obtain ⟨cq1, kq1, q1a, q1b, q1c⟩ := isOf hZ e0 Et
  obtain ⟨_, _, ⟨T1, L1, k1, n1⟩, -, X1, ⟨Lc1, hQ1, l1, y1, z1⟩, st1⟩ := X0.virtualBack hx (y := (⟨"java/lang/String", "isLatin1", "()Z"⟩ : MethodName)) (z := (⟨"java/lang/String", "isLatin1", "()Z"⟩ : MethodName)) hown (mvT hZ (hw _ (List.mem_of_getElem? (i := 104) rfl))) (mvT hZ (hw _ (List.mem_of_getElem? (i := 105) rfl))) (notFace_of_selects (args := #[]) (mvT hZ (hw _ (List.mem_of_getElem? (i := 107) rfl)))) (mvT hZ (hw _ (List.mem_of_getElem? (i := 107) rfl))) (mvT hZ (hw _ (List.mem_of_getElem? (i := 106) rfl))) (by decide) (backOf (W := 0) (rm_latin l Z a0 hw [] t1 cs h0 n0 O0 S_COMPACT Fc hcs) hZ (hw _ (List.mem_of_getElem? (i := 108) rfl)) (hw _ (List.mem_of_getElem? (i := 18) rfl)) (by decide) (by decide)) q1a q1c (g := (mkF m 1 #[.val (.ref t1), .val (.int (0 : Int32))] [(.ref t1)])) rfl (by rw [hml]; rfl) (Steps.refl _) (argsL := []) (rest := []) (lenOf own_pd__28_29Z rfl) rfl (by show 2 * 0 + _ ≤ _; exact Nat.le_of_eq rfl) (hb hby d_rm_ch_2_0_1) (fun _ _ => ⟨rfl, e0, (by decide : 0 + 0 ≤ _), (by decide : 0 + 0 ≤ _)⟩)
  dsimp only [Pt.U, Pt.locs, Pt.cells, Pt.slots] at X1 l1 y1 z1 st1 hQ1
  subst l1 y1 z1
  obtain ⟨rfl, M1, K1⟩ := hQ1
  have N1 := Fr.app N0 M1
  refine own_by (fun _ k => st1.trans k) ?_
  show own_Go p e below (T1.setTop (mkF m 4 #[.val (.ref t1), .val (.int (0 : Int32))] [(.int (1 : Int32))])) _
  refine own_by (fun _ k => XS.ifNo X1.here hx rfl (hb hby d_rm_ch_2_0_4) rfl ((if0 _ _).trans (feq (by decide : ¬ ((1 : Int32) = (0 : Int32)))).1) k) ?_
  show own_Go p e below (T1.setTop (mkF m 7 #[.val (.ref t1), .val (.int (0 : Int32))] [])) _
  refine own_by (fun _ k => XS.aloadN X1.here hx rfl (hb hby d_rm_ch_2_0_7) rfl rfl k) ?_
  show own_Go p e below (T1.setTop (mkF m 8 #[.val (.ref t1), .val (.int (0 : Int32))] [(.ref t1)])) _
  obtain ⟨T2, X2, e2, st2⟩ := getF X1 hx hZ hown (host := "") (Or.inl (hw _ (List.mem_of_getElem? (i := 43) rfl))) Via.refl K1 Fv (g := (mkF m 8 #[.val (.ref t1), .val (.int (0 : Int32))] [(.ref t1)])) rfl rfl (hb hby d_rm_ch_2_0_8)
  refine own_by st2 ?_
  show own_Go p e below (T2.setTop (mkF m 11 #[.val (.ref t1), .val (.int (0 : Int32))] [(.ref b)])) _
  refine own_by (fun _ k => XS.iloadN X2.here hx rfl (hb hby d_rm_ch_2_0_11) rfl k) ?_
  show own_Go p e below (T2.setTop (mkF m 12 #[.val (.ref t1), .val (.int (0 : Int32))] [(.int (0 : Int32)), (.ref b)])) _
  obtain ⟨_, _, ⟨T3, L3, k3, n3⟩, -, X3, ⟨Lc3, hQ3, l3, y3, z3⟩, st3⟩ := Jvm.LawKit.callS X2 hx (y := (⟨"java/lang/StringLatin1", "charAt", "([BI)C"⟩ : MethodName)) hown (mvT hZ (hw _ (List.mem_of_getElem? (i := 109) rfl))) (mvT hZ (hw _ (List.mem_of_getElem? (i := 110) rfl))) (mvT hZ (hw _ (List.mem_of_getElem? (i := 111) rfl))) (mvT hZ (hw _ (List.mem_of_getElem? (i := 112) rfl))) (by decide) (backOf (W := 0) (rm_lch_2_0 l Z a0 hw [] b kb fmt d1 d2 h0 n0 O0 S_FMT Vb hfmt) hZ (hw _ (List.mem_of_getElem? (i := 112) rfl)) (hw _ (List.mem_of_getElem? (i := 111) rfl)) (by decide) (by decide)) (g := (mkF m 12 #[.val (.ref t1), .val (.int (0 : Int32))] [(.int (0 : Int32)), (.ref b)])) rfl (by rw [hml]; rfl) (argsL := [(.ref b), (.int (0 : Int32))]) (rest := []) (lenOf own_pd__28_5bBI_29C rfl) rfl (by show 2 * 0 + _ ≤ _; exact Nat.le_of_eq rfl) (hb hby d_rm_ch_2_0_12) (fun _ _ => ⟨rfl, e2, (by decide : 0 + 0 ≤ _), (by decide : 0 + 0 ≤ _)⟩)
  dsimp only [Pt.U, Pt.locs, Pt.cells, Pt.slots] at X3 l3 y3 z3 st3 hQ3
  subst l3 y3 z3
  obtain ⟨rfl, M3, K3⟩ := hQ3
  have N3 := Fr.app N1 M3
  refine own_by st3 ?_
  show own_Go p e below (T3.setTop (mkF m 15 #[.val (.ref t1), .val (.int (0 : Int32))] [(.int (own_ch d1))])) _
  obtain ⟨fs, hr, hrun, hended, hW, hsame⟩ := X3.leave (v := some (.int (nar .char (own_ch d1)))) (fun h => by rw [Bd.returns] at h; cases h)
  refine ⟨_, _, retN X3 hx (t := .char) Bd.returns (by simp) (hb hby d_rm_ch_2_0_15) hr, hrun, hended, _, _, rfl, ?_, ⟨_, rfl⟩, hW, hsame.mono (by decide) (by decide)⟩
  show Q_rm_ch_2_0 Z t1 b kb cs fmt d1 d2 h0 n0 _ T3.heap _
  rw [K3]
  exact ⟨(own_ret_ch _), N3, rfl⟩
theorem d_rm_pchk_2_1_0 : decode jdk_41_method_11_code 0 = .ok (.iload_n 0, 1) := by decide +kernel
theorem d_rm_pchk_2_1_1 : decode jdk_41_method_11_code 1 = .ok (.ifCond .lt 8, 3) := by decide +kernel
theorem d_rm_pchk_2_1_4 : decode jdk_41_method_11_code 4 = .ok (.iload_n 0, 1) := by decide +kernel
theorem d_rm_pchk_2_1_5 : decode jdk_41_method_11_code 5 = .ok (.iload_n 1, 1) := by decide +kernel
theorem d_rm_pchk_2_1_6 : decode jdk_41_method_11_code 6 = .ok (.if_icmp .lt 10, 3) := by decide +kernel
theorem d_rm_pchk_2_1_16 : decode jdk_41_method_11_code 16 = .ok (.iload_n 0, 1) := by decide +kernel
theorem d_rm_pchk_2_1_17 : decode jdk_41_method_11_code 17 = .ok (.ireturn, 1) := by decide +kernel
def Q_rm_pchk_2_1 (Z : State) (fmt : Value) (h0 : Heap) (n0 : Nat) (v : Option Value) (h : Heap) (L : List Loc) : Prop := v = some (.int (1 : Int32)) ∧ Fr n0 L ∧ h = h0
theorem ef_rm_pchk_2_1 (m : MethodId) (fmt : Value) (hfmt : fmt.isRef = true) : entryFrame m #[(.int (1 : Int32)), (.int (2 : Int32)), fmt] 3 = mkF m 0 #[.val (.int (1 : Int32)), .val (.int (2 : Int32)), .val fmt] [] := by rcases ref_cases hfmt with rfl | ⟨_, rfl⟩ <;> first | (simp [entryFrame, mkF, argsToLocals, Value.category]; done) | rfl
set_option maxRecDepth 65536 in
set_option maxHeartbeats 40000000 in
theorem rm_pchk_2_1 (l : Launch) (Z : State) (a0 : Array Value) (hw : ∀ d ∈ tables_1, d.before a0 Z = true) (ws : List Jvm.Cond) (fmt : Value) (h0 : Heap) (n0 : Nat) (O0 : Old Z n0 h0) (hfmt : fmt.isRef = true) :
    MetFree l (⟨"jdk/internal/util/Preconditions", "checkIndex", "(IILjava/util/function/BiFunction;)I"⟩ : MethodName) (head1 (Jvm.Cond.code (⟨"jdk/internal/util/Preconditions", "checkIndex", "(IILjava/util/function/BiFunction;)I"⟩ : MethodName) jdk_41_method_11_code 3 (some .int) :: ws) ({ frames := 0, cells := 0, slots := 0, locals := 0 } : Room)) (fun a U => a = #[(.int (1 : Int32)), (.int (2 : Int32)), fmt] ∧ Z.Warmed39 U.vm ∧ U.heap = h0) (fun _ _ _ _ _ => True) (fun _ U o U' => ∃ v L, o = .returned v ∧ Q_rm_pchk_2_1 Z fmt h0 n0 v U'.heap L ∧ FrameEnd U o U' L ({ frames := 0, cells := 0, slots := 0, locals := 0 } : Room).cells ({ frames := 0, cells := 0, slots := 0, locals := 0 } : Room).slots) := by
  refine MetFree.of_bodySF (plainFor_of_name own_pn_jdk_internal_util_Preconditions) hisR ?_
  intro p e s m args below meth c s₁ Bd hml0 hP hK
  obtain ⟨rfl, hZ, hh⟩ := hP
  have hx := Bd.exec
  have hby := Bd.bytes
  have hml : c.maxLocals = 3 := hml0
  have hown : s.vm.findClass "jdk/internal/util/Preconditions" = some m.cls := findClass_of_methodNamed Bd.named
  have hnm := (name_of_methodNamed Bd.named Bd.method).1
  have X0 : Stand p l e ({ frames := 0, cells := 0, slots := 0, locals := 0 } : Room) s m #[(.int (1 : Int32)), (.int (2 : Int32)), fmt] below meth c s₁ [] 0 0 := Stand.of_body Bd
  have e0 : s₁.heap = h0 := by rw [← hh, Bd.state]; rfl
  have N0 := Fr.nil n0
  have Z0 : n0 ≤ h0.size := by rw [← O0.1]; exact O0.2.1
  show own_Go p e below (s₁.setTop (entryFrame m #[(.int (1 : Int32)), (.int (2 : Int32)), fmt] 3)) (fun t o => ∃ v L, o = .returned v ∧ Q_rm_pchk_2_1 Z fmt h0 n0 v t.heap L ∧ FrameEnd s o t L ({ frames := 0, cells := 0, slots := 0, locals := 0 } : Room).cells ({ frames := 0, cells := 0, slots := 0, locals := 0 } : Room).slots)
  rw [ef_rm_pchk_2_1 m fmt hfmt]
  refine own_by (fun _ k => XS.iloadN X0.here hx rfl (hb hby d_rm_pchk_2_1_0) rfl k) ?_
  show own_Go p e below (s₁.setTop (mkF m 1 #[.val (.int (1 : Int32)), .val (.int (2 : Int32)), .val fmt] [(.int (1 : Int32))])) _
  refine own_by (fun _ k => XS.ifNo X0.here hx rfl (hb hby d_rm_pchk_2_1_1) rfl ((if0 _ _).trans (flt (by decide : ¬ ((1 : Int32) < (0 : Int32)))).1) k) ?_
  show own_Go p e below (s₁.setTop (mkF m 4 #[.val (.int (1 : Int32)), .val (.int (2 : Int32)), .val fmt] [])) _
  refine own_by (fun _ k => XS.iloadN X0.here hx rfl (hb hby d_rm_pchk_2_1_4) rfl k) ?_
  show own_Go p e below (s₁.setTop (mkF m 5 #[.val (.int (1 : Int32)), .val (.int (2 : Int32)), .val fmt] [(.int (1 : Int32))])) _
  refine own_by (fun _ k => XS.iloadN X0.here hx rfl (hb hby d_rm_pchk_2_1_5) rfl k) ?_
  show own_Go p e below (s₁.setTop (mkF m 6 #[.val (.int (1 : Int32)), .val (.int (2 : Int32)), .val fmt] [(.int (2 : Int32)), (.int (1 : Int32))])) _
  refine own_by (fun _ k => XS.icmpYes X0.here hx rfl (pc0 := 6) (pc' := 16) rfl (hb hby d_rm_pchk_2_1_6) rfl (tlt (by decide : (1 : Int32) < (2 : Int32))).1 (by decide) (by decide) k) ?_
  show own_Go p e below (s₁.setTop (mkF m 16 #[.val (.int (1 : Int32)), .val (.int (2 : Int32)), .val fmt] [])) _
  refine own_by (fun _ k => XS.iloadN X0.here hx rfl (hb hby d_rm_pchk_2_1_16) rfl k) ?_
  show own_Go p e below (s₁.setTop (mkF m 17 #[.val (.int (1 : Int32)), .val (.int (2 : Int32)), .val fmt] [(.int (1 : Int32))])) _
  obtain ⟨fs, hr, hrun, hended, hW, hsame⟩ := X0.leave (v := some (.int (1 : Int32))) (fun h => by rw [Bd.returns] at h; cases h)
  refine ⟨_, _, retI X0 hx Bd.returns (hb hby d_rm_pchk_2_1_17) hr, hrun, hended, _, _, rfl, ?_, ⟨_, rfl⟩, hW, hsame.mono (by decide) (by decide)⟩
  show Q_rm_pchk_2_1 Z fmt h0 n0 _ s₁.heap _
  rw [e0]
  exact ⟨rfl, N0, rfl⟩
theorem d_rm_chk_2_1_0 : decode jdk_42_method_155_code 0 = .ok (.iload_n 0, 1) := by decide +kernel
theorem d_rm_chk_2_1_1 : decode jdk_42_method_155_code 1 = .ok (.iload_n 1, 1) := by decide +kernel
theorem d_rm_chk_2_1_2 : decode jdk_42_method_155_code 2 = .ok (.getstatic 1053, 3) := by decide +kernel
theorem d_rm_chk_2_1_5 : decode jdk_42_method_155_code 5 = .ok (.invokestatic 1059, 3) := by decide +kernel
theorem d_rm_chk_2_1_8 : decode jdk_42_method_155_code 8 = .ok (.pop, 1) := by decide +kernel
theorem d_rm_chk_2_1_9 : decode jdk_42_method_155_code 9 = .ok (.return_, 1) := by decide +kernel
def Q_rm_chk_2_1 (Z : State) (fmt : Value) (h0 : Heap) (n0 : Nat) (v : Option Value) (h : Heap) (L : List Loc) : Prop := v = none ∧ Fr n0 L ∧ h = h0
theorem ef_rm_chk_2_1 (m : MethodId) (fmt : Value) : entryFrame m #[(.int (1 : Int32)), (.int (2 : Int32))] 2 = mkF m 0 #[.val (.int (1 : Int32)), .val (.int (2 : Int32))] [] := by first | (simp [entryFrame, mkF, argsToLocals, Value.category]; done) | rfl
set_option maxRecDepth 65536 in
set_option maxHeartbeats 40000000 in
theorem rm_chk_2_1 (l : Launch) (Z : State) (a0 : Array Value) (hw : ∀ d ∈ tables_1, d.before a0 Z = true) (ws : List Jvm.Cond) (fmt : Value) (h0 : Heap) (n0 : Nat) (O0 : Old Z n0 h0) (S_FMT : Sta Z Z.heap "jdk/internal/util/Preconditions" "SIOOBE_FORMATTER" "Ljava/util/function/BiFunction;" fmt) (hfmt : fmt.isRef = true) :
    MetFree l (⟨"java/lang/String", "checkIndex", "(II)V"⟩ : MethodName) (head1 (Jvm.Cond.code (⟨"java/lang/String", "checkIndex", "(II)V"⟩ : MethodName) jdk_42_method_155_code 2 none :: ws) ({ frames := 1, cells := 0, slots := 0, locals := 14 } : Room)) (fun a U => a = #[(.int (1 : Int32)), (.int (2 : Int32))] ∧ Z.Warmed39 U.vm ∧ U.heap = h0) (fun _ _ _ _ _ => True) (fun _ U o U' => ∃ v L, o = .returned v ∧ Q_rm_chk_2_1 Z fmt h0 n0 v U'.heap L ∧ FrameEnd U o U' L ({ frames := 1, cells := 0, slots := 0, locals := 14 } : Room).cells ({ frames := 1, cells := 0, slots := 0, locals := 14 } : Room).slots) := by
  refine MetFree.of_bodySF (plainFor_of_name own_pn_java_lang_String) hisR ?_
  intro p e s m args below meth c s₁ Bd hml0 hP hK
  obtain ⟨rfl, hZ, hh⟩ := hP
  have hx := Bd.exec
  have hby := Bd.bytes
  have hml : c.maxLocals = 2 := hml0
  have hown : s.vm.findClass "java/lang/String" = some m.cls := findClass_of_methodNamed Bd.named
  have hnm := (name_of_methodNamed Bd.named Bd.method).1
  have X0 : Stand p l e ({ frames := 1, cells := 0, slots := 0, locals := 14 } : Room) s m #[(.int (1 : Int32)), (.int (2 : Int32))] below meth c s₁ [] 0 0 := Stand.of_body Bd
  have e0 : s₁.heap = h0 := by rw [← hh, Bd.state]; rfl
  have N0 := Fr.nil n0
  have Z0 : n0 ≤ h0.size := by rw [← O0.1]; exact O0.2.1
  show own_Go p e below (s₁.setTop (entryFrame m #[(.int (1 : Int32)), (.int (2 : Int32))] 2)) (fun t o => ∃ v L, o = .returned v ∧ Q_rm_chk_2_1 Z fmt h0 n0 v t.heap L ∧ FrameEnd s o t L ({ frames := 1, cells := 0, slots := 0, locals := 14 } : Room).cells ({ frames := 1, cells := 0, slots := 0, locals := 14 } : Room).slots)
  rw [ef_rm_chk_2_1 m fmt]
  refine own_by (fun _ k => XS.iloadN X0.here hx rfl (hb hby d_rm_chk_2_1_0) rfl k) ?_
  show own_Go p e below (s₁.setTop (mkF m 1 #[.val (.int (1 : Int32)), .val (.int (2 : Int32))] [(.int (1 : Int32))])) _
  refine own_by (fun _ k => XS.iloadN X0.here hx rfl (hb hby d_rm_chk_2_1_1) rfl k) ?_
  show own_Go p e below (s₁.setTop (mkF m 2 #[.val (.int (1 : Int32)), .val (.int (2 : Int32))] [(.int (2 : Int32)), (.int (1 : Int32))])) _
  obtain ⟨T1, X1, e1, st1⟩ := getS2 X0 hx hZ hown (host := "") (Or.inl (hw _ (List.mem_of_getElem? (i := 116) rfl))) Via.refl e0 (S_FMT.ext O0.2) (g := (mkF m 2 #[.val (.int (1 : Int32)), .val (.int (2 : Int32))] [(.int (2 : Int32)), (.int (1 : Int32))])) rfl (hb hby d_rm_chk_2_1_2)
  refine own_by st1 ?_
  show own_Go p e below (T1.setTop (mkF m 5 #[.val (.int (1 : Int32)), .val (.int (2 : Int32))] [fmt, (.int (2 : Int32)), (.int (1 : Int32))])) _
  obtain ⟨_, _, ⟨T2, L2, k2, n2⟩, -, X2, ⟨Lc2, hQ2, l2, y2, z2⟩, st2⟩ := Jvm.LawKit.callS X1 hx (y := (⟨"jdk/internal/util/Preconditions", "checkIndex", "(IILjava/util/function/BiFunction;)I"⟩ : MethodName)) hown (mvT hZ (hw _ (List.mem_of_getElem? (i := 118) rfl))) (mvT hZ (hw _ (List.mem_of_getElem? (i := 119) rfl))) (mvT hZ (hw _ (List.mem_of_getElem? (i := 117) rfl))) (mvT hZ (hw _ (List.mem_of_getElem? (i := 120) rfl))) (by decide) (backOf (W := 0) (rm_pchk_2_1 l Z a0 hw [] fmt h0 n0 O0 hfmt) hZ (hw _ (List.mem_of_getElem? (i := 120) rfl)) (hw _ (List.mem_of_getElem? (i := 117) rfl)) (by decide) (by decide)) (g := (mkF m 5 #[.val (.int (1 : Int32)), .val (.int (2 : Int32))] [fmt, (.int (2 : Int32)), (.int (1 : Int32))])) rfl (by rw [hml]; rfl) (argsL := [(.int (1 : Int32)), (.int (2 : Int32)), fmt]) (rest := []) (lenOf own_pd__28IILjava_2futil_2ffunction_2fBiFunction_3b_29I rfl) rfl (by show 2 * 0 + _ ≤ _; exact Nat.le_of_eq rfl) (hb hby d_rm_chk_2_1_5) (fun _ _ => ⟨rfl, e1, (by decide : 0 + 0 ≤ _), (by decide : 0 + 0 ≤ _)⟩)
  dsimp only [Pt.U, Pt.locs, Pt.cells, Pt.slots] at X2 l2 y2 z2 st2 hQ2
  subst l2 y2 z2
  obtain ⟨rfl, M2, K2⟩ := hQ2
  have N2 := Fr.app N0 M2
  refine own_by st2 ?_
  show own_Go p e below (T2.setTop (mkF m 8 #[.val (.int (1 : Int32)), .val (.int (2 : Int32))] [(.int (1 : Int32))])) _
  refine own_by (fun _ k => XS.pop X2.here hx rfl (hb hby d_rm_chk_2_1_8) rfl rfl k) ?_
  show own_Go p e below (T2.setTop (mkF m 9 #[.val (.int (1 : Int32)), .val (.int (2 : Int32))] [])) _
  obtain ⟨fs, hr, hrun, hended, hW, hsame⟩ := X2.leave (v := none) (fun h => rfl)
  refine ⟨_, _, X2.returnOut hx Bd.returns (hb hby d_rm_chk_2_1_9) hr, hrun, hended, _, _, rfl, ?_, ⟨_, rfl⟩, hW, hsame.mono (by decide) (by decide)⟩
  show Q_rm_chk_2_1 Z fmt h0 n0 _ T2.heap _
  rw [K2]
  exact ⟨rfl, N2, rfl⟩
theorem d_rm_lch_2_1_0 : decode jdk_43_method_2_code 0 = .ok (.iload_n 1, 1) := by decide +kernel
theorem d_rm_lch_2_1_1 : decode jdk_43_method_2_code 1 = .ok (.aload_n 0, 1) := by decide +kernel
theorem d_rm_lch_2_1_2 : decode jdk_43_method_2_code 2 = .ok (.arraylength, 1) := by decide +kernel
theorem d_rm_lch_2_1_3 : decode jdk_43_method_2_code 3 = .ok (.invokestatic 9, 3) := by decide +kernel
theorem d_rm_lch_2_1_6 : decode jdk_43_method_2_code 6 = .ok (.aload_n 0, 1) := by decide +kernel
theorem d_rm_lch_2_1_7 : decode jdk_43_method_2_code 7 = .ok (.iload_n 1, 1) := by decide +kernel
theorem d_rm_lch_2_1_8 : decode jdk_43_method_2_code 8 = .ok (.baload, 1) := by decide +kernel
theorem d_rm_lch_2_1_9 : decode jdk_43_method_2_code 9 = .ok (.sipush 255, 3) := by decide +kernel
theorem d_rm_lch_2_1_12 : decode jdk_43_method_2_code 12 = .ok (.iand, 1) := by decide +kernel
theorem d_rm_lch_2_1_13 : decode jdk_43_method_2_code 13 = .ok (.i2c, 1) := by decide +kernel
theorem d_rm_lch_2_1_14 : decode jdk_43_method_2_code 14 = .ok (.ireturn, 1) := by decide +kernel
def Q_rm_lch_2_1 (Z : State) (b : Addr) (kb : ClassId) (fmt : Value) (d1 : Int32) (d2 : Int32) (h0 : Heap) (n0 : Nat) (v : Option Value) (h : Heap) (L : List Loc) : Prop := v = some (.int (own_ch d2)) ∧ Fr n0 L ∧ h = h0
theorem ef_rm_lch_2_1 (m : MethodId) (b : Addr) (kb : ClassId) (fmt : Value) (d1 : Int32) (d2 : Int32) : entryFrame m #[(.ref b), (.int (1 : Int32))] 2 = mkF m 0 #[.val (.ref b), .val (.int (1 : Int32))] [] := by first | (simp [entryFrame, mkF, argsToLocals, Value.category]; done) | rfl
set_option maxRecDepth 65536 in
set_option maxHeartbeats 40000000 in
theorem rm_lch_2_1 (l : Launch) (Z : State) (a0 : Array Value) (hw : ∀ d ∈ tables_1, d.before a0 Z = true) (ws : List Jvm.Cond) (b : Addr) (kb : ClassId) (fmt : Value) (d1 : Int32) (d2 : Int32) (h0 : Heap) (n0 : Nat) (O0 : Old Z n0 h0) (S_FMT : Sta Z Z.heap "jdk/internal/util/Preconditions" "SIOOBE_FORMATTER" "Ljava/util/function/BiFunction;" fmt) (Vb : Arv Z h0 b kb .byte (2 : Int32) [(.int d1), (.int d2)] (.int (0 : Int32))) (hfmt : fmt.isRef = true) :
    MetFree l (⟨"java/lang/StringLatin1", "charAt", "([BI)C"⟩ : MethodName) (head1 (Jvm.Cond.code (⟨"java/lang/StringLatin1", "charAt", "([BI)C"⟩ : MethodName) jdk_43_method_2_code 2 (some .char) :: ws) ({ frames := 2, cells := 0, slots := 0, locals := 27 } : Room)) (fun a U => a = #[(.ref b), (.int (1 : Int32))] ∧ Z.Warmed39 U.vm ∧ U.heap = h0) (fun _ _ _ _ _ => True) (fun _ U o U' => ∃ v L, o = .returned v ∧ Q_rm_lch_2_1 Z b kb fmt d1 d2 h0 n0 v U'.heap L ∧ FrameEnd U o U' L ({ frames := 2, cells := 0, slots := 0, locals := 27 } : Room).cells ({ frames := 2, cells := 0, slots := 0, locals := 27 } : Room).slots) := by
  refine MetFree.of_bodySF (plainFor_of_name own_pn_java_lang_StringLatin1) hisR ?_
  intro p e s m args below meth c s₁ Bd hml0 hP hK
  obtain ⟨rfl, hZ, hh⟩ := hP
  have hx := Bd.exec
  have hby := Bd.bytes
  have hml : c.maxLocals = 2 := hml0
  have hown : s.vm.findClass "java/lang/StringLatin1" = some m.cls := findClass_of_methodNamed Bd.named
  have hnm := (name_of_methodNamed Bd.named Bd.method).1
  have X0 : Stand p l e ({ frames := 2, cells := 0, slots := 0, locals := 27 } : Room) s m #[(.ref b), (.int (1 : Int32))] below meth c s₁ [] 0 0 := Stand.of_body Bd
  have e0 : s₁.heap = h0 := by rw [← hh, Bd.state]; rfl
  have N0 := Fr.nil n0
  have Z0 : n0 ≤ h0.size := by rw [← O0.1]; exact O0.2.1
  show own_Go p e below (s₁.setTop (entryFrame m #[(.ref b), (.int (1 : Int32))] 2)) (fun t o => ∃ v L, o = .returned v ∧ Q_rm_lch_2_1 Z b kb fmt d1 d2 h0 n0 v t.heap L ∧ FrameEnd s o t L ({ frames := 2, cells := 0, slots := 0, locals := 27 } : Room).cells ({ frames := 2, cells := 0, slots := 0, locals := 27 } : Room).slots)
  rw [ef_rm_lch_2_1 m b kb fmt d1 d2]
  have lt_Vb : h0.size > b := Vb.lt
  refine own_by (fun _ k => XS.iloadN X0.here hx rfl (hb hby d_rm_lch_2_1_0) rfl k) ?_
  show own_Go p e below (s₁.setTop (mkF m 1 #[.val (.ref b), .val (.int (1 : Int32))] [(.int (1 : Int32))])) _
  refine own_by (fun _ k => XS.aloadN X0.here hx rfl (hb hby d_rm_lch_2_1_1) rfl rfl k) ?_
  show own_Go p e below (s₁.setTop (mkF m 2 #[.val (.ref b), .val (.int (1 : Int32))] [(.ref b), (.int (1 : Int32))])) _
  obtain ⟨cl1, Ar1, q1, S1, M1, H1, G1⟩ := (id Vb)
  refine own_by (X0.arraylength hx (by rw [e0]; exact Ar1.1) (State.isArrayOf_alike hZ.alike Ar1.2.1) (g := (mkF m 2 #[.val (.ref b), .val (.int (1 : Int32))] [(.ref b), (.int (1 : Int32))])) rfl rfl (hb hby d_rm_lch_2_1_2)) ?_
  rw [len_of S1 M1]
  show own_Go p e below (s₁.setTop (mkF m 3 #[.val (.ref b), .val (.int (1 : Int32))] [(.int (2 : Int32)), (.int (1 : Int32))])) _
  obtain ⟨_, _, ⟨T2, L2, k2, n2⟩, -, X2, ⟨Lc2, hQ2, l2, y2, z2⟩, st2⟩ := Jvm.LawKit.callS X0 hx (y := (⟨"java/lang/String", "checkIndex", "(II)V"⟩ : MethodName)) hown (mvT hZ (hw _ (List.mem_of_getElem? (i := 113) rfl))) (mvT hZ (hw _ (List.mem_of_getElem? (i := 114) rfl))) (mvT hZ (hw _ (List.mem_of_getElem? (i := 18) rfl))) (mvT hZ (hw _ (List.mem_of_getElem? (i := 115) rfl))) (by decide) (backOf (W := 0) (rm_chk_2_1 l Z a0 hw [] fmt h0 n0 O0 S_FMT hfmt) hZ (hw _ (List.mem_of_getElem? (i := 115) rfl)) (hw _ (List.mem_of_getElem? (i := 18) rfl)) (by decide) (by decide)) (g := (mkF m 3 #[.val (.ref b), .val (.int (1 : Int32))] [(.int (2 : Int32)), (.int (1 : Int32))])) rfl (by rw [hml]; rfl) (argsL := [(.int (1 : Int32)), (.int (2 : Int32))]) (rest := []) (lenOf own_pd__28II_29V rfl) rfl (by show 2 * 0 + _ ≤ _; exact Nat.le_of_eq rfl) (hb hby d_rm_lch_2_1_3) (fun _ _ => ⟨rfl, e0, (by decide : 0 + 0 ≤ _), (by decide : 0 + 0 ≤ _)⟩)
  dsimp only [Pt.U, Pt.locs, Pt.cells, Pt.slots] at X2 l2 y2 z2 st2 hQ2
  subst l2 y2 z2
  obtain ⟨rfl, M2, K2⟩ := hQ2
  have N2 := Fr.app N0 M2
  refine own_by st2 ?_
  show own_Go p e below (T2.setTop (mkF m 6 #[.val (.ref b), .val (.int (1 : Int32))] [])) _
  refine own_by (fun _ k => XS.aloadN X2.here hx rfl (hb hby d_rm_lch_2_1_6) rfl rfl k) ?_
  show own_Go p e below (T2.setTop (mkF m 7 #[.val (.ref b), .val (.int (1 : Int32))] [(.ref b)])) _
  refine own_by (fun _ k => XS.iloadN X2.here hx rfl (hb hby d_rm_lch_2_1_7) rfl k) ?_
  show own_Go p e below (T2.setTop (mkF m 8 #[.val (.ref b), .val (.int (1 : Int32))] [(.int (1 : Int32)), (.ref b)])) _
  obtain ⟨cl3, Ar3, q3, S3, M3, H3, G3⟩ := (id Vb)
  have hin3 : ¬ ((1 : Int32) < 0 ∨ cl3.slots.size ≤ ((1 : Int32)).toNatClampNeg) := inb_of S3 ⟨by decide, by decide⟩
  refine own_by (X2.baloadBytes hx (j := (1 : Int32)) (v := (.int d2)) (by rw [K2]; exact Ar3.1) (State.isArrayOf_alike hZ.alike Ar3.2.1) Ar3.2.2 hin3 (H3.at hin3 rfl) (g := (mkF m 8 #[.val (.ref b), .val (.int (1 : Int32))] [(.int (1 : Int32)), (.ref b)])) rfl rfl (hb hby d_rm_lch_2_1_8)) ?_
  show own_Go p e below (T2.setTop (mkF m 9 #[.val (.ref b), .val (.int (1 : Int32))] [(.int d2)])) _
  refine own_by (fun _ k => XS.sipush X2.here hx rfl (hb hby d_rm_lch_2_1_9) k) ?_
  show own_Go p e below (T2.setTop (mkF m 12 #[.val (.ref b), .val (.int (1 : Int32))] [(.int (255 : Int32)), (.int d2)])) _
  refine own_by (fun _ k => XS.iand X2.here hx rfl (hb hby d_rm_lch_2_1_12) rfl k) ?_
  show own_Go p e below (T2.setTop (mkF m 13 #[.val (.ref b), .val (.int (1 : Int32))] [(.int (d2 &&& (255 : Int32)))])) _
  refine own_by (fun _ k => XS.i2c X2.here hx rfl (hb hby d_rm_lch_2_1_13) rfl k) ?_
  rw [i2c_mask]
  show own_Go p e below (T2.setTop (mkF m 14 #[.val (.ref b), .val (.int (1 : Int32))] [(.int (d2 &&& (255 : Int32)))])) _
  obtain ⟨fs, hr, hrun, hended, hW, hsame⟩ := X2.leave (v := some (.int (nar .char (d2 &&& (255 : Int32))))) (fun h => by rw [Bd.returns] at h; cases h)
  refine ⟨_, _, retN X2 hx (t := .char) Bd.returns (by simp) (hb hby d_rm_lch_2_1_14) hr, hrun, hended, _, _, rfl, ?_, ⟨_, rfl⟩, hW, hsame.mono (by decide) (by decide)⟩
  show Q_rm_lch_2_1 Z b kb fmt d1 d2 h0 n0 _ T2.heap _
  rw [K2]
  exact ⟨(own_ret_char _), N2, rfl⟩
theorem d_rm_ch_2_1_0 : decode jdk_42_method_56_code 0 = .ok (.aload_n 0, 1) := by decide +kernel
theorem d_rm_ch_2_1_1 : decode jdk_42_method_56_code 1 = .ok (.invokevirtual 492, 3) := by decide +kernel
theorem d_rm_ch_2_1_4 : decode jdk_42_method_56_code 4 = .ok (.ifCond .eq 12, 3) := by decide +kernel
theorem d_rm_ch_2_1_7 : decode jdk_42_method_56_code 7 = .ok (.aload_n 0, 1) := by decide +kernel
theorem d_rm_ch_2_1_8 : decode jdk_42_method_56_code 8 = .ok (.getfield 9, 3) := by decide +kernel
theorem d_rm_ch_2_1_11 : decode jdk_42_method_56_code 11 = .ok (.iload_n 1, 1) := by decide +kernel
theorem d_rm_ch_2_1_12 : decode jdk_42_method_56_code 12 = .ok (.invokestatic 495, 3) := by decide +kernel
theorem d_rm_ch_2_1_15 : decode jdk_42_method_56_code 15 = .ok (.ireturn, 1) := by decide +kernel
def Q_rm_ch_2_1 (Z : State) (t1 : Addr) (b : Addr) (kb : ClassId) (cs : Int32) (fmt : Value) (d1 : Int32) (d2 : Int32) (h0 : Heap) (n0 : Nat) (v : Option Value) (h : Heap) (L : List Loc) : Prop := v = some (.int (own_ch d2)) ∧ Fr n0 L ∧ h = h0
theorem ef_rm_ch_2_1 (m : MethodId) (t1 : Addr) (b : Addr) (kb : ClassId) (cs : Int32) (fmt : Value) (d1 : Int32) (d2 : Int32) : entryFrame m #[(.ref t1), (.int (1 : Int32))] 2 = mkF m 0 #[.val (.ref t1), .val (.int (1 : Int32))] [] := by first | (simp [entryFrame, mkF, argsToLocals, Value.category]; done) | rfl
set_option maxRecDepth 65536 in
set_option maxHeartbeats 40000000 in
theorem rm_ch_2_1 (l : Launch) (Z : State) (a0 : Array Value) (hw : ∀ d ∈ tables_1, d.before a0 Z = true) (ws : List Jvm.Cond) (t1 : Addr) (b : Addr) (kb : ClassId) (cs : Int32) (fmt : Value) (d1 : Int32) (d2 : Int32) (h0 : Heap) (n0 : Nat) (O0 : Old Z n0 h0) (S_COMPACT : Sta Z Z.heap "java/lang/String" "COMPACT_STRINGS" "Z" (.int cs)) (S_FMT : Sta Z Z.heap "jdk/internal/util/Preconditions" "SIOOBE_FORMATTER" "Ljava/util/function/BiFunction;" fmt) (Et : Exa Z h0 t1 "java/lang/String") (Fc : Fld Z h0 t1 "java/lang/String" "coder" "B" (.int (0 : Int32))) (Fv : Fld Z h0 t1 "java/lang/String" "value" "[B" (.ref b)) (Vb : Arv Z h0 b kb .byte (2 : Int32) [(.int d1), (.int d2)] (.int (0 : Int32))) (hcs : ¬ (cs = (0 : Int32))) (hfmt : fmt.isRef = true) :
    MetFree l (⟨"java/lang/String", "charAt", "(I)C"⟩ : MethodName) (head1 (Jvm.Cond.code (⟨"java/lang/String", "charAt", "(I)C"⟩ : MethodName) jdk_42_method_56_code 2 (some .char) :: ws) ({ frames := 3, cells := 0, slots := 0, locals := 40 } : Room)) (fun a U => a = #[(.ref t1), (.int (1 : Int32))] ∧ Z.Warmed39 U.vm ∧ U.heap = h0) (fun _ _ _ _ _ => True) (fun _ U o U' => ∃ v L, o = .returned v ∧ Q_rm_ch_2_1 Z t1 b kb cs fmt d1 d2 h0 n0 v U'.heap L ∧ FrameEnd U o U' L ({ frames := 3, cells := 0, slots := 0, locals := 40 } : Room).cells ({ frames := 3, cells := 0, slots := 0, locals := 40 } : Room).slots) := by
  refine MetFree.of_bodySF (plainFor_of_name own_pn_java_lang_String) hisR ?_
  intro p e s m args below meth c s₁ Bd hml0 hP hK
  obtain ⟨rfl, hZ, hh⟩ := hP
  have hx := Bd.exec
  have hby := Bd.bytes
  have hml : c.maxLocals = 2 := hml0
  have hown : s.vm.findClass "java/lang/String" = some m.cls := findClass_of_methodNamed Bd.named
  have hnm := (name_of_methodNamed Bd.named Bd.method).1
  have X0 : Stand p l e ({ frames := 3, cells := 0, slots := 0, locals := 40 } : Room) s m #[(.ref t1), (.int (1 : Int32))] below meth c s₁ [] 0 0 := Stand.of_body Bd
  have e0 : s₁.heap = h0 := by rw [← hh, Bd.state]; rfl
  have N0 := Fr.nil n0
  have Z0 : n0 ≤ h0.size := by rw [← O0.1]; exact O0.2.1
  show own_Go p e below (s₁.setTop (entryFrame m #[(.ref t1), (.int (1 : Int32))] 2)) (fun t o => ∃ v L, o = .returned v ∧ Q_rm_ch_2_1 Z t1 b kb cs fmt d1 d2 h0 n0 v t.heap L ∧ FrameEnd s o t L ({ frames := 3, cells := 0, slots := 0, locals := 40 } : Room).cells ({ frames := 3, cells := 0, slots := 0, locals := 40 } : Room).slots)
  rw [ef_rm_ch_2_1 m t1 b kb cs fmt d1 d2]
  have lt_Et : h0.size > t1 := Et.lt
  have lt_Fc : h0.size > t1 := Fc.lt
  have lt_Fv : h0.size > t1 := Fv.lt
  have lt_Vb : h0.size > b := Vb.lt
  refine own_by (fun _ k => XS.aloadN X0.here hx rfl (hb hby d_rm_ch_2_1_0) rfl rfl k) ?_
  show own_Go p e below (s₁.setTop (mkF m 1 #[.val (.ref t1), .val (.int (1 : Int32))] [(.ref t1)])) _
  obtain ⟨cq1, kq1, q1a, q1b, q1c⟩ := isOf hZ e0 Et
  obtain ⟨_, _, ⟨T1, L1, k1, n1⟩, -, X1, ⟨Lc1, hQ1, l1, y1, z1⟩, st1⟩ := X0.virtualBack hx (y := (⟨"java/lang/String", "isLatin1", "()Z"⟩ : MethodName)) (z := (⟨"java/lang/String", "isLatin1", "()Z"⟩ : MethodName)) hown (mvT hZ (hw _ (List.mem_of_getElem? (i := 104) rfl))) (mvT hZ (hw _ (List.mem_of_getElem? (i := 105) rfl))) (notFace_of_selects (args := #[]) (mvT hZ (hw _ (List.mem_of_getElem? (i := 107) rfl)))) (mvT hZ (hw _ (List.mem_of_getElem? (i := 107) rfl))) (mvT hZ (hw _ (List.mem_of_getElem? (i := 106) rfl))) (by decide) (backOf (W := 0) (rm_latin l Z a0 hw [] t1 cs h0 n0 O0 S_COMPACT Fc hcs) hZ (hw _ (List.mem_of_getElem? (i := 108) rfl)) (hw _ (List.mem_of_getElem? (i := 18) rfl)) (by decide) (by decide)) q1a q1c (g := (mkF m 1 #[.val (.ref t1), .val (.int (1 : Int32))] [(.ref t1)])) rfl (by rw [hml]; rfl) (Steps.refl _) (argsL := []) (rest := []) (lenOf own_pd__28_29Z rfl) rfl (by show 2 * 0 + _ ≤ _; exact Nat.le_of_eq rfl) (hb hby d_rm_ch_2_1_1) (fun _ _ => ⟨rfl, e0, (by decide : 0 + 0 ≤ _), (by decide : 0 + 0 ≤ _)⟩)
  dsimp only [Pt.U, Pt.locs, Pt.cells, Pt.slots] at X1 l1 y1 z1 st1 hQ1
  subst l1 y1 z1
  obtain ⟨rfl, M1, K1⟩ := hQ1
  have N1 := Fr.app N0 M1
  refine own_by (fun _ k => st1.trans k) ?_
  show own_Go p e below (T1.setTop (mkF m 4 #[.val (.ref t1), .val (.int (1 : Int32))] [(.int (1 : Int32))])) _
  refine own_by (fun _ k => XS.ifNo X1.here hx rfl (hb hby d_rm_ch_2_1_4) rfl ((if0 _ _).trans (feq (by decide : ¬ ((1 : Int32) = (0 : Int32)))).1) k) ?_
  show own_Go p e below (T1.setTop (mkF m 7 #[.val (.ref t1), .val (.int (1 : Int32))] [])) _
  refine own_by (fun _ k => XS.aloadN X1.here hx rfl (hb hby d_rm_ch_2_1_7) rfl rfl k) ?_
  show own_Go p e below (T1.setTop (mkF m 8 #[.val (.ref t1), .val (.int (1 : Int32))] [(.ref t1)])) _
  obtain ⟨T2, X2, e2, st2⟩ := getF X1 hx hZ hown (host := "") (Or.inl (hw _ (List.mem_of_getElem? (i := 43) rfl))) Via.refl K1 Fv (g := (mkF m 8 #[.val (.ref t1), .val (.int (1 : Int32))] [(.ref t1)])) rfl rfl (hb hby d_rm_ch_2_1_8)
  refine own_by st2 ?_
  show own_Go p e below (T2.setTop (mkF m 11 #[.val (.ref t1), .val (.int (1 : Int32))] [(.ref b)])) _
  refine own_by (fun _ k => XS.iloadN X2.here hx rfl (hb hby d_rm_ch_2_1_11) rfl k) ?_
  show own_Go p e below (T2.setTop (mkF m 12 #[.val (.ref t1), .val (.int (1 : Int32))] [(.int (1 : Int32)), (.ref b)])) _
  obtain ⟨_, _, ⟨T3, L3, k3, n3⟩, -, X3, ⟨Lc3, hQ3, l3, y3, z3⟩, st3⟩ := Jvm.LawKit.callS X2 hx (y := (⟨"java/lang/StringLatin1", "charAt", "([BI)C"⟩ : MethodName)) hown (mvT hZ (hw _ (List.mem_of_getElem? (i := 109) rfl))) (mvT hZ (hw _ (List.mem_of_getElem? (i := 110) rfl))) (mvT hZ (hw _ (List.mem_of_getElem? (i := 111) rfl))) (mvT hZ (hw _ (List.mem_of_getElem? (i := 112) rfl))) (by decide) (backOf (W := 0) (rm_lch_2_1 l Z a0 hw [] b kb fmt d1 d2 h0 n0 O0 S_FMT Vb hfmt) hZ (hw _ (List.mem_of_getElem? (i := 112) rfl)) (hw _ (List.mem_of_getElem? (i := 111) rfl)) (by decide) (by decide)) (g := (mkF m 12 #[.val (.ref t1), .val (.int (1 : Int32))] [(.int (1 : Int32)), (.ref b)])) rfl (by rw [hml]; rfl) (argsL := [(.ref b), (.int (1 : Int32))]) (rest := []) (lenOf own_pd__28_5bBI_29C rfl) rfl (by show 2 * 0 + _ ≤ _; exact Nat.le_of_eq rfl) (hb hby d_rm_ch_2_1_12) (fun _ _ => ⟨rfl, e2, (by decide : 0 + 0 ≤ _), (by decide : 0 + 0 ≤ _)⟩)
  dsimp only [Pt.U, Pt.locs, Pt.cells, Pt.slots] at X3 l3 y3 z3 st3 hQ3
  subst l3 y3 z3
  obtain ⟨rfl, M3, K3⟩ := hQ3
  have N3 := Fr.app N1 M3
  refine own_by st3 ?_
  show own_Go p e below (T3.setTop (mkF m 15 #[.val (.ref t1), .val (.int (1 : Int32))] [(.int (own_ch d2))])) _
  obtain ⟨fs, hr, hrun, hended, hW, hsame⟩ := X3.leave (v := some (.int (nar .char (own_ch d2)))) (fun h => by rw [Bd.returns] at h; cases h)
  refine ⟨_, _, retN X3 hx (t := .char) Bd.returns (by simp) (hb hby d_rm_ch_2_1_15) hr, hrun, hended, _, _, rfl, ?_, ⟨_, rfl⟩, hW, hsame.mono (by decide) (by decide)⟩
  show Q_rm_ch_2_1 Z t1 b kb cs fmt d1 d2 h0 n0 _ T3.heap _
  rw [K3]
  exact ⟨(own_ret_ch _), N3, rfl⟩
def Q_rm_law (Z : State) (a1 : Int32) (b1 : Int32) (q : Int64) (u : Int32) (v1 : Int32) (ci : Addr) (cci : Cell) (cl : Addr) (ccl : Cell) (cs : Int32) (fmt : Value) (h0 : Heap) (n0 : Nat) (v : Option Value) (h : Heap) (L : List Loc) : Prop := v = some (.int (1 : Int32)) ∧ Fr n0 L ∧ Keep h0 h []
theorem ef_rm_law (m : MethodId) (a1 : Int32) (b1 : Int32) (q : Int64) (u : Int32) (v1 : Int32) (ci : Addr) (cci : Cell) (cl : Addr) (ccl : Cell) (cs : Int32) (fmt : Value) : entryFrame m #[(.int a1), (.int b1), (.long q), (.int u), (.int v1)] maxLocals = mkF m 0 #[.val (.int a1), .val (.int b1), .val (.long q), .second, .val (.int u), .val (.int v1), .unset, .unset, .unset, .unset, .unset, .unset, .unset, .unset, .unset, .unset, .unset, .unset, .unset, .unset, .unset, .unset, .unset, .unset] [] := by first | (simp [entryFrame, mkF, argsToLocals, Value.category, maxLocals]; done) | rfl
set_option maxRecDepth 65536 in
set_option maxHeartbeats 40000000 in
theorem rm_law (l : Launch) (Z : State) (a0 : Array Value) (hw : ∀ d ∈ tables_1, d.before a0 Z = true) (ws : List Jvm.Cond) (a1 : Int32) (b1 : Int32) (q : Int64) (u : Int32) (v1 : Int32) (ci : Addr) (cci : Cell) (cl : Addr) (ccl : Cell) (cs : Int32) (fmt : Value) (h0 : Heap) (n0 : Nat) (O0 : Old Z n0 h0) (S_high : Sta Z Z.heap "java/lang/Integer$IntegerCache" "high" "I" (.int (127 : Int32))) (S_icache : Sta Z Z.heap "java/lang/Integer$IntegerCache" "cache" "[Ljava/lang/Integer;" (.ref ci)) (Bxi : Bxs Z ci cci "java/lang/Integer" "I" (256 : Int32) (fun j => .int (j - 128))) (S_lcache : Sta Z Z.heap "java/lang/Long$LongCache" "cache" "[Ljava/lang/Long;" (.ref cl)) (Bxl : Bxs Z cl ccl "java/lang/Long" "J" (256 : Int32) (fun j => .long (j - 128).toInt64)) (S_COMPACT : Sta Z Z.heap "java/lang/String" "COMPACT_STRINGS" "Z" (.int cs)) (S_FMT : Sta Z Z.heap "jdk/internal/util/Preconditions" "SIOOBE_FORMATTER" "Ljava/util/function/BiFunction;" fmt) (hcs : ¬ (cs = (0 : Int32))) (hfmt : fmt.isRef = true) :
    MetFree l x (head1 (Jvm.Cond.code x code maxLocals ret :: ws) room_1) (fun a U => a = #[(.int a1), (.int b1), (.long q), (.int u), (.int v1)] ∧ Z.Warmed39 U.vm ∧ U.heap = h0) (fun _ _ _ _ _ => True) (fun _ U o U' => ∃ v L, o = .returned v ∧ Q_rm_law Z a1 b1 q u v1 ci cci cl ccl cs fmt h0 n0 v U'.heap L ∧ ReturnedEndW U o U' L room_1.cells room_1.slots) := by
  refine MetFree.of_bodySF (plainFor_of_name own_pn_com_example_commit_to_chain_committochain_core_ChainAnswerOfPinLaw) hisR ?_
  intro p e s m args below meth c s₁ Bd hml0 hP hK
  obtain ⟨rfl, hZ, hh⟩ := hP
  have hx := Bd.exec
  have hby := Bd.bytes
  have hml : c.maxLocals = 24 := hml0
  have hown : s.vm.findClass "com/example/commit_to_chain/committochain/core/ChainAnswerOfPinLaw" = some m.cls := findClass_of_methodNamed Bd.named
  have hnm := (name_of_methodNamed Bd.named Bd.method).1
  have X0 : Stand p l e room_1 (s.setVm s.vm) m #[(.int a1), (.int b1), (.long q), (.int u), (.int v1)] below meth c s₁ [] 0 0 := Stand.of_body Bd
  have S0 : s.Since s.vm h0.size := (State.WarmedH.refl s).since _
  have hZ : Z.Warmed39 (s.setVm s.vm).vm := hZ
  have hown : (s.setVm s.vm).vm.findClass "com/example/commit_to_chain/committochain/core/ChainAnswerOfPinLaw" = some m.cls := hown
  have e0 : s₁.heap = h0 := by rw [← hh, Bd.state]; rfl
  have N0 := Fr.nil n0
  have Z0 : n0 ≤ h0.size := by rw [← O0.1]; exact O0.2.1
  show own_Go p e below (s₁.setTop (entryFrame m #[(.int a1), (.int b1), (.long q), (.int u), (.int v1)] maxLocals)) (fun t o => ∃ v L, o = .returned v ∧ Q_rm_law Z a1 b1 q u v1 ci cci cl ccl cs fmt h0 n0 v t.heap L ∧ ReturnedEndW s o t L room_1.cells room_1.slots)
  rw [ef_rm_law m a1 b1 q u v1 ci cci cl ccl cs fmt]
  refine own_by (fun _ k => XS.iloadN X0.here hx rfl (hb hby at_0) rfl k) ?_
  show own_Go p e below (s₁.setTop (mkF m 1 #[.val (.int a1), .val (.int b1), .val (.long q), .second, .val (.int u), .val (.int v1), .unset, .unset, .unset, .unset, .unset, .unset, .unset, .unset, .unset, .unset, .unset, .unset, .unset, .unset, .unset, .unset, .unset, .unset] [(.int a1)])) _
  obtain ⟨_, _, ⟨T1, L1, k1, n1⟩, -, X1, ⟨Lc1, hQ1, l1, y1, z1⟩, st1⟩ := Jvm.LawKit.callS X0 hx (y := (⟨"java/lang/Integer", "valueOf", "(I)Ljava/lang/Integer;"⟩ : MethodName)) hown (mvT hZ (hw _ (List.mem_of_getElem? (i := 0) rfl))) (mvT hZ (hw _ (List.mem_of_getElem? (i := 1) rfl))) (mvT hZ (hw _ (List.mem_of_getElem? (i := 2) rfl))) (mvT hZ (hw _ (List.mem_of_getElem? (i := 3) rfl))) (by decide) (backOf (W := 0) (rm_ival l Z a0 hw [] a1 ci cci h0 n0 O0 S_high S_icache Bxi) hZ (hw _ (List.mem_of_getElem? (i := 3) rfl)) (hw _ (List.mem_of_getElem? (i := 2) rfl)) (by decide) (by decide)) (g := (mkF m 1 #[.val (.int a1), .val (.int b1), .val (.long q), .second, .val (.int u), .val (.int v1), .unset, .unset, .unset, .unset, .unset, .unset, .unset, .unset, .unset, .unset, .unset, .unset, .unset, .unset, .unset, .unset, .unset, .unset] [(.int a1)])) rfl (by rw [hml]; rfl) (argsL := [(.int a1)]) (rest := []) (lenOf own_pd__28I_29Ljava_2flang_2fInteger_3b rfl) rfl (by show 2 * 0 + _ ≤ _; exact Nat.le_of_eq rfl) (hb hby at_1) (fun _ _ => ⟨rfl, e0, (by decide : 0 + 1 ≤ _), (by decide : 0 + 1 ≤ _)⟩)
  dsimp only [Pt.U, Pt.locs, Pt.cells, Pt.slots] at X1 l1 y1 z1 st1 hQ1
  subst l1 y1 z1
  obtain ⟨r_1, rfl, M1, K1, g1_0, g1_1⟩ := hQ1
  have N1 := Fr.app N0 M1
  refine own_by st1 ?_
  have z1 := K1.1
  have lt_g1_0 : T1.heap.size > r_1 := g1_0.lt
  have lt_g1_1 : T1.heap.size > r_1 := g1_1.lt
  show own_Go p e below (T1.setTop (mkF m 4 #[.val (.int a1), .val (.int b1), .val (.long q), .second, .val (.int u), .val (.int v1), .unset, .unset, .unset, .unset, .unset, .unset, .unset, .unset, .unset, .unset, .unset, .unset, .unset, .unset, .unset, .unset, .unset, .unset] [(.ref r_1)])) _
  refine own_by (fun _ k => XS.astore X1.here hx rfl (hb hby at_4) rfl rfl (l' := #[.val (.int a1), .val (.int b1), .val (.long q), .second, .val (.int u), .val (.int v1), .val (.ref r_1), .unset, .unset, .unset, .unset, .unset, .unset, .unset, .unset, .unset, .unset, .unset, .unset, .unset, .unset, .unset, .unset, .unset]) rfl k) ?_
  show own_Go p e below (T1.setTop (mkF m 6 #[.val (.int a1), .val (.int b1), .val (.long q), .second, .val (.int u), .val (.int v1), .val (.ref r_1), .unset, .unset, .unset, .unset, .unset, .unset, .unset, .unset, .unset, .unset, .unset, .unset, .unset, .unset, .unset, .unset, .unset] [])) _
  refine own_by (fun _ k => XS.iloadN X1.here hx rfl (hb hby at_6) rfl k) ?_
  show own_Go p e below (T1.setTop (mkF m 7 #[.val (.int a1), .val (.int b1), .val (.long q), .second, .val (.int u), .val (.int v1), .val (.ref r_1), .unset, .unset, .unset, .unset, .unset, .unset, .unset, .unset, .unset, .unset, .unset, .unset, .unset, .unset, .unset, .unset, .unset] [(.int b1)])) _
  have O2 : Old Z n0 T1.heap := (O0.keep K1 all0)
  obtain ⟨_, _, ⟨T3, L3, k3, n3⟩, -, X3, ⟨Lc3, hQ3, l3, y3, z3⟩, st3⟩ := Jvm.LawKit.callS X1 hx (y := (⟨"java/lang/Integer", "valueOf", "(I)Ljava/lang/Integer;"⟩ : MethodName)) hown (mvT hZ (hw _ (List.mem_of_getElem? (i := 0) rfl))) (mvT hZ (hw _ (List.mem_of_getElem? (i := 1) rfl))) (mvT hZ (hw _ (List.mem_of_getElem? (i := 2) rfl))) (mvT hZ (hw _ (List.mem_of_getElem? (i := 3) rfl))) (by decide) (backOf (W := 0) (rm_ival l Z a0 hw [] b1 ci cci T1.heap n0 O2 S_high S_icache Bxi) hZ (hw _ (List.mem_of_getElem? (i := 3) rfl)) (hw _ (List.mem_of_getElem? (i := 2) rfl)) (by decide) (by decide)) (g := (mkF m 7 #[.val (.int a1), .val (.int b1), .val (.long q), .second, .val (.int u), .val (.int v1), .val (.ref r_1), .unset, .unset, .unset, .unset, .unset, .unset, .unset, .unset, .unset, .unset, .unset, .unset, .unset, .unset, .unset, .unset, .unset] [(.int b1)])) rfl (by rw [hml]; rfl) (argsL := [(.int b1)]) (rest := []) (lenOf own_pd__28I_29Ljava_2flang_2fInteger_3b rfl) rfl (by show 2 * 0 + _ ≤ _; exact Nat.le_of_eq rfl) (hb hby at_7) (fun _ _ => ⟨rfl, rfl, (by decide : 1 + 1 ≤ _), (by decide : 1 + 1 ≤ _)⟩)
  dsimp only [Pt.U, Pt.locs, Pt.cells, Pt.slots] at X3 l3 y3 z3 st3 hQ3
  subst l3 y3 z3
  obtain ⟨r_3, rfl, M3, K3, g3_0, g3_1⟩ := hQ3
  have N3 := Fr.app N1 M3
  refine own_by st3 ?_
  have z3 := K3.1
  have lt_g3_0 : T3.heap.size > r_3 := g3_0.lt
  have lt_g3_1 : T3.heap.size > r_3 := g3_1.lt
  show own_Go p e below (T3.setTop (mkF m 10 #[.val (.int a1), .val (.int b1), .val (.long q), .second, .val (.int u), .val (.int v1), .val (.ref r_1), .unset, .unset, .unset, .unset, .unset, .unset, .unset, .unset, .unset, .unset, .unset, .unset, .unset, .unset, .unset, .unset, .unset] [(.ref r_3)])) _
  refine own_by (fun _ k => XS.astore X3.here hx rfl (hb hby at_10) rfl rfl (l' := #[.val (.int a1), .val (.int b1), .val (.long q), .second, .val (.int u), .val (.int v1), .val (.ref r_1), .val (.ref r_3), .unset, .unset, .unset, .unset, .unset, .unset, .unset, .unset, .unset, .unset, .unset, .unset, .unset, .unset, .unset, .unset]) rfl k) ?_
  show own_Go p e below (T3.setTop (mkF m 12 #[.val (.int a1), .val (.int b1), .val (.long q), .second, .val (.int u), .val (.int v1), .val (.ref r_1), .val (.ref r_3), .unset, .unset, .unset, .unset, .unset, .unset, .unset, .unset, .unset, .unset, .unset, .unset, .unset, .unset, .unset, .unset] [])) _
  refine own_by (fun _ k => XS.lloadN X3.here hx rfl (hb hby at_12) rfl k) ?_
  show own_Go p e below (T3.setTop (mkF m 13 #[.val (.int a1), .val (.int b1), .val (.long q), .second, .val (.int u), .val (.int v1), .val (.ref r_1), .val (.ref r_3), .unset, .unset, .unset, .unset, .unset, .unset, .unset, .unset, .unset, .unset, .unset, .unset, .unset, .unset, .unset, .unset] [(.long q)])) _
  have O4 : Old Z n0 T3.heap := (O2.keep K3 all0)
  obtain ⟨_, _, ⟨T5, L5, k5, n5⟩, -, X5, ⟨Lc5, hQ5, l5, y5, z5⟩, st5⟩ := Jvm.LawKit.callS X3 hx (y := (⟨"java/lang/Long", "valueOf", "(J)Ljava/lang/Long;"⟩ : MethodName)) hown (mvT hZ (hw _ (List.mem_of_getElem? (i := 7) rfl))) (mvT hZ (hw _ (List.mem_of_getElem? (i := 8) rfl))) (mvT hZ (hw _ (List.mem_of_getElem? (i := 9) rfl))) (mvT hZ (hw _ (List.mem_of_getElem? (i := 10) rfl))) (by decide) (backOf (W := 0) (rm_lval l Z a0 hw [] q cl ccl T3.heap n0 O4 S_lcache Bxl) hZ (hw _ (List.mem_of_getElem? (i := 10) rfl)) (hw _ (List.mem_of_getElem? (i := 9) rfl)) (by decide) (by decide)) (g := (mkF m 13 #[.val (.int a1), .val (.int b1), .val (.long q), .second, .val (.int u), .val (.int v1), .val (.ref r_1), .val (.ref r_3), .unset, .unset, .unset, .unset, .unset, .unset, .unset, .unset, .unset, .unset, .unset, .unset, .unset, .unset, .unset, .unset] [(.long q)])) rfl (by rw [hml]; rfl) (argsL := [(.long q)]) (rest := []) (lenOf own_pd__28J_29Ljava_2flang_2fLong_3b rfl) rfl (by show 2 * 0 + _ ≤ _; exact Nat.le_of_eq rfl) (hb hby at_13) (fun _ _ => ⟨rfl, rfl, (by decide : 2 + 1 ≤ _), (by decide : 2 + 1 ≤ _)⟩)
  dsimp only [Pt.U, Pt.locs, Pt.cells, Pt.slots] at X5 l5 y5 z5 st5 hQ5
  subst l5 y5 z5
  obtain ⟨r_5, rfl, M5, K5, g5_0, g5_1⟩ := hQ5
  have N5 := Fr.app N3 M5
  refine own_by st5 ?_
  have z5 := K5.1
  have lt_g5_0 : T5.heap.size > r_5 := g5_0.lt
  have lt_g5_1 : T5.heap.size > r_5 := g5_1.lt
  show own_Go p e below (T5.setTop (mkF m 16 #[.val (.int a1), .val (.int b1), .val (.long q), .second, .val (.int u), .val (.int v1), .val (.ref r_1), .val (.ref r_3), .unset, .unset, .unset, .unset, .unset, .unset, .unset, .unset, .unset, .unset, .unset, .unset, .unset, .unset, .unset, .unset] [(.ref r_5)])) _
  refine own_by (fun _ k => XS.astore X5.here hx rfl (hb hby at_16) rfl rfl (l' := #[.val (.int a1), .val (.int b1), .val (.long q), .second, .val (.int u), .val (.int v1), .val (.ref r_1), .val (.ref r_3), .val (.ref r_5), .unset, .unset, .unset, .unset, .unset, .unset, .unset, .unset, .unset, .unset, .unset, .unset, .unset, .unset, .unset]) rfl k) ?_
  show own_Go p e below (T5.setTop (mkF m 18 #[.val (.int a1), .val (.int b1), .val (.long q), .second, .val (.int u), .val (.int v1), .val (.ref r_1), .val (.ref r_3), .val (.ref r_5), .unset, .unset, .unset, .unset, .unset, .unset, .unset, .unset, .unset, .unset, .unset, .unset, .unset, .unset, .unset] [])) _
  refine own_by (fun _ k => XS.iconst X5.here hx rfl (hb hby at_18) k) ?_
  show own_Go p e below (T5.setTop (mkF m 19 #[.val (.int a1), .val (.int b1), .val (.long q), .second, .val (.int u), .val (.int v1), .val (.ref r_1), .val (.ref r_3), .val (.ref r_5), .unset, .unset, .unset, .unset, .unset, .unset, .unset, .unset, .unset, .unset, .unset, .unset, .unset, .unset, .unset] [(.int (2 : Int32))])) _
  obtain ⟨T6, h6, k6, X6, e6, E6, A6, st6⟩ := newP X5 hx hZ (hw _ (List.mem_of_getElem? (i := 15) rfl)) rfl (g := (mkF m 19 #[.val (.int a1), .val (.int b1), .val (.long q), .second, .val (.int u), .val (.int v1), .val (.ref r_1), .val (.ref r_3), .val (.ref r_5), .unset, .unset, .unset, .unset, .unset, .unset, .unset, .unset, .unset, .unset, .unset, .unset, .unset, .unset, .unset] [(.int (2 : Int32))])) rfl (hb hby at_19) rfl (by decide) (cap := 2) (by decide) (by decide) (by decide) (by decide)
  obtain ⟨ob6, g6⟩ : ∃ z, z = T5.heap.size := ⟨_, rfl⟩
  rw [← g6] at A6 st6
  refine own_by st6 ?_
  have z6 := E6.1
  have Vw6 : Arv Z h6 ob6 k6 .char (2 : Int32) [] (.int (0 : Int32)) := Arv.new A6 (by decide)
  have lt6 : h6.size > ob6 := Vw6.lt
  show own_Go p e below (T6.setTop (mkF m 21 #[.val (.int a1), .val (.int b1), .val (.long q), .second, .val (.int u), .val (.int v1), .val (.ref r_1), .val (.ref r_3), .val (.ref r_5), .unset, .unset, .unset, .unset, .unset, .unset, .unset, .unset, .unset, .unset, .unset, .unset, .unset, .unset, .unset] [(.ref ob6)])) _
  refine own_by (fun _ k => XS.astore X6.here hx rfl (hb hby at_21) rfl rfl (l' := #[.val (.int a1), .val (.int b1), .val (.long q), .second, .val (.int u), .val (.int v1), .val (.ref r_1), .val (.ref r_3), .val (.ref r_5), .val (.ref ob6), .unset, .unset, .unset, .unset, .unset, .unset, .unset, .unset, .unset, .unset, .unset, .unset, .unset, .unset]) rfl k) ?_
  show own_Go p e below (T6.setTop (mkF m 23 #[.val (.int a1), .val (.int b1), .val (.long q), .second, .val (.int u), .val (.int v1), .val (.ref r_1), .val (.ref r_3), .val (.ref r_5), .val (.ref ob6), .unset, .unset, .unset, .unset, .unset, .unset, .unset, .unset, .unset, .unset, .unset, .unset, .unset, .unset] [])) _
  refine own_by (fun _ k => XS.aload X6.here hx rfl (hb hby at_23) rfl rfl k) ?_
  show own_Go p e below (T6.setTop (mkF m 25 #[.val (.int a1), .val (.int b1), .val (.long q), .second, .val (.int u), .val (.int v1), .val (.ref r_1), .val (.ref r_3), .val (.ref r_5), .val (.ref ob6), .unset, .unset, .unset, .unset, .unset, .unset, .unset, .unset, .unset, .unset, .unset, .unset, .unset, .unset] [(.ref ob6)])) _
  refine own_by (fun _ k => XS.iconst X6.here hx rfl (hb hby at_25) k) ?_
  show own_Go p e below (T6.setTop (mkF m 26 #[.val (.int a1), .val (.int b1), .val (.long q), .second, .val (.int u), .val (.int v1), .val (.ref r_1), .val (.ref r_3), .val (.ref r_5), .val (.ref ob6), .unset, .unset, .unset, .unset, .unset, .unset, .unset, .unset, .unset, .unset, .unset, .unset, .unset, .unset] [(.int (0 : Int32)), (.ref ob6)])) _
  refine own_by (fun _ k => XS.iload X6.here hx rfl (hb hby at_26) rfl k) ?_
  show own_Go p e below (T6.setTop (mkF m 28 #[.val (.int a1), .val (.int b1), .val (.long q), .second, .val (.int u), .val (.int v1), .val (.ref r_1), .val (.ref r_3), .val (.ref r_5), .val (.ref ob6), .unset, .unset, .unset, .unset, .unset, .unset, .unset, .unset, .unset, .unset, .unset, .unset, .unset, .unset] [(.int u), (.int (0 : Int32)), (.ref ob6)])) _
  refine own_by (fun _ k => XS.sipush X6.here hx rfl (hb hby at_28) k) ?_
  show own_Go p e below (T6.setTop (mkF m 31 #[.val (.int a1), .val (.int b1), .val (.long q), .second, .val (.int u), .val (.int v1), .val (.ref r_1), .val (.ref r_3), .val (.ref r_5), .val (.ref ob6), .unset, .unset, .unset, .unset, .unset, .unset, .unset, .unset, .unset, .unset, .unset, .unset, .unset, .unset] [(.int (255 : Int32)), (.int u), (.int (0 : Int32)), (.ref ob6)])) _
  refine own_by (fun _ k => XS.iand X6.here hx rfl (hb hby at_31) rfl k) ?_
  show own_Go p e below (T6.setTop (mkF m 32 #[.val (.int a1), .val (.int b1), .val (.long q), .second, .val (.int u), .val (.int v1), .val (.ref r_1), .val (.ref r_3), .val (.ref r_5), .val (.ref ob6), .unset, .unset, .unset, .unset, .unset, .unset, .unset, .unset, .unset, .unset, .unset, .unset, .unset, .unset] [(.int (u &&& (255 : Int32))), (.int (0 : Int32)), (.ref ob6)])) _
  refine own_by (fun _ k => XS.i2c X6.here hx rfl (hb hby at_32) rfl k) ?_
  rw [i2c_mask]
  show own_Go p e below (T6.setTop (mkF m 33 #[.val (.int a1), .val (.int b1), .val (.long q), .second, .val (.int u), .val (.int v1), .val (.ref r_1), .val (.ref r_3), .val (.ref r_5), .val (.ref ob6), .unset, .unset, .unset, .unset, .unset, .unset, .unset, .unset, .unset, .unset, .unset, .unset, .unset, .unset] [(.int (u &&& (255 : Int32))), (.int (0 : Int32)), (.ref ob6)])) _
  have Vw7 : Arv Z h6 ob6 k6 .char (2 : Int32) [(.int (0 : Int32))] (.int (0 : Int32)) := Vw6.pad (pad_rep [] (.int (0 : Int32)) 1)
  obtain ⟨cl8, Ar8, q8, S8, M8, H8, G8⟩ := (id Vw7)
  have hin8 : ¬ ((0 : Int32) < 0 ∨ cl8.slots.size ≤ ((0 : Int32)).toNatClampNeg) := inb_of S8 ⟨by decide, by decide⟩
  obtain ⟨T8, h8, X8, e8, W8, st8⟩ := stC X6 hx hZ e6 Ar8 (j := (0 : Int32)) hin8 (g := (mkF m 33 #[.val (.int a1), .val (.int b1), .val (.long q), .second, .val (.int u), .val (.int v1), .val (.ref r_1), .val (.ref r_3), .val (.ref r_5), .val (.ref ob6), .unset, .unset, .unset, .unset, .unset, .unset, .unset, .unset, .unset, .unset, .unset, .unset, .unset, .unset] [(.int (u &&& (255 : Int32))), (.int (0 : Int32)), (.ref ob6)])) rfl rfl (hb hby at_33)
  refine own_by st8 ?_
  rw [own_mask_c] at W8
  have z8 := W8.size
  have N8 := Fr.snoc X8 N5 (by omega)
  have Vw8 : Arv Z h8 ob6 k6 .char (2 : Int32) [(.int (u &&& (255 : Int32)))] (.int (0 : Int32)) := Arv.set Ar8 q8 S8 M8 H8 G8 (own_fits_c _) W8 0 rfl (Nat.le_of_ble_eq_true rfl)
  show own_Go p e below (T8.setTop (mkF m 34 #[.val (.int a1), .val (.int b1), .val (.long q), .second, .val (.int u), .val (.int v1), .val (.ref r_1), .val (.ref r_3), .val (.ref r_5), .val (.ref ob6), .unset, .unset, .unset, .unset, .unset, .unset, .unset, .unset, .unset, .unset, .unset, .unset, .unset, .unset] [])) _
  refine own_by (fun _ k => XS.aload X8.here hx rfl (hb hby at_34) rfl rfl k) ?_
  show own_Go p e below (T8.setTop (mkF m 36 #[.val (.int a1), .val (.int b1), .val (.long q), .second, .val (.int u), .val (.int v1), .val (.ref r_1), .val (.ref r_3), .val (.ref r_5), .val (.ref ob6), .unset, .unset, .unset, .unset, .unset, .unset, .unset, .unset, .unset, .unset, .unset, .unset, .unset, .unset] [(.ref ob6)])) _
  refine own_by (fun _ k => XS.iconst X8.here hx rfl (hb hby at_36) k) ?_
  show own_Go p e below (T8.setTop (mkF m 37 #[.val (.int a1), .val (.int b1), .val (.long q), .second, .val (.int u), .val (.int v1), .val (.ref r_1), .val (.ref r_3), .val (.ref r_5), .val (.ref ob6), .unset, .unset, .unset, .unset, .unset, .unset, .unset, .unset, .unset, .unset, .unset, .unset, .unset, .unset] [(.int (1 : Int32)), (.ref ob6)])) _
  refine own_by (fun _ k => XS.iload X8.here hx rfl (hb hby at_37) rfl k) ?_
  show own_Go p e below (T8.setTop (mkF m 39 #[.val (.int a1), .val (.int b1), .val (.long q), .second, .val (.int u), .val (.int v1), .val (.ref r_1), .val (.ref r_3), .val (.ref r_5), .val (.ref ob6), .unset, .unset, .unset, .unset, .unset, .unset, .unset, .unset, .unset, .unset, .unset, .unset, .unset, .unset] [(.int v1), (.int (1 : Int32)), (.ref ob6)])) _
  refine own_by (fun _ k => XS.sipush X8.here hx rfl (hb hby at_39) k) ?_
  show own_Go p e below (T8.setTop (mkF m 42 #[.val (.int a1), .val (.int b1), .val (.long q), .second, .val (.int u), .val (.int v1), .val (.ref r_1), .val (.ref r_3), .val (.ref r_5), .val (.ref ob6), .unset, .unset, .unset, .unset, .unset, .unset, .unset, .unset, .unset, .unset, .unset, .unset, .unset, .unset] [(.int (255 : Int32)), (.int v1), (.int (1 : Int32)), (.ref ob6)])) _
  refine own_by (fun _ k => XS.iand X8.here hx rfl (hb hby at_42) rfl k) ?_
  show own_Go p e below (T8.setTop (mkF m 43 #[.val (.int a1), .val (.int b1), .val (.long q), .second, .val (.int u), .val (.int v1), .val (.ref r_1), .val (.ref r_3), .val (.ref r_5), .val (.ref ob6), .unset, .unset, .unset, .unset, .unset, .unset, .unset, .unset, .unset, .unset, .unset, .unset, .unset, .unset] [(.int (v1 &&& (255 : Int32))), (.int (1 : Int32)), (.ref ob6)])) _
  refine own_by (fun _ k => XS.i2c X8.here hx rfl (hb hby at_43) rfl k) ?_
  rw [i2c_mask]
  show own_Go p e below (T8.setTop (mkF m 44 #[.val (.int a1), .val (.int b1), .val (.long q), .second, .val (.int u), .val (.int v1), .val (.ref r_1), .val (.ref r_3), .val (.ref r_5), .val (.ref ob6), .unset, .unset, .unset, .unset, .unset, .unset, .unset, .unset, .unset, .unset, .unset, .unset, .unset, .unset] [(.int (v1 &&& (255 : Int32))), (.int (1 : Int32)), (.ref ob6)])) _
  have Vw9 : Arv Z h8 ob6 k6 .char (2 : Int32) [(.int (u &&& (255 : Int32))), (.int (0 : Int32))] (.int (0 : Int32)) := Vw8.pad (pad_rep [(.int (u &&& (255 : Int32)))] (.int (0 : Int32)) 1)
  obtain ⟨cl10, Ar10, q10, S10, M10, H10, G10⟩ := (id Vw9)
  have hin10 : ¬ ((1 : Int32) < 0 ∨ cl10.slots.size ≤ ((1 : Int32)).toNatClampNeg) := inb_of S10 ⟨by decide, by decide⟩
  obtain ⟨T10, h10, X10, e10, W10, st10⟩ := stC X8 hx hZ e8 Ar10 (j := (1 : Int32)) hin10 (g := (mkF m 44 #[.val (.int a1), .val (.int b1), .val (.long q), .second, .val (.int u), .val (.int v1), .val (.ref r_1), .val (.ref r_3), .val (.ref r_5), .val (.ref ob6), .unset, .unset, .unset, .unset, .unset, .unset, .unset, .unset, .unset, .unset, .unset, .unset, .unset, .unset] [(.int (v1 &&& (255 : Int32))), (.int (1 : Int32)), (.ref ob6)])) rfl rfl (hb hby at_44)
  refine own_by st10 ?_
  rw [own_mask_c] at W10
  have z10 := W10.size
  have N10 := Fr.snoc X10 N8 (by omega)
  have Vw10 : Arv Z h10 ob6 k6 .char (2 : Int32) [(.int (u &&& (255 : Int32))), (.int (v1 &&& (255 : Int32)))] (.int (0 : Int32)) := Arv.set Ar10 q10 S10 M10 H10 G10 (own_fits_c _) W10 1 rfl (Nat.le_of_ble_eq_true rfl)
  show own_Go p e below (T10.setTop (mkF m 45 #[.val (.int a1), .val (.int b1), .val (.long q), .second, .val (.int u), .val (.int v1), .val (.ref r_1), .val (.ref r_3), .val (.ref r_5), .val (.ref ob6), .unset, .unset, .unset, .unset, .unset, .unset, .unset, .unset, .unset, .unset, .unset, .unset, .unset, .unset] [])) _
  obtain ⟨T11, h11, X11, e11, E11, A11, D11, U11, st11⟩ := newO X10 hx hZ hown (hw _ (List.mem_of_getElem? (i := 16) rfl)) (hw _ (List.mem_of_getElem? (i := 17) rfl)) (hw _ (List.mem_of_getElem? (i := 18) rfl)) e10 (g := (mkF m 45 #[.val (.int a1), .val (.int b1), .val (.long q), .second, .val (.int u), .val (.int v1), .val (.ref r_1), .val (.ref r_3), .val (.ref r_5), .val (.ref ob6), .unset, .unset, .unset, .unset, .unset, .unset, .unset, .unset, .unset, .unset, .unset, .unset, .unset, .unset] [])) rfl (hb hby at_45) (by decide) (by decide)
  obtain ⟨ob11, g11⟩ : ∃ z, z = h10.size := ⟨_, rfl⟩
  rw [← g11] at A11 D11 U11 st11
  refine own_by st11 ?_
  have z11 := E11.1
  have lt11 : h11.size > ob11 := A11.lt
  show own_Go p e below (T11.setTop (mkF m 48 #[.val (.int a1), .val (.int b1), .val (.long q), .second, .val (.int u), .val (.int v1), .val (.ref r_1), .val (.ref r_3), .val (.ref r_5), .val (.ref ob6), .unset, .unset, .unset, .unset, .unset, .unset, .unset, .unset, .unset, .unset, .unset, .unset, .unset, .unset] [(.ref ob11)])) _
  refine own_by (fun _ k => XS.dup X11.here hx rfl (hb hby at_48) rfl rfl k) ?_
  show own_Go p e below (T11.setTop (mkF m 49 #[.val (.int a1), .val (.int b1), .val (.long q), .second, .val (.int u), .val (.int v1), .val (.ref r_1), .val (.ref r_3), .val (.ref r_5), .val (.ref ob6), .unset, .unset, .unset, .unset, .unset, .unset, .unset, .unset, .unset, .unset, .unset, .unset, .unset, .unset] [(.ref ob11), (.ref ob11)])) _
  refine own_by (fun _ k => XS.aload X11.here hx rfl (hb hby at_49) rfl rfl k) ?_
  show own_Go p e below (T11.setTop (mkF m 51 #[.val (.int a1), .val (.int b1), .val (.long q), .second, .val (.int u), .val (.int v1), .val (.ref r_1), .val (.ref r_3), .val (.ref r_5), .val (.ref ob6), .unset, .unset, .unset, .unset, .unset, .unset, .unset, .unset, .unset, .unset, .unset, .unset, .unset, .unset] [(.ref ob6), (.ref ob11), (.ref ob11)])) _
  have fc12 : Arv Z h11 ob6 k6 .char (2 : Int32) [(.int (u &&& (255 : Int32))), (.int (v1 &&& (255 : Int32)))] (.int (0 : Int32)) := (Vw10.ext E11)
  have O13 : Old Z n0 h11 := (((((O4.keep K5 all0).ext E6).wr W8 (by omega)).wr W10 (by omega)).ext E11)
  obtain ⟨_, _, ⟨T14, L14, k14, n14⟩, -, X14, ⟨Lc14, hQ14, l14, y14, z14⟩, st14⟩ := X11.specialBack hx (y := (⟨"java/lang/String", "<init>", "([C)V"⟩ : MethodName)) rfl hown (mvT hZ (hw _ (List.mem_of_getElem? (i := 19) rfl))) (mvT hZ (hw _ (List.mem_of_getElem? (i := 20) rfl))) (mvT hZ (hw _ (List.mem_of_getElem? (i := 21) rfl))) (by decide) (backOf (W := 1) (rm_sinit_2 l Z a0 hw [] ob11 ob6 k6 cs (u &&& (255 : Int32)) (v1 &&& (255 : Int32)) h11 n0 O13 S_COMPACT A11 (show Fld Z h11 ob11 "java/lang/String" "value" "[B" .null from D11 (Or.inr (hw _ (List.mem_of_getElem? (i := 44) rfl))) (ty := (.array .byte)) (by decide)) (show Fld Z h11 ob11 "java/lang/String" "coder" "B" (.int (0 : Int32)) from D11 (Or.inr (hw _ (List.mem_of_getElem? (i := 42) rfl))) (ty := .byte) (by decide)) fc12 (own_mask_hi u) (own_mask_hi v1) (by first | assumption | omega | decide) hcs (by first | assumption | omega | decide)) hZ (hw _ (List.mem_of_getElem? (i := 21) rfl)) (hw _ (List.mem_of_getElem? (i := 18) rfl)) (by decide) (by decide)) (g := (mkF m 51 #[.val (.int a1), .val (.int b1), .val (.long q), .second, .val (.int u), .val (.int v1), .val (.ref r_1), .val (.ref r_3), .val (.ref r_5), .val (.ref ob6), .unset, .unset, .unset, .unset, .unset, .unset, .unset, .unset, .unset, .unset, .unset, .unset, .unset, .unset] [(.ref ob6), (.ref ob11), (.ref ob11)])) rfl (by rw [hml]; rfl) (Steps.refl _) (a := ob11) (argsL := [(.ref ob6)]) (rest := [(.ref ob11)]) (lenOf own_pd__28_5bC_29V rfl) rfl (by show 2 * 0 + _ ≤ _; exact Nat.le_of_eq rfl) (hb hby at_51) (fun _ _ => ⟨rfl, e11, (by decide : 5 + 1 ≤ _), (by decide : 9 + 2 ≤ _)⟩)
  dsimp only [Pt.U, Pt.locs, Pt.cells, Pt.slots] at X14 l14 y14 z14 st14 hQ14
  subst l14 y14 z14
  obtain ⟨b_14, kb_14, rfl, M14, K14, g14_0, g14_1, g14_2, g14_3, r14_0⟩ := hQ14
  have N14 := Fr.app N10 M14
  refine own_by (fun _ k => st14.trans k) ?_
  have z14 := K14.1
  have lt_g14_0 : T14.heap.size > ob11 := g14_0.lt
  have lt_g14_1 : T14.heap.size > ob11 := g14_1.lt
  have lt_g14_2 : T14.heap.size > ob11 := g14_2.lt
  have lt_g14_3 : T14.heap.size > b_14 := g14_3.lt
  show own_Go p e below (T14.setTop (mkF m 54 #[.val (.int a1), .val (.int b1), .val (.long q), .second, .val (.int u), .val (.int v1), .val (.ref r_1), .val (.ref r_3), .val (.ref r_5), .val (.ref ob6), .unset, .unset, .unset, .unset, .unset, .unset, .unset, .unset, .unset, .unset, .unset, .unset, .unset, .unset] [(.ref ob11)])) _
  refine own_by (fun _ k => XS.astore X14.here hx rfl (hb hby at_54) rfl rfl (l' := #[.val (.int a1), .val (.int b1), .val (.long q), .second, .val (.int u), .val (.int v1), .val (.ref r_1), .val (.ref r_3), .val (.ref r_5), .val (.ref ob6), .val (.ref ob11), .unset, .unset, .unset, .unset, .unset, .unset, .unset, .unset, .unset, .unset, .unset, .unset, .unset]) rfl k) ?_
  show own_Go p e below (T14.setTop (mkF m 56 #[.val (.int a1), .val (.int b1), .val (.long q), .second, .val (.int u), .val (.int v1), .val (.ref r_1), .val (.ref r_3), .val (.ref r_5), .val (.ref ob6), .val (.ref ob11), .unset, .unset, .unset, .unset, .unset, .unset, .unset, .unset, .unset, .unset, .unset, .unset, .unset] [])) _
  refine own_by (fun _ k => XS.aload X14.here hx rfl (hb hby at_56) rfl rfl k) ?_
  show own_Go p e below (T14.setTop (mkF m 58 #[.val (.int a1), .val (.int b1), .val (.long q), .second, .val (.int u), .val (.int v1), .val (.ref r_1), .val (.ref r_3), .val (.ref r_5), .val (.ref ob6), .val (.ref ob11), .unset, .unset, .unset, .unset, .unset, .unset, .unset, .unset, .unset, .unset, .unset, .unset, .unset] [(.ref r_1)])) _
  have O15 : Old Z n0 T14.heap := (O13.keep K14 (allS (by omega) all0))
  obtain ⟨_, _, ⟨T16, L16, k16, n16⟩, -, X16, S'16, gr16, ⟨Lc16, hQ16, l16, y16, z16⟩, st16⟩ := callSS X14 hx (y := (⟨"com/example/commit_to_chain/committochain/core/ChainAnswer", "of", "(Ljava/lang/Object;)Lcom/example/commit_to_chain/committochain/core/ChainAnswer;"⟩ : MethodName)) hown (mvT hZ (hw _ (List.mem_of_getElem? (i := 45) rfl))) (mvT hZ (hw _ (List.mem_of_getElem? (i := 46) rfl))) (mvT hZ (hw _ (List.mem_of_getElem? (i := 47) rfl))) (mvT hZ (hw _ (List.mem_of_getElem? (i := 48) rfl))) (by decide) (backOfS (W := 0) (rm_of l Z a0 hw [] r_1 T14.heap n0 O15) hZ (hw _ (List.mem_of_getElem? (i := 48) rfl)) (hw _ (List.mem_of_getElem? (i := 47) rfl)) (by decide) (by decide)) (g := (mkF m 58 #[.val (.int a1), .val (.int b1), .val (.long q), .second, .val (.int u), .val (.int v1), .val (.ref r_1), .val (.ref r_3), .val (.ref r_5), .val (.ref ob6), .val (.ref ob11), .unset, .unset, .unset, .unset, .unset, .unset, .unset, .unset, .unset, .unset, .unset, .unset, .unset] [(.ref r_1)])) rfl (by rw [hml]; rfl) (argsL := [(.ref r_1)]) (rest := []) (lenOf own_pd__28Ljava_2flang_2fObject_3b_29Lcom_2fexample_2fcommit_to_chain_2fcommittochain_2fcore_2fChainAnswer_3b rfl) rfl (by show 2 * 0 + _ ≤ _; exact Nat.le_of_eq rfl) (hb hby at_58) (fun _ _ => ⟨rfl, rfl, (by decide : 6 + 3 ≤ _), (by decide : 11 + 30 ≤ _)⟩)
  dsimp only [Pt.U, Pt.locs, Pt.cells, Pt.slots] at X16 l16 y16 z16 st16 hQ16 S'16 gr16
  subst l16 y16 z16
  obtain ⟨X16, S16, hZ16, ho16⟩ := rebS S0 (by first | omega | (rw [e0]; omega)) X16 S'16 gr16 hZ hown
  obtain ⟨t1_16, rfl, M16, K16, g16_0, g16_1, g16_2, r16_0⟩ := hQ16
  have N16 := Fr.app N14 M16
  refine own_by (fun _ k => st16.trans k) ?_
  have z16 := K16.1
  have lt_g16_0 : T16.heap.size > t1_16 := g16_0.lt
  have lt_g16_1 : T16.heap.size > t1_16 := g16_1.lt
  have lt_g16_2 : T16.heap.size > t1_16 := g16_2.lt
  show own_Go p e below (T16.setTop (mkF m 61 #[.val (.int a1), .val (.int b1), .val (.long q), .second, .val (.int u), .val (.int v1), .val (.ref r_1), .val (.ref r_3), .val (.ref r_5), .val (.ref ob6), .val (.ref ob11), .unset, .unset, .unset, .unset, .unset, .unset, .unset, .unset, .unset, .unset, .unset, .unset, .unset] [(.ref t1_16)])) _
  refine own_by (fun _ k => XS.astore X16.here hx rfl (hb hby at_61) rfl rfl (l' := #[.val (.int a1), .val (.int b1), .val (.long q), .second, .val (.int u), .val (.int v1), .val (.ref r_1), .val (.ref r_3), .val (.ref r_5), .val (.ref ob6), .val (.ref ob11), .val (.ref t1_16), .unset, .unset, .unset, .unset, .unset, .unset, .unset, .unset, .unset, .unset, .unset, .unset]) rfl k) ?_
  show own_Go p e below (T16.setTop (mkF m 63 #[.val (.int a1), .val (.int b1), .val (.long q), .second, .val (.int u), .val (.int v1), .val (.ref r_1), .val (.ref r_3), .val (.ref r_5), .val (.ref ob6), .val (.ref ob11), .val (.ref t1_16), .unset, .unset, .unset, .unset, .unset, .unset, .unset, .unset, .unset, .unset, .unset, .unset] [])) _
  refine own_by (fun _ k => XS.aload X16.here hx rfl (hb hby at_63) rfl rfl k) ?_
  show own_Go p e below (T16.setTop (mkF m 65 #[.val (.int a1), .val (.int b1), .val (.long q), .second, .val (.int u), .val (.int v1), .val (.ref r_1), .val (.ref r_3), .val (.ref r_5), .val (.ref ob6), .val (.ref ob11), .val (.ref t1_16), .unset, .unset, .unset, .unset, .unset, .unset, .unset, .unset, .unset, .unset, .unset, .unset] [(.ref r_3)])) _
  have O17 : Old Z n0 T16.heap := (O15.keep K16 all0)
  obtain ⟨_, _, ⟨T18, L18, k18, n18⟩, -, X18, S'18, gr18, ⟨Lc18, hQ18, l18, y18, z18⟩, st18⟩ := callSS X16 hx (y := (⟨"com/example/commit_to_chain/committochain/core/ChainAnswer", "of", "(Ljava/lang/Object;)Lcom/example/commit_to_chain/committochain/core/ChainAnswer;"⟩ : MethodName)) ho16 (mvT hZ16 (hw _ (List.mem_of_getElem? (i := 45) rfl))) (mvT hZ16 (hw _ (List.mem_of_getElem? (i := 46) rfl))) (mvT hZ16 (hw _ (List.mem_of_getElem? (i := 47) rfl))) (mvT hZ16 (hw _ (List.mem_of_getElem? (i := 48) rfl))) (by decide) (backOfS (W := 0) (rm_of l Z a0 hw [] r_3 T16.heap n0 O17) hZ16 (hw _ (List.mem_of_getElem? (i := 48) rfl)) (hw _ (List.mem_of_getElem? (i := 47) rfl)) (by decide) (by decide)) (g := (mkF m 65 #[.val (.int a1), .val (.int b1), .val (.long q), .second, .val (.int u), .val (.int v1), .val (.ref r_1), .val (.ref r_3), .val (.ref r_5), .val (.ref ob6), .val (.ref ob11), .val (.ref t1_16), .unset, .unset, .unset, .unset, .unset, .unset, .unset, .unset, .unset, .unset, .unset, .unset] [(.ref r_3)])) rfl (by rw [hml]; rfl) (argsL := [(.ref r_3)]) (rest := []) (lenOf own_pd__28Ljava_2flang_2fObject_3b_29Lcom_2fexample_2fcommit_to_chain_2fcommittochain_2fcore_2fChainAnswer_3b rfl) rfl (by show 2 * 0 + _ ≤ _; exact Nat.le_of_eq rfl) (hb hby at_65) (fun _ _ => ⟨rfl, rfl, (by decide : 9 + 3 ≤ _), (by decide : 41 + 30 ≤ _)⟩)
  dsimp only [Pt.U, Pt.locs, Pt.cells, Pt.slots] at X18 l18 y18 z18 st18 hQ18 S'18 gr18
  subst l18 y18 z18
  obtain ⟨X18, S18, hZ18, ho18⟩ := rebS S16 (by first | omega | (rw [e0]; omega)) X18 S'18 gr18 hZ16 ho16
  obtain ⟨t1_18, rfl, M18, K18, g18_0, g18_1, g18_2, r18_0⟩ := hQ18
  have N18 := Fr.app N16 M18
  refine own_by (fun _ k => st18.trans k) ?_
  have z18 := K18.1
  have lt_g18_0 : T18.heap.size > t1_18 := g18_0.lt
  have lt_g18_1 : T18.heap.size > t1_18 := g18_1.lt
  have lt_g18_2 : T18.heap.size > t1_18 := g18_2.lt
  show own_Go p e below (T18.setTop (mkF m 68 #[.val (.int a1), .val (.int b1), .val (.long q), .second, .val (.int u), .val (.int v1), .val (.ref r_1), .val (.ref r_3), .val (.ref r_5), .val (.ref ob6), .val (.ref ob11), .val (.ref t1_16), .unset, .unset, .unset, .unset, .unset, .unset, .unset, .unset, .unset, .unset, .unset, .unset] [(.ref t1_18)])) _
  refine own_by (fun _ k => XS.astore X18.here hx rfl (hb hby at_68) rfl rfl (l' := #[.val (.int a1), .val (.int b1), .val (.long q), .second, .val (.int u), .val (.int v1), .val (.ref r_1), .val (.ref r_3), .val (.ref r_5), .val (.ref ob6), .val (.ref ob11), .val (.ref t1_16), .val (.ref t1_18), .unset, .unset, .unset, .unset, .unset, .unset, .unset, .unset, .unset, .unset, .unset]) rfl k) ?_
  show own_Go p e below (T18.setTop (mkF m 70 #[.val (.int a1), .val (.int b1), .val (.long q), .second, .val (.int u), .val (.int v1), .val (.ref r_1), .val (.ref r_3), .val (.ref r_5), .val (.ref ob6), .val (.ref ob11), .val (.ref t1_16), .val (.ref t1_18), .unset, .unset, .unset, .unset, .unset, .unset, .unset, .unset, .unset, .unset, .unset] [])) _
  refine own_by (fun _ k => XS.aload X18.here hx rfl (hb hby at_70) rfl rfl k) ?_
  show own_Go p e below (T18.setTop (mkF m 72 #[.val (.int a1), .val (.int b1), .val (.long q), .second, .val (.int u), .val (.int v1), .val (.ref r_1), .val (.ref r_3), .val (.ref r_5), .val (.ref ob6), .val (.ref ob11), .val (.ref t1_16), .val (.ref t1_18), .unset, .unset, .unset, .unset, .unset, .unset, .unset, .unset, .unset, .unset, .unset] [(.ref r_5)])) _
  have O19 : Old Z n0 T18.heap := (O17.keep K18 all0)
  obtain ⟨_, _, ⟨T20, L20, k20, n20⟩, -, X20, S'20, gr20, ⟨Lc20, hQ20, l20, y20, z20⟩, st20⟩ := callSS X18 hx (y := (⟨"com/example/commit_to_chain/committochain/core/ChainAnswer", "of", "(Ljava/lang/Object;)Lcom/example/commit_to_chain/committochain/core/ChainAnswer;"⟩ : MethodName)) ho18 (mvT hZ18 (hw _ (List.mem_of_getElem? (i := 45) rfl))) (mvT hZ18 (hw _ (List.mem_of_getElem? (i := 46) rfl))) (mvT hZ18 (hw _ (List.mem_of_getElem? (i := 47) rfl))) (mvT hZ18 (hw _ (List.mem_of_getElem? (i := 48) rfl))) (by decide) (backOfS (W := 0) (rm_of l Z a0 hw [] r_5 T18.heap n0 O19) hZ18 (hw _ (List.mem_of_getElem? (i := 48) rfl)) (hw _ (List.mem_of_getElem? (i := 47) rfl)) (by decide) (by decide)) (g := (mkF m 72 #[.val (.int a1), .val (.int b1), .val (.long q), .second, .val (.int u), .val (.int v1), .val (.ref r_1), .val (.ref r_3), .val (.ref r_5), .val (.ref ob6), .val (.ref ob11), .val (.ref t1_16), .val (.ref t1_18), .unset, .unset, .unset, .unset, .unset, .unset, .unset, .unset, .unset, .unset, .unset] [(.ref r_5)])) rfl (by rw [hml]; rfl) (argsL := [(.ref r_5)]) (rest := []) (lenOf own_pd__28Ljava_2flang_2fObject_3b_29Lcom_2fexample_2fcommit_to_chain_2fcommittochain_2fcore_2fChainAnswer_3b rfl) rfl (by show 2 * 0 + _ ≤ _; exact Nat.le_of_eq rfl) (hb hby at_72) (fun _ _ => ⟨rfl, rfl, (by decide : 12 + 3 ≤ _), (by decide : 71 + 30 ≤ _)⟩)
  dsimp only [Pt.U, Pt.locs, Pt.cells, Pt.slots] at X20 l20 y20 z20 st20 hQ20 S'20 gr20
  subst l20 y20 z20
  obtain ⟨X20, S20, hZ20, ho20⟩ := rebS S18 (by first | omega | (rw [e0]; omega)) X20 S'20 gr20 hZ18 ho18
  obtain ⟨t1_20, rfl, M20, K20, g20_0, g20_1, g20_2, r20_0⟩ := hQ20
  have N20 := Fr.app N18 M20
  refine own_by (fun _ k => st20.trans k) ?_
  have z20 := K20.1
  have lt_g20_0 : T20.heap.size > t1_20 := g20_0.lt
  have lt_g20_1 : T20.heap.size > t1_20 := g20_1.lt
  have lt_g20_2 : T20.heap.size > t1_20 := g20_2.lt
  show own_Go p e below (T20.setTop (mkF m 75 #[.val (.int a1), .val (.int b1), .val (.long q), .second, .val (.int u), .val (.int v1), .val (.ref r_1), .val (.ref r_3), .val (.ref r_5), .val (.ref ob6), .val (.ref ob11), .val (.ref t1_16), .val (.ref t1_18), .unset, .unset, .unset, .unset, .unset, .unset, .unset, .unset, .unset, .unset, .unset] [(.ref t1_20)])) _
  refine own_by (fun _ k => XS.astore X20.here hx rfl (hb hby at_75) rfl rfl (l' := #[.val (.int a1), .val (.int b1), .val (.long q), .second, .val (.int u), .val (.int v1), .val (.ref r_1), .val (.ref r_3), .val (.ref r_5), .val (.ref ob6), .val (.ref ob11), .val (.ref t1_16), .val (.ref t1_18), .val (.ref t1_20), .unset, .unset, .unset, .unset, .unset, .unset, .unset, .unset, .unset, .unset]) rfl k) ?_
  show own_Go p e below (T20.setTop (mkF m 77 #[.val (.int a1), .val (.int b1), .val (.long q), .second, .val (.int u), .val (.int v1), .val (.ref r_1), .val (.ref r_3), .val (.ref r_5), .val (.ref ob6), .val (.ref ob11), .val (.ref t1_16), .val (.ref t1_18), .val (.ref t1_20), .unset, .unset, .unset, .unset, .unset, .unset, .unset, .unset, .unset, .unset] [])) _
  refine own_by (fun _ k => XS.aload X20.here hx rfl (hb hby at_77) rfl rfl k) ?_
  show own_Go p e below (T20.setTop (mkF m 79 #[.val (.int a1), .val (.int b1), .val (.long q), .second, .val (.int u), .val (.int v1), .val (.ref r_1), .val (.ref r_3), .val (.ref r_5), .val (.ref ob6), .val (.ref ob11), .val (.ref t1_16), .val (.ref t1_18), .val (.ref t1_20), .unset, .unset, .unset, .unset, .unset, .unset, .unset, .unset, .unset, .unset] [(.ref ob11)])) _
  have O21 : Old Z n0 T20.heap := (O19.keep K20 all0)
  obtain ⟨_, _, ⟨T22, L22, k22, n22⟩, -, X22, S'22, gr22, ⟨Lc22, hQ22, l22, y22, z22⟩, st22⟩ := callSS X20 hx (y := (⟨"com/example/commit_to_chain/committochain/core/ChainAnswer", "of", "(Ljava/lang/Object;)Lcom/example/commit_to_chain/committochain/core/ChainAnswer;"⟩ : MethodName)) ho20 (mvT hZ20 (hw _ (List.mem_of_getElem? (i := 45) rfl))) (mvT hZ20 (hw _ (List.mem_of_getElem? (i := 46) rfl))) (mvT hZ20 (hw _ (List.mem_of_getElem? (i := 47) rfl))) (mvT hZ20 (hw _ (List.mem_of_getElem? (i := 48) rfl))) (by decide) (backOfS (W := 0) (rm_of l Z a0 hw [] ob11 T20.heap n0 O21) hZ20 (hw _ (List.mem_of_getElem? (i := 48) rfl)) (hw _ (List.mem_of_getElem? (i := 47) rfl)) (by decide) (by decide)) (g := (mkF m 79 #[.val (.int a1), .val (.int b1), .val (.long q), .second, .val (.int u), .val (.int v1), .val (.ref r_1), .val (.ref r_3), .val (.ref r_5), .val (.ref ob6), .val (.ref ob11), .val (.ref t1_16), .val (.ref t1_18), .val (.ref t1_20), .unset, .unset, .unset, .unset, .unset, .unset, .unset, .unset, .unset, .unset] [(.ref ob11)])) rfl (by rw [hml]; rfl) (argsL := [(.ref ob11)]) (rest := []) (lenOf own_pd__28Ljava_2flang_2fObject_3b_29Lcom_2fexample_2fcommit_to_chain_2fcommittochain_2fcore_2fChainAnswer_3b rfl) rfl (by show 2 * 0 + _ ≤ _; exact Nat.le_of_eq rfl) (hb hby at_79) (fun _ _ => ⟨rfl, rfl, (by decide : 15 + 3 ≤ _), (by decide : 101 + 30 ≤ _)⟩)
  dsimp only [Pt.U, Pt.locs, Pt.cells, Pt.slots] at X22 l22 y22 z22 st22 hQ22 S'22 gr22
  subst l22 y22 z22
  obtain ⟨X22, S22, hZ22, ho22⟩ := rebS S20 (by first | omega | (rw [e0]; omega)) X22 S'22 gr22 hZ20 ho20
  obtain ⟨t1_22, rfl, M22, K22, g22_0, g22_1, g22_2, r22_0⟩ := hQ22
  have N22 := Fr.app N20 M22
  refine own_by (fun _ k => st22.trans k) ?_
  have z22 := K22.1
  have lt_g22_0 : T22.heap.size > t1_22 := g22_0.lt
  have lt_g22_1 : T22.heap.size > t1_22 := g22_1.lt
  have lt_g22_2 : T22.heap.size > t1_22 := g22_2.lt
  show own_Go p e below (T22.setTop (mkF m 82 #[.val (.int a1), .val (.int b1), .val (.long q), .second, .val (.int u), .val (.int v1), .val (.ref r_1), .val (.ref r_3), .val (.ref r_5), .val (.ref ob6), .val (.ref ob11), .val (.ref t1_16), .val (.ref t1_18), .val (.ref t1_20), .unset, .unset, .unset, .unset, .unset, .unset, .unset, .unset, .unset, .unset] [(.ref t1_22)])) _
  refine own_by (fun _ k => XS.astore X22.here hx rfl (hb hby at_82) rfl rfl (l' := #[.val (.int a1), .val (.int b1), .val (.long q), .second, .val (.int u), .val (.int v1), .val (.ref r_1), .val (.ref r_3), .val (.ref r_5), .val (.ref ob6), .val (.ref ob11), .val (.ref t1_16), .val (.ref t1_18), .val (.ref t1_20), .val (.ref t1_22), .unset, .unset, .unset, .unset, .unset, .unset, .unset, .unset, .unset]) rfl k) ?_
  show own_Go p e below (T22.setTop (mkF m 84 #[.val (.int a1), .val (.int b1), .val (.long q), .second, .val (.int u), .val (.int v1), .val (.ref r_1), .val (.ref r_3), .val (.ref r_5), .val (.ref ob6), .val (.ref ob11), .val (.ref t1_16), .val (.ref t1_18), .val (.ref t1_20), .val (.ref t1_22), .unset, .unset, .unset, .unset, .unset, .unset, .unset, .unset, .unset] [])) _
  refine own_by (fun _ k => XS.aload X22.here hx rfl (hb hby at_84) rfl rfl k) ?_
  show own_Go p e below (T22.setTop (mkF m 86 #[.val (.int a1), .val (.int b1), .val (.long q), .second, .val (.int u), .val (.int v1), .val (.ref r_1), .val (.ref r_3), .val (.ref r_5), .val (.ref ob6), .val (.ref ob11), .val (.ref t1_16), .val (.ref t1_18), .val (.ref t1_20), .val (.ref t1_22), .unset, .unset, .unset, .unset, .unset, .unset, .unset, .unset, .unset] [(.ref t1_16)])) _
  have fc23 : Fld Z T22.heap t1_16 "com/example/commit_to_chain/committochain/core/ChainAnswer" "result" "Ljava/lang/Object;" (.ref r_1) := (((g16_1.keep K18 nin0).keep K20 nin0).keep K22 nin0)
  have fc24 : Fld Z T22.heap t1_16 "com/example/commit_to_chain/committochain/core/ChainAnswer" "failure" "Lcom/example/commit_to_chain/committochain/core/ChainException;" .null := (((g16_2.keep K18 nin0).keep K20 nin0).keep K22 nin0)
  have O25 : Old Z n0 T22.heap := (O21.keep K22 all0)
  have fc27 : Exa Z T22.heap t1_16 "com/example/commit_to_chain/committochain/core/ChainAnswer" := (((g16_0.keep K18).keep K20).keep K22)
  obtain ⟨cq26, kq26, q26a, q26b, q26c⟩ := isOf hZ22 rfl fc27
  obtain ⟨_, _, ⟨T26, L26, k26, n26⟩, -, X26, ⟨Lc26, hQ26, l26, y26, z26⟩, st26⟩ := X22.virtualBack hx (y := (⟨"com/example/commit_to_chain/committochain/core/ChainAnswer", "get", "()Ljava/lang/Object;"⟩ : MethodName)) (z := (⟨"com/example/commit_to_chain/committochain/core/ChainAnswer", "get", "()Ljava/lang/Object;"⟩ : MethodName)) ho22 (mvT hZ22 (hw _ (List.mem_of_getElem? (i := 66) rfl))) (mvT hZ22 (hw _ (List.mem_of_getElem? (i := 67) rfl))) (notFace_of_selects (args := #[]) (mvT hZ22 (hw _ (List.mem_of_getElem? (i := 69) rfl)))) (mvT hZ22 (hw _ (List.mem_of_getElem? (i := 69) rfl))) (mvT hZ22 (hw _ (List.mem_of_getElem? (i := 68) rfl))) (by decide) (backOf (W := 0) (rm_get l Z a0 hw [] t1_16 r_1 T22.heap n0 O25 fc23 fc24) hZ22 (hw _ (List.mem_of_getElem? (i := 70) rfl)) (hw _ (List.mem_of_getElem? (i := 47) rfl)) (by decide) (by decide)) q26a q26c (g := (mkF m 86 #[.val (.int a1), .val (.int b1), .val (.long q), .second, .val (.int u), .val (.int v1), .val (.ref r_1), .val (.ref r_3), .val (.ref r_5), .val (.ref ob6), .val (.ref ob11), .val (.ref t1_16), .val (.ref t1_18), .val (.ref t1_20), .val (.ref t1_22), .unset, .unset, .unset, .unset, .unset, .unset, .unset, .unset, .unset] [(.ref t1_16)])) rfl (by rw [hml]; rfl) (Steps.refl _) (argsL := []) (rest := []) (lenOf own_pd__28_29Ljava_2flang_2fObject_3b rfl) rfl (by show 2 * 0 + _ ≤ _; exact Nat.le_of_eq rfl) (hb hby at_86) (fun _ _ => ⟨rfl, rfl, (by decide : 18 + 0 ≤ _), (by decide : 131 + 0 ≤ _)⟩)
  dsimp only [Pt.U, Pt.locs, Pt.cells, Pt.slots] at X26 l26 y26 z26 st26 hQ26
  subst l26 y26 z26
  obtain ⟨rfl, M26, K26⟩ := hQ26
  have N26 := Fr.app N22 M26
  refine own_by (fun _ k => st26.trans k) ?_
  show own_Go p e below (T26.setTop (mkF m 89 #[.val (.int a1), .val (.int b1), .val (.long q), .second, .val (.int u), .val (.int v1), .val (.ref r_1), .val (.ref r_3), .val (.ref r_5), .val (.ref ob6), .val (.ref ob11), .val (.ref t1_16), .val (.ref t1_18), .val (.ref t1_20), .val (.ref t1_22), .unset, .unset, .unset, .unset, .unset, .unset, .unset, .unset, .unset] [(.ref r_1)])) _
  have fc28 : Exa Z T22.heap r_1 "java/lang/Integer" := (((((((((((g1_0.keep K3).keep K5).ext E6).wr W8).wr W10).ext E11).keep K14).keep K16).keep K18).keep K20).keep K22)
  obtain ⟨T29, X29, e29, st29⟩ := castY X26 hx hZ22 ho22 (hw _ (List.mem_of_getElem? (i := 71) rfl)) K26 (Ins.self fc28) (g := (mkF m 89 #[.val (.int a1), .val (.int b1), .val (.long q), .second, .val (.int u), .val (.int v1), .val (.ref r_1), .val (.ref r_3), .val (.ref r_5), .val (.ref ob6), .val (.ref ob11), .val (.ref t1_16), .val (.ref t1_18), .val (.ref t1_20), .val (.ref t1_22), .unset, .unset, .unset, .unset, .unset, .unset, .unset, .unset, .unset] [(.ref r_1)])) rfl rfl (hb hby at_89)
  refine own_by st29 ?_
  show own_Go p e below (T29.setTop (mkF m 92 #[.val (.int a1), .val (.int b1), .val (.long q), .second, .val (.int u), .val (.int v1), .val (.ref r_1), .val (.ref r_3), .val (.ref r_5), .val (.ref ob6), .val (.ref ob11), .val (.ref t1_16), .val (.ref t1_18), .val (.ref t1_20), .val (.ref t1_22), .unset, .unset, .unset, .unset, .unset, .unset, .unset, .unset, .unset] [(.ref r_1)])) _
  refine own_by (fun _ k => XS.astore X29.here hx rfl (hb hby at_92) rfl rfl (l' := #[.val (.int a1), .val (.int b1), .val (.long q), .second, .val (.int u), .val (.int v1), .val (.ref r_1), .val (.ref r_3), .val (.ref r_5), .val (.ref ob6), .val (.ref ob11), .val (.ref t1_16), .val (.ref t1_18), .val (.ref t1_20), .val (.ref t1_22), .val (.ref r_1), .unset, .unset, .unset, .unset, .unset, .unset, .unset, .unset]) rfl k) ?_
  show own_Go p e below (T29.setTop (mkF m 94 #[.val (.int a1), .val (.int b1), .val (.long q), .second, .val (.int u), .val (.int v1), .val (.ref r_1), .val (.ref r_3), .val (.ref r_5), .val (.ref ob6), .val (.ref ob11), .val (.ref t1_16), .val (.ref t1_18), .val (.ref t1_20), .val (.ref t1_22), .val (.ref r_1), .unset, .unset, .unset, .unset, .unset, .unset, .unset, .unset] [])) _
  refine own_by (fun _ k => XS.aload X29.here hx rfl (hb hby at_94) rfl rfl k) ?_
  show own_Go p e below (T29.setTop (mkF m 96 #[.val (.int a1), .val (.int b1), .val (.long q), .second, .val (.int u), .val (.int v1), .val (.ref r_1), .val (.ref r_3), .val (.ref r_5), .val (.ref ob6), .val (.ref ob11), .val (.ref t1_16), .val (.ref t1_18), .val (.ref t1_20), .val (.ref t1_22), .val (.ref r_1), .unset, .unset, .unset, .unset, .unset, .unset, .unset, .unset] [(.ref t1_18)])) _
  have fc30 : Fld Z T22.heap t1_18 "com/example/commit_to_chain/committochain/core/ChainAnswer" "result" "Ljava/lang/Object;" (.ref r_3) := ((g18_1.keep K20 nin0).keep K22 nin0)
  have fc31 : Fld Z T22.heap t1_18 "com/example/commit_to_chain/committochain/core/ChainAnswer" "failure" "Lcom/example/commit_to_chain/committochain/core/ChainException;" .null := ((g18_2.keep K20 nin0).keep K22 nin0)
  have fc33 : Exa Z T22.heap t1_18 "com/example/commit_to_chain/committochain/core/ChainAnswer" := ((g18_0.keep K20).keep K22)
  obtain ⟨cq32, kq32, q32a, q32b, q32c⟩ := isOf hZ22 e29 fc33
  obtain ⟨_, _, ⟨T32, L32, k32, n32⟩, -, X32, ⟨Lc32, hQ32, l32, y32, z32⟩, st32⟩ := X29.virtualBack hx (y := (⟨"com/example/commit_to_chain/committochain/core/ChainAnswer", "get", "()Ljava/lang/Object;"⟩ : MethodName)) (z := (⟨"com/example/commit_to_chain/committochain/core/ChainAnswer", "get", "()Ljava/lang/Object;"⟩ : MethodName)) ho22 (mvT hZ22 (hw _ (List.mem_of_getElem? (i := 66) rfl))) (mvT hZ22 (hw _ (List.mem_of_getElem? (i := 67) rfl))) (notFace_of_selects (args := #[]) (mvT hZ22 (hw _ (List.mem_of_getElem? (i := 69) rfl)))) (mvT hZ22 (hw _ (List.mem_of_getElem? (i := 69) rfl))) (mvT hZ22 (hw _ (List.mem_of_getElem? (i := 68) rfl))) (by decide) (backOf (W := 0) (rm_get l Z a0 hw [] t1_18 r_3 T22.heap n0 O25 fc30 fc31) hZ22 (hw _ (List.mem_of_getElem? (i := 70) rfl)) (hw _ (List.mem_of_getElem? (i := 47) rfl)) (by decide) (by decide)) q32a q32c (g := (mkF m 96 #[.val (.int a1), .val (.int b1), .val (.long q), .second, .val (.int u), .val (.int v1), .val (.ref r_1), .val (.ref r_3), .val (.ref r_5), .val (.ref ob6), .val (.ref ob11), .val (.ref t1_16), .val (.ref t1_18), .val (.ref t1_20), .val (.ref t1_22), .val (.ref r_1), .unset, .unset, .unset, .unset, .unset, .unset, .unset, .unset] [(.ref t1_18)])) rfl (by rw [hml]; rfl) (Steps.refl _) (argsL := []) (rest := []) (lenOf own_pd__28_29Ljava_2flang_2fObject_3b rfl) rfl (by show 2 * 0 + _ ≤ _; exact Nat.le_of_eq rfl) (hb hby at_96) (fun _ _ => ⟨rfl, e29, (by decide : 18 + 0 ≤ _), (by decide : 131 + 0 ≤ _)⟩)
  dsimp only [Pt.U, Pt.locs, Pt.cells, Pt.slots] at X32 l32 y32 z32 st32 hQ32
  subst l32 y32 z32
  obtain ⟨rfl, M32, K32⟩ := hQ32
  have N32 := Fr.app N26 M32
  refine own_by (fun _ k => st32.trans k) ?_
  show own_Go p e below (T32.setTop (mkF m 99 #[.val (.int a1), .val (.int b1), .val (.long q), .second, .val (.int u), .val (.int v1), .val (.ref r_1), .val (.ref r_3), .val (.ref r_5), .val (.ref ob6), .val (.ref ob11), .val (.ref t1_16), .val (.ref t1_18), .val (.ref t1_20), .val (.ref t1_22), .val (.ref r_1), .unset, .unset, .unset, .unset, .unset, .unset, .unset, .unset] [(.ref r_3)])) _
  have fc34 : Exa Z T22.heap r_3 "java/lang/Integer" := ((((((((((g3_0.keep K5).ext E6).wr W8).wr W10).ext E11).keep K14).keep K16).keep K18).keep K20).keep K22)
  obtain ⟨T35, X35, e35, st35⟩ := castY X32 hx hZ22 ho22 (hw _ (List.mem_of_getElem? (i := 71) rfl)) K32 (Ins.self fc34) (g := (mkF m 99 #[.val (.int a1), .val (.int b1), .val (.long q), .second, .val (.int u), .val (.int v1), .val (.ref r_1), .val (.ref r_3), .val (.ref r_5), .val (.ref ob6), .val (.ref ob11), .val (.ref t1_16), .val (.ref t1_18), .val (.ref t1_20), .val (.ref t1_22), .val (.ref r_1), .unset, .unset, .unset, .unset, .unset, .unset, .unset, .unset] [(.ref r_3)])) rfl rfl (hb hby at_99)
  refine own_by st35 ?_
  show own_Go p e below (T35.setTop (mkF m 102 #[.val (.int a1), .val (.int b1), .val (.long q), .second, .val (.int u), .val (.int v1), .val (.ref r_1), .val (.ref r_3), .val (.ref r_5), .val (.ref ob6), .val (.ref ob11), .val (.ref t1_16), .val (.ref t1_18), .val (.ref t1_20), .val (.ref t1_22), .val (.ref r_1), .unset, .unset, .unset, .unset, .unset, .unset, .unset, .unset] [(.ref r_3)])) _
  refine own_by (fun _ k => XS.astore X35.here hx rfl (hb hby at_102) rfl rfl (l' := #[.val (.int a1), .val (.int b1), .val (.long q), .second, .val (.int u), .val (.int v1), .val (.ref r_1), .val (.ref r_3), .val (.ref r_5), .val (.ref ob6), .val (.ref ob11), .val (.ref t1_16), .val (.ref t1_18), .val (.ref t1_20), .val (.ref t1_22), .val (.ref r_1), .val (.ref r_3), .unset, .unset, .unset, .unset, .unset, .unset, .unset]) rfl k) ?_
  show own_Go p e below (T35.setTop (mkF m 104 #[.val (.int a1), .val (.int b1), .val (.long q), .second, .val (.int u), .val (.int v1), .val (.ref r_1), .val (.ref r_3), .val (.ref r_5), .val (.ref ob6), .val (.ref ob11), .val (.ref t1_16), .val (.ref t1_18), .val (.ref t1_20), .val (.ref t1_22), .val (.ref r_1), .val (.ref r_3), .unset, .unset, .unset, .unset, .unset, .unset, .unset] [])) _
  refine own_by (fun _ k => XS.aload X35.here hx rfl (hb hby at_104) rfl rfl k) ?_
  show own_Go p e below (T35.setTop (mkF m 106 #[.val (.int a1), .val (.int b1), .val (.long q), .second, .val (.int u), .val (.int v1), .val (.ref r_1), .val (.ref r_3), .val (.ref r_5), .val (.ref ob6), .val (.ref ob11), .val (.ref t1_16), .val (.ref t1_18), .val (.ref t1_20), .val (.ref t1_22), .val (.ref r_1), .val (.ref r_3), .unset, .unset, .unset, .unset, .unset, .unset, .unset] [(.ref t1_20)])) _
  have fc36 : Fld Z T22.heap t1_20 "com/example/commit_to_chain/committochain/core/ChainAnswer" "result" "Ljava/lang/Object;" (.ref r_5) := (g20_1.keep K22 nin0)
  have fc37 : Fld Z T22.heap t1_20 "com/example/commit_to_chain/committochain/core/ChainAnswer" "failure" "Lcom/example/commit_to_chain/committochain/core/ChainException;" .null := (g20_2.keep K22 nin0)
  have fc39 : Exa Z T22.heap t1_20 "com/example/commit_to_chain/committochain/core/ChainAnswer" := (g20_0.keep K22)
  obtain ⟨cq38, kq38, q38a, q38b, q38c⟩ := isOf hZ22 e35 fc39
  obtain ⟨_, _, ⟨T38, L38, k38, n38⟩, -, X38, ⟨Lc38, hQ38, l38, y38, z38⟩, st38⟩ := X35.virtualBack hx (y := (⟨"com/example/commit_to_chain/committochain/core/ChainAnswer", "get", "()Ljava/lang/Object;"⟩ : MethodName)) (z := (⟨"com/example/commit_to_chain/committochain/core/ChainAnswer", "get", "()Ljava/lang/Object;"⟩ : MethodName)) ho22 (mvT hZ22 (hw _ (List.mem_of_getElem? (i := 66) rfl))) (mvT hZ22 (hw _ (List.mem_of_getElem? (i := 67) rfl))) (notFace_of_selects (args := #[]) (mvT hZ22 (hw _ (List.mem_of_getElem? (i := 69) rfl)))) (mvT hZ22 (hw _ (List.mem_of_getElem? (i := 69) rfl))) (mvT hZ22 (hw _ (List.mem_of_getElem? (i := 68) rfl))) (by decide) (backOf (W := 0) (rm_get l Z a0 hw [] t1_20 r_5 T22.heap n0 O25 fc36 fc37) hZ22 (hw _ (List.mem_of_getElem? (i := 70) rfl)) (hw _ (List.mem_of_getElem? (i := 47) rfl)) (by decide) (by decide)) q38a q38c (g := (mkF m 106 #[.val (.int a1), .val (.int b1), .val (.long q), .second, .val (.int u), .val (.int v1), .val (.ref r_1), .val (.ref r_3), .val (.ref r_5), .val (.ref ob6), .val (.ref ob11), .val (.ref t1_16), .val (.ref t1_18), .val (.ref t1_20), .val (.ref t1_22), .val (.ref r_1), .val (.ref r_3), .unset, .unset, .unset, .unset, .unset, .unset, .unset] [(.ref t1_20)])) rfl (by rw [hml]; rfl) (Steps.refl _) (argsL := []) (rest := []) (lenOf own_pd__28_29Ljava_2flang_2fObject_3b rfl) rfl (by show 2 * 0 + _ ≤ _; exact Nat.le_of_eq rfl) (hb hby at_106) (fun _ _ => ⟨rfl, e35, (by decide : 18 + 0 ≤ _), (by decide : 131 + 0 ≤ _)⟩)
  dsimp only [Pt.U, Pt.locs, Pt.cells, Pt.slots] at X38 l38 y38 z38 st38 hQ38
  subst l38 y38 z38
  obtain ⟨rfl, M38, K38⟩ := hQ38
  have N38 := Fr.app N32 M38
  refine own_by (fun _ k => st38.trans k) ?_
  show own_Go p e below (T38.setTop (mkF m 109 #[.val (.int a1), .val (.int b1), .val (.long q), .second, .val (.int u), .val (.int v1), .val (.ref r_1), .val (.ref r_3), .val (.ref r_5), .val (.ref ob6), .val (.ref ob11), .val (.ref t1_16), .val (.ref t1_18), .val (.ref t1_20), .val (.ref t1_22), .val (.ref r_1), .val (.ref r_3), .unset, .unset, .unset, .unset, .unset, .unset, .unset] [(.ref r_5)])) _
  have fc40 : Exa Z T22.heap r_5 "java/lang/Long" := (((((((((g5_0.ext E6).wr W8).wr W10).ext E11).keep K14).keep K16).keep K18).keep K20).keep K22)
  obtain ⟨T41, X41, e41, st41⟩ := castY X38 hx hZ22 ho22 (hw _ (List.mem_of_getElem? (i := 73) rfl)) K38 (Ins.self fc40) (g := (mkF m 109 #[.val (.int a1), .val (.int b1), .val (.long q), .second, .val (.int u), .val (.int v1), .val (.ref r_1), .val (.ref r_3), .val (.ref r_5), .val (.ref ob6), .val (.ref ob11), .val (.ref t1_16), .val (.ref t1_18), .val (.ref t1_20), .val (.ref t1_22), .val (.ref r_1), .val (.ref r_3), .unset, .unset, .unset, .unset, .unset, .unset, .unset] [(.ref r_5)])) rfl rfl (hb hby at_109)
  refine own_by st41 ?_
  show own_Go p e below (T41.setTop (mkF m 112 #[.val (.int a1), .val (.int b1), .val (.long q), .second, .val (.int u), .val (.int v1), .val (.ref r_1), .val (.ref r_3), .val (.ref r_5), .val (.ref ob6), .val (.ref ob11), .val (.ref t1_16), .val (.ref t1_18), .val (.ref t1_20), .val (.ref t1_22), .val (.ref r_1), .val (.ref r_3), .unset, .unset, .unset, .unset, .unset, .unset, .unset] [(.ref r_5)])) _
  refine own_by (fun _ k => XS.astore X41.here hx rfl (hb hby at_112) rfl rfl (l' := #[.val (.int a1), .val (.int b1), .val (.long q), .second, .val (.int u), .val (.int v1), .val (.ref r_1), .val (.ref r_3), .val (.ref r_5), .val (.ref ob6), .val (.ref ob11), .val (.ref t1_16), .val (.ref t1_18), .val (.ref t1_20), .val (.ref t1_22), .val (.ref r_1), .val (.ref r_3), .val (.ref r_5), .unset, .unset, .unset, .unset, .unset, .unset]) rfl k) ?_
  show own_Go p e below (T41.setTop (mkF m 114 #[.val (.int a1), .val (.int b1), .val (.long q), .second, .val (.int u), .val (.int v1), .val (.ref r_1), .val (.ref r_3), .val (.ref r_5), .val (.ref ob6), .val (.ref ob11), .val (.ref t1_16), .val (.ref t1_18), .val (.ref t1_20), .val (.ref t1_22), .val (.ref r_1), .val (.ref r_3), .val (.ref r_5), .unset, .unset, .unset, .unset, .unset, .unset] [])) _
  refine own_by (fun _ k => XS.aload X41.here hx rfl (hb hby at_114) rfl rfl k) ?_
  show own_Go p e below (T41.setTop (mkF m 116 #[.val (.int a1), .val (.int b1), .val (.long q), .second, .val (.int u), .val (.int v1), .val (.ref r_1), .val (.ref r_3), .val (.ref r_5), .val (.ref ob6), .val (.ref ob11), .val (.ref t1_16), .val (.ref t1_18), .val (.ref t1_20), .val (.ref t1_22), .val (.ref r_1), .val (.ref r_3), .val (.ref r_5), .unset, .unset, .unset, .unset, .unset, .unset] [(.ref t1_22)])) _
  obtain ⟨cq42, kq42, q42a, q42b, q42c⟩ := isOf hZ22 e41 g22_0
  obtain ⟨_, _, ⟨T42, L42, k42, n42⟩, -, X42, ⟨Lc42, hQ42, l42, y42, z42⟩, st42⟩ := X41.virtualBack hx (y := (⟨"com/example/commit_to_chain/committochain/core/ChainAnswer", "get", "()Ljava/lang/Object;"⟩ : MethodName)) (z := (⟨"com/example/commit_to_chain/committochain/core/ChainAnswer", "get", "()Ljava/lang/Object;"⟩ : MethodName)) ho22 (mvT hZ22 (hw _ (List.mem_of_getElem? (i := 66) rfl))) (mvT hZ22 (hw _ (List.mem_of_getElem? (i := 67) rfl))) (notFace_of_selects (args := #[]) (mvT hZ22 (hw _ (List.mem_of_getElem? (i := 69) rfl)))) (mvT hZ22 (hw _ (List.mem_of_getElem? (i := 69) rfl))) (mvT hZ22 (hw _ (List.mem_of_getElem? (i := 68) rfl))) (by decide) (backOf (W := 0) (rm_get l Z a0 hw [] t1_22 ob11 T22.heap n0 O25 g22_1 g22_2) hZ22 (hw _ (List.mem_of_getElem? (i := 70) rfl)) (hw _ (List.mem_of_getElem? (i := 47) rfl)) (by decide) (by decide)) q42a q42c (g := (mkF m 116 #[.val (.int a1), .val (.int b1), .val (.long q), .second, .val (.int u), .val (.int v1), .val (.ref r_1), .val (.ref r_3), .val (.ref r_5), .val (.ref ob6), .val (.ref ob11), .val (.ref t1_16), .val (.ref t1_18), .val (.ref t1_20), .val (.ref t1_22), .val (.ref r_1), .val (.ref r_3), .val (.ref r_5), .unset, .unset, .unset, .unset, .unset, .unset] [(.ref t1_22)])) rfl (by rw [hml]; rfl) (Steps.refl _) (argsL := []) (rest := []) (lenOf own_pd__28_29Ljava_2flang_2fObject_3b rfl) rfl (by show 2 * 0 + _ ≤ _; exact Nat.le_of_eq rfl) (hb hby at_116) (fun _ _ => ⟨rfl, e41, (by decide : 18 + 0 ≤ _), (by decide : 131 + 0 ≤ _)⟩)
  dsimp only [Pt.U, Pt.locs, Pt.cells, Pt.slots] at X42 l42 y42 z42 st42 hQ42
  subst l42 y42 z42
  obtain ⟨rfl, M42, K42⟩ := hQ42
  have N42 := Fr.app N38 M42
  refine own_by (fun _ k => st42.trans k) ?_
  show own_Go p e below (T42.setTop (mkF m 119 #[.val (.int a1), .val (.int b1), .val (.long q), .second, .val (.int u), .val (.int v1), .val (.ref r_1), .val (.ref r_3), .val (.ref r_5), .val (.ref ob6), .val (.ref ob11), .val (.ref t1_16), .val (.ref t1_18), .val (.ref t1_20), .val (.ref t1_22), .val (.ref r_1), .val (.ref r_3), .val (.ref r_5), .unset, .unset, .unset, .unset, .unset, .unset] [(.ref ob11)])) _
  have fc43 : Exa Z T22.heap ob11 "java/lang/String" := ((((g14_0.keep K16).keep K18).keep K20).keep K22)
  obtain ⟨T44, X44, e44, st44⟩ := castY X42 hx hZ22 ho22 (hw _ (List.mem_of_getElem? (i := 16) rfl)) K42 (Ins.self fc43) (g := (mkF m 119 #[.val (.int a1), .val (.int b1), .val (.long q), .second, .val (.int u), .val (.int v1), .val (.ref r_1), .val (.ref r_3), .val (.ref r_5), .val (.ref ob6), .val (.ref ob11), .val (.ref t1_16), .val (.ref t1_18), .val (.ref t1_20), .val (.ref t1_22), .val (.ref r_1), .val (.ref r_3), .val (.ref r_5), .unset, .unset, .unset, .unset, .unset, .unset] [(.ref ob11)])) rfl rfl (hb hby at_119)
  refine own_by st44 ?_
  show own_Go p e below (T44.setTop (mkF m 122 #[.val (.int a1), .val (.int b1), .val (.long q), .second, .val (.int u), .val (.int v1), .val (.ref r_1), .val (.ref r_3), .val (.ref r_5), .val (.ref ob6), .val (.ref ob11), .val (.ref t1_16), .val (.ref t1_18), .val (.ref t1_20), .val (.ref t1_22), .val (.ref r_1), .val (.ref r_3), .val (.ref r_5), .unset, .unset, .unset, .unset, .unset, .unset] [(.ref ob11)])) _
  refine own_by (fun _ k => XS.astore X44.here hx rfl (hb hby at_122) rfl rfl (l' := #[.val (.int a1), .val (.int b1), .val (.long q), .second, .val (.int u), .val (.int v1), .val (.ref r_1), .val (.ref r_3), .val (.ref r_5), .val (.ref ob6), .val (.ref ob11), .val (.ref t1_16), .val (.ref t1_18), .val (.ref t1_20), .val (.ref t1_22), .val (.ref r_1), .val (.ref r_3), .val (.ref r_5), .val (.ref ob11), .unset, .unset, .unset, .unset, .unset]) rfl k) ?_
  show own_Go p e below (T44.setTop (mkF m 124 #[.val (.int a1), .val (.int b1), .val (.long q), .second, .val (.int u), .val (.int v1), .val (.ref r_1), .val (.ref r_3), .val (.ref r_5), .val (.ref ob6), .val (.ref ob11), .val (.ref t1_16), .val (.ref t1_18), .val (.ref t1_20), .val (.ref t1_22), .val (.ref r_1), .val (.ref r_3), .val (.ref r_5), .val (.ref ob11), .unset, .unset, .unset, .unset, .unset] [])) _
  refine own_by (fun _ k => XS.aload X44.here hx rfl (hb hby at_124) rfl rfl k) ?_
  show own_Go p e below (T44.setTop (mkF m 126 #[.val (.int a1), .val (.int b1), .val (.long q), .second, .val (.int u), .val (.int v1), .val (.ref r_1), .val (.ref r_3), .val (.ref r_5), .val (.ref ob6), .val (.ref ob11), .val (.ref t1_16), .val (.ref t1_18), .val (.ref t1_20), .val (.ref t1_22), .val (.ref r_1), .val (.ref r_3), .val (.ref r_5), .val (.ref ob11), .unset, .unset, .unset, .unset, .unset] [(.ref t1_16)])) _
  obtain ⟨cq45, kq45, q45a, q45b, q45c⟩ := isOf hZ22 e44 fc27
  obtain ⟨_, _, ⟨T45, L45, k45, n45⟩, -, X45, ⟨Lc45, hQ45, l45, y45, z45⟩, st45⟩ := X44.virtualBack hx (y := (⟨"com/example/commit_to_chain/committochain/core/ChainAnswer", "get", "()Ljava/lang/Object;"⟩ : MethodName)) (z := (⟨"com/example/commit_to_chain/committochain/core/ChainAnswer", "get", "()Ljava/lang/Object;"⟩ : MethodName)) ho22 (mvT hZ22 (hw _ (List.mem_of_getElem? (i := 66) rfl))) (mvT hZ22 (hw _ (List.mem_of_getElem? (i := 67) rfl))) (notFace_of_selects (args := #[]) (mvT hZ22 (hw _ (List.mem_of_getElem? (i := 69) rfl)))) (mvT hZ22 (hw _ (List.mem_of_getElem? (i := 69) rfl))) (mvT hZ22 (hw _ (List.mem_of_getElem? (i := 68) rfl))) (by decide) (backOf (W := 0) (rm_get l Z a0 hw [] t1_16 r_1 T22.heap n0 O25 fc23 fc24) hZ22 (hw _ (List.mem_of_getElem? (i := 70) rfl)) (hw _ (List.mem_of_getElem? (i := 47) rfl)) (by decide) (by decide)) q45a q45c (g := (mkF m 126 #[.val (.int a1), .val (.int b1), .val (.long q), .second, .val (.int u), .val (.int v1), .val (.ref r_1), .val (.ref r_3), .val (.ref r_5), .val (.ref ob6), .val (.ref ob11), .val (.ref t1_16), .val (.ref t1_18), .val (.ref t1_20), .val (.ref t1_22), .val (.ref r_1), .val (.ref r_3), .val (.ref r_5), .val (.ref ob11), .unset, .unset, .unset, .unset, .unset] [(.ref t1_16)])) rfl (by rw [hml]; rfl) (Steps.refl _) (argsL := []) (rest := []) (lenOf own_pd__28_29Ljava_2flang_2fObject_3b rfl) rfl (by show 2 * 0 + _ ≤ _; exact Nat.le_of_eq rfl) (hb hby at_126) (fun _ _ => ⟨rfl, e44, (by decide : 18 + 0 ≤ _), (by decide : 131 + 0 ≤ _)⟩)
  dsimp only [Pt.U, Pt.locs, Pt.cells, Pt.slots] at X45 l45 y45 z45 st45 hQ45
  subst l45 y45 z45
  obtain ⟨rfl, M45, K45⟩ := hQ45
  have N45 := Fr.app N42 M45
  refine own_by (fun _ k => st45.trans k) ?_
  show own_Go p e below (T45.setTop (mkF m 129 #[.val (.int a1), .val (.int b1), .val (.long q), .second, .val (.int u), .val (.int v1), .val (.ref r_1), .val (.ref r_3), .val (.ref r_5), .val (.ref ob6), .val (.ref ob11), .val (.ref t1_16), .val (.ref t1_18), .val (.ref t1_20), .val (.ref t1_22), .val (.ref r_1), .val (.ref r_3), .val (.ref r_5), .val (.ref ob11), .unset, .unset, .unset, .unset, .unset] [(.ref r_1)])) _
  obtain ⟨T46, X46, e46, st46⟩ := castY X45 hx hZ22 ho22 (hw _ (List.mem_of_getElem? (i := 71) rfl)) K45 (Ins.self fc28) (g := (mkF m 129 #[.val (.int a1), .val (.int b1), .val (.long q), .second, .val (.int u), .val (.int v1), .val (.ref r_1), .val (.ref r_3), .val (.ref r_5), .val (.ref ob6), .val (.ref ob11), .val (.ref t1_16), .val (.ref t1_18), .val (.ref t1_20), .val (.ref t1_22), .val (.ref r_1), .val (.ref r_3), .val (.ref r_5), .val (.ref ob11), .unset, .unset, .unset, .unset, .unset] [(.ref r_1)])) rfl rfl (hb hby at_129)
  refine own_by st46 ?_
  show own_Go p e below (T46.setTop (mkF m 132 #[.val (.int a1), .val (.int b1), .val (.long q), .second, .val (.int u), .val (.int v1), .val (.ref r_1), .val (.ref r_3), .val (.ref r_5), .val (.ref ob6), .val (.ref ob11), .val (.ref t1_16), .val (.ref t1_18), .val (.ref t1_20), .val (.ref t1_22), .val (.ref r_1), .val (.ref r_3), .val (.ref r_5), .val (.ref ob11), .unset, .unset, .unset, .unset, .unset] [(.ref r_1)])) _
  refine own_by (fun _ k => XS.astore X46.here hx rfl (hb hby at_132) rfl rfl (l' := #[.val (.int a1), .val (.int b1), .val (.long q), .second, .val (.int u), .val (.int v1), .val (.ref r_1), .val (.ref r_3), .val (.ref r_5), .val (.ref ob6), .val (.ref ob11), .val (.ref t1_16), .val (.ref t1_18), .val (.ref t1_20), .val (.ref t1_22), .val (.ref r_1), .val (.ref r_3), .val (.ref r_5), .val (.ref ob11), .val (.ref r_1), .unset, .unset, .unset, .unset]) rfl k) ?_
  show own_Go p e below (T46.setTop (mkF m 134 #[.val (.int a1), .val (.int b1), .val (.long q), .second, .val (.int u), .val (.int v1), .val (.ref r_1), .val (.ref r_3), .val (.ref r_5), .val (.ref ob6), .val (.ref ob11), .val (.ref t1_16), .val (.ref t1_18), .val (.ref t1_20), .val (.ref t1_22), .val (.ref r_1), .val (.ref r_3), .val (.ref r_5), .val (.ref ob11), .val (.ref r_1), .unset, .unset, .unset, .unset] [])) _
  refine own_by (fun _ k => XS.aload X46.here hx rfl (hb hby at_134) rfl rfl k) ?_
  show own_Go p e below (T46.setTop (mkF m 136 #[.val (.int a1), .val (.int b1), .val (.long q), .second, .val (.int u), .val (.int v1), .val (.ref r_1), .val (.ref r_3), .val (.ref r_5), .val (.ref ob6), .val (.ref ob11), .val (.ref t1_16), .val (.ref t1_18), .val (.ref t1_20), .val (.ref t1_22), .val (.ref r_1), .val (.ref r_3), .val (.ref r_5), .val (.ref ob11), .val (.ref r_1), .unset, .unset, .unset, .unset] [(.ref r_1)])) _
  refine own_by (fun _ k => XS.aload X46.here hx rfl (hb hby at_136) rfl rfl k) ?_
  show own_Go p e below (T46.setTop (mkF m 138 #[.val (.int a1), .val (.int b1), .val (.long q), .second, .val (.int u), .val (.int v1), .val (.ref r_1), .val (.ref r_3), .val (.ref r_5), .val (.ref ob6), .val (.ref ob11), .val (.ref t1_16), .val (.ref t1_18), .val (.ref t1_20), .val (.ref t1_22), .val (.ref r_1), .val (.ref r_3), .val (.ref r_5), .val (.ref ob11), .val (.ref r_1), .unset, .unset, .unset, .unset] [(.ref r_1), (.ref r_1)])) _
  refine own_by (fun _ k => Jvm.RoadKit.acmp (g := (mkF m 138 #[.val (.int a1), .val (.int b1), .val (.long q), .second, .val (.int u), .val (.int v1), .val (.ref r_1), .val (.ref r_3), .val (.ref r_5), .val (.ref ob6), .val (.ref ob11), .val (.ref t1_16), .val (.ref t1_18), .val (.ref t1_20), .val (.ref t1_22), .val (.ref r_1), .val (.ref r_3), .val (.ref r_5), .val (.ref ob11), .val (.ref r_1), .unset, .unset, .unset, .unset] [(.ref r_1), (.ref r_1)])) X46 hx rfl rfl rfl (pc0 := 138) (pc' := 141) (same := true) rfl (hb hby at_138) rfl (decide_eq_true rfl) (by decide) (by decide) k) ?_
  show own_Go p e below (T46.setTop (mkF m 141 #[.val (.int a1), .val (.int b1), .val (.long q), .second, .val (.int u), .val (.int v1), .val (.ref r_1), .val (.ref r_3), .val (.ref r_5), .val (.ref ob6), .val (.ref ob11), .val (.ref t1_16), .val (.ref t1_18), .val (.ref t1_20), .val (.ref t1_22), .val (.ref r_1), .val (.ref r_3), .val (.ref r_5), .val (.ref ob11), .val (.ref r_1), .unset, .unset, .unset, .unset] [])) _
  refine own_by (fun _ k => XS.aload X46.here hx rfl (hb hby at_141) rfl rfl k) ?_
  show own_Go p e below (T46.setTop (mkF m 143 #[.val (.int a1), .val (.int b1), .val (.long q), .second, .val (.int u), .val (.int v1), .val (.ref r_1), .val (.ref r_3), .val (.ref r_5), .val (.ref ob6), .val (.ref ob11), .val (.ref t1_16), .val (.ref t1_18), .val (.ref t1_20), .val (.ref t1_22), .val (.ref r_1), .val (.ref r_3), .val (.ref r_5), .val (.ref ob11), .val (.ref r_1), .unset, .unset, .unset, .unset] [(.ref r_1)])) _
  refine own_by (fun _ k => XS.aload X46.here hx rfl (hb hby at_143) rfl rfl k) ?_
  show own_Go p e below (T46.setTop (mkF m 145 #[.val (.int a1), .val (.int b1), .val (.long q), .second, .val (.int u), .val (.int v1), .val (.ref r_1), .val (.ref r_3), .val (.ref r_5), .val (.ref ob6), .val (.ref ob11), .val (.ref t1_16), .val (.ref t1_18), .val (.ref t1_20), .val (.ref t1_22), .val (.ref r_1), .val (.ref r_3), .val (.ref r_5), .val (.ref ob11), .val (.ref r_1), .unset, .unset, .unset, .unset] [(.ref r_1), (.ref r_1)])) _
  refine own_by (fun _ k => Jvm.RoadKit.acmp (g := (mkF m 145 #[.val (.int a1), .val (.int b1), .val (.long q), .second, .val (.int u), .val (.int v1), .val (.ref r_1), .val (.ref r_3), .val (.ref r_5), .val (.ref ob6), .val (.ref ob11), .val (.ref t1_16), .val (.ref t1_18), .val (.ref t1_20), .val (.ref t1_22), .val (.ref r_1), .val (.ref r_3), .val (.ref r_5), .val (.ref ob11), .val (.ref r_1), .unset, .unset, .unset, .unset] [(.ref r_1), (.ref r_1)])) X46 hx rfl rfl rfl (pc0 := 145) (pc' := 148) (same := true) rfl (hb hby at_145) rfl (decide_eq_true rfl) (by decide) (by decide) k) ?_
  show own_Go p e below (T46.setTop (mkF m 148 #[.val (.int a1), .val (.int b1), .val (.long q), .second, .val (.int u), .val (.int v1), .val (.ref r_1), .val (.ref r_3), .val (.ref r_5), .val (.ref ob6), .val (.ref ob11), .val (.ref t1_16), .val (.ref t1_18), .val (.ref t1_20), .val (.ref t1_22), .val (.ref r_1), .val (.ref r_3), .val (.ref r_5), .val (.ref ob11), .val (.ref r_1), .unset, .unset, .unset, .unset] [])) _
  refine own_by (fun _ k => XS.aload X46.here hx rfl (hb hby at_148) rfl rfl k) ?_
  show own_Go p e below (T46.setTop (mkF m 150 #[.val (.int a1), .val (.int b1), .val (.long q), .second, .val (.int u), .val (.int v1), .val (.ref r_1), .val (.ref r_3), .val (.ref r_5), .val (.ref ob6), .val (.ref ob11), .val (.ref t1_16), .val (.ref t1_18), .val (.ref t1_20), .val (.ref t1_22), .val (.ref r_1), .val (.ref r_3), .val (.ref r_5), .val (.ref ob11), .val (.ref r_1), .unset, .unset, .unset, .unset] [(.ref r_1)])) _
  have fc47 : Fld Z T22.heap r_1 "java/lang/Integer" "value" "I" (.int a1) := (((((((((((g1_1.keep K3 nin0).keep K5 nin0).ext E6).other W8 (Or.inl (own_ne (by omega)))).other W10 (Or.inl (own_ne (by omega)))).ext E11).keep K14 (ninS (own_ne (by omega)) nin0)).keep K16 nin0).keep K18 nin0).keep K20 nin0).keep K22 nin0)
  obtain ⟨cq48, kq48, q48a, q48b, q48c⟩ := isOf hZ22 e46 fc28
  obtain ⟨_, _, ⟨T48, L48, k48, n48⟩, -, X48, ⟨Lc48, hQ48, l48, y48, z48⟩, st48⟩ := X46.virtualBack hx (y := (⟨"java/lang/Integer", "intValue", "()I"⟩ : MethodName)) (z := (⟨"java/lang/Integer", "intValue", "()I"⟩ : MethodName)) ho22 (mvT hZ22 (hw _ (List.mem_of_getElem? (i := 75) rfl))) (mvT hZ22 (hw _ (List.mem_of_getElem? (i := 76) rfl))) (notFace_of_selects (args := #[]) (mvT hZ22 (hw _ (List.mem_of_getElem? (i := 78) rfl)))) (mvT hZ22 (hw _ (List.mem_of_getElem? (i := 78) rfl))) (mvT hZ22 (hw _ (List.mem_of_getElem? (i := 77) rfl))) (by decide) (backOf (W := 0) (rm_iget l Z a0 hw [] r_1 a1 T22.heap n0 O25 fc47) hZ22 (hw _ (List.mem_of_getElem? (i := 79) rfl)) (hw _ (List.mem_of_getElem? (i := 2) rfl)) (by decide) (by decide)) q48a q48c (g := (mkF m 150 #[.val (.int a1), .val (.int b1), .val (.long q), .second, .val (.int u), .val (.int v1), .val (.ref r_1), .val (.ref r_3), .val (.ref r_5), .val (.ref ob6), .val (.ref ob11), .val (.ref t1_16), .val (.ref t1_18), .val (.ref t1_20), .val (.ref t1_22), .val (.ref r_1), .val (.ref r_3), .val (.ref r_5), .val (.ref ob11), .val (.ref r_1), .unset, .unset, .unset, .unset] [(.ref r_1)])) rfl (by rw [hml]; rfl) (Steps.refl _) (argsL := []) (rest := []) (lenOf own_pd__28_29I rfl) rfl (by show 2 * 0 + _ ≤ _; exact Nat.le_of_eq rfl) (hb hby at_150) (fun _ _ => ⟨rfl, e46, (by decide : 18 + 0 ≤ _), (by decide : 131 + 0 ≤ _)⟩)
  dsimp only [Pt.U, Pt.locs, Pt.cells, Pt.slots] at X48 l48 y48 z48 st48 hQ48
  subst l48 y48 z48
  obtain ⟨rfl, M48, K48⟩ := hQ48
  have N48 := Fr.app N45 M48
  refine own_by (fun _ k => st48.trans k) ?_
  show own_Go p e below (T48.setTop (mkF m 153 #[.val (.int a1), .val (.int b1), .val (.long q), .second, .val (.int u), .val (.int v1), .val (.ref r_1), .val (.ref r_3), .val (.ref r_5), .val (.ref ob6), .val (.ref ob11), .val (.ref t1_16), .val (.ref t1_18), .val (.ref t1_20), .val (.ref t1_22), .val (.ref r_1), .val (.ref r_3), .val (.ref r_5), .val (.ref ob11), .val (.ref r_1), .unset, .unset, .unset, .unset] [(.int a1)])) _
  refine own_by (fun _ k => XS.iloadN X48.here hx rfl (hb hby at_153) rfl k) ?_
  show own_Go p e below (T48.setTop (mkF m 154 #[.val (.int a1), .val (.int b1), .val (.long q), .second, .val (.int u), .val (.int v1), .val (.ref r_1), .val (.ref r_3), .val (.ref r_5), .val (.ref ob6), .val (.ref ob11), .val (.ref t1_16), .val (.ref t1_18), .val (.ref t1_20), .val (.ref t1_22), .val (.ref r_1), .val (.ref r_3), .val (.ref r_5), .val (.ref ob11), .val (.ref r_1), .unset, .unset, .unset, .unset] [(.int a1), (.int a1)])) _
  refine own_by (fun _ k => XS.icmpNo X48.here hx rfl (hb hby at_154) rfl (teq (rfl : a1 = a1)).2 k) ?_
  show own_Go p e below (T48.setTop (mkF m 157 #[.val (.int a1), .val (.int b1), .val (.long q), .second, .val (.int u), .val (.int v1), .val (.ref r_1), .val (.ref r_3), .val (.ref r_5), .val (.ref ob6), .val (.ref ob11), .val (.ref t1_16), .val (.ref t1_18), .val (.ref t1_20), .val (.ref t1_22), .val (.ref r_1), .val (.ref r_3), .val (.ref r_5), .val (.ref ob11), .val (.ref r_1), .unset, .unset, .unset, .unset] [])) _
  refine own_by (fun _ k => XS.iconst X48.here hx rfl (hb hby at_157) k) ?_
  show own_Go p e below (T48.setTop (mkF m 158 #[.val (.int a1), .val (.int b1), .val (.long q), .second, .val (.int u), .val (.int v1), .val (.ref r_1), .val (.ref r_3), .val (.ref r_5), .val (.ref ob6), .val (.ref ob11), .val (.ref t1_16), .val (.ref t1_18), .val (.ref t1_20), .val (.ref t1_22), .val (.ref r_1), .val (.ref r_3), .val (.ref r_5), .val (.ref ob11), .val (.ref r_1), .unset, .unset, .unset, .unset] [(.int (1 : Int32))])) _
  refine own_by (fun _ k => XS.goto X48.here hx rfl (pc0 := 158) (pc' := 162) rfl (hb hby at_158) (by decide) (by decide) k) ?_
  show own_Go p e below (T48.setTop (mkF m 162 #[.val (.int a1), .val (.int b1), .val (.long q), .second, .val (.int u), .val (.int v1), .val (.ref r_1), .val (.ref r_3), .val (.ref r_5), .val (.ref ob6), .val (.ref ob11), .val (.ref t1_16), .val (.ref t1_18), .val (.ref t1_20), .val (.ref t1_22), .val (.ref r_1), .val (.ref r_3), .val (.ref r_5), .val (.ref ob11), .val (.ref r_1), .unset, .unset, .unset, .unset] [(.int (1 : Int32))])) _
  refine own_by (fun _ k => XS.istore X48.here hx rfl (hb hby at_162) rfl (l' := #[.val (.int a1), .val (.int b1), .val (.long q), .second, .val (.int u), .val (.int v1), .val (.ref r_1), .val (.ref r_3), .val (.ref r_5), .val (.ref ob6), .val (.ref ob11), .val (.ref t1_16), .val (.ref t1_18), .val (.ref t1_20), .val (.ref t1_22), .val (.ref r_1), .val (.ref r_3), .val (.ref r_5), .val (.ref ob11), .val (.ref r_1), .val (.int (1 : Int32)), .unset, .unset, .unset]) rfl k) ?_
  show own_Go p e below (T48.setTop (mkF m 164 #[.val (.int a1), .val (.int b1), .val (.long q), .second, .val (.int u), .val (.int v1), .val (.ref r_1), .val (.ref r_3), .val (.ref r_5), .val (.ref ob6), .val (.ref ob11), .val (.ref t1_16), .val (.ref t1_18), .val (.ref t1_20), .val (.ref t1_22), .val (.ref r_1), .val (.ref r_3), .val (.ref r_5), .val (.ref ob11), .val (.ref r_1), .val (.int (1 : Int32)), .unset, .unset, .unset] [])) _
  refine own_by (fun _ k => XS.aload X48.here hx rfl (hb hby at_164) rfl rfl k) ?_
  show own_Go p e below (T48.setTop (mkF m 166 #[.val (.int a1), .val (.int b1), .val (.long q), .second, .val (.int u), .val (.int v1), .val (.ref r_1), .val (.ref r_3), .val (.ref r_5), .val (.ref ob6), .val (.ref ob11), .val (.ref t1_16), .val (.ref t1_18), .val (.ref t1_20), .val (.ref t1_22), .val (.ref r_1), .val (.ref r_3), .val (.ref r_5), .val (.ref ob11), .val (.ref r_1), .val (.int (1 : Int32)), .unset, .unset, .unset] [(.ref r_3)])) _
  refine own_by (fun _ k => XS.aload X48.here hx rfl (hb hby at_166) rfl rfl k) ?_
  show own_Go p e below (T48.setTop (mkF m 168 #[.val (.int a1), .val (.int b1), .val (.long q), .second, .val (.int u), .val (.int v1), .val (.ref r_1), .val (.ref r_3), .val (.ref r_5), .val (.ref ob6), .val (.ref ob11), .val (.ref t1_16), .val (.ref t1_18), .val (.ref t1_20), .val (.ref t1_22), .val (.ref r_1), .val (.ref r_3), .val (.ref r_5), .val (.ref ob11), .val (.ref r_1), .val (.int (1 : Int32)), .unset, .unset, .unset] [(.ref r_3), (.ref r_3)])) _
  refine own_by (fun _ k => Jvm.RoadKit.acmp (g := (mkF m 168 #[.val (.int a1), .val (.int b1), .val (.long q), .second, .val (.int u), .val (.int v1), .val (.ref r_1), .val (.ref r_3), .val (.ref r_5), .val (.ref ob6), .val (.ref ob11), .val (.ref t1_16), .val (.ref t1_18), .val (.ref t1_20), .val (.ref t1_22), .val (.ref r_1), .val (.ref r_3), .val (.ref r_5), .val (.ref ob11), .val (.ref r_1), .val (.int (1 : Int32)), .unset, .unset, .unset] [(.ref r_3), (.ref r_3)])) X48 hx rfl rfl rfl (pc0 := 168) (pc' := 171) (same := true) rfl (hb hby at_168) rfl (decide_eq_true rfl) (by decide) (by decide) k) ?_
  show own_Go p e below (T48.setTop (mkF m 171 #[.val (.int a1), .val (.int b1), .val (.long q), .second, .val (.int u), .val (.int v1), .val (.ref r_1), .val (.ref r_3), .val (.ref r_5), .val (.ref ob6), .val (.ref ob11), .val (.ref t1_16), .val (.ref t1_18), .val (.ref t1_20), .val (.ref t1_22), .val (.ref r_1), .val (.ref r_3), .val (.ref r_5), .val (.ref ob11), .val (.ref r_1), .val (.int (1 : Int32)), .unset, .unset, .unset] [])) _
  refine own_by (fun _ k => XS.aload X48.here hx rfl (hb hby at_171) rfl rfl k) ?_
  show own_Go p e below (T48.setTop (mkF m 173 #[.val (.int a1), .val (.int b1), .val (.long q), .second, .val (.int u), .val (.int v1), .val (.ref r_1), .val (.ref r_3), .val (.ref r_5), .val (.ref ob6), .val (.ref ob11), .val (.ref t1_16), .val (.ref t1_18), .val (.ref t1_20), .val (.ref t1_22), .val (.ref r_1), .val (.ref r_3), .val (.ref r_5), .val (.ref ob11), .val (.ref r_1), .val (.int (1 : Int32)), .unset, .unset, .unset] [(.ref r_3)])) _
  have fc49 : Fld Z T22.heap r_3 "java/lang/Integer" "value" "I" (.int b1) := ((((((((((g3_1.keep K5 nin0).ext E6).other W8 (Or.inl (own_ne (by omega)))).other W10 (Or.inl (own_ne (by omega)))).ext E11).keep K14 (ninS (own_ne (by omega)) nin0)).keep K16 nin0).keep K18 nin0).keep K20 nin0).keep K22 nin0)
  obtain ⟨cq50, kq50, q50a, q50b, q50c⟩ := isOf hZ22 K48 fc34
  obtain ⟨_, _, ⟨T50, L50, k50, n50⟩, -, X50, ⟨Lc50, hQ50, l50, y50, z50⟩, st50⟩ := X48.virtualBack hx (y := (⟨"java/lang/Integer", "intValue", "()I"⟩ : MethodName)) (z := (⟨"java/lang/Integer", "intValue", "()I"⟩ : MethodName)) ho22 (mvT hZ22 (hw _ (List.mem_of_getElem? (i := 75) rfl))) (mvT hZ22 (hw _ (List.mem_of_getElem? (i := 76) rfl))) (notFace_of_selects (args := #[]) (mvT hZ22 (hw _ (List.mem_of_getElem? (i := 78) rfl)))) (mvT hZ22 (hw _ (List.mem_of_getElem? (i := 78) rfl))) (mvT hZ22 (hw _ (List.mem_of_getElem? (i := 77) rfl))) (by decide) (backOf (W := 0) (rm_iget l Z a0 hw [] r_3 b1 T22.heap n0 O25 fc49) hZ22 (hw _ (List.mem_of_getElem? (i := 79) rfl)) (hw _ (List.mem_of_getElem? (i := 2) rfl)) (by decide) (by decide)) q50a q50c (g := (mkF m 173 #[.val (.int a1), .val (.int b1), .val (.long q), .second, .val (.int u), .val (.int v1), .val (.ref r_1), .val (.ref r_3), .val (.ref r_5), .val (.ref ob6), .val (.ref ob11), .val (.ref t1_16), .val (.ref t1_18), .val (.ref t1_20), .val (.ref t1_22), .val (.ref r_1), .val (.ref r_3), .val (.ref r_5), .val (.ref ob11), .val (.ref r_1), .val (.int (1 : Int32)), .unset, .unset, .unset] [(.ref r_3)])) rfl (by rw [hml]; rfl) (Steps.refl _) (argsL := []) (rest := []) (lenOf own_pd__28_29I rfl) rfl (by show 2 * 0 + _ ≤ _; exact Nat.le_of_eq rfl) (hb hby at_173) (fun _ _ => ⟨rfl, K48, (by decide : 18 + 0 ≤ _), (by decide : 131 + 0 ≤ _)⟩)
  dsimp only [Pt.U, Pt.locs, Pt.cells, Pt.slots] at X50 l50 y50 z50 st50 hQ50
  subst l50 y50 z50
  obtain ⟨rfl, M50, K50⟩ := hQ50
  have N50 := Fr.app N48 M50
  refine own_by (fun _ k => st50.trans k) ?_
  show own_Go p e below (T50.setTop (mkF m 176 #[.val (.int a1), .val (.int b1), .val (.long q), .second, .val (.int u), .val (.int v1), .val (.ref r_1), .val (.ref r_3), .val (.ref r_5), .val (.ref ob6), .val (.ref ob11), .val (.ref t1_16), .val (.ref t1_18), .val (.ref t1_20), .val (.ref t1_22), .val (.ref r_1), .val (.ref r_3), .val (.ref r_5), .val (.ref ob11), .val (.ref r_1), .val (.int (1 : Int32)), .unset, .unset, .unset] [(.int b1)])) _
  refine own_by (fun _ k => XS.iloadN X50.here hx rfl (hb hby at_176) rfl k) ?_
  show own_Go p e below (T50.setTop (mkF m 177 #[.val (.int a1), .val (.int b1), .val (.long q), .second, .val (.int u), .val (.int v1), .val (.ref r_1), .val (.ref r_3), .val (.ref r_5), .val (.ref ob6), .val (.ref ob11), .val (.ref t1_16), .val (.ref t1_18), .val (.ref t1_20), .val (.ref t1_22), .val (.ref r_1), .val (.ref r_3), .val (.ref r_5), .val (.ref ob11), .val (.ref r_1), .val (.int (1 : Int32)), .unset, .unset, .unset] [(.int b1), (.int b1)])) _
  refine own_by (fun _ k => XS.icmpNo X50.here hx rfl (hb hby at_177) rfl (teq (rfl : b1 = b1)).2 k) ?_
  show own_Go p e below (T50.setTop (mkF m 180 #[.val (.int a1), .val (.int b1), .val (.long q), .second, .val (.int u), .val (.int v1), .val (.ref r_1), .val (.ref r_3), .val (.ref r_5), .val (.ref ob6), .val (.ref ob11), .val (.ref t1_16), .val (.ref t1_18), .val (.ref t1_20), .val (.ref t1_22), .val (.ref r_1), .val (.ref r_3), .val (.ref r_5), .val (.ref ob11), .val (.ref r_1), .val (.int (1 : Int32)), .unset, .unset, .unset] [])) _
  refine own_by (fun _ k => XS.iconst X50.here hx rfl (hb hby at_180) k) ?_
  show own_Go p e below (T50.setTop (mkF m 181 #[.val (.int a1), .val (.int b1), .val (.long q), .second, .val (.int u), .val (.int v1), .val (.ref r_1), .val (.ref r_3), .val (.ref r_5), .val (.ref ob6), .val (.ref ob11), .val (.ref t1_16), .val (.ref t1_18), .val (.ref t1_20), .val (.ref t1_22), .val (.ref r_1), .val (.ref r_3), .val (.ref r_5), .val (.ref ob11), .val (.ref r_1), .val (.int (1 : Int32)), .unset, .unset, .unset] [(.int (1 : Int32))])) _
  refine own_by (fun _ k => XS.goto X50.here hx rfl (pc0 := 181) (pc' := 185) rfl (hb hby at_181) (by decide) (by decide) k) ?_
  show own_Go p e below (T50.setTop (mkF m 185 #[.val (.int a1), .val (.int b1), .val (.long q), .second, .val (.int u), .val (.int v1), .val (.ref r_1), .val (.ref r_3), .val (.ref r_5), .val (.ref ob6), .val (.ref ob11), .val (.ref t1_16), .val (.ref t1_18), .val (.ref t1_20), .val (.ref t1_22), .val (.ref r_1), .val (.ref r_3), .val (.ref r_5), .val (.ref ob11), .val (.ref r_1), .val (.int (1 : Int32)), .unset, .unset, .unset] [(.int (1 : Int32))])) _
  refine own_by (fun _ k => XS.istore X50.here hx rfl (hb hby at_185) rfl (l' := #[.val (.int a1), .val (.int b1), .val (.long q), .second, .val (.int u), .val (.int v1), .val (.ref r_1), .val (.ref r_3), .val (.ref r_5), .val (.ref ob6), .val (.ref ob11), .val (.ref t1_16), .val (.ref t1_18), .val (.ref t1_20), .val (.ref t1_22), .val (.ref r_1), .val (.ref r_3), .val (.ref r_5), .val (.ref ob11), .val (.ref r_1), .val (.int (1 : Int32)), .val (.int (1 : Int32)), .unset, .unset]) rfl k) ?_
  show own_Go p e below (T50.setTop (mkF m 187 #[.val (.int a1), .val (.int b1), .val (.long q), .second, .val (.int u), .val (.int v1), .val (.ref r_1), .val (.ref r_3), .val (.ref r_5), .val (.ref ob6), .val (.ref ob11), .val (.ref t1_16), .val (.ref t1_18), .val (.ref t1_20), .val (.ref t1_22), .val (.ref r_1), .val (.ref r_3), .val (.ref r_5), .val (.ref ob11), .val (.ref r_1), .val (.int (1 : Int32)), .val (.int (1 : Int32)), .unset, .unset] [])) _
  refine own_by (fun _ k => XS.aload X50.here hx rfl (hb hby at_187) rfl rfl k) ?_
  show own_Go p e below (T50.setTop (mkF m 189 #[.val (.int a1), .val (.int b1), .val (.long q), .second, .val (.int u), .val (.int v1), .val (.ref r_1), .val (.ref r_3), .val (.ref r_5), .val (.ref ob6), .val (.ref ob11), .val (.ref t1_16), .val (.ref t1_18), .val (.ref t1_20), .val (.ref t1_22), .val (.ref r_1), .val (.ref r_3), .val (.ref r_5), .val (.ref ob11), .val (.ref r_1), .val (.int (1 : Int32)), .val (.int (1 : Int32)), .unset, .unset] [(.ref r_5)])) _
  refine own_by (fun _ k => XS.aload X50.here hx rfl (hb hby at_189) rfl rfl k) ?_
  show own_Go p e below (T50.setTop (mkF m 191 #[.val (.int a1), .val (.int b1), .val (.long q), .second, .val (.int u), .val (.int v1), .val (.ref r_1), .val (.ref r_3), .val (.ref r_5), .val (.ref ob6), .val (.ref ob11), .val (.ref t1_16), .val (.ref t1_18), .val (.ref t1_20), .val (.ref t1_22), .val (.ref r_1), .val (.ref r_3), .val (.ref r_5), .val (.ref ob11), .val (.ref r_1), .val (.int (1 : Int32)), .val (.int (1 : Int32)), .unset, .unset] [(.ref r_5), (.ref r_5)])) _
  refine own_by (fun _ k => Jvm.RoadKit.acmp (g := (mkF m 191 #[.val (.int a1), .val (.int b1), .val (.long q), .second, .val (.int u), .val (.int v1), .val (.ref r_1), .val (.ref r_3), .val (.ref r_5), .val (.ref ob6), .val (.ref ob11), .val (.ref t1_16), .val (.ref t1_18), .val (.ref t1_20), .val (.ref t1_22), .val (.ref r_1), .val (.ref r_3), .val (.ref r_5), .val (.ref ob11), .val (.ref r_1), .val (.int (1 : Int32)), .val (.int (1 : Int32)), .unset, .unset] [(.ref r_5), (.ref r_5)])) X50 hx rfl rfl rfl (pc0 := 191) (pc' := 194) (same := true) rfl (hb hby at_191) rfl (decide_eq_true rfl) (by decide) (by decide) k) ?_
  show own_Go p e below (T50.setTop (mkF m 194 #[.val (.int a1), .val (.int b1), .val (.long q), .second, .val (.int u), .val (.int v1), .val (.ref r_1), .val (.ref r_3), .val (.ref r_5), .val (.ref ob6), .val (.ref ob11), .val (.ref t1_16), .val (.ref t1_18), .val (.ref t1_20), .val (.ref t1_22), .val (.ref r_1), .val (.ref r_3), .val (.ref r_5), .val (.ref ob11), .val (.ref r_1), .val (.int (1 : Int32)), .val (.int (1 : Int32)), .unset, .unset] [])) _
  refine own_by (fun _ k => XS.aload X50.here hx rfl (hb hby at_194) rfl rfl k) ?_
  show own_Go p e below (T50.setTop (mkF m 196 #[.val (.int a1), .val (.int b1), .val (.long q), .second, .val (.int u), .val (.int v1), .val (.ref r_1), .val (.ref r_3), .val (.ref r_5), .val (.ref ob6), .val (.ref ob11), .val (.ref t1_16), .val (.ref t1_18), .val (.ref t1_20), .val (.ref t1_22), .val (.ref r_1), .val (.ref r_3), .val (.ref r_5), .val (.ref ob11), .val (.ref r_1), .val (.int (1 : Int32)), .val (.int (1 : Int32)), .unset, .unset] [(.ref r_5)])) _
  have fc51 : Fld Z T22.heap r_5 "java/lang/Long" "value" "J" (.long q) := (((((((((g5_1.ext E6).other W8 (Or.inl (own_ne (by omega)))).other W10 (Or.inl (own_ne (by omega)))).ext E11).keep K14 (ninS (own_ne (by omega)) nin0)).keep K16 nin0).keep K18 nin0).keep K20 nin0).keep K22 nin0)
  obtain ⟨cq52, kq52, q52a, q52b, q52c⟩ := isOf hZ22 K50 fc40
  obtain ⟨_, _, ⟨T52, L52, k52, n52⟩, -, X52, ⟨Lc52, hQ52, l52, y52, z52⟩, st52⟩ := X50.virtualBack hx (y := (⟨"java/lang/Long", "longValue", "()J"⟩ : MethodName)) (z := (⟨"java/lang/Long", "longValue", "()J"⟩ : MethodName)) ho22 (mvT hZ22 (hw _ (List.mem_of_getElem? (i := 82) rfl))) (mvT hZ22 (hw _ (List.mem_of_getElem? (i := 83) rfl))) (notFace_of_selects (args := #[]) (mvT hZ22 (hw _ (List.mem_of_getElem? (i := 85) rfl)))) (mvT hZ22 (hw _ (List.mem_of_getElem? (i := 85) rfl))) (mvT hZ22 (hw _ (List.mem_of_getElem? (i := 84) rfl))) (by decide) (backOf (W := 0) (rm_lget l Z a0 hw [] r_5 q T22.heap n0 O25 fc51) hZ22 (hw _ (List.mem_of_getElem? (i := 86) rfl)) (hw _ (List.mem_of_getElem? (i := 9) rfl)) (by decide) (by decide)) q52a q52c (g := (mkF m 196 #[.val (.int a1), .val (.int b1), .val (.long q), .second, .val (.int u), .val (.int v1), .val (.ref r_1), .val (.ref r_3), .val (.ref r_5), .val (.ref ob6), .val (.ref ob11), .val (.ref t1_16), .val (.ref t1_18), .val (.ref t1_20), .val (.ref t1_22), .val (.ref r_1), .val (.ref r_3), .val (.ref r_5), .val (.ref ob11), .val (.ref r_1), .val (.int (1 : Int32)), .val (.int (1 : Int32)), .unset, .unset] [(.ref r_5)])) rfl (by rw [hml]; rfl) (Steps.refl _) (argsL := []) (rest := []) (lenOf own_pd__28_29J rfl) rfl (by show 2 * 0 + _ ≤ _; exact Nat.le_of_eq rfl) (hb hby at_196) (fun _ _ => ⟨rfl, K50, (by decide : 18 + 0 ≤ _), (by decide : 131 + 0 ≤ _)⟩)
  dsimp only [Pt.U, Pt.locs, Pt.cells, Pt.slots] at X52 l52 y52 z52 st52 hQ52
  subst l52 y52 z52
  obtain ⟨rfl, M52, K52⟩ := hQ52
  have N52 := Fr.app N50 M52
  refine own_by (fun _ k => st52.trans k) ?_
  show own_Go p e below (T52.setTop (mkF m 199 #[.val (.int a1), .val (.int b1), .val (.long q), .second, .val (.int u), .val (.int v1), .val (.ref r_1), .val (.ref r_3), .val (.ref r_5), .val (.ref ob6), .val (.ref ob11), .val (.ref t1_16), .val (.ref t1_18), .val (.ref t1_20), .val (.ref t1_22), .val (.ref r_1), .val (.ref r_3), .val (.ref r_5), .val (.ref ob11), .val (.ref r_1), .val (.int (1 : Int32)), .val (.int (1 : Int32)), .unset, .unset] [(.long q)])) _
  refine own_by (fun _ k => XS.lloadN X52.here hx rfl (hb hby at_199) rfl k) ?_
  show own_Go p e below (T52.setTop (mkF m 200 #[.val (.int a1), .val (.int b1), .val (.long q), .second, .val (.int u), .val (.int v1), .val (.ref r_1), .val (.ref r_3), .val (.ref r_5), .val (.ref ob6), .val (.ref ob11), .val (.ref t1_16), .val (.ref t1_18), .val (.ref t1_20), .val (.ref t1_22), .val (.ref r_1), .val (.ref r_3), .val (.ref r_5), .val (.ref ob11), .val (.ref r_1), .val (.int (1 : Int32)), .val (.int (1 : Int32)), .unset, .unset] [(.long q), (.long q)])) _
  refine own_by (fun _ k => XS.lcmp X52.here hx rfl (hb hby at_200) rfl k) ?_
  show own_Go p e below (T52.setTop (mkF m 201 #[.val (.int a1), .val (.int b1), .val (.long q), .second, .val (.int u), .val (.int v1), .val (.ref r_1), .val (.ref r_3), .val (.ref r_5), .val (.ref ob6), .val (.ref ob11), .val (.ref t1_16), .val (.ref t1_18), .val (.ref t1_20), .val (.ref t1_22), .val (.ref r_1), .val (.ref r_3), .val (.ref r_5), .val (.ref ob11), .val (.ref r_1), .val (.int (1 : Int32)), .val (.int (1 : Int32)), .unset, .unset] [(.int (lcmpW q q))])) _
  refine own_by (fun _ k => XS.ifNo X52.here hx rfl (hb hby at_201) rfl ((if0 _ _).trans (teq (own_lcmp_self q)).2) k) ?_
  show own_Go p e below (T52.setTop (mkF m 204 #[.val (.int a1), .val (.int b1), .val (.long q), .second, .val (.int u), .val (.int v1), .val (.ref r_1), .val (.ref r_3), .val (.ref r_5), .val (.ref ob6), .val (.ref ob11), .val (.ref t1_16), .val (.ref t1_18), .val (.ref t1_20), .val (.ref t1_22), .val (.ref r_1), .val (.ref r_3), .val (.ref r_5), .val (.ref ob11), .val (.ref r_1), .val (.int (1 : Int32)), .val (.int (1 : Int32)), .unset, .unset] [])) _
  refine own_by (fun _ k => XS.iconst X52.here hx rfl (hb hby at_204) k) ?_
  show own_Go p e below (T52.setTop (mkF m 205 #[.val (.int a1), .val (.int b1), .val (.long q), .second, .val (.int u), .val (.int v1), .val (.ref r_1), .val (.ref r_3), .val (.ref r_5), .val (.ref ob6), .val (.ref ob11), .val (.ref t1_16), .val (.ref t1_18), .val (.ref t1_20), .val (.ref t1_22), .val (.ref r_1), .val (.ref r_3), .val (.ref r_5), .val (.ref ob11), .val (.ref r_1), .val (.int (1 : Int32)), .val (.int (1 : Int32)), .unset, .unset] [(.int (1 : Int32))])) _
  refine own_by (fun _ k => XS.goto X52.here hx rfl (pc0 := 205) (pc' := 209) rfl (hb hby at_205) (by decide) (by decide) k) ?_
  show own_Go p e below (T52.setTop (mkF m 209 #[.val (.int a1), .val (.int b1), .val (.long q), .second, .val (.int u), .val (.int v1), .val (.ref r_1), .val (.ref r_3), .val (.ref r_5), .val (.ref ob6), .val (.ref ob11), .val (.ref t1_16), .val (.ref t1_18), .val (.ref t1_20), .val (.ref t1_22), .val (.ref r_1), .val (.ref r_3), .val (.ref r_5), .val (.ref ob11), .val (.ref r_1), .val (.int (1 : Int32)), .val (.int (1 : Int32)), .unset, .unset] [(.int (1 : Int32))])) _
  refine own_by (fun _ k => XS.istore X52.here hx rfl (hb hby at_209) rfl (l' := #[.val (.int a1), .val (.int b1), .val (.long q), .second, .val (.int u), .val (.int v1), .val (.ref r_1), .val (.ref r_3), .val (.ref r_5), .val (.ref ob6), .val (.ref ob11), .val (.ref t1_16), .val (.ref t1_18), .val (.ref t1_20), .val (.ref t1_22), .val (.ref r_1), .val (.ref r_3), .val (.ref r_5), .val (.ref ob11), .val (.ref r_1), .val (.int (1 : Int32)), .val (.int (1 : Int32)), .val (.int (1 : Int32)), .unset]) rfl k) ?_
  show own_Go p e below (T52.setTop (mkF m 211 #[.val (.int a1), .val (.int b1), .val (.long q), .second, .val (.int u), .val (.int v1), .val (.ref r_1), .val (.ref r_3), .val (.ref r_5), .val (.ref ob6), .val (.ref ob11), .val (.ref t1_16), .val (.ref t1_18), .val (.ref t1_20), .val (.ref t1_22), .val (.ref r_1), .val (.ref r_3), .val (.ref r_5), .val (.ref ob11), .val (.ref r_1), .val (.int (1 : Int32)), .val (.int (1 : Int32)), .val (.int (1 : Int32)), .unset] [])) _
  refine own_by (fun _ k => XS.aload X52.here hx rfl (hb hby at_211) rfl rfl k) ?_
  show own_Go p e below (T52.setTop (mkF m 213 #[.val (.int a1), .val (.int b1), .val (.long q), .second, .val (.int u), .val (.int v1), .val (.ref r_1), .val (.ref r_3), .val (.ref r_5), .val (.ref ob6), .val (.ref ob11), .val (.ref t1_16), .val (.ref t1_18), .val (.ref t1_20), .val (.ref t1_22), .val (.ref r_1), .val (.ref r_3), .val (.ref r_5), .val (.ref ob11), .val (.ref r_1), .val (.int (1 : Int32)), .val (.int (1 : Int32)), .val (.int (1 : Int32)), .unset] [(.ref ob11)])) _
  refine own_by (fun _ k => XS.aload X52.here hx rfl (hb hby at_213) rfl rfl k) ?_
  show own_Go p e below (T52.setTop (mkF m 215 #[.val (.int a1), .val (.int b1), .val (.long q), .second, .val (.int u), .val (.int v1), .val (.ref r_1), .val (.ref r_3), .val (.ref r_5), .val (.ref ob6), .val (.ref ob11), .val (.ref t1_16), .val (.ref t1_18), .val (.ref t1_20), .val (.ref t1_22), .val (.ref r_1), .val (.ref r_3), .val (.ref r_5), .val (.ref ob11), .val (.ref r_1), .val (.int (1 : Int32)), .val (.int (1 : Int32)), .val (.int (1 : Int32)), .unset] [(.ref ob11), (.ref ob11)])) _
  refine own_by (fun _ k => Jvm.RoadKit.acmp (g := (mkF m 215 #[.val (.int a1), .val (.int b1), .val (.long q), .second, .val (.int u), .val (.int v1), .val (.ref r_1), .val (.ref r_3), .val (.ref r_5), .val (.ref ob6), .val (.ref ob11), .val (.ref t1_16), .val (.ref t1_18), .val (.ref t1_20), .val (.ref t1_22), .val (.ref r_1), .val (.ref r_3), .val (.ref r_5), .val (.ref ob11), .val (.ref r_1), .val (.int (1 : Int32)), .val (.int (1 : Int32)), .val (.int (1 : Int32)), .unset] [(.ref ob11), (.ref ob11)])) X52 hx rfl rfl rfl (pc0 := 215) (pc' := 218) (same := true) rfl (hb hby at_215) rfl (decide_eq_true rfl) (by decide) (by decide) k) ?_
  show own_Go p e below (T52.setTop (mkF m 218 #[.val (.int a1), .val (.int b1), .val (.long q), .second, .val (.int u), .val (.int v1), .val (.ref r_1), .val (.ref r_3), .val (.ref r_5), .val (.ref ob6), .val (.ref ob11), .val (.ref t1_16), .val (.ref t1_18), .val (.ref t1_20), .val (.ref t1_22), .val (.ref r_1), .val (.ref r_3), .val (.ref r_5), .val (.ref ob11), .val (.ref r_1), .val (.int (1 : Int32)), .val (.int (1 : Int32)), .val (.int (1 : Int32)), .unset] [])) _
  refine own_by (fun _ k => XS.aload X52.here hx rfl (hb hby at_218) rfl rfl k) ?_
  show own_Go p e below (T52.setTop (mkF m 220 #[.val (.int a1), .val (.int b1), .val (.long q), .second, .val (.int u), .val (.int v1), .val (.ref r_1), .val (.ref r_3), .val (.ref r_5), .val (.ref ob6), .val (.ref ob11), .val (.ref t1_16), .val (.ref t1_18), .val (.ref t1_20), .val (.ref t1_22), .val (.ref r_1), .val (.ref r_3), .val (.ref r_5), .val (.ref ob11), .val (.ref r_1), .val (.int (1 : Int32)), .val (.int (1 : Int32)), .val (.int (1 : Int32)), .unset] [(.ref ob11)])) _
  have fc53 : Fld Z T22.heap ob11 "java/lang/String" "coder" "B" (.int (0 : Int32)) := ((((g14_1.keep K16 nin0).keep K18 nin0).keep K20 nin0).keep K22 nin0)
  have fc54 : Fld Z T22.heap ob11 "java/lang/String" "value" "[B" (.ref b_14) := ((((g14_2.keep K16 nin0).keep K18 nin0).keep K20 nin0).keep K22 nin0)
  have fc55 : Arv Z T22.heap b_14 kb_14 .byte (2 : Int32) [(.int (own_b (u &&& (255 : Int32)))), (.int (own_b (v1 &&& (255 : Int32))))] (.int (0 : Int32)) := ((((g14_3.keep K16 nin0).keep K18 nin0).keep K20 nin0).keep K22 nin0)
  obtain ⟨cq56, kq56, q56a, q56b, q56c⟩ := isOf hZ22 K52 fc43
  obtain ⟨_, _, ⟨T56, L56, k56, n56⟩, -, X56, ⟨Lc56, hQ56, l56, y56, z56⟩, st56⟩ := X52.virtualBack hx (y := (⟨"java/lang/String", "length", "()I"⟩ : MethodName)) (z := (⟨"java/lang/String", "length", "()I"⟩ : MethodName)) ho22 (mvT hZ22 (hw _ (List.mem_of_getElem? (i := 89) rfl))) (mvT hZ22 (hw _ (List.mem_of_getElem? (i := 90) rfl))) (notFace_of_selects (args := #[]) (mvT hZ22 (hw _ (List.mem_of_getElem? (i := 92) rfl)))) (mvT hZ22 (hw _ (List.mem_of_getElem? (i := 92) rfl))) (mvT hZ22 (hw _ (List.mem_of_getElem? (i := 91) rfl))) (by decide) (backOf (W := 0) (rm_len_2 l Z a0 hw [] ob11 b_14 kb_14 cs (own_b (u &&& (255 : Int32))) (own_b (v1 &&& (255 : Int32))) T22.heap n0 O25 S_COMPACT fc43 fc53 fc54 fc55 hcs) hZ22 (hw _ (List.mem_of_getElem? (i := 93) rfl)) (hw _ (List.mem_of_getElem? (i := 18) rfl)) (by decide) (by decide)) q56a q56c (g := (mkF m 220 #[.val (.int a1), .val (.int b1), .val (.long q), .second, .val (.int u), .val (.int v1), .val (.ref r_1), .val (.ref r_3), .val (.ref r_5), .val (.ref ob6), .val (.ref ob11), .val (.ref t1_16), .val (.ref t1_18), .val (.ref t1_20), .val (.ref t1_22), .val (.ref r_1), .val (.ref r_3), .val (.ref r_5), .val (.ref ob11), .val (.ref r_1), .val (.int (1 : Int32)), .val (.int (1 : Int32)), .val (.int (1 : Int32)), .unset] [(.ref ob11)])) rfl (by rw [hml]; rfl) (Steps.refl _) (argsL := []) (rest := []) (lenOf own_pd__28_29I rfl) rfl (by show 2 * 0 + _ ≤ _; exact Nat.le_of_eq rfl) (hb hby at_220) (fun _ _ => ⟨rfl, K52, (by decide : 18 + 0 ≤ _), (by decide : 131 + 0 ≤ _)⟩)
  dsimp only [Pt.U, Pt.locs, Pt.cells, Pt.slots] at X56 l56 y56 z56 st56 hQ56
  subst l56 y56 z56
  obtain ⟨rfl, M56, K56⟩ := hQ56
  have N56 := Fr.app N52 M56
  refine own_by (fun _ k => st56.trans k) ?_
  show own_Go p e below (T56.setTop (mkF m 223 #[.val (.int a1), .val (.int b1), .val (.long q), .second, .val (.int u), .val (.int v1), .val (.ref r_1), .val (.ref r_3), .val (.ref r_5), .val (.ref ob6), .val (.ref ob11), .val (.ref t1_16), .val (.ref t1_18), .val (.ref t1_20), .val (.ref t1_22), .val (.ref r_1), .val (.ref r_3), .val (.ref r_5), .val (.ref ob11), .val (.ref r_1), .val (.int (1 : Int32)), .val (.int (1 : Int32)), .val (.int (1 : Int32)), .unset] [(.int (2 : Int32))])) _
  refine own_by (fun _ k => XS.iconst X56.here hx rfl (hb hby at_223) k) ?_
  show own_Go p e below (T56.setTop (mkF m 224 #[.val (.int a1), .val (.int b1), .val (.long q), .second, .val (.int u), .val (.int v1), .val (.ref r_1), .val (.ref r_3), .val (.ref r_5), .val (.ref ob6), .val (.ref ob11), .val (.ref t1_16), .val (.ref t1_18), .val (.ref t1_20), .val (.ref t1_22), .val (.ref r_1), .val (.ref r_3), .val (.ref r_5), .val (.ref ob11), .val (.ref r_1), .val (.int (1 : Int32)), .val (.int (1 : Int32)), .val (.int (1 : Int32)), .unset] [(.int (2 : Int32)), (.int (2 : Int32))])) _
  refine own_by (fun _ k => XS.icmpNo X56.here hx rfl (hb hby at_224) rfl (teq (by decide : (2 : Int32) = (2 : Int32))).2 k) ?_
  show own_Go p e below (T56.setTop (mkF m 227 #[.val (.int a1), .val (.int b1), .val (.long q), .second, .val (.int u), .val (.int v1), .val (.ref r_1), .val (.ref r_3), .val (.ref r_5), .val (.ref ob6), .val (.ref ob11), .val (.ref t1_16), .val (.ref t1_18), .val (.ref t1_20), .val (.ref t1_22), .val (.ref r_1), .val (.ref r_3), .val (.ref r_5), .val (.ref ob11), .val (.ref r_1), .val (.int (1 : Int32)), .val (.int (1 : Int32)), .val (.int (1 : Int32)), .unset] [])) _
  refine own_by (fun _ k => XS.aload X56.here hx rfl (hb hby at_227) rfl rfl k) ?_
  show own_Go p e below (T56.setTop (mkF m 229 #[.val (.int a1), .val (.int b1), .val (.long q), .second, .val (.int u), .val (.int v1), .val (.ref r_1), .val (.ref r_3), .val (.ref r_5), .val (.ref ob6), .val (.ref ob11), .val (.ref t1_16), .val (.ref t1_18), .val (.ref t1_20), .val (.ref t1_22), .val (.ref r_1), .val (.ref r_3), .val (.ref r_5), .val (.ref ob11), .val (.ref r_1), .val (.int (1 : Int32)), .val (.int (1 : Int32)), .val (.int (1 : Int32)), .unset] [(.ref ob11)])) _
  refine own_by (fun _ k => XS.iconst X56.here hx rfl (hb hby at_229) k) ?_
  show own_Go p e below (T56.setTop (mkF m 230 #[.val (.int a1), .val (.int b1), .val (.long q), .second, .val (.int u), .val (.int v1), .val (.ref r_1), .val (.ref r_3), .val (.ref r_5), .val (.ref ob6), .val (.ref ob11), .val (.ref t1_16), .val (.ref t1_18), .val (.ref t1_20), .val (.ref t1_22), .val (.ref r_1), .val (.ref r_3), .val (.ref r_5), .val (.ref ob11), .val (.ref r_1), .val (.int (1 : Int32)), .val (.int (1 : Int32)), .val (.int (1 : Int32)), .unset] [(.int (0 : Int32)), (.ref ob11)])) _
  obtain ⟨cq57, kq57, q57a, q57b, q57c⟩ := isOf hZ22 K56 fc43
  obtain ⟨_, _, ⟨T57, L57, k57, n57⟩, -, X57, ⟨Lc57, hQ57, l57, y57, z57⟩, st57⟩ := X56.virtualBack hx (y := (⟨"java/lang/String", "charAt", "(I)C"⟩ : MethodName)) (z := (⟨"java/lang/String", "charAt", "(I)C"⟩ : MethodName)) ho22 (mvT hZ22 (hw _ (List.mem_of_getElem? (i := 99) rfl))) (mvT hZ22 (hw _ (List.mem_of_getElem? (i := 100) rfl))) (notFace_of_selects (args := #[]) (mvT hZ22 (hw _ (List.mem_of_getElem? (i := 102) rfl)))) (mvT hZ22 (hw _ (List.mem_of_getElem? (i := 102) rfl))) (mvT hZ22 (hw _ (List.mem_of_getElem? (i := 101) rfl))) (by decide) (backOf (W := 0) (rm_ch_2_0 l Z a0 hw [] ob11 b_14 kb_14 cs fmt (own_b (u &&& (255 : Int32))) (own_b (v1 &&& (255 : Int32))) T22.heap n0 O25 S_COMPACT S_FMT fc43 fc53 fc54 fc55 hcs hfmt) hZ22 (hw _ (List.mem_of_getElem? (i := 103) rfl)) (hw _ (List.mem_of_getElem? (i := 18) rfl)) (by decide) (by decide)) q57a q57c (g := (mkF m 230 #[.val (.int a1), .val (.int b1), .val (.long q), .second, .val (.int u), .val (.int v1), .val (.ref r_1), .val (.ref r_3), .val (.ref r_5), .val (.ref ob6), .val (.ref ob11), .val (.ref t1_16), .val (.ref t1_18), .val (.ref t1_20), .val (.ref t1_22), .val (.ref r_1), .val (.ref r_3), .val (.ref r_5), .val (.ref ob11), .val (.ref r_1), .val (.int (1 : Int32)), .val (.int (1 : Int32)), .val (.int (1 : Int32)), .unset] [(.int (0 : Int32)), (.ref ob11)])) rfl (by rw [hml]; rfl) (Steps.refl _) (argsL := [(.int (0 : Int32))]) (rest := []) (lenOf own_pd__28I_29C rfl) rfl (by show 2 * 0 + _ ≤ _; exact Nat.le_of_eq rfl) (hb hby at_230) (fun _ _ => ⟨rfl, K56, (by decide : 18 + 0 ≤ _), (by decide : 131 + 0 ≤ _)⟩)
  dsimp only [Pt.U, Pt.locs, Pt.cells, Pt.slots] at X57 l57 y57 z57 st57 hQ57
  subst l57 y57 z57
  obtain ⟨rfl, M57, K57⟩ := hQ57
  have N57 := Fr.app N56 M57
  refine own_by (fun _ k => st57.trans k) ?_
  show own_Go p e below (T57.setTop (mkF m 233 #[.val (.int a1), .val (.int b1), .val (.long q), .second, .val (.int u), .val (.int v1), .val (.ref r_1), .val (.ref r_3), .val (.ref r_5), .val (.ref ob6), .val (.ref ob11), .val (.ref t1_16), .val (.ref t1_18), .val (.ref t1_20), .val (.ref t1_22), .val (.ref r_1), .val (.ref r_3), .val (.ref r_5), .val (.ref ob11), .val (.ref r_1), .val (.int (1 : Int32)), .val (.int (1 : Int32)), .val (.int (1 : Int32)), .unset] [(.int (own_ch (own_b (u &&& (255 : Int32)))))])) _
  refine own_by (fun _ k => XS.aload X57.here hx rfl (hb hby at_233) rfl rfl k) ?_
  show own_Go p e below (T57.setTop (mkF m 235 #[.val (.int a1), .val (.int b1), .val (.long q), .second, .val (.int u), .val (.int v1), .val (.ref r_1), .val (.ref r_3), .val (.ref r_5), .val (.ref ob6), .val (.ref ob11), .val (.ref t1_16), .val (.ref t1_18), .val (.ref t1_20), .val (.ref t1_22), .val (.ref r_1), .val (.ref r_3), .val (.ref r_5), .val (.ref ob11), .val (.ref r_1), .val (.int (1 : Int32)), .val (.int (1 : Int32)), .val (.int (1 : Int32)), .unset] [(.ref ob6), (.int (own_ch (own_b (u &&& (255 : Int32)))))])) _
  refine own_by (fun _ k => XS.iconst X57.here hx rfl (hb hby at_235) k) ?_
  show own_Go p e below (T57.setTop (mkF m 236 #[.val (.int a1), .val (.int b1), .val (.long q), .second, .val (.int u), .val (.int v1), .val (.ref r_1), .val (.ref r_3), .val (.ref r_5), .val (.ref ob6), .val (.ref ob11), .val (.ref t1_16), .val (.ref t1_18), .val (.ref t1_20), .val (.ref t1_22), .val (.ref r_1), .val (.ref r_3), .val (.ref r_5), .val (.ref ob11), .val (.ref r_1), .val (.int (1 : Int32)), .val (.int (1 : Int32)), .val (.int (1 : Int32)), .unset] [(.int (0 : Int32)), (.ref ob6), (.int (own_ch (own_b (u &&& (255 : Int32)))))])) _
  have fc58 : Arv Z T22.heap ob6 k6 .char (2 : Int32) [(.int (u &&& (255 : Int32))), (.int (v1 &&& (255 : Int32)))] (.int (0 : Int32)) := (((((fc12.keep K14 (ninS (own_ne (by omega)) nin0)).keep K16 nin0).keep K18 nin0).keep K20 nin0).keep K22 nin0)
  obtain ⟨cl59, Ar59, q59, S59, M59, H59, G59⟩ := (id fc58)
  have hin59 : ¬ ((0 : Int32) < 0 ∨ cl59.slots.size ≤ ((0 : Int32)).toNatClampNeg) := inb_of S59 ⟨by decide, by decide⟩
  refine own_by (X57.caload hx (j := (0 : Int32)) (v := (.int (u &&& (255 : Int32)))) (by rw [K57]; exact Ar59.1) (State.isArrayOf_alike hZ22.alike Ar59.2.1) Ar59.2.2 hin59 (H59.at hin59 rfl) (g := (mkF m 236 #[.val (.int a1), .val (.int b1), .val (.long q), .second, .val (.int u), .val (.int v1), .val (.ref r_1), .val (.ref r_3), .val (.ref r_5), .val (.ref ob6), .val (.ref ob11), .val (.ref t1_16), .val (.ref t1_18), .val (.ref t1_20), .val (.ref t1_22), .val (.ref r_1), .val (.ref r_3), .val (.ref r_5), .val (.ref ob11), .val (.ref r_1), .val (.int (1 : Int32)), .val (.int (1 : Int32)), .val (.int (1 : Int32)), .unset] [(.int (0 : Int32)), (.ref ob6), (.int (own_ch (own_b (u &&& (255 : Int32)))))])) rfl rfl (hb hby at_236)) ?_
  show own_Go p e below (T57.setTop (mkF m 237 #[.val (.int a1), .val (.int b1), .val (.long q), .second, .val (.int u), .val (.int v1), .val (.ref r_1), .val (.ref r_3), .val (.ref r_5), .val (.ref ob6), .val (.ref ob11), .val (.ref t1_16), .val (.ref t1_18), .val (.ref t1_20), .val (.ref t1_22), .val (.ref r_1), .val (.ref r_3), .val (.ref r_5), .val (.ref ob11), .val (.ref r_1), .val (.int (1 : Int32)), .val (.int (1 : Int32)), .val (.int (1 : Int32)), .unset] [(.int (u &&& (255 : Int32))), (.int (own_ch (own_b (u &&& (255 : Int32)))))])) _
  refine own_by (fun _ k => XS.icmpNo X57.here hx rfl (hb hby at_237) rfl (teq (own_ch_mask u)).2 k) ?_
  show own_Go p e below (T57.setTop (mkF m 240 #[.val (.int a1), .val (.int b1), .val (.long q), .second, .val (.int u), .val (.int v1), .val (.ref r_1), .val (.ref r_3), .val (.ref r_5), .val (.ref ob6), .val (.ref ob11), .val (.ref t1_16), .val (.ref t1_18), .val (.ref t1_20), .val (.ref t1_22), .val (.ref r_1), .val (.ref r_3), .val (.ref r_5), .val (.ref ob11), .val (.ref r_1), .val (.int (1 : Int32)), .val (.int (1 : Int32)), .val (.int (1 : Int32)), .unset] [])) _
  refine own_by (fun _ k => XS.aload X57.here hx rfl (hb hby at_240) rfl rfl k) ?_
  show own_Go p e below (T57.setTop (mkF m 242 #[.val (.int a1), .val (.int b1), .val (.long q), .second, .val (.int u), .val (.int v1), .val (.ref r_1), .val (.ref r_3), .val (.ref r_5), .val (.ref ob6), .val (.ref ob11), .val (.ref t1_16), .val (.ref t1_18), .val (.ref t1_20), .val (.ref t1_22), .val (.ref r_1), .val (.ref r_3), .val (.ref r_5), .val (.ref ob11), .val (.ref r_1), .val (.int (1 : Int32)), .val (.int (1 : Int32)), .val (.int (1 : Int32)), .unset] [(.ref ob11)])) _
  refine own_by (fun _ k => XS.iconst X57.here hx rfl (hb hby at_242) k) ?_
  show own_Go p e below (T57.setTop (mkF m 243 #[.val (.int a1), .val (.int b1), .val (.long q), .second, .val (.int u), .val (.int v1), .val (.ref r_1), .val (.ref r_3), .val (.ref r_5), .val (.ref ob6), .val (.ref ob11), .val (.ref t1_16), .val (.ref t1_18), .val (.ref t1_20), .val (.ref t1_22), .val (.ref r_1), .val (.ref r_3), .val (.ref r_5), .val (.ref ob11), .val (.ref r_1), .val (.int (1 : Int32)), .val (.int (1 : Int32)), .val (.int (1 : Int32)), .unset] [(.int (1 : Int32)), (.ref ob11)])) _
  obtain ⟨cq60, kq60, q60a, q60b, q60c⟩ := isOf hZ22 K57 fc43
  obtain ⟨_, _, ⟨T60, L60, k60, n60⟩, -, X60, ⟨Lc60, hQ60, l60, y60, z60⟩, st60⟩ := X57.virtualBack hx (y := (⟨"java/lang/String", "charAt", "(I)C"⟩ : MethodName)) (z := (⟨"java/lang/String", "charAt", "(I)C"⟩ : MethodName)) ho22 (mvT hZ22 (hw _ (List.mem_of_getElem? (i := 99) rfl))) (mvT hZ22 (hw _ (List.mem_of_getElem? (i := 100) rfl))) (notFace_of_selects (args := #[]) (mvT hZ22 (hw _ (List.mem_of_getElem? (i := 102) rfl)))) (mvT hZ22 (hw _ (List.mem_of_getElem? (i := 102) rfl))) (mvT hZ22 (hw _ (List.mem_of_getElem? (i := 101) rfl))) (by decide) (backOf (W := 0) (rm_ch_2_1 l Z a0 hw [] ob11 b_14 kb_14 cs fmt (own_b (u &&& (255 : Int32))) (own_b (v1 &&& (255 : Int32))) T22.heap n0 O25 S_COMPACT S_FMT fc43 fc53 fc54 fc55 hcs hfmt) hZ22 (hw _ (List.mem_of_getElem? (i := 103) rfl)) (hw _ (List.mem_of_getElem? (i := 18) rfl)) (by decide) (by decide)) q60a q60c (g := (mkF m 243 #[.val (.int a1), .val (.int b1), .val (.long q), .second, .val (.int u), .val (.int v1), .val (.ref r_1), .val (.ref r_3), .val (.ref r_5), .val (.ref ob6), .val (.ref ob11), .val (.ref t1_16), .val (.ref t1_18), .val (.ref t1_20), .val (.ref t1_22), .val (.ref r_1), .val (.ref r_3), .val (.ref r_5), .val (.ref ob11), .val (.ref r_1), .val (.int (1 : Int32)), .val (.int (1 : Int32)), .val (.int (1 : Int32)), .unset] [(.int (1 : Int32)), (.ref ob11)])) rfl (by rw [hml]; rfl) (Steps.refl _) (argsL := [(.int (1 : Int32))]) (rest := []) (lenOf own_pd__28I_29C rfl) rfl (by show 2 * 0 + _ ≤ _; exact Nat.le_of_eq rfl) (hb hby at_243) (fun _ _ => ⟨rfl, K57, (by decide : 18 + 0 ≤ _), (by decide : 131 + 0 ≤ _)⟩)
  dsimp only [Pt.U, Pt.locs, Pt.cells, Pt.slots] at X60 l60 y60 z60 st60 hQ60
  subst l60 y60 z60
  obtain ⟨rfl, M60, K60⟩ := hQ60
  have N60 := Fr.app N57 M60
  refine own_by (fun _ k => st60.trans k) ?_
  show own_Go p e below (T60.setTop (mkF m 246 #[.val (.int a1), .val (.int b1), .val (.long q), .second, .val (.int u), .val (.int v1), .val (.ref r_1), .val (.ref r_3), .val (.ref r_5), .val (.ref ob6), .val (.ref ob11), .val (.ref t1_16), .val (.ref t1_18), .val (.ref t1_20), .val (.ref t1_22), .val (.ref r_1), .val (.ref r_3), .val (.ref r_5), .val (.ref ob11), .val (.ref r_1), .val (.int (1 : Int32)), .val (.int (1 : Int32)), .val (.int (1 : Int32)), .unset] [(.int (own_ch (own_b (v1 &&& (255 : Int32)))))])) _
  refine own_by (fun _ k => XS.aload X60.here hx rfl (hb hby at_246) rfl rfl k) ?_
  show own_Go p e below (T60.setTop (mkF m 248 #[.val (.int a1), .val (.int b1), .val (.long q), .second, .val (.int u), .val (.int v1), .val (.ref r_1), .val (.ref r_3), .val (.ref r_5), .val (.ref ob6), .val (.ref ob11), .val (.ref t1_16), .val (.ref t1_18), .val (.ref t1_20), .val (.ref t1_22), .val (.ref r_1), .val (.ref r_3), .val (.ref r_5), .val (.ref ob11), .val (.ref r_1), .val (.int (1 : Int32)), .val (.int (1 : Int32)), .val (.int (1 : Int32)), .unset] [(.ref ob6), (.int (own_ch (own_b (v1 &&& (255 : Int32)))))])) _
  refine own_by (fun _ k => XS.iconst X60.here hx rfl (hb hby at_248) k) ?_
  show own_Go p e below (T60.setTop (mkF m 249 #[.val (.int a1), .val (.int b1), .val (.long q), .second, .val (.int u), .val (.int v1), .val (.ref r_1), .val (.ref r_3), .val (.ref r_5), .val (.ref ob6), .val (.ref ob11), .val (.ref t1_16), .val (.ref t1_18), .val (.ref t1_20), .val (.ref t1_22), .val (.ref r_1), .val (.ref r_3), .val (.ref r_5), .val (.ref ob11), .val (.ref r_1), .val (.int (1 : Int32)), .val (.int (1 : Int32)), .val (.int (1 : Int32)), .unset] [(.int (1 : Int32)), (.ref ob6), (.int (own_ch (own_b (v1 &&& (255 : Int32)))))])) _
  obtain ⟨cl61, Ar61, q61, S61, M61, H61, G61⟩ := (id fc58)
  have hin61 : ¬ ((1 : Int32) < 0 ∨ cl61.slots.size ≤ ((1 : Int32)).toNatClampNeg) := inb_of S61 ⟨by decide, by decide⟩
  refine own_by (X60.caload hx (j := (1 : Int32)) (v := (.int (v1 &&& (255 : Int32)))) (by rw [K60]; exact Ar61.1) (State.isArrayOf_alike hZ22.alike Ar61.2.1) Ar61.2.2 hin61 (H61.at hin61 rfl) (g := (mkF m 249 #[.val (.int a1), .val (.int b1), .val (.long q), .second, .val (.int u), .val (.int v1), .val (.ref r_1), .val (.ref r_3), .val (.ref r_5), .val (.ref ob6), .val (.ref ob11), .val (.ref t1_16), .val (.ref t1_18), .val (.ref t1_20), .val (.ref t1_22), .val (.ref r_1), .val (.ref r_3), .val (.ref r_5), .val (.ref ob11), .val (.ref r_1), .val (.int (1 : Int32)), .val (.int (1 : Int32)), .val (.int (1 : Int32)), .unset] [(.int (1 : Int32)), (.ref ob6), (.int (own_ch (own_b (v1 &&& (255 : Int32)))))])) rfl rfl (hb hby at_249)) ?_
  show own_Go p e below (T60.setTop (mkF m 250 #[.val (.int a1), .val (.int b1), .val (.long q), .second, .val (.int u), .val (.int v1), .val (.ref r_1), .val (.ref r_3), .val (.ref r_5), .val (.ref ob6), .val (.ref ob11), .val (.ref t1_16), .val (.ref t1_18), .val (.ref t1_20), .val (.ref t1_22), .val (.ref r_1), .val (.ref r_3), .val (.ref r_5), .val (.ref ob11), .val (.ref r_1), .val (.int (1 : Int32)), .val (.int (1 : Int32)), .val (.int (1 : Int32)), .unset] [(.int (v1 &&& (255 : Int32))), (.int (own_ch (own_b (v1 &&& (255 : Int32)))))])) _
  refine own_by (fun _ k => XS.icmpNo X60.here hx rfl (hb hby at_250) rfl (teq (own_ch_mask v1)).2 k) ?_
  show own_Go p e below (T60.setTop (mkF m 253 #[.val (.int a1), .val (.int b1), .val (.long q), .second, .val (.int u), .val (.int v1), .val (.ref r_1), .val (.ref r_3), .val (.ref r_5), .val (.ref ob6), .val (.ref ob11), .val (.ref t1_16), .val (.ref t1_18), .val (.ref t1_20), .val (.ref t1_22), .val (.ref r_1), .val (.ref r_3), .val (.ref r_5), .val (.ref ob11), .val (.ref r_1), .val (.int (1 : Int32)), .val (.int (1 : Int32)), .val (.int (1 : Int32)), .unset] [])) _
  refine own_by (fun _ k => XS.iconst X60.here hx rfl (hb hby at_253) k) ?_
  show own_Go p e below (T60.setTop (mkF m 254 #[.val (.int a1), .val (.int b1), .val (.long q), .second, .val (.int u), .val (.int v1), .val (.ref r_1), .val (.ref r_3), .val (.ref r_5), .val (.ref ob6), .val (.ref ob11), .val (.ref t1_16), .val (.ref t1_18), .val (.ref t1_20), .val (.ref t1_22), .val (.ref r_1), .val (.ref r_3), .val (.ref r_5), .val (.ref ob11), .val (.ref r_1), .val (.int (1 : Int32)), .val (.int (1 : Int32)), .val (.int (1 : Int32)), .unset] [(.int (1 : Int32))])) _
  refine own_by (fun _ k => XS.goto X60.here hx rfl (pc0 := 254) (pc' := 258) rfl (hb hby at_254) (by decide) (by decide) k) ?_
  show own_Go p e below (T60.setTop (mkF m 258 #[.val (.int a1), .val (.int b1), .val (.long q), .second, .val (.int u), .val (.int v1), .val (.ref r_1), .val (.ref r_3), .val (.ref r_5), .val (.ref ob6), .val (.ref ob11), .val (.ref t1_16), .val (.ref t1_18), .val (.ref t1_20), .val (.ref t1_22), .val (.ref r_1), .val (.ref r_3), .val (.ref r_5), .val (.ref ob11), .val (.ref r_1), .val (.int (1 : Int32)), .val (.int (1 : Int32)), .val (.int (1 : Int32)), .unset] [(.int (1 : Int32))])) _
  refine own_by (fun _ k => XS.istore X60.here hx rfl (hb hby at_258) rfl (l' := #[.val (.int a1), .val (.int b1), .val (.long q), .second, .val (.int u), .val (.int v1), .val (.ref r_1), .val (.ref r_3), .val (.ref r_5), .val (.ref ob6), .val (.ref ob11), .val (.ref t1_16), .val (.ref t1_18), .val (.ref t1_20), .val (.ref t1_22), .val (.ref r_1), .val (.ref r_3), .val (.ref r_5), .val (.ref ob11), .val (.ref r_1), .val (.int (1 : Int32)), .val (.int (1 : Int32)), .val (.int (1 : Int32)), .val (.int (1 : Int32))]) rfl k) ?_
  show own_Go p e below (T60.setTop (mkF m 260 #[.val (.int a1), .val (.int b1), .val (.long q), .second, .val (.int u), .val (.int v1), .val (.ref r_1), .val (.ref r_3), .val (.ref r_5), .val (.ref ob6), .val (.ref ob11), .val (.ref t1_16), .val (.ref t1_18), .val (.ref t1_20), .val (.ref t1_22), .val (.ref r_1), .val (.ref r_3), .val (.ref r_5), .val (.ref ob11), .val (.ref r_1), .val (.int (1 : Int32)), .val (.int (1 : Int32)), .val (.int (1 : Int32)), .val (.int (1 : Int32))] [])) _
  refine own_by (fun _ k => XS.iload X60.here hx rfl (hb hby at_260) rfl k) ?_
  show own_Go p e below (T60.setTop (mkF m 262 #[.val (.int a1), .val (.int b1), .val (.long q), .second, .val (.int u), .val (.int v1), .val (.ref r_1), .val (.ref r_3), .val (.ref r_5), .val (.ref ob6), .val (.ref ob11), .val (.ref t1_16), .val (.ref t1_18), .val (.ref t1_20), .val (.ref t1_22), .val (.ref r_1), .val (.ref r_3), .val (.ref r_5), .val (.ref ob11), .val (.ref r_1), .val (.int (1 : Int32)), .val (.int (1 : Int32)), .val (.int (1 : Int32)), .val (.int (1 : Int32))] [(.int (1 : Int32))])) _
  refine own_by (fun _ k => XS.ifNo X60.here hx rfl (hb hby at_262) rfl ((if0 _ _).trans (feq (by decide : ¬ ((1 : Int32) = (0 : Int32)))).1) k) ?_
  show own_Go p e below (T60.setTop (mkF m 265 #[.val (.int a1), .val (.int b1), .val (.long q), .second, .val (.int u), .val (.int v1), .val (.ref r_1), .val (.ref r_3), .val (.ref r_5), .val (.ref ob6), .val (.ref ob11), .val (.ref t1_16), .val (.ref t1_18), .val (.ref t1_20), .val (.ref t1_22), .val (.ref r_1), .val (.ref r_3), .val (.ref r_5), .val (.ref ob11), .val (.ref r_1), .val (.int (1 : Int32)), .val (.int (1 : Int32)), .val (.int (1 : Int32)), .val (.int (1 : Int32))] [])) _
  refine own_by (fun _ k => XS.iload X60.here hx rfl (hb hby at_265) rfl k) ?_
  show own_Go p e below (T60.setTop (mkF m 267 #[.val (.int a1), .val (.int b1), .val (.long q), .second, .val (.int u), .val (.int v1), .val (.ref r_1), .val (.ref r_3), .val (.ref r_5), .val (.ref ob6), .val (.ref ob11), .val (.ref t1_16), .val (.ref t1_18), .val (.ref t1_20), .val (.ref t1_22), .val (.ref r_1), .val (.ref r_3), .val (.ref r_5), .val (.ref ob11), .val (.ref r_1), .val (.int (1 : Int32)), .val (.int (1 : Int32)), .val (.int (1 : Int32)), .val (.int (1 : Int32))] [(.int (1 : Int32))])) _
  refine own_by (fun _ k => XS.ifNo X60.here hx rfl (hb hby at_267) rfl ((if0 _ _).trans (feq (by decide : ¬ ((1 : Int32) = (0 : Int32)))).1) k) ?_
  show own_Go p e below (T60.setTop (mkF m 270 #[.val (.int a1), .val (.int b1), .val (.long q), .second, .val (.int u), .val (.int v1), .val (.ref r_1), .val (.ref r_3), .val (.ref r_5), .val (.ref ob6), .val (.ref ob11), .val (.ref t1_16), .val (.ref t1_18), .val (.ref t1_20), .val (.ref t1_22), .val (.ref r_1), .val (.ref r_3), .val (.ref r_5), .val (.ref ob11), .val (.ref r_1), .val (.int (1 : Int32)), .val (.int (1 : Int32)), .val (.int (1 : Int32)), .val (.int (1 : Int32))] [])) _
  refine own_by (fun _ k => XS.iload X60.here hx rfl (hb hby at_270) rfl k) ?_
  show own_Go p e below (T60.setTop (mkF m 272 #[.val (.int a1), .val (.int b1), .val (.long q), .second, .val (.int u), .val (.int v1), .val (.ref r_1), .val (.ref r_3), .val (.ref r_5), .val (.ref ob6), .val (.ref ob11), .val (.ref t1_16), .val (.ref t1_18), .val (.ref t1_20), .val (.ref t1_22), .val (.ref r_1), .val (.ref r_3), .val (.ref r_5), .val (.ref ob11), .val (.ref r_1), .val (.int (1 : Int32)), .val (.int (1 : Int32)), .val (.int (1 : Int32)), .val (.int (1 : Int32))] [(.int (1 : Int32))])) _
  refine own_by (fun _ k => XS.ifNo X60.here hx rfl (hb hby at_272) rfl ((if0 _ _).trans (feq (by decide : ¬ ((1 : Int32) = (0 : Int32)))).1) k) ?_
  show own_Go p e below (T60.setTop (mkF m 275 #[.val (.int a1), .val (.int b1), .val (.long q), .second, .val (.int u), .val (.int v1), .val (.ref r_1), .val (.ref r_3), .val (.ref r_5), .val (.ref ob6), .val (.ref ob11), .val (.ref t1_16), .val (.ref t1_18), .val (.ref t1_20), .val (.ref t1_22), .val (.ref r_1), .val (.ref r_3), .val (.ref r_5), .val (.ref ob11), .val (.ref r_1), .val (.int (1 : Int32)), .val (.int (1 : Int32)), .val (.int (1 : Int32)), .val (.int (1 : Int32))] [])) _
  refine own_by (fun _ k => XS.iload X60.here hx rfl (hb hby at_275) rfl k) ?_
  show own_Go p e below (T60.setTop (mkF m 277 #[.val (.int a1), .val (.int b1), .val (.long q), .second, .val (.int u), .val (.int v1), .val (.ref r_1), .val (.ref r_3), .val (.ref r_5), .val (.ref ob6), .val (.ref ob11), .val (.ref t1_16), .val (.ref t1_18), .val (.ref t1_20), .val (.ref t1_22), .val (.ref r_1), .val (.ref r_3), .val (.ref r_5), .val (.ref ob11), .val (.ref r_1), .val (.int (1 : Int32)), .val (.int (1 : Int32)), .val (.int (1 : Int32)), .val (.int (1 : Int32))] [(.int (1 : Int32))])) _
  refine own_by (fun _ k => XS.ifNo X60.here hx rfl (hb hby at_277) rfl ((if0 _ _).trans (feq (by decide : ¬ ((1 : Int32) = (0 : Int32)))).1) k) ?_
  show own_Go p e below (T60.setTop (mkF m 280 #[.val (.int a1), .val (.int b1), .val (.long q), .second, .val (.int u), .val (.int v1), .val (.ref r_1), .val (.ref r_3), .val (.ref r_5), .val (.ref ob6), .val (.ref ob11), .val (.ref t1_16), .val (.ref t1_18), .val (.ref t1_20), .val (.ref t1_22), .val (.ref r_1), .val (.ref r_3), .val (.ref r_5), .val (.ref ob11), .val (.ref r_1), .val (.int (1 : Int32)), .val (.int (1 : Int32)), .val (.int (1 : Int32)), .val (.int (1 : Int32))] [])) _
  refine own_by (fun _ k => XS.iconst X60.here hx rfl (hb hby at_280) k) ?_
  show own_Go p e below (T60.setTop (mkF m 281 #[.val (.int a1), .val (.int b1), .val (.long q), .second, .val (.int u), .val (.int v1), .val (.ref r_1), .val (.ref r_3), .val (.ref r_5), .val (.ref ob6), .val (.ref ob11), .val (.ref t1_16), .val (.ref t1_18), .val (.ref t1_20), .val (.ref t1_22), .val (.ref r_1), .val (.ref r_3), .val (.ref r_5), .val (.ref ob11), .val (.ref r_1), .val (.int (1 : Int32)), .val (.int (1 : Int32)), .val (.int (1 : Int32)), .val (.int (1 : Int32))] [(.int (1 : Int32))])) _
  refine own_by (fun _ k => XS.goto X60.here hx rfl (pc0 := 281) (pc' := 285) rfl (hb hby at_281) (by decide) (by decide) k) ?_
  show own_Go p e below (T60.setTop (mkF m 285 #[.val (.int a1), .val (.int b1), .val (.long q), .second, .val (.int u), .val (.int v1), .val (.ref r_1), .val (.ref r_3), .val (.ref r_5), .val (.ref ob6), .val (.ref ob11), .val (.ref t1_16), .val (.ref t1_18), .val (.ref t1_20), .val (.ref t1_22), .val (.ref r_1), .val (.ref r_3), .val (.ref r_5), .val (.ref ob11), .val (.ref r_1), .val (.int (1 : Int32)), .val (.int (1 : Int32)), .val (.int (1 : Int32)), .val (.int (1 : Int32))] [(.int (1 : Int32))])) _
  have K62 : Keep h0 T22.heap [] := (((((((((((((Keep.refl h0 []).trans K1 all0).trans K3 all0).trans K5 all0).ext E6).wr W8 (Or.inr (by omega))).wr W10 (Or.inr (by omega))).ext E11).trans K14 (allS (P := fun x => x ∈ [] ∨ h0.size ≤ x) (Or.inr (by omega)) all0)).trans K16 all0).trans K18 all0).trans K20 all0).trans K22 all0)
  obtain ⟨fs, hr, hrun, hended, hW⟩ := X60.leaveW S22 (by first | omega | (rw [K60]; omega)) (v := some (.int (1 : Int32))) (fun h => by rw [Bd.returns] at h; cases h)
  refine ⟨_, _, retN X60 hx (t := .boolean) Bd.returns (by simp) (hb hby at_285) hr, hrun, hended, _, _, rfl, ?_, ⟨_, rfl⟩, hW.2.1, hW.2.2.1, hW.2.2.2.mono (by decide) (by decide)⟩
  show Q_rm_law Z a1 b1 q u v1 ci cci cl ccl cs fmt h0 n0 _ T60.heap _
  rw [K60]
  exact ⟨rfl, N60, K62⟩
set_option maxRecDepth 65536 in
set_option maxHeartbeats 40000000 in
theorem comes_1 {Post : Tables → Env → Array Value → State → Outcome → State → Prop} (hpost : ∀ tb e args s v u, (limb_1_1.after args s (.returned v) u = true ∧ limb_1_2.after args s (.returned v) u = true ∧ True) → ReturnedEndW s (.returned v) u (Jvm.fieldLocs frame_1_writes args s ++ Jvm.arrayLocs frame_1_arrays args s ++ Jvm.staticLocs frame_1_statics s) 32 1152 → Post tb e args s (.returned v) u) :
    ArmFor flags0 classFile x code maxLocals ret World_1 tables_1 room_1 Calls_1 rest_1 Pre_1 Post := by
  intro l hfl _ _ p e ha hc hk s m args below hf hA hF happ hP
  obtain ⟨hcalls, hrest, hpre⟩ := hP
  obtain ⟨-, -, -, hnamed, -, -, -, hat⟩ := (Spec.applies_iff hf).mp happ
  obtain ⟨hg, hn⟩ := and_e (Cond.before_iff.mp (show (Jvm.Cond.and given_1 narrow_1).before args s = true from hpre))
  obtain ⟨hh0, hg0⟩ := and_e hg
  obtain ⟨hh1, hg1⟩ := and_e hg0
  obtain ⟨hh2, hg2⟩ := and_e hg1
  obtain ⟨hh3, hg3⟩ := and_e hg2
  obtain ⟨hh4, hg4⟩ := and_e hg3
  obtain ⟨w0, w1, w2, w3, w4, rfl⟩ : ∃ w0 w1 w2 w3 w4 : Value, args = #[w0, w1, w2, w3, w4] := by
    have hs : args.size = 5 := by simpa [Cond.value, given_1] using hh0
    obtain ⟨L⟩ := args
    match L, hs with
    | [w0, w1, w2, w3, w4], _ => exact ⟨w0, w1, w2, w3, w4, rfl⟩
  have hw := fun d (hd : d ∈ tables_1) => atoms_spec (ws := Jvm.Cond.code x code maxLocals ret :: tables_1) hat d (List.mem_cons_of_mem _ hd)
  have hfit : Fit s := fun {y c} hc i hi => by
    obtain ⟨ha, rfl⟩ := Array.getElem?_eq_some_iff.mp hc
    have q := List.all_eq_true.mp ((Array.all_eq_true_iff_forall_mem.mp hF) _ (Array.getElem_mem ha)) i (List.mem_range.mpr hi)
    simpa [Array.getElem?_eq_getElem hi] using q
  obtain ⟨hsets, hown0⟩ := atoms_of _ (rest_1_c_eq ▸ (show rest_1_c.before _ s = true from hrest))
  have hr0 := Cond.before_iff.mp hown0
  obtain ⟨i0, ea0⟩ := is_v hh1
  obtain rfl : w0 = (.int i0) := Option.some.inj ea0
  obtain ⟨i1, ea1⟩ := is_v hh2
  obtain rfl : w1 = (.int i1) := Option.some.inj ea1
  obtain ⟨i2, ea2⟩ := isL_v hh3
  obtain rfl : w2 = (.long i2) := Option.some.inj ea2
  obtain ⟨i3, ea3⟩ := is_v hh4
  obtain rfl : w3 = (.int i3) := Option.some.inj ea3
  obtain ⟨i4, ea4⟩ := is_v hg4
  obtain rfl : w4 = (.int i4) := Option.some.inj ea4
  obtain ⟨cs, v_cs⟩ := is_v (Cond.before_iff.mp (hsets _ (List.mem_of_getElem? (i := 15) rfl)))
  have S_COMPACT := Sta.start v_cs (Or.inl (hsets _ (List.mem_of_getElem? (i := 14) rfl)))
  have hcs : ¬ (cs = (0 : Int32)) := gotF (Cond.eq_ints v_cs (Term.int_eval (0))) (not_v (Cond.before_iff.mp (hsets _ (List.mem_of_getElem? (i := 16) rfl))))
  obtain ⟨fmt, v_fmt, hfmt⟩ := isR_v (Cond.before_iff.mp (hsets _ (List.mem_of_getElem? (i := 22) rfl)))
  have S_FMT := Sta.start v_fmt (Or.inl (hsets _ (List.mem_of_getElem? (i := 21) rfl)))
  have v_high := own_eq_int (Cond.before_iff.mp (hsets _ (List.mem_of_getElem? (i := 3) rfl)))
  have S_high := Sta.start v_high (Or.inl (hsets _ (List.mem_of_getElem? (i := 1) rfl)))
  obtain ⟨ci, v_ci⟩ := arr_v (Cond.before_iff.mp (hsets _ (List.mem_of_getElem? (i := 4) rfl)))
  have S_icache := own_sta_via (hsets _ (List.mem_of_getElem? (i := 0) rfl)) (hsets _ (List.mem_of_getElem? (i := 1) rfl)) (hsets _ (List.mem_of_getElem? (i := 2) rfl)) v_ci
  obtain ⟨cci, A_ci⟩ := Arr.start v_ci (Cond.before_iff.mp (hsets _ (List.mem_of_getElem? (i := 4) rfl)))
  have len_ci := own_len v_ci A_ci (Cond.before_iff.mp (hsets _ (List.mem_of_getElem? (i := 6) rfl)))
  have Bxi : Bxs s ci cci "java/lang/Integer" "I" (256 : Int32) (fun j => .int (j - 128)) := Bxs.start (fun _ => own_static_idx v_ci) A_ci len_ci.1 len_ci.2 (by decide) (Cond.before_iff.mp (hsets _ (List.mem_of_getElem? (i := 7) rfl))) (fun X j nj h => by have hn0 := (back32 nj).1; exact own_box_i nj h)
  obtain ⟨cl, v_cl⟩ := arr_v (Cond.before_iff.mp (hsets _ (List.mem_of_getElem? (i := 10) rfl)))
  have S_lcache := Sta.start v_cl (Or.inl (hsets _ (List.mem_of_getElem? (i := 9) rfl)))
  obtain ⟨ccl, A_cl⟩ := Arr.start v_cl (Cond.before_iff.mp (hsets _ (List.mem_of_getElem? (i := 10) rfl)))
  have len_cl := own_len v_cl A_cl (Cond.before_iff.mp (hsets _ (List.mem_of_getElem? (i := 12) rfl)))
  have Bxl : Bxs s cl ccl "java/lang/Long" "J" (256 : Int32) (fun j => .long (j - 128).toInt64) := Bxs.start (fun _ => own_static_idx v_cl) A_cl len_cl.1 len_cl.2 (by decide) (Cond.before_iff.mp (hsets _ (List.mem_of_getElem? (i := 13) rfl))) (fun X j nj h => by have hn0 := (back32 nj).1; exact own_box_l nj h)
  obtain ⟨n, o, h1, h2, h3, _, L, rfl, ⟨rfl, N, -⟩, hq⟩ := rm_law l s _ hw tables_1 i0 i1 i2 i3 i4 ci cci cl ccl cs fmt s.heap s.heap.size (Old.start s) S_high S_icache Bxi S_lcache Bxl S_COMPACT S_FMT hcs hfmt p e ha hc hk s m _ below hf ((Spec.applies_iff_loose hf).mp happ).1 ⟨rfl, State.Warmed39.refl s, rfl⟩ trivial
  refine ⟨n, _, h1, h2, h3, hpost _ _ _ _ _ _ ⟨Cond.after_iff.mpr rfl, Cond.after_iff.mpr (eq_i res_at (Term.int_eval (1)) rfl), trivial⟩ ⟨hq.1, hq.2.1, hq.2.2.1, (hq.2.2.2.sift fun y hy => Or.inr (N y hy)).mono (by decide) (by decide)⟩⟩
theorem main_1_1 : Claimed_1_1 := comes_1 fun _ _ _ _ _ _ h hF => ⟨h.1, hF⟩
theorem main_1_2 : Claimed_1_2 := comes_1 fun _ _ _ _ _ _ h hF => ⟨h.2.1, hF⟩
end Jvm.Pilot.@@N@@
namespace Jvm.Pilot.@@N@@
open Jvm Jvm.ClassFile Sem Op Lib Jvm.Free Jvm.Stand Jvm.Pilot.@@N@@.Jvm.D
/-! MADE BY PROGRAM (witnessworld.py) out of the Statement's table words and the real class files: 28 classes; the members and pool entries that the words name. The judged class is class 1, her method 1. -/
namespace start1
open Jvm.ClassFile
def u (s : String) : CpInfo := .utf8 (stringToUtf16 s)
/-- a pool by its gaps: so many unusable entries, then the entry; so many at the end -/
def gap : Nat → List CpInfo → List CpInfo
  | 0, r => r
  | n + 1, r => .unusable :: gap n r
def poolList (es : List (Nat × CpInfo)) (last : Nat) : List CpInfo := es.foldr (fun e r => gap e.1 (e.2 :: r)) (gap last [])
def pool (es : List (Nat × CpInfo)) (last : Nat) : Array CpInfo := ⟨poolList es last⟩
def fileOf (pool : Array CpInfo) (this : Nat) (attrs : Array Attribute := #[]) (ms : Array MethodInfo := #[]) (fl : Nat := 33) (sup : Nat := 0) (ifs : Array Nat := #[]) (fds : Array FieldInfo := #[]) : ClassFile where
  minorVersion := 0
  majorVersion := 65
  constantPool := pool
  accessFlags := fl
  thisClass := this
  superClass := sup
  interfaces := ifs
  fields := fds
  methods := ms
  attributes := attrs
def plain (name : String) (sup : Option ClassId) : Class where
  name := name
  kind := .ordinary
  loader := none
  accessFlags := 33
  super := sup
  interfaces := #[]
  cf := none
  fields := #[]
  methods := #[]
  instanceTypes := #[]
  staticTypes := #[]
  resolved := #[]
  callSites := []
  init := .initialized
  statics := none
  mirror := none

def pool0 : Array CpInfo := pool [(5, u "<init>"), (0, u "()V"), (1, .class_ 10), (1, u "java/lang/Object")] 113

def k0c0 : Code := { maxStack := 0, maxLocals := 1, code := object_method_1_code, exceptionTable := #[], attributes := #[] }
def k0m0 : Method := { name := "<init>", desc := "()V", sig := { parameters := [], returnType := none }, accessFlags := 1, code := some k0c0 }
/-- java/lang/Object -/
def k0 : Class := { plain "java/lang/Object" none with
  accessFlags := 33
  interfaces := #[]
  cf := some (fileOf pool0 8 #[] #[{ accessFlags := 1, nameIndex := 5, descriptorIndex := 6, attributes := #[] }] 33 0 #[] #[])
  fields := #[]
  methods := #[k0m0]
  instanceTypes := #[]
  staticTypes := #[]
  resolved := Array.replicate 124 none
  statics := none }

def pool1 : Array CpInfo := pool [(2, .class_ 4), (1, u "java/lang/Object"), (0, u "<init>"), (0, u "()V"), (0, .methodref 8 9), (0, .class_ 10), (0, .nameAndType 11 12), (0, u "java/lang/Integer"), (0, u "valueOf"), (0, u "(I)Ljava/lang/Integer;"), (0, .methodref 14 15), (0, .class_ 16), (0, .nameAndType 11 17), (0, u "java/lang/Long"), (0, u "(J)Ljava/lang/Long;"), (0, .class_ 19), (0, u "java/lang/String"), (0, .methodref 18 21), (0, .nameAndType 5 22), (0, u "([C)V"), (0, .methodref 24 25), (0, .class_ 26), (0, .nameAndType 27 28), (0, u "com/example/commit_to_chain/committochain/core/ChainAnswer"), (0, u "of"), (0, u "(Ljava/lang/Object;)Lcom/example/commit_to_chain/committochain/core/ChainAnswer;"), (0, .methodref 24 30), (0, .nameAndType 31 32), (0, u "get"), (0, u "()Ljava/lang/Object;"), (0, .methodref 8 34), (0, .nameAndType 35 36), (0, u "intValue"), (0, u "()I"), (0, .methodref 14 38), (0, .nameAndType 39 40), (0, u "longValue"), (0, u "()J"), (0, .methodref 18 42), (0, .nameAndType 43 36), (0, u "length"), (0, .methodref 18 45), (0, .nameAndType 46 47), (0, u "charAt"), (0, u "(I)C"), (0, .class_ 49), (0, u "com/example/commit_to_chain/committochain/core/ChainAnswerOfPinLaw"), (2, u "law"), (0, u "(IIJII)Z")] 5

def k1m0 : Method := { name := "<init>", desc := "()V", sig := { parameters := [], returnType := none }, accessFlags := 1, code := none }
def k1c1 : Code := { maxStack := 4, maxLocals := 24, code := code, exceptionTable := #[], attributes := #[] }
def k1m1 : Method := { name := "law", desc := "(IIJII)Z", sig := { parameters := [.int, .int, .long, .int, .int], returnType := some .boolean }, accessFlags := 9, code := some k1c1 }
/-- com/example/commit_to_chain/committochain/core/ChainAnswerOfPinLaw -/
def k1 : Class := { plain "com/example/commit_to_chain/committochain/core/ChainAnswerOfPinLaw" (some 0) with
  accessFlags := 49
  interfaces := #[]
  cf := some (fileOf pool1 48 #[] #[{ accessFlags := 1, nameIndex := 5, descriptorIndex := 6, attributes := #[] }, { accessFlags := 9, nameIndex := 52, descriptorIndex := 53, attributes := #[] }] 49 2 #[] #[])
  fields := #[]
  methods := #[k1m0, k1m1]
  instanceTypes := #[]
  staticTypes := #[]
  resolved := Array.replicate 59 none
  statics := none }

def pool2 : Array CpInfo := pool [(1, .class_ 2), (0, u "java/io/Serializable"), (0, .class_ 4), (0, u "java/lang/Object")] 2

/-- java/io/Serializable -/
def k2 : Class := { plain "java/io/Serializable" (some 0) with
  accessFlags := 1537
  interfaces := #[]
  cf := some (fileOf pool2 1 #[] #[] 1537 3 #[] #[])
  fields := #[]
  methods := #[]
  instanceTypes := #[]
  staticTypes := #[]
  resolved := Array.replicate 7 none
  statics := none }

def pool3 : Array CpInfo := pool [(1, .methodref 2 3), (0, .class_ 4), (0, .nameAndType 5 6), (0, u "java/lang/Object"), (0, u "<init>"), (0, u "()V"), (1, .class_ 10), (1, u "java/lang/Number"), (2, .class_ 14), (0, u "java/io/Serializable"), (0, u "serialVersionUID"), (0, u "J")] 20

def k3c0 : Code := { maxStack := 1, maxLocals := 1, code := jdk_18_method_1_code, exceptionTable := #[], attributes := #[] }
def k3m0 : Method := { name := "<init>", desc := "()V", sig := { parameters := [], returnType := none }, accessFlags := 1, code := some k3c0 }
/-- java/lang/Number -/
def k3 : Class := { plain "java/lang/Number" (some 0) with
  accessFlags := 1057
  interfaces := #[2]
  cf := some (fileOf pool3 8 #[] #[{ accessFlags := 1, nameIndex := 5, descriptorIndex := 6, attributes := #[] }] 1057 2 #[13] #[{ accessFlags := 26, nameIndex := 15, descriptorIndex := 16, attributes := #[] }])
  fields := #[{ name := "serialVersionUID", type := .long, accessFlags := 26, slot := 0, constantValue := 0 }]
  methods := #[k3m0]
  instanceTypes := #[]
  staticTypes := #[.long]
  resolved := Array.replicate 37 none
  statics := none }

def pool4 : Array CpInfo := pool [(1, .class_ 2), (0, u "java/lang/Comparable"), (0, .class_ 4), (0, u "java/lang/Object")] 7

/-- java/lang/Comparable -/
def k4 : Class := { plain "java/lang/Comparable" (some 0) with
  accessFlags := 1537
  interfaces := #[]
  cf := some (fileOf pool4 1 #[] #[] 1537 3 #[] #[])
  fields := #[]
  methods := #[]
  instanceTypes := #[]
  staticTypes := #[]
  resolved := Array.replicate 12 none
  statics := none }

def pool5 : Array CpInfo := pool [(1, .class_ 2), (0, u "java/lang/constant/Constable"), (0, .class_ 4), (0, u "java/lang/Object")] 6

/-- java/lang/constant/Constable -/
def k5 : Class := { plain "java/lang/constant/Constable" (some 0) with
  accessFlags := 1537
  interfaces := #[]
  cf := some (fileOf pool5 1 #[] #[] 1537 3 #[] #[])
  fields := #[]
  methods := #[]
  instanceTypes := #[]
  staticTypes := #[]
  resolved := Array.replicate 11 none
  statics := none }

def pool6 : Array CpInfo := pool [(1, .class_ 2), (0, u "java/lang/constant/ConstantDesc"), (0, .class_ 4), (0, u "java/lang/Object")] 32

/-- java/lang/constant/ConstantDesc -/
def k6 : Class := { plain "java/lang/constant/ConstantDesc" (some 0) with
  accessFlags := 1537
  interfaces := #[]
  cf := some (fileOf pool6 1 #[] #[] 1537 3 #[] #[])
  fields := #[]
  methods := #[]
  instanceTypes := #[]
  staticTypes := #[]
  resolved := Array.replicate 37 none
  statics := none }

def pool7 : Array CpInfo := pool [(1, .class_ 2), (0, u "java/lang/Integer"), (16, u "digits"), (0, u "[C"), (46, u "<init>"), (17, u "DigitOnes"), (0, u "[B"), (2, u "DigitTens"), (10, .nameAndType 67 101), (0, u "()V"), (19, u "()I"), (65, u "valueOf"), (0, u "(I)Ljava/lang/Integer;"), (0, .class_ 190), (0, u "java/lang/Integer$IntegerCache"), (0, .fieldref 189 192), (0, .nameAndType 193 194), (0, u "high"), (0, u "I"), (0, .fieldref 189 196), (0, .nameAndType 197 198), (0, u "cache"), (0, u "[Ljava/lang/Integer;"), (0, .methodref 1 200), (0, .nameAndType 67 201), (0, u "(I)V"), (0, .methodref 203 100), (0, .class_ 204), (0, u "java/lang/Number"), (0, .fieldref 1 206), (0, .nameAndType 207 194), (0, u "value"), (5, u "intValue"), (88, u "TYPE"), (0, u "Ljava/lang/Class;"), (0, .class_ 305), (0, u "java/lang/Comparable"), (0, .class_ 307), (0, u "java/lang/constant/Constable"), (0, .class_ 309), (0, u "java/lang/constant/ConstantDesc"), (0, u "MIN_VALUE"), (1, u "MAX_VALUE"), (3, u "SIZE"), (1, u "BYTES"), (1, u "serialVersionUID"), (0, u "J")] 131

def k7c0 : Code := { maxStack := 3, maxLocals := 1, code := jdk_33_method_22_code, exceptionTable := #[], attributes := #[] }
def k7m0 : Method := { name := "valueOf", desc := "(I)Ljava/lang/Integer;", sig := { parameters := [.int], returnType := some (.object "java/lang/Integer") }, accessFlags := 9, code := some k7c0 }
def k7c1 : Code := { maxStack := 2, maxLocals := 2, code := jdk_33_method_23_code, exceptionTable := #[], attributes := #[] }
def k7m1 : Method := { name := "<init>", desc := "(I)V", sig := { parameters := [.int], returnType := none }, accessFlags := 1, code := some k7c1 }
def k7c2 : Code := { maxStack := 1, maxLocals := 1, code := jdk_33_method_27_code, exceptionTable := #[], attributes := #[] }
def k7m2 : Method := { name := "intValue", desc := "()I", sig := { parameters := [], returnType := some .int }, accessFlags := 1, code := some k7c2 }
/-- java/lang/Integer -/
def k7 : Class := { plain "java/lang/Integer" (some 3) with
  accessFlags := 49
  interfaces := #[4, 5, 6]
  cf := some (fileOf pool7 1 #[.nestMembers #[189]] #[{ accessFlags := 9, nameIndex := 187, descriptorIndex := 188, attributes := #[] }, { accessFlags := 1, nameIndex := 67, descriptorIndex := 201, attributes := #[] }, { accessFlags := 1, nameIndex := 213, descriptorIndex := 121, attributes := #[] }] 49 203 #[304, 306, 308] #[{ accessFlags := 25, nameIndex := 310, descriptorIndex := 194, attributes := #[] }, { accessFlags := 25, nameIndex := 312, descriptorIndex := 194, attributes := #[] }, { accessFlags := 25, nameIndex := 302, descriptorIndex := 303, attributes := #[] }, { accessFlags := 24, nameIndex := 19, descriptorIndex := 20, attributes := #[] }, { accessFlags := 24, nameIndex := 89, descriptorIndex := 86, attributes := #[] }, { accessFlags := 24, nameIndex := 85, descriptorIndex := 86, attributes := #[] }, { accessFlags := 18, nameIndex := 207, descriptorIndex := 194, attributes := #[] }, { accessFlags := 25, nameIndex := 316, descriptorIndex := 194, attributes := #[] }, { accessFlags := 25, nameIndex := 318, descriptorIndex := 194, attributes := #[] }, { accessFlags := 26, nameIndex := 320, descriptorIndex := 321, attributes := #[] }])
  fields := #[{ name := "MIN_VALUE", type := .int, accessFlags := 25, slot := 0, constantValue := 0 }, { name := "MAX_VALUE", type := .int, accessFlags := 25, slot := 1, constantValue := 0 }, { name := "TYPE", type := (.object "java/lang/Class"), accessFlags := 25, slot := 2, constantValue := 0 }, { name := "digits", type := (.array .char), accessFlags := 24, slot := 3, constantValue := 0 }, { name := "DigitTens", type := (.array .byte), accessFlags := 24, slot := 4, constantValue := 0 }, { name := "DigitOnes", type := (.array .byte), accessFlags := 24, slot := 5, constantValue := 0 }, { name := "value", type := .int, accessFlags := 18, slot := 0, constantValue := 0 }, { name := "SIZE", type := .int, accessFlags := 25, slot := 6, constantValue := 0 }, { name := "BYTES", type := .int, accessFlags := 25, slot := 7, constantValue := 0 }, { name := "serialVersionUID", type := .long, accessFlags := 26, slot := 8, constantValue := 0 }]
  methods := #[k7m0, k7m1, k7m2]
  instanceTypes := #[.int]
  staticTypes := #[.int, .int, (.object "java/lang/Class"), (.array .char), (.array .byte), (.array .byte), .int, .int, .long]
  resolved := Array.replicate 453 none
  statics := none }

def pool8 : Array CpInfo := pool [(2, .class_ 4), (1, u "java/lang/Object"), (0, u "<init>"), (0, u "()V"), (0, .class_ 8), (0, u "java/lang/Integer"), (7, .class_ 18), (1, u "java/lang/Integer$IntegerCache"), (0, u "$assertionsDisabled"), (0, u "Z"), (26, u "high"), (0, u "I"), (8, u "archivedCache"), (0, u "[Ljava/lang/Integer;"), (12, u "cache"), (0, u "low")] 27

def k8m0 : Method := { name := "<init>", desc := "()V", sig := { parameters := [], returnType := none }, accessFlags := 2, code := none }
/-- java/lang/Integer$IntegerCache -/
def k8 : Class := { plain "java/lang/Integer$IntegerCache" (some 0) with
  accessFlags := 48
  interfaces := #[]
  cf := some (fileOf pool8 16 #[.nestHost 7] #[{ accessFlags := 2, nameIndex := 5, descriptorIndex := 6, attributes := #[] }] 48 2 #[] #[{ accessFlags := 24, nameIndex := 72, descriptorIndex := 48, attributes := #[] }, { accessFlags := 24, nameIndex := 47, descriptorIndex := 48, attributes := #[] }, { accessFlags := 24, nameIndex := 71, descriptorIndex := 58, attributes := #[] }, { accessFlags := 8, nameIndex := 57, descriptorIndex := 58, attributes := #[] }, { accessFlags := 4120, nameIndex := 19, descriptorIndex := 20, attributes := #[] }])
  fields := #[{ name := "low", type := .int, accessFlags := 24, slot := 0, constantValue := 0 }, { name := "high", type := .int, accessFlags := 24, slot := 1, constantValue := 0 }, { name := "cache", type := (.array (.object "java/lang/Integer")), accessFlags := 24, slot := 2, constantValue := 0 }, { name := "archivedCache", type := (.array (.object "java/lang/Integer")), accessFlags := 8, slot := 3, constantValue := 0 }, { name := "$assertionsDisabled", type := .boolean, accessFlags := 4120, slot := 4, constantValue := 0 }]
  methods := #[k8m0]
  instanceTypes := #[]
  staticTypes := #[.int, .int, (.array (.object "java/lang/Integer")), (.array (.object "java/lang/Integer")), .boolean]
  resolved := Array.replicate 100 none
  statics := some 0 }

def pool9 : Array CpInfo := pool [(1, .class_ 2), (0, u "java/lang/Long"), (55, .nameAndType 59 60), (0, u "<init>"), (0, u "()V"), (24, u "valueOf"), (143, u "(J)Ljava/lang/Long;"), (0, .long 18446744073709551488), (1, .long 127), (1, .fieldref 235 236), (0, .class_ 237), (0, .nameAndType 238 239), (0, u "java/lang/Long$LongCache"), (0, u "cache"), (0, u "[Ljava/lang/Long;"), (0, .methodref 1 241), (0, .nameAndType 59 242), (0, u "(J)V"), (27, .methodref 271 58), (0, .class_ 272), (0, u "java/lang/Number"), (0, .fieldref 1 274), (0, .nameAndType 275 276), (0, u "value"), (0, u "J"), (5, u "longValue"), (0, u "()J"), (77, u "TYPE"), (0, u "Ljava/lang/Class;"), (0, .class_ 364), (0, u "java/lang/Comparable"), (0, .class_ 366), (0, u "java/lang/constant/Constable"), (0, .class_ 368), (0, u "java/lang/constant/ConstantDesc"), (0, u "MIN_VALUE"), (1, u "MAX_VALUE"), (4, u "SIZE"), (0, u "I"), (1, u "BYTES"), (1, u "serialVersionUID")] 142

def k9c0 : Code := { maxStack := 4, maxLocals := 3, code := jdk_35_method_24_code, exceptionTable := #[], attributes := #[] }
def k9m0 : Method := { name := "valueOf", desc := "(J)Ljava/lang/Long;", sig := { parameters := [.long], returnType := some (.object "java/lang/Long") }, accessFlags := 9, code := some k9c0 }
def k9c1 : Code := { maxStack := 3, maxLocals := 3, code := jdk_35_method_26_code, exceptionTable := #[], attributes := #[] }
def k9m1 : Method := { name := "<init>", desc := "(J)V", sig := { parameters := [.long], returnType := none }, accessFlags := 1, code := some k9c1 }
def k9c2 : Code := { maxStack := 2, maxLocals := 1, code := jdk_35_method_31_code, exceptionTable := #[], attributes := #[] }
def k9m2 : Method := { name := "longValue", desc := "()J", sig := { parameters := [], returnType := some .long }, accessFlags := 1, code := some k9c2 }
/-- java/lang/Long -/
def k9 : Class := { plain "java/lang/Long" (some 3) with
  accessFlags := 49
  interfaces := #[4, 5, 6]
  cf := some (fileOf pool9 1 #[.nestMembers #[235]] #[{ accessFlags := 9, nameIndex := 85, descriptorIndex := 229, attributes := #[] }, { accessFlags := 1, nameIndex := 59, descriptorIndex := 242, attributes := #[] }, { accessFlags := 1, nameIndex := 282, descriptorIndex := 283, attributes := #[] }] 49 271 #[363, 365, 367] #[{ accessFlags := 25, nameIndex := 369, descriptorIndex := 276, attributes := #[] }, { accessFlags := 25, nameIndex := 371, descriptorIndex := 276, attributes := #[] }, { accessFlags := 25, nameIndex := 361, descriptorIndex := 362, attributes := #[] }, { accessFlags := 18, nameIndex := 275, descriptorIndex := 276, attributes := #[] }, { accessFlags := 25, nameIndex := 376, descriptorIndex := 377, attributes := #[] }, { accessFlags := 25, nameIndex := 379, descriptorIndex := 377, attributes := #[] }, { accessFlags := 26, nameIndex := 381, descriptorIndex := 276, attributes := #[] }])
  fields := #[{ name := "MIN_VALUE", type := .long, accessFlags := 25, slot := 0, constantValue := 0 }, { name := "MAX_VALUE", type := .long, accessFlags := 25, slot := 1, constantValue := 0 }, { name := "TYPE", type := (.object "java/lang/Class"), accessFlags := 25, slot := 2, constantValue := 0 }, { name := "value", type := .long, accessFlags := 18, slot := 0, constantValue := 0 }, { name := "SIZE", type := .int, accessFlags := 25, slot := 3, constantValue := 0 }, { name := "BYTES", type := .int, accessFlags := 25, slot := 4, constantValue := 0 }, { name := "serialVersionUID", type := .long, accessFlags := 26, slot := 5, constantValue := 0 }]
  methods := #[k9m0, k9m1, k9m2]
  instanceTypes := #[.long]
  staticTypes := #[.long, .long, (.object "java/lang/Class"), .int, .int, .long]
  resolved := Array.replicate 524 none
  statics := none }

def pool10 : Array CpInfo := pool [(2, .class_ 4), (1, u "java/lang/Object"), (0, u "<init>"), (0, u "()V"), (0, .class_ 8), (0, u "java/lang/Long"), (7, .class_ 18), (1, u "java/lang/Long$LongCache"), (0, u "$assertionsDisabled"), (0, u "Z"), (8, u "archivedCache"), (0, u "[Ljava/lang/Long;"), (7, u "cache")] 24

def k10m0 : Method := { name := "<init>", desc := "()V", sig := { parameters := [], returnType := none }, accessFlags := 2, code := none }
/-- java/lang/Long$LongCache -/
def k10 : Class := { plain "java/lang/Long$LongCache" (some 0) with
  accessFlags := 48
  interfaces := #[]
  cf := some (fileOf pool10 16 #[.nestHost 7] #[{ accessFlags := 2, nameIndex := 5, descriptorIndex := 6, attributes := #[] }] 48 2 #[] #[{ accessFlags := 24, nameIndex := 38, descriptorIndex := 30, attributes := #[] }, { accessFlags := 8, nameIndex := 29, descriptorIndex := 30, attributes := #[] }, { accessFlags := 4120, nameIndex := 19, descriptorIndex := 20, attributes := #[] }])
  fields := #[{ name := "cache", type := (.array (.object "java/lang/Long")), accessFlags := 24, slot := 0, constantValue := 0 }, { name := "archivedCache", type := (.array (.object "java/lang/Long")), accessFlags := 8, slot := 1, constantValue := 0 }, { name := "$assertionsDisabled", type := .boolean, accessFlags := 4120, slot := 2, constantValue := 0 }]
  methods := #[k10m0]
  instanceTypes := #[]
  staticTypes := #[(.array (.object "java/lang/Long")), (.array (.object "java/lang/Long")), .boolean]
  resolved := Array.replicate 63 none
  statics := some 1 }

def pool11 : Array CpInfo := pool [(2, .class_ 4), (1, u "java/lang/CharSequence"), (42, .class_ 48), (0, u "java/lang/CharSequence$1CodePointIterator"), (10, .class_ 60), (0, u "java/lang/CharSequence$1CharIterator"), (5, .class_ 67), (0, u "java/lang/Object")] 63

/-- java/lang/CharSequence -/
def k11 : Class := { plain "java/lang/CharSequence" (some 0) with
  accessFlags := 1537
  interfaces := #[]
  cf := some (fileOf pool11 2 #[.nestMembers #[47, 59]] #[] 1537 66 #[] #[])
  fields := #[]
  methods := #[]
  instanceTypes := #[]
  staticTypes := #[]
  resolved := Array.replicate 131 none
  statics := none }

def pool12 : Array CpInfo := pool [(1, .methodref 2 3), (0, .class_ 4), (0, .nameAndType 5 6), (0, u "java/lang/Object"), (0, u "<init>"), (0, u "()V"), (2, .fieldref 10 11), (0, .class_ 12), (0, .nameAndType 13 14), (0, u "java/lang/String"), (0, u "value"), (0, u "[B"), (0, .fieldref 10 16), (0, .nameAndType 17 18), (0, u "coder"), (0, u "B"), (2, u "hash"), (0, u "I"), (2, u "hashIsZero"), (0, u "Z"), (0, .methodref 10 28), (0, .nameAndType 5 29), (0, u "([CIILjava/lang/Void;)V"), (8, .fieldref 10 39), (0, .nameAndType 40 26), (0, u "COMPACT_STRINGS"), (1, .class_ 44), (1, u "java/lang/StringUTF16"), (0, u "compress"), (1, .methodref 42 48), (0, .nameAndType 49 50), (0, u "coderFromArrayLen"), (0, u "([BI)B"), (56, .class_ 109), (1, u "java/lang/StringLatin1"), (32, u "()Z"), (34, .methodref 42 178), (0, .nameAndType 45 179), (0, u "([CII)[B"), (154, u "()I"), (0, .methodref 10 336), (0, .nameAndType 17 337), (0, u "()B"), (25, u "([BI)C"), (27, u "(II)V"), (35, u "(I)C"), (64, .methodref 10 493), (0, .nameAndType 494 142), (0, u "isLatin1"), (0, .methodref 107 496), (0, .nameAndType 497 363), (0, u "charAt"), (3, u "checkIndex"), (5, u "length"), (67, .class_ 576), (0, u "java/lang/CharSequence"), (22, u "CASE_INSENSITIVE_ORDER"), (0, u "Ljava/util/Comparator;"), (409, u "([C)V"), (42, .fieldref 1054 1055), (0, .class_ 1056), (0, .nameAndType 1057 1058), (0, u "jdk/internal/util/Preconditions"), (0, u "SIOOBE_FORMATTER"), (0, u "Ljava/util/function/BiFunction;"), (0, .methodref 1054 1060), (0, .nameAndType 501 1061), (0, u "(IILjava/util/function/BiFunction;)I"), (39, u "serialPersistentFields"), (0, u "[Ljava/io/ObjectStreamField;"), (0, .class_ 1104), (0, u "java/lang/String$CaseInsensitiveComparator"), (1, .class_ 1107), (0, u "java/io/Serializable"), (0, .class_ 1109), (0, u "java/lang/Comparable"), (0, .class_ 1111), (0, u "java/lang/constant/Constable"), (0, .class_ 1113), (0, u "java/lang/constant/ConstantDesc"), (2, u "serialVersionUID"), (0, u "J"), (3, u "REPL"), (0, u "C"), (2, u "LATIN1"), (1, u "UTF16")] 323

def k12m0 : Method := { name := "<init>", desc := "()V", sig := { parameters := [], returnType := none }, accessFlags := 1, code := none }
def k12c1 : Code := { maxStack := 5, maxLocals := 2, code := jdk_42_method_3_code, exceptionTable := #[], attributes := #[] }
def k12m1 : Method := { name := "<init>", desc := "([C)V", sig := { parameters := [(.array .char)], returnType := none }, accessFlags := 1, code := some k12c1 }
def k12c2 : Code := { maxStack := 2, maxLocals := 1, code := jdk_42_method_54_code, exceptionTable := #[], attributes := #[] }
def k12m2 : Method := { name := "length", desc := "()I", sig := { parameters := [], returnType := some .int }, accessFlags := 1, code := some k12c2 }
def k12c3 : Code := { maxStack := 2, maxLocals := 2, code := jdk_42_method_56_code, exceptionTable := #[], attributes := #[] }
def k12m3 : Method := { name := "charAt", desc := "(I)C", sig := { parameters := [.int], returnType := some .char }, accessFlags := 1, code := some k12c3 }
def k12c4 : Code := { maxStack := 4, maxLocals := 6, code := jdk_42_method_149_code, exceptionTable := #[], attributes := #[] }
def k12m4 : Method := { name := "<init>", desc := "([CIILjava/lang/Void;)V", sig := { parameters := [(.array .char), .int, .int, (.object "java/lang/Void")], returnType := none }, accessFlags := 2, code := some k12c4 }
def k12c5 : Code := { maxStack := 1, maxLocals := 1, code := jdk_42_method_152_code, exceptionTable := #[], attributes := #[] }
def k12m5 : Method := { name := "coder", desc := "()B", sig := { parameters := [], returnType := some .byte }, accessFlags := 0, code := some k12c5 }
def k12c6 : Code := { maxStack := 1, maxLocals := 1, code := jdk_42_method_154_code, exceptionTable := #[], attributes := #[] }
def k12m6 : Method := { name := "isLatin1", desc := "()Z", sig := { parameters := [], returnType := some .boolean }, accessFlags := 0, code := some k12c6 }
def k12c7 : Code := { maxStack := 3, maxLocals := 2, code := jdk_42_method_155_code, exceptionTable := #[], attributes := #[] }
def k12m7 : Method := { name := "checkIndex", desc := "(II)V", sig := { parameters := [.int, .int], returnType := none }, accessFlags := 8, code := some k12c7 }
/-- java/lang/String -/
def k12 : Class := { plain "java/lang/String" (some 0) with
  accessFlags := 49
  interfaces := #[2, 4, 11, 5, 6]
  cf := some (fileOf pool12 10 #[.nestMembers #[1103]] #[{ accessFlags := 1, nameIndex := 5, descriptorIndex := 6, attributes := #[] }, { accessFlags := 1, nameIndex := 5, descriptorIndex := 1010, attributes := #[] }, { accessFlags := 1, nameIndex := 507, descriptorIndex := 334, attributes := #[] }, { accessFlags := 1, nameIndex := 497, descriptorIndex := 427, attributes := #[] }, { accessFlags := 2, nameIndex := 5, descriptorIndex := 29, attributes := #[] }, { accessFlags := 0, nameIndex := 17, descriptorIndex := 337, attributes := #[] }, { accessFlags := 0, nameIndex := 494, descriptorIndex := 142, attributes := #[] }, { accessFlags := 8, nameIndex := 501, descriptorIndex := 391, attributes := #[] }] 49 2 #[1106, 1108, 575, 1110, 1112] #[{ accessFlags := 18, nameIndex := 13, descriptorIndex := 14, attributes := #[] }, { accessFlags := 18, nameIndex := 17, descriptorIndex := 18, attributes := #[] }, { accessFlags := 2, nameIndex := 21, descriptorIndex := 22, attributes := #[] }, { accessFlags := 2, nameIndex := 25, descriptorIndex := 26, attributes := #[] }, { accessFlags := 26, nameIndex := 1116, descriptorIndex := 1117, attributes := #[] }, { accessFlags := 24, nameIndex := 40, descriptorIndex := 26, attributes := #[] }, { accessFlags := 26, nameIndex := 1101, descriptorIndex := 1102, attributes := #[] }, { accessFlags := 26, nameIndex := 1121, descriptorIndex := 1122, attributes := #[] }, { accessFlags := 25, nameIndex := 599, descriptorIndex := 600, attributes := #[] }, { accessFlags := 24, nameIndex := 1125, descriptorIndex := 18, attributes := #[] }, { accessFlags := 24, nameIndex := 1127, descriptorIndex := 18, attributes := #[] }])
  fields := #[{ name := "value", type := (.array .byte), accessFlags := 18, slot := 0, constantValue := 0 }, { name := "coder", type := .byte, accessFlags := 18, slot := 1, constantValue := 0 }, { name := "hash", type := .int, accessFlags := 2, slot := 2, constantValue := 0 }, { name := "hashIsZero", type := .boolean, accessFlags := 2, slot := 3, constantValue := 0 }, { name := "serialVersionUID", type := .long, accessFlags := 26, slot := 0, constantValue := 0 }, { name := "COMPACT_STRINGS", type := .boolean, accessFlags := 24, slot := 1, constantValue := 0 }, { name := "serialPersistentFields", type := (.array (.object "java/io/ObjectStreamField")), accessFlags := 26, slot := 2, constantValue := 0 }, { name := "REPL", type := .char, accessFlags := 26, slot := 3, constantValue := 0 }, { name := "CASE_INSENSITIVE_ORDER", type := (.object "java/util/Comparator"), accessFlags := 25, slot := 4, constantValue := 0 }, { name := "LATIN1", type := .byte, accessFlags := 24, slot := 5, constantValue := 0 }, { name := "UTF16", type := .byte, accessFlags := 24, slot := 6, constantValue := 0 }]
  methods := #[k12m0, k12m1, k12m2, k12m3, k12m4, k12m5, k12m6, k12m7]
  instanceTypes := #[(.array .byte), .byte, .int, .boolean]
  staticTypes := #[.long, .boolean, (.array (.object "java/io/ObjectStreamField")), .char, (.object "java/util/Comparator"), .byte, .byte]
  resolved := Array.replicate 1451 none
  statics := some 2 }

def pool13 : Array CpInfo := pool [(6, .class_ 8), (1, u "java/lang/Object"), (0, u "<init>"), (0, u "()V"), (1, .class_ 14), (1, u "java/lang/StringUTF16"), (31, u "$assertionsDisabled"), (0, u "Z"), (13, u "HI_BYTE_SHIFT"), (0, u "I"), (2, u "LO_BYTE_SHIFT"), (49, .methodref 12 116), (0, .nameAndType 117 118), (0, u "compress"), (0, u "([CI[BII)I"), (3, u "([CII)[B"), (138, u "coderFromArrayLen"), (0, u "([BI)B"), (106, .class_ 371), (1, u "java/lang/StringUTF16$LinesSpliterator"), (58, u "MAX_LENGTH"), (196, .class_ 628), (0, u "java/lang/StringUTF16$CodePointsSpliterator"), (0, .class_ 630), (0, u "java/lang/StringUTF16$CharsSpliterator")] 4

def k13m0 : Method := { name := "<init>", desc := "()V", sig := { parameters := [], returnType := none }, accessFlags := 0, code := none }
def k13c1 : Code := { maxStack := 2, maxLocals := 2, code := jdk_52_method_15_code, exceptionTable := #[], attributes := #[] }
def k13m1 : Method := { name := "coderFromArrayLen", desc := "([BI)B", sig := { parameters := [(.array .byte), .int], returnType := some .byte }, accessFlags := 8, code := some k13c1 }
def k13c2 : Code := { maxStack := 5, maxLocals := 6, code := jdk_52_method_16_code, exceptionTable := #[], attributes := #[] }
def k13m2 : Method := { name := "compress", desc := "([CII)[B", sig := { parameters := [(.array .char), .int, .int], returnType := some (.array .byte) }, accessFlags := 9, code := some k13c2 }
def k13c3 : Code := { maxStack := 3, maxLocals := 7, code := jdk_52_method_21_code, exceptionTable := #[], attributes := #[] }
def k13m3 : Method := { name := "compress", desc := "([CI[BII)I", sig := { parameters := [(.array .char), .int, (.array .byte), .int, .int], returnType := some .int }, accessFlags := 9, code := some k13c3 }
/-- java/lang/StringUTF16 -/
def k13 : Class := { plain "java/lang/StringUTF16" (some 0) with
  accessFlags := 48
  interfaces := #[]
  cf := some (fileOf pool13 12 #[.nestMembers #[627, 629, 369]] #[{ accessFlags := 0, nameIndex := 9, descriptorIndex := 10, attributes := #[] }, { accessFlags := 8, nameIndex := 261, descriptorIndex := 262, attributes := #[] }, { accessFlags := 9, nameIndex := 117, descriptorIndex := 122, attributes := #[] }, { accessFlags := 9, nameIndex := 117, descriptorIndex := 118, attributes := #[] }] 48 6 #[] #[{ accessFlags := 26, nameIndex := 61, descriptorIndex := 62, attributes := #[] }, { accessFlags := 26, nameIndex := 65, descriptorIndex := 62, attributes := #[] }, { accessFlags := 24, nameIndex := 430, descriptorIndex := 62, attributes := #[] }, { accessFlags := 4120, nameIndex := 46, descriptorIndex := 47, attributes := #[] }])
  fields := #[{ name := "HI_BYTE_SHIFT", type := .int, accessFlags := 26, slot := 0, constantValue := 0 }, { name := "LO_BYTE_SHIFT", type := .int, accessFlags := 26, slot := 1, constantValue := 0 }, { name := "MAX_LENGTH", type := .int, accessFlags := 24, slot := 2, constantValue := 0 }, { name := "$assertionsDisabled", type := .boolean, accessFlags := 4120, slot := 3, constantValue := 0 }]
  methods := #[k13m0, k13m1, k13m2, k13m3]
  instanceTypes := #[]
  staticTypes := #[.int, .int, .int, .boolean]
  resolved := Array.replicate 635 none
  statics := none }

def pool14 : Array CpInfo := pool [(1, .methodref 2 3), (0, .class_ 4), (0, .nameAndType 5 6), (0, u "java/lang/Object"), (0, u "<init>"), (0, u "()V"), (0, .fieldref 8 9), (0, .class_ 10), (0, .nameAndType 11 12), (0, u "com/example/commit_to_chain/committochain/core/ChainAnswer"), (0, u "result"), (0, u "Ljava/lang/Object;"), (0, .fieldref 8 14), (0, .nameAndType 15 16), (0, u "failure"), (0, u "Lcom/example/commit_to_chain/committochain/core/ChainException;"), (0, .string 11), (0, .methodref 19 20), (0, .class_ 21), (0, .nameAndType 22 23), (0, u "java/util/Objects"), (0, u "requireNonNull"), (0, u "(Ljava/lang/Object;Ljava/lang/String;)Ljava/lang/Object;"), (0, .methodref 8 25), (0, .nameAndType 5 26), (0, u "(Ljava/lang/Object;Lcom/example/commit_to_chain/committochain/core/ChainException;)V"), (8, u "of"), (0, u "(Ljava/lang/Object;)Lcom/example/commit_to_chain/committochain/core/ChainAnswer;"), (4, u "get"), (0, u "()Ljava/lang/Object;")] 5

def k14c0 : Code := { maxStack := 2, maxLocals := 3, code := prog_5_method_1_code, exceptionTable := #[], attributes := #[] }
def k14m0 : Method := { name := "<init>", desc := "(Ljava/lang/Object;Lcom/example/commit_to_chain/committochain/core/ChainException;)V", sig := { parameters := [(.object "java/lang/Object"), (.object "com/example/commit_to_chain/committochain/core/ChainException")], returnType := none }, accessFlags := 2, code := some k14c0 }
def k14c1 : Code := { maxStack := 4, maxLocals := 1, code := prog_5_method_2_code, exceptionTable := #[], attributes := #[] }
def k14m1 : Method := { name := "of", desc := "(Ljava/lang/Object;)Lcom/example/commit_to_chain/committochain/core/ChainAnswer;", sig := { parameters := [(.object "java/lang/Object")], returnType := some (.object "com/example/commit_to_chain/committochain/core/ChainAnswer") }, accessFlags := 9, code := some k14c1 }
def k14c2 : Code := { maxStack := 1, maxLocals := 1, code := prog_5_method_4_code, exceptionTable := #[], attributes := #[] }
def k14m2 : Method := { name := "get", desc := "()Ljava/lang/Object;", sig := { parameters := [], returnType := some (.object "java/lang/Object") }, accessFlags := 1, code := some k14c2 }
/-- com/example/commit_to_chain/committochain/core/ChainAnswer -/
def k14 : Class := { plain "com/example/commit_to_chain/committochain/core/ChainAnswer" (some 0) with
  accessFlags := 33
  interfaces := #[]
  cf := some (fileOf pool14 8 #[] #[{ accessFlags := 2, nameIndex := 5, descriptorIndex := 26, attributes := #[] }, { accessFlags := 9, nameIndex := 35, descriptorIndex := 36, attributes := #[] }, { accessFlags := 1, nameIndex := 41, descriptorIndex := 42, attributes := #[] }] 33 2 #[] #[{ accessFlags := 18, nameIndex := 11, descriptorIndex := 12, attributes := #[] }, { accessFlags := 18, nameIndex := 15, descriptorIndex := 16, attributes := #[] }])
  fields := #[{ name := "result", type := (.object "java/lang/Object"), accessFlags := 18, slot := 0, constantValue := 0 }, { name := "failure", type := (.object "com/example/commit_to_chain/committochain/core/ChainException"), accessFlags := 18, slot := 1, constantValue := 0 }]
  methods := #[k14m0, k14m1, k14m2]
  instanceTypes := #[(.object "java/lang/Object"), (.object "com/example/commit_to_chain/committochain/core/ChainException")]
  staticTypes := #[]
  resolved := Array.replicate 48 none
  statics := none }

def pool15 : Array CpInfo := pool [(2, .class_ 4), (1, u "java/lang/Object"), (0, u "<init>"), (0, u "()V"), (35, .class_ 44), (1, u "java/util/Objects"), (0, u "requireNonNull"), (48, u "(Ljava/lang/Object;Ljava/lang/String;)Ljava/lang/Object;")] 89

def k15m0 : Method := { name := "<init>", desc := "()V", sig := { parameters := [], returnType := none }, accessFlags := 2, code := none }
def k15c1 : Code := { maxStack := 3, maxLocals := 2, code := jdk_31_method_11_code, exceptionTable := #[], attributes := #[] }
def k15m1 : Method := { name := "requireNonNull", desc := "(Ljava/lang/Object;Ljava/lang/String;)Ljava/lang/Object;", sig := { parameters := [(.object "java/lang/Object"), (.object "java/lang/String")], returnType := some (.object "java/lang/Object") }, accessFlags := 9, code := some k15c1 }
/-- java/util/Objects -/
def k15 : Class := { plain "java/util/Objects" (some 0) with
  accessFlags := 49
  interfaces := #[]
  cf := some (fileOf pool15 42 #[] #[{ accessFlags := 2, nameIndex := 5, descriptorIndex := 6, attributes := #[] }, { accessFlags := 9, nameIndex := 45, descriptorIndex := 94, attributes := #[] }] 49 2 #[] #[])
  fields := #[]
  methods := #[k15m0, k15m1]
  instanceTypes := #[]
  staticTypes := #[]
  resolved := Array.replicate 184 none
  statics := none }

def pool16 : Array CpInfo := pool [(1, .class_ 2), (0, u "java/lang/String"), (1, .class_ 6), (1, u "java/lang/Object"), (0, u "<init>"), (0, u "()V"), (0, .methodref 1 10), (0, .nameAndType 11 12), (0, u "checkIndex"), (0, u "(II)V"), (1, .class_ 16), (1, u "java/lang/StringLatin1"), (36, u "([BI)C"), (67, u "$assertionsDisabled"), (0, u "Z"), (98, .class_ 223), (1, u "java/lang/StringLatin1$LinesSpliterator"), (28, u "charAt"), (137, .class_ 391), (0, u "java/lang/StringLatin1$CharsSpliterator")] 3

def k16m0 : Method := { name := "<init>", desc := "()V", sig := { parameters := [], returnType := none }, accessFlags := 0, code := none }
def k16c1 : Code := { maxStack := 2, maxLocals := 2, code := jdk_43_method_2_code, exceptionTable := #[], attributes := #[] }
def k16m1 : Method := { name := "charAt", desc := "([BI)C", sig := { parameters := [(.array .byte), .int], returnType := some .char }, accessFlags := 9, code := some k16c1 }
/-- java/lang/StringLatin1 -/
def k16 : Class := { plain "java/lang/StringLatin1" (some 0) with
  accessFlags := 48
  interfaces := #[]
  cf := some (fileOf pool16 14 #[.nestMembers #[390, 221]] #[{ accessFlags := 0, nameIndex := 7, descriptorIndex := 8, attributes := #[] }, { accessFlags := 9, nameIndex := 252, descriptorIndex := 53, attributes := #[] }] 48 4 #[] #[{ accessFlags := 4120, nameIndex := 121, descriptorIndex := 122, attributes := #[] }])
  fields := #[{ name := "$assertionsDisabled", type := .boolean, accessFlags := 4120, slot := 0, constantValue := 0 }]
  methods := #[k16m0, k16m1]
  instanceTypes := #[]
  staticTypes := #[.boolean]
  resolved := Array.replicate 395 none
  statics := none }

def pool17 : Array CpInfo := pool [(2, .class_ 4), (1, u "java/lang/Object"), (0, u "<init>"), (0, u "()V"), (17, .class_ 26), (1, u "jdk/internal/util/Preconditions"), (6, u "checkIndex"), (21, .class_ 56), (0, u "jdk/internal/util/Preconditions$4"), (57, .class_ 115), (0, u "jdk/internal/util/Preconditions$1"), (7, u "SIOOBE_FORMATTER"), (0, u "Ljava/util/function/BiFunction;"), (0, .class_ 126), (0, u "jdk/internal/util/Preconditions$2"), (3, u "AIOOBE_FORMATTER"), (0, .class_ 132), (0, u "jdk/internal/util/Preconditions$3"), (3, u "IOOBE_FORMATTER"), (41, u "(IILjava/util/function/BiFunction;)I")] 15

def k17m0 : Method := { name := "<init>", desc := "()V", sig := { parameters := [], returnType := none }, accessFlags := 1, code := none }
def k17c1 : Code := { maxStack := 3, maxLocals := 3, code := jdk_41_method_11_code, exceptionTable := #[], attributes := #[] }
def k17m1 : Method := { name := "checkIndex", desc := "(IILjava/util/function/BiFunction;)I", sig := { parameters := [.int, .int, (.object "java/util/function/BiFunction")], returnType := some .int }, accessFlags := 9, code := some k17c1 }
/-- jdk/internal/util/Preconditions -/
def k17 : Class := { plain "jdk/internal/util/Preconditions" (some 0) with
  accessFlags := 33
  interfaces := #[]
  cf := some (fileOf pool17 24 #[.nestMembers #[55, 131, 125, 114]] #[{ accessFlags := 1, nameIndex := 5, descriptorIndex := 6, attributes := #[] }, { accessFlags := 9, nameIndex := 33, descriptorIndex := 178, attributes := #[] }] 33 2 #[] #[{ accessFlags := 25, nameIndex := 123, descriptorIndex := 124, attributes := #[] }, { accessFlags := 25, nameIndex := 130, descriptorIndex := 124, attributes := #[] }, { accessFlags := 25, nameIndex := 136, descriptorIndex := 124, attributes := #[] }])
  fields := #[{ name := "SIOOBE_FORMATTER", type := (.object "java/util/function/BiFunction"), accessFlags := 25, slot := 0, constantValue := 0 }, { name := "AIOOBE_FORMATTER", type := (.object "java/util/function/BiFunction"), accessFlags := 25, slot := 1, constantValue := 0 }, { name := "IOOBE_FORMATTER", type := (.object "java/util/function/BiFunction"), accessFlags := 25, slot := 2, constantValue := 0 }]
  methods := #[k17m0, k17m1]
  instanceTypes := #[]
  staticTypes := #[(.object "java/util/function/BiFunction"), (.object "java/util/function/BiFunction"), (.object "java/util/function/BiFunction")]
  resolved := Array.replicate 194 none
  statics := some 3 }

def pool18 : Array CpInfo := pool [(9, u "<init>"), (6, .class_ 18), (1, u "java/lang/Object"), (0, u "()V"), (1, .class_ 23), (1, u "jdk/internal/util/ArraysSupport"), (0, u "LOG2_ARRAY_LONG_INDEX_SCALE"), (0, u "I"), (2, u "U"), (0, u "Ljdk/internal/misc/Unsafe;"), (8, u "BIG_ENDIAN"), (0, u "Z"), (8, u "LOG2_BYTE_BIT_SIZE"), (4, u "LOG2_ARRAY_INT_INDEX_SCALE"), (54, u "JLA"), (0, u "Ljdk/internal/access/JavaLangAccess;"), (11, u "LOG2_ARRAY_BOOLEAN_INDEX_SCALE"), (9, u "LOG2_ARRAY_BYTE_INDEX_SCALE"), (5, u "LOG2_ARRAY_CHAR_INDEX_SCALE"), (5, u "LOG2_ARRAY_SHORT_INDEX_SCALE"), (18, u "LOG2_ARRAY_FLOAT_INDEX_SCALE"), (24, u "LOG2_ARRAY_DOUBLE_INDEX_SCALE"), (89, u "T_BOOLEAN"), (2, u "T_CHAR"), (1, u "T_FLOAT"), (1, u "T_DOUBLE"), (1, u "T_BYTE"), (1, u "T_SHORT"), (1, u "T_INT"), (1, u "T_LONG"), (1, u "SOFT_MAX_ARRAY_LENGTH")] 83

def k18m0 : Method := { name := "<init>", desc := "()V", sig := { parameters := [], returnType := none }, accessFlags := 2, code := none }
/-- jdk/internal/util/ArraysSupport -/
def k18 : Class := { plain "jdk/internal/util/ArraysSupport" (some 0) with
  accessFlags := 33
  interfaces := #[]
  cf := some (fileOf pool18 21 #[] #[{ accessFlags := 2, nameIndex := 9, descriptorIndex := 19, attributes := #[] }] 33 16 #[] #[{ accessFlags := 24, nameIndex := 28, descriptorIndex := 29, attributes := #[] }, { accessFlags := 26, nameIndex := 38, descriptorIndex := 39, attributes := #[] }, { accessFlags := 25, nameIndex := 121, descriptorIndex := 25, attributes := #[] }, { accessFlags := 25, nameIndex := 131, descriptorIndex := 25, attributes := #[] }, { accessFlags := 25, nameIndex := 137, descriptorIndex := 25, attributes := #[] }, { accessFlags := 25, nameIndex := 143, descriptorIndex := 25, attributes := #[] }, { accessFlags := 25, nameIndex := 53, descriptorIndex := 25, attributes := #[] }, { accessFlags := 25, nameIndex := 24, descriptorIndex := 25, attributes := #[] }, { accessFlags := 25, nameIndex := 162, descriptorIndex := 25, attributes := #[] }, { accessFlags := 25, nameIndex := 187, descriptorIndex := 25, attributes := #[] }, { accessFlags := 26, nameIndex := 48, descriptorIndex := 25, attributes := #[] }, { accessFlags := 25, nameIndex := 277, descriptorIndex := 25, attributes := #[] }, { accessFlags := 25, nameIndex := 280, descriptorIndex := 25, attributes := #[] }, { accessFlags := 25, nameIndex := 282, descriptorIndex := 25, attributes := #[] }, { accessFlags := 25, nameIndex := 284, descriptorIndex := 25, attributes := #[] }, { accessFlags := 25, nameIndex := 286, descriptorIndex := 25, attributes := #[] }, { accessFlags := 25, nameIndex := 288, descriptorIndex := 25, attributes := #[] }, { accessFlags := 25, nameIndex := 290, descriptorIndex := 25, attributes := #[] }, { accessFlags := 25, nameIndex := 292, descriptorIndex := 25, attributes := #[] }, { accessFlags := 26, nameIndex := 108, descriptorIndex := 109, attributes := #[] }, { accessFlags := 25, nameIndex := 294, descriptorIndex := 25, attributes := #[] }])
  fields := #[{ name := "U", type := (.object "jdk/internal/misc/Unsafe"), accessFlags := 24, slot := 0, constantValue := 0 }, { name := "BIG_ENDIAN", type := .boolean, accessFlags := 26, slot := 1, constantValue := 0 }, { name := "LOG2_ARRAY_BOOLEAN_INDEX_SCALE", type := .int, accessFlags := 25, slot := 2, constantValue := 0 }, { name := "LOG2_ARRAY_BYTE_INDEX_SCALE", type := .int, accessFlags := 25, slot := 3, constantValue := 0 }, { name := "LOG2_ARRAY_CHAR_INDEX_SCALE", type := .int, accessFlags := 25, slot := 4, constantValue := 0 }, { name := "LOG2_ARRAY_SHORT_INDEX_SCALE", type := .int, accessFlags := 25, slot := 5, constantValue := 0 }, { name := "LOG2_ARRAY_INT_INDEX_SCALE", type := .int, accessFlags := 25, slot := 6, constantValue := 0 }, { name := "LOG2_ARRAY_LONG_INDEX_SCALE", type := .int, accessFlags := 25, slot := 7, constantValue := 0 }, { name := "LOG2_ARRAY_FLOAT_INDEX_SCALE", type := .int, accessFlags := 25, slot := 8, constantValue := 0 }, { name := "LOG2_ARRAY_DOUBLE_INDEX_SCALE", type := .int, accessFlags := 25, slot := 9, constantValue := 0 }, { name := "LOG2_BYTE_BIT_SIZE", type := .int, accessFlags := 26, slot := 10, constantValue := 0 }, { name := "T_BOOLEAN", type := .int, accessFlags := 25, slot := 11, constantValue := 0 }, { name := "T_CHAR", type := .int, accessFlags := 25, slot := 12, constantValue := 0 }, { name := "T_FLOAT", type := .int, accessFlags := 25, slot := 13, constantValue := 0 }, { name := "T_DOUBLE", type := .int, accessFlags := 25, slot := 14, constantValue := 0 }, { name := "T_BYTE", type := .int, accessFlags := 25, slot := 15, constantValue := 0 }, { name := "T_SHORT", type := .int, accessFlags := 25, slot := 16, constantValue := 0 }, { name := "T_INT", type := .int, accessFlags := 25, slot := 17, constantValue := 0 }, { name := "T_LONG", type := .int, accessFlags := 25, slot := 18, constantValue := 0 }, { name := "JLA", type := (.object "jdk/internal/access/JavaLangAccess"), accessFlags := 26, slot := 19, constantValue := 0 }, { name := "SOFT_MAX_ARRAY_LENGTH", type := .int, accessFlags := 25, slot := 20, constantValue := 0 }]
  methods := #[k18m0]
  instanceTypes := #[]
  staticTypes := #[(.object "jdk/internal/misc/Unsafe"), .boolean, .int, .int, .int, .int, .int, .int, .int, .int, .int, .int, .int, .int, .int, .int, .int, .int, .int, (.object "jdk/internal/access/JavaLangAccess"), .int]
  resolved := Array.replicate 378 none
  statics := none }

def pool19 : Array CpInfo := pool [(1, u "java/lang/Cloneable"), (0, .class_ 1), (0, u "java/lang/Object"), (0, .class_ 3)] 3

/-- java/lang/Cloneable -/
def k19 : Class := { plain "java/lang/Cloneable" (some 0) with
  accessFlags := 1537
  interfaces := #[]
  cf := some (fileOf pool19 2 #[] #[] 1537 4 #[] #[])
  fields := #[]
  methods := #[]
  instanceTypes := #[]
  staticTypes := #[]
  resolved := Array.replicate 8 none
  statics := none }

/-- the primitive byte -/
def k20 : Class := { plain "byte" none with kind := .primitive 'B', accessFlags := 0x411 }
/-- [B -/
def k21 : Class := { plain "[B" (some 0) with kind := .array 20 .byte, interfaces := #[19, 2], accessFlags := 1041 }

/-- the primitive char -/
def k22 : Class := { plain "char" none with kind := .primitive 'C', accessFlags := 0x411 }
/-- [C -/
def k23 : Class := { plain "[C" (some 0) with kind := .array 22 .char, interfaces := #[19, 2], accessFlags := 1041 }

/-- the primitive int -/
def k24 : Class := { plain "int" none with kind := .primitive 'I', accessFlags := 0x411 }
/-- [I -/
def k25 : Class := { plain "[I" (some 0) with kind := .array 24 .int, interfaces := #[19, 2], accessFlags := 1041 }

/-- [Ljava/lang/Integer; -/
def k26 : Class := { plain "[Ljava/lang/Integer;" (some 0) with kind := .array 7 (.object "java/lang/Integer"), interfaces := #[19, 2], accessFlags := 1041 }

/-- [Ljava/lang/Long; -/
def k27 : Class := { plain "[Ljava/lang/Long;" (some 0) with kind := .array 9 (.object "java/lang/Long"), interfaces := #[19, 2], accessFlags := 1041 }

def heap : Heap := #[{ cls := 8, slots := #[.int 0, .int 127, .ref 4, .null, .int 0], vm := .statics 8 },
  { cls := 10, slots := #[.ref 5, .null, .int 0], vm := .statics 10 },
  { cls := 12, slots := #[.long 0, .int 1, .null, .int 0, .null, .int 0, .int 0], vm := .statics 12 },
  { cls := 17, slots := #[.null, .null, .null], vm := .statics 17 },
  { cls := 26, slots := #[.ref 6, .ref 7, .ref 8, .ref 9, .ref 10, .ref 11, .ref 12, .ref 13, .ref 14, .ref 15, .ref 16, .ref 17, .ref 18, .ref 19, .ref 20, .ref 21, .ref 22, .ref 23, .ref 24, .ref 25, .ref 26, .ref 27, .ref 28, .ref 29, .ref 30, .ref 31, .ref 32, .ref 33, .ref 34, .ref 35, .ref 36, .ref 37, .ref 38, .ref 39, .ref 40, .ref 41, .ref 42, .ref 43, .ref 44, .ref 45, .ref 46, .ref 47, .ref 48, .ref 49, .ref 50, .ref 51, .ref 52, .ref 53, .ref 54, .ref 55, .ref 56, .ref 57, .ref 58, .ref 59, .ref 60, .ref 61, .ref 62, .ref 63, .ref 64, .ref 65, .ref 66, .ref 67, .ref 68, .ref 69, .ref 70, .ref 71, .ref 72, .ref 73, .ref 74, .ref 75, .ref 76, .ref 77, .ref 78, .ref 79, .ref 80, .ref 81, .ref 82, .ref 83, .ref 84, .ref 85, .ref 86, .ref 87, .ref 88, .ref 89, .ref 90, .ref 91, .ref 92, .ref 93, .ref 94, .ref 95, .ref 96, .ref 97, .ref 98, .ref 99, .ref 100, .ref 101, .ref 102, .ref 103, .ref 104, .ref 105, .ref 106, .ref 107, .ref 108, .ref 109, .ref 110, .ref 111, .ref 112, .ref 113, .ref 114, .ref 115, .ref 116, .ref 117, .ref 118, .ref 119, .ref 120, .ref 121, .ref 122, .ref 123, .ref 124, .ref 125, .ref 126, .ref 127, .ref 128, .ref 129, .ref 130, .ref 131, .ref 132, .ref 133, .ref 134, .ref 135, .ref 136, .ref 137, .ref 138, .ref 139, .ref 140, .ref 141, .ref 142, .ref 143, .ref 144, .ref 145, .ref 146, .ref 147, .ref 148, .ref 149, .ref 150, .ref 151, .ref 152, .ref 153, .ref 154, .ref 155, .ref 156, .ref 157, .ref 158, .ref 159, .ref 160, .ref 161, .ref 162, .ref 163, .ref 164, .ref 165, .ref 166, .ref 167, .ref 168, .ref 169, .ref 170, .ref 171, .ref 172, .ref 173, .ref 174, .ref 175, .ref 176, .ref 177, .ref 178, .ref 179, .ref 180, .ref 181, .ref 182, .ref 183, .ref 184, .ref 185, .ref 186, .ref 187, .ref 188, .ref 189, .ref 190, .ref 191, .ref 192, .ref 193, .ref 194, .ref 195, .ref 196, .ref 197, .ref 198, .ref 199, .ref 200, .ref 201, .ref 202, .ref 203, .ref 204, .ref 205, .ref 206, .ref 207, .ref 208, .ref 209, .ref 210, .ref 211, .ref 212, .ref 213, .ref 214, .ref 215, .ref 216, .ref 217, .ref 218, .ref 219, .ref 220, .ref 221, .ref 222, .ref 223, .ref 224, .ref 225, .ref 226, .ref 227, .ref 228, .ref 229, .ref 230, .ref 231, .ref 232, .ref 233, .ref 234, .ref 235, .ref 236, .ref 237, .ref 238, .ref 239, .ref 240, .ref 241, .ref 242, .ref 243, .ref 244, .ref 245, .ref 246, .ref 247, .ref 248, .ref 249, .ref 250, .ref 251, .ref 252, .ref 253, .ref 254, .ref 255, .ref 256, .ref 257, .ref 258, .ref 259, .ref 260, .ref 261], vm := .none },
  { cls := 27, slots := #[.ref 262, .ref 263, .ref 264, .ref 265, .ref 266, .ref 267, .ref 268, .ref 269, .ref 270, .ref 271, .ref 272, .ref 273, .ref 274, .ref 275, .ref 276, .ref 277, .ref 278, .ref 279, .ref 280, .ref 281, .ref 282, .ref 283, .ref 284, .ref 285, .ref 286, .ref 287, .ref 288, .ref 289, .ref 290, .ref 291, .ref 292, .ref 293, .ref 294, .ref 295, .ref 296, .ref 297, .ref 298, .ref 299, .ref 300, .ref 301, .ref 302, .ref 303, .ref 304, .ref 305, .ref 306, .ref 307, .ref 308, .ref 309, .ref 310, .ref 311, .ref 312, .ref 313, .ref 314, .ref 315, .ref 316, .ref 317, .ref 318, .ref 319, .ref 320, .ref 321, .ref 322, .ref 323, .ref 324, .ref 325, .ref 326, .ref 327, .ref 328, .ref 329, .ref 330, .ref 331, .ref 332, .ref 333, .ref 334, .ref 335, .ref 336, .ref 337, .ref 338, .ref 339, .ref 340, .ref 341, .ref 342, .ref 343, .ref 344, .ref 345, .ref 346, .ref 347, .ref 348, .ref 349, .ref 350, .ref 351, .ref 352, .ref 353, .ref 354, .ref 355, .ref 356, .ref 357, .ref 358, .ref 359, .ref 360, .ref 361, .ref 362, .ref 363, .ref 364, .ref 365, .ref 366, .ref 367, .ref 368, .ref 369, .ref 370, .ref 371, .ref 372, .ref 373, .ref 374, .ref 375, .ref 376, .ref 377, .ref 378, .ref 379, .ref 380, .ref 381, .ref 382, .ref 383, .ref 384, .ref 385, .ref 386, .ref 387, .ref 388, .ref 389, .ref 390, .ref 391, .ref 392, .ref 393, .ref 394, .ref 395, .ref 396, .ref 397, .ref 398, .ref 399, .ref 400, .ref 401, .ref 402, .ref 403, .ref 404, .ref 405, .ref 406, .ref 407, .ref 408, .ref 409, .ref 410, .ref 411, .ref 412, .ref 413, .ref 414, .ref 415, .ref 416, .ref 417, .ref 418, .ref 419, .ref 420, .ref 421, .ref 422, .ref 423, .ref 424, .ref 425, .ref 426, .ref 427, .ref 428, .ref 429, .ref 430, .ref 431, .ref 432, .ref 433, .ref 434, .ref 435, .ref 436, .ref 437, .ref 438, .ref 439, .ref 440, .ref 441, .ref 442, .ref 443, .ref 444, .ref 445, .ref 446, .ref 447, .ref 448, .ref 449, .ref 450, .ref 451, .ref 452, .ref 453, .ref 454, .ref 455, .ref 456, .ref 457, .ref 458, .ref 459, .ref 460, .ref 461, .ref 462, .ref 463, .ref 464, .ref 465, .ref 466, .ref 467, .ref 468, .ref 469, .ref 470, .ref 471, .ref 472, .ref 473, .ref 474, .ref 475, .ref 476, .ref 477, .ref 478, .ref 479, .ref 480, .ref 481, .ref 482, .ref 483, .ref 484, .ref 485, .ref 486, .ref 487, .ref 488, .ref 489, .ref 490, .ref 491, .ref 492, .ref 493, .ref 494, .ref 495, .ref 496, .ref 497, .ref 498, .ref 499, .ref 500, .ref 501, .ref 502, .ref 503, .ref 504, .ref 505, .ref 506, .ref 507, .ref 508, .ref 509, .ref 510, .ref 511, .ref 512, .ref 513, .ref 514, .ref 515, .ref 516, .ref 517], vm := .none },
  { cls := 7, slots := #[.int (-128)], vm := .none },
  { cls := 7, slots := #[.int (-127)], vm := .none },
  { cls := 7, slots := #[.int (-126)], vm := .none },
  { cls := 7, slots := #[.int (-125)], vm := .none },
  { cls := 7, slots := #[.int (-124)], vm := .none },
  { cls := 7, slots := #[.int (-123)], vm := .none },
  { cls := 7, slots := #[.int (-122)], vm := .none },
  { cls := 7, slots := #[.int (-121)], vm := .none },
  { cls := 7, slots := #[.int (-120)], vm := .none },
  { cls := 7, slots := #[.int (-119)], vm := .none },
  { cls := 7, slots := #[.int (-118)], vm := .none },
  { cls := 7, slots := #[.int (-117)], vm := .none },
  { cls := 7, slots := #[.int (-116)], vm := .none },
  { cls := 7, slots := #[.int (-115)], vm := .none },
  { cls := 7, slots := #[.int (-114)], vm := .none },
  { cls := 7, slots := #[.int (-113)], vm := .none },
  { cls := 7, slots := #[.int (-112)], vm := .none },
  { cls := 7, slots := #[.int (-111)], vm := .none },
  { cls := 7, slots := #[.int (-110)], vm := .none },
  { cls := 7, slots := #[.int (-109)], vm := .none },
  { cls := 7, slots := #[.int (-108)], vm := .none },
  { cls := 7, slots := #[.int (-107)], vm := .none },
  { cls := 7, slots := #[.int (-106)], vm := .none },
  { cls := 7, slots := #[.int (-105)], vm := .none },
  { cls := 7, slots := #[.int (-104)], vm := .none },
  { cls := 7, slots := #[.int (-103)], vm := .none },
  { cls := 7, slots := #[.int (-102)], vm := .none },
  { cls := 7, slots := #[.int (-101)], vm := .none },
  { cls := 7, slots := #[.int (-100)], vm := .none },
  { cls := 7, slots := #[.int (-99)], vm := .none },
  { cls := 7, slots := #[.int (-98)], vm := .none },
  { cls := 7, slots := #[.int (-97)], vm := .none },
  { cls := 7, slots := #[.int (-96)], vm := .none },
  { cls := 7, slots := #[.int (-95)], vm := .none },
  { cls := 7, slots := #[.int (-94)], vm := .none },
  { cls := 7, slots := #[.int (-93)], vm := .none },
  { cls := 7, slots := #[.int (-92)], vm := .none },
  { cls := 7, slots := #[.int (-91)], vm := .none },
  { cls := 7, slots := #[.int (-90)], vm := .none },
  { cls := 7, slots := #[.int (-89)], vm := .none },
  { cls := 7, slots := #[.int (-88)], vm := .none },
  { cls := 7, slots := #[.int (-87)], vm := .none },
  { cls := 7, slots := #[.int (-86)], vm := .none },
  { cls := 7, slots := #[.int (-85)], vm := .none },
  { cls := 7, slots := #[.int (-84)], vm := .none },
  { cls := 7, slots := #[.int (-83)], vm := .none },
  { cls := 7, slots := #[.int (-82)], vm := .none },
  { cls := 7, slots := #[.int (-81)], vm := .none },
  { cls := 7, slots := #[.int (-80)], vm := .none },
  { cls := 7, slots := #[.int (-79)], vm := .none },
  { cls := 7, slots := #[.int (-78)], vm := .none },
  { cls := 7, slots := #[.int (-77)], vm := .none },
  { cls := 7, slots := #[.int (-76)], vm := .none },
  { cls := 7, slots := #[.int (-75)], vm := .none },
  { cls := 7, slots := #[.int (-74)], vm := .none },
  { cls := 7, slots := #[.int (-73)], vm := .none },
  { cls := 7, slots := #[.int (-72)], vm := .none },
  { cls := 7, slots := #[.int (-71)], vm := .none },
  { cls := 7, slots := #[.int (-70)], vm := .none },
  { cls := 7, slots := #[.int (-69)], vm := .none },
  { cls := 7, slots := #[.int (-68)], vm := .none },
  { cls := 7, slots := #[.int (-67)], vm := .none },
  { cls := 7, slots := #[.int (-66)], vm := .none },
  { cls := 7, slots := #[.int (-65)], vm := .none },
  { cls := 7, slots := #[.int (-64)], vm := .none },
  { cls := 7, slots := #[.int (-63)], vm := .none },
  { cls := 7, slots := #[.int (-62)], vm := .none },
  { cls := 7, slots := #[.int (-61)], vm := .none },
  { cls := 7, slots := #[.int (-60)], vm := .none },
  { cls := 7, slots := #[.int (-59)], vm := .none },
  { cls := 7, slots := #[.int (-58)], vm := .none },
  { cls := 7, slots := #[.int (-57)], vm := .none },
  { cls := 7, slots := #[.int (-56)], vm := .none },
  { cls := 7, slots := #[.int (-55)], vm := .none },
  { cls := 7, slots := #[.int (-54)], vm := .none },
  { cls := 7, slots := #[.int (-53)], vm := .none },
  { cls := 7, slots := #[.int (-52)], vm := .none },
  { cls := 7, slots := #[.int (-51)], vm := .none },
  { cls := 7, slots := #[.int (-50)], vm := .none },
  { cls := 7, slots := #[.int (-49)], vm := .none },
  { cls := 7, slots := #[.int (-48)], vm := .none },
  { cls := 7, slots := #[.int (-47)], vm := .none },
  { cls := 7, slots := #[.int (-46)], vm := .none },
  { cls := 7, slots := #[.int (-45)], vm := .none },
  { cls := 7, slots := #[.int (-44)], vm := .none },
  { cls := 7, slots := #[.int (-43)], vm := .none },
  { cls := 7, slots := #[.int (-42)], vm := .none },
  { cls := 7, slots := #[.int (-41)], vm := .none },
  { cls := 7, slots := #[.int (-40)], vm := .none },
  { cls := 7, slots := #[.int (-39)], vm := .none },
  { cls := 7, slots := #[.int (-38)], vm := .none },
  { cls := 7, slots := #[.int (-37)], vm := .none },
  { cls := 7, slots := #[.int (-36)], vm := .none },
  { cls := 7, slots := #[.int (-35)], vm := .none },
  { cls := 7, slots := #[.int (-34)], vm := .none },
  { cls := 7, slots := #[.int (-33)], vm := .none },
  { cls := 7, slots := #[.int (-32)], vm := .none },
  { cls := 7, slots := #[.int (-31)], vm := .none },
  { cls := 7, slots := #[.int (-30)], vm := .none },
  { cls := 7, slots := #[.int (-29)], vm := .none },
  { cls := 7, slots := #[.int (-28)], vm := .none },
  { cls := 7, slots := #[.int (-27)], vm := .none },
  { cls := 7, slots := #[.int (-26)], vm := .none },
  { cls := 7, slots := #[.int (-25)], vm := .none },
  { cls := 7, slots := #[.int (-24)], vm := .none },
  { cls := 7, slots := #[.int (-23)], vm := .none },
  { cls := 7, slots := #[.int (-22)], vm := .none },
  { cls := 7, slots := #[.int (-21)], vm := .none },
  { cls := 7, slots := #[.int (-20)], vm := .none },
  { cls := 7, slots := #[.int (-19)], vm := .none },
  { cls := 7, slots := #[.int (-18)], vm := .none },
  { cls := 7, slots := #[.int (-17)], vm := .none },
  { cls := 7, slots := #[.int (-16)], vm := .none },
  { cls := 7, slots := #[.int (-15)], vm := .none },
  { cls := 7, slots := #[.int (-14)], vm := .none },
  { cls := 7, slots := #[.int (-13)], vm := .none },
  { cls := 7, slots := #[.int (-12)], vm := .none },
  { cls := 7, slots := #[.int (-11)], vm := .none },
  { cls := 7, slots := #[.int (-10)], vm := .none },
  { cls := 7, slots := #[.int (-9)], vm := .none },
  { cls := 7, slots := #[.int (-8)], vm := .none },
  { cls := 7, slots := #[.int (-7)], vm := .none },
  { cls := 7, slots := #[.int (-6)], vm := .none },
  { cls := 7, slots := #[.int (-5)], vm := .none },
  { cls := 7, slots := #[.int (-4)], vm := .none },
  { cls := 7, slots := #[.int (-3)], vm := .none },
  { cls := 7, slots := #[.int (-2)], vm := .none },
  { cls := 7, slots := #[.int (-1)], vm := .none },
  { cls := 7, slots := #[.int (0)], vm := .none },
  { cls := 7, slots := #[.int (1)], vm := .none },
  { cls := 7, slots := #[.int (2)], vm := .none },
  { cls := 7, slots := #[.int (3)], vm := .none },
  { cls := 7, slots := #[.int (4)], vm := .none },
  { cls := 7, slots := #[.int (5)], vm := .none },
  { cls := 7, slots := #[.int (6)], vm := .none },
  { cls := 7, slots := #[.int (7)], vm := .none },
  { cls := 7, slots := #[.int (8)], vm := .none },
  { cls := 7, slots := #[.int (9)], vm := .none },
  { cls := 7, slots := #[.int (10)], vm := .none },
  { cls := 7, slots := #[.int (11)], vm := .none },
  { cls := 7, slots := #[.int (12)], vm := .none },
  { cls := 7, slots := #[.int (13)], vm := .none },
  { cls := 7, slots := #[.int (14)], vm := .none },
  { cls := 7, slots := #[.int (15)], vm := .none },
  { cls := 7, slots := #[.int (16)], vm := .none },
  { cls := 7, slots := #[.int (17)], vm := .none },
  { cls := 7, slots := #[.int (18)], vm := .none },
  { cls := 7, slots := #[.int (19)], vm := .none },
  { cls := 7, slots := #[.int (20)], vm := .none },
  { cls := 7, slots := #[.int (21)], vm := .none },
  { cls := 7, slots := #[.int (22)], vm := .none },
  { cls := 7, slots := #[.int (23)], vm := .none },
  { cls := 7, slots := #[.int (24)], vm := .none },
  { cls := 7, slots := #[.int (25)], vm := .none },
  { cls := 7, slots := #[.int (26)], vm := .none },
  { cls := 7, slots := #[.int (27)], vm := .none },
  { cls := 7, slots := #[.int (28)], vm := .none },
  { cls := 7, slots := #[.int (29)], vm := .none },
  { cls := 7, slots := #[.int (30)], vm := .none },
  { cls := 7, slots := #[.int (31)], vm := .none },
  { cls := 7, slots := #[.int (32)], vm := .none },
  { cls := 7, slots := #[.int (33)], vm := .none },
  { cls := 7, slots := #[.int (34)], vm := .none },
  { cls := 7, slots := #[.int (35)], vm := .none },
  { cls := 7, slots := #[.int (36)], vm := .none },
  { cls := 7, slots := #[.int (37)], vm := .none },
  { cls := 7, slots := #[.int (38)], vm := .none },
  { cls := 7, slots := #[.int (39)], vm := .none },
  { cls := 7, slots := #[.int (40)], vm := .none },
  { cls := 7, slots := #[.int (41)], vm := .none },
  { cls := 7, slots := #[.int (42)], vm := .none },
  { cls := 7, slots := #[.int (43)], vm := .none },
  { cls := 7, slots := #[.int (44)], vm := .none },
  { cls := 7, slots := #[.int (45)], vm := .none },
  { cls := 7, slots := #[.int (46)], vm := .none },
  { cls := 7, slots := #[.int (47)], vm := .none },
  { cls := 7, slots := #[.int (48)], vm := .none },
  { cls := 7, slots := #[.int (49)], vm := .none },
  { cls := 7, slots := #[.int (50)], vm := .none },
  { cls := 7, slots := #[.int (51)], vm := .none },
  { cls := 7, slots := #[.int (52)], vm := .none },
  { cls := 7, slots := #[.int (53)], vm := .none },
  { cls := 7, slots := #[.int (54)], vm := .none },
  { cls := 7, slots := #[.int (55)], vm := .none },
  { cls := 7, slots := #[.int (56)], vm := .none },
  { cls := 7, slots := #[.int (57)], vm := .none },
  { cls := 7, slots := #[.int (58)], vm := .none },
  { cls := 7, slots := #[.int (59)], vm := .none },
  { cls := 7, slots := #[.int (60)], vm := .none },
  { cls := 7, slots := #[.int (61)], vm := .none },
  { cls := 7, slots := #[.int (62)], vm := .none },
  { cls := 7, slots := #[.int (63)], vm := .none },
  { cls := 7, slots := #[.int (64)], vm := .none },
  { cls := 7, slots := #[.int (65)], vm := .none },
  { cls := 7, slots := #[.int (66)], vm := .none },
  { cls := 7, slots := #[.int (67)], vm := .none },
  { cls := 7, slots := #[.int (68)], vm := .none },
  { cls := 7, slots := #[.int (69)], vm := .none },
  { cls := 7, slots := #[.int (70)], vm := .none },
  { cls := 7, slots := #[.int (71)], vm := .none },
  { cls := 7, slots := #[.int (72)], vm := .none },
  { cls := 7, slots := #[.int (73)], vm := .none },
  { cls := 7, slots := #[.int (74)], vm := .none },
  { cls := 7, slots := #[.int (75)], vm := .none },
  { cls := 7, slots := #[.int (76)], vm := .none },
  { cls := 7, slots := #[.int (77)], vm := .none },
  { cls := 7, slots := #[.int (78)], vm := .none },
  { cls := 7, slots := #[.int (79)], vm := .none },
  { cls := 7, slots := #[.int (80)], vm := .none },
  { cls := 7, slots := #[.int (81)], vm := .none },
  { cls := 7, slots := #[.int (82)], vm := .none },
  { cls := 7, slots := #[.int (83)], vm := .none },
  { cls := 7, slots := #[.int (84)], vm := .none },
  { cls := 7, slots := #[.int (85)], vm := .none },
  { cls := 7, slots := #[.int (86)], vm := .none },
  { cls := 7, slots := #[.int (87)], vm := .none },
  { cls := 7, slots := #[.int (88)], vm := .none },
  { cls := 7, slots := #[.int (89)], vm := .none },
  { cls := 7, slots := #[.int (90)], vm := .none },
  { cls := 7, slots := #[.int (91)], vm := .none },
  { cls := 7, slots := #[.int (92)], vm := .none },
  { cls := 7, slots := #[.int (93)], vm := .none },
  { cls := 7, slots := #[.int (94)], vm := .none },
  { cls := 7, slots := #[.int (95)], vm := .none },
  { cls := 7, slots := #[.int (96)], vm := .none },
  { cls := 7, slots := #[.int (97)], vm := .none },
  { cls := 7, slots := #[.int (98)], vm := .none },
  { cls := 7, slots := #[.int (99)], vm := .none },
  { cls := 7, slots := #[.int (100)], vm := .none },
  { cls := 7, slots := #[.int (101)], vm := .none },
  { cls := 7, slots := #[.int (102)], vm := .none },
  { cls := 7, slots := #[.int (103)], vm := .none },
  { cls := 7, slots := #[.int (104)], vm := .none },
  { cls := 7, slots := #[.int (105)], vm := .none },
  { cls := 7, slots := #[.int (106)], vm := .none },
  { cls := 7, slots := #[.int (107)], vm := .none },
  { cls := 7, slots := #[.int (108)], vm := .none },
  { cls := 7, slots := #[.int (109)], vm := .none },
  { cls := 7, slots := #[.int (110)], vm := .none },
  { cls := 7, slots := #[.int (111)], vm := .none },
  { cls := 7, slots := #[.int (112)], vm := .none },
  { cls := 7, slots := #[.int (113)], vm := .none },
  { cls := 7, slots := #[.int (114)], vm := .none },
  { cls := 7, slots := #[.int (115)], vm := .none },
  { cls := 7, slots := #[.int (116)], vm := .none },
  { cls := 7, slots := #[.int (117)], vm := .none },
  { cls := 7, slots := #[.int (118)], vm := .none },
  { cls := 7, slots := #[.int (119)], vm := .none },
  { cls := 7, slots := #[.int (120)], vm := .none },
  { cls := 7, slots := #[.int (121)], vm := .none },
  { cls := 7, slots := #[.int (122)], vm := .none },
  { cls := 7, slots := #[.int (123)], vm := .none },
  { cls := 7, slots := #[.int (124)], vm := .none },
  { cls := 7, slots := #[.int (125)], vm := .none },
  { cls := 7, slots := #[.int (126)], vm := .none },
  { cls := 7, slots := #[.int (127)], vm := .none },
  { cls := 9, slots := #[.long (-128)], vm := .none },
  { cls := 9, slots := #[.long (-127)], vm := .none },
  { cls := 9, slots := #[.long (-126)], vm := .none },
  { cls := 9, slots := #[.long (-125)], vm := .none },
  { cls := 9, slots := #[.long (-124)], vm := .none },
  { cls := 9, slots := #[.long (-123)], vm := .none },
  { cls := 9, slots := #[.long (-122)], vm := .none },
  { cls := 9, slots := #[.long (-121)], vm := .none },
  { cls := 9, slots := #[.long (-120)], vm := .none },
  { cls := 9, slots := #[.long (-119)], vm := .none },
  { cls := 9, slots := #[.long (-118)], vm := .none },
  { cls := 9, slots := #[.long (-117)], vm := .none },
  { cls := 9, slots := #[.long (-116)], vm := .none },
  { cls := 9, slots := #[.long (-115)], vm := .none },
  { cls := 9, slots := #[.long (-114)], vm := .none },
  { cls := 9, slots := #[.long (-113)], vm := .none },
  { cls := 9, slots := #[.long (-112)], vm := .none },
  { cls := 9, slots := #[.long (-111)], vm := .none },
  { cls := 9, slots := #[.long (-110)], vm := .none },
  { cls := 9, slots := #[.long (-109)], vm := .none },
  { cls := 9, slots := #[.long (-108)], vm := .none },
  { cls := 9, slots := #[.long (-107)], vm := .none },
  { cls := 9, slots := #[.long (-106)], vm := .none },
  { cls := 9, slots := #[.long (-105)], vm := .none },
  { cls := 9, slots := #[.long (-104)], vm := .none },
  { cls := 9, slots := #[.long (-103)], vm := .none },
  { cls := 9, slots := #[.long (-102)], vm := .none },
  { cls := 9, slots := #[.long (-101)], vm := .none },
  { cls := 9, slots := #[.long (-100)], vm := .none },
  { cls := 9, slots := #[.long (-99)], vm := .none },
  { cls := 9, slots := #[.long (-98)], vm := .none },
  { cls := 9, slots := #[.long (-97)], vm := .none },
  { cls := 9, slots := #[.long (-96)], vm := .none },
  { cls := 9, slots := #[.long (-95)], vm := .none },
  { cls := 9, slots := #[.long (-94)], vm := .none },
  { cls := 9, slots := #[.long (-93)], vm := .none },
  { cls := 9, slots := #[.long (-92)], vm := .none },
  { cls := 9, slots := #[.long (-91)], vm := .none },
  { cls := 9, slots := #[.long (-90)], vm := .none },
  { cls := 9, slots := #[.long (-89)], vm := .none },
  { cls := 9, slots := #[.long (-88)], vm := .none },
  { cls := 9, slots := #[.long (-87)], vm := .none },
  { cls := 9, slots := #[.long (-86)], vm := .none },
  { cls := 9, slots := #[.long (-85)], vm := .none },
  { cls := 9, slots := #[.long (-84)], vm := .none },
  { cls := 9, slots := #[.long (-83)], vm := .none },
  { cls := 9, slots := #[.long (-82)], vm := .none },
  { cls := 9, slots := #[.long (-81)], vm := .none },
  { cls := 9, slots := #[.long (-80)], vm := .none },
  { cls := 9, slots := #[.long (-79)], vm := .none },
  { cls := 9, slots := #[.long (-78)], vm := .none },
  { cls := 9, slots := #[.long (-77)], vm := .none },
  { cls := 9, slots := #[.long (-76)], vm := .none },
  { cls := 9, slots := #[.long (-75)], vm := .none },
  { cls := 9, slots := #[.long (-74)], vm := .none },
  { cls := 9, slots := #[.long (-73)], vm := .none },
  { cls := 9, slots := #[.long (-72)], vm := .none },
  { cls := 9, slots := #[.long (-71)], vm := .none },
  { cls := 9, slots := #[.long (-70)], vm := .none },
  { cls := 9, slots := #[.long (-69)], vm := .none },
  { cls := 9, slots := #[.long (-68)], vm := .none },
  { cls := 9, slots := #[.long (-67)], vm := .none },
  { cls := 9, slots := #[.long (-66)], vm := .none },
  { cls := 9, slots := #[.long (-65)], vm := .none },
  { cls := 9, slots := #[.long (-64)], vm := .none },
  { cls := 9, slots := #[.long (-63)], vm := .none },
  { cls := 9, slots := #[.long (-62)], vm := .none },
  { cls := 9, slots := #[.long (-61)], vm := .none },
  { cls := 9, slots := #[.long (-60)], vm := .none },
  { cls := 9, slots := #[.long (-59)], vm := .none },
  { cls := 9, slots := #[.long (-58)], vm := .none },
  { cls := 9, slots := #[.long (-57)], vm := .none },
  { cls := 9, slots := #[.long (-56)], vm := .none },
  { cls := 9, slots := #[.long (-55)], vm := .none },
  { cls := 9, slots := #[.long (-54)], vm := .none },
  { cls := 9, slots := #[.long (-53)], vm := .none },
  { cls := 9, slots := #[.long (-52)], vm := .none },
  { cls := 9, slots := #[.long (-51)], vm := .none },
  { cls := 9, slots := #[.long (-50)], vm := .none },
  { cls := 9, slots := #[.long (-49)], vm := .none },
  { cls := 9, slots := #[.long (-48)], vm := .none },
  { cls := 9, slots := #[.long (-47)], vm := .none },
  { cls := 9, slots := #[.long (-46)], vm := .none },
  { cls := 9, slots := #[.long (-45)], vm := .none },
  { cls := 9, slots := #[.long (-44)], vm := .none },
  { cls := 9, slots := #[.long (-43)], vm := .none },
  { cls := 9, slots := #[.long (-42)], vm := .none },
  { cls := 9, slots := #[.long (-41)], vm := .none },
  { cls := 9, slots := #[.long (-40)], vm := .none },
  { cls := 9, slots := #[.long (-39)], vm := .none },
  { cls := 9, slots := #[.long (-38)], vm := .none },
  { cls := 9, slots := #[.long (-37)], vm := .none },
  { cls := 9, slots := #[.long (-36)], vm := .none },
  { cls := 9, slots := #[.long (-35)], vm := .none },
  { cls := 9, slots := #[.long (-34)], vm := .none },
  { cls := 9, slots := #[.long (-33)], vm := .none },
  { cls := 9, slots := #[.long (-32)], vm := .none },
  { cls := 9, slots := #[.long (-31)], vm := .none },
  { cls := 9, slots := #[.long (-30)], vm := .none },
  { cls := 9, slots := #[.long (-29)], vm := .none },
  { cls := 9, slots := #[.long (-28)], vm := .none },
  { cls := 9, slots := #[.long (-27)], vm := .none },
  { cls := 9, slots := #[.long (-26)], vm := .none },
  { cls := 9, slots := #[.long (-25)], vm := .none },
  { cls := 9, slots := #[.long (-24)], vm := .none },
  { cls := 9, slots := #[.long (-23)], vm := .none },
  { cls := 9, slots := #[.long (-22)], vm := .none },
  { cls := 9, slots := #[.long (-21)], vm := .none },
  { cls := 9, slots := #[.long (-20)], vm := .none },
  { cls := 9, slots := #[.long (-19)], vm := .none },
  { cls := 9, slots := #[.long (-18)], vm := .none },
  { cls := 9, slots := #[.long (-17)], vm := .none },
  { cls := 9, slots := #[.long (-16)], vm := .none },
  { cls := 9, slots := #[.long (-15)], vm := .none },
  { cls := 9, slots := #[.long (-14)], vm := .none },
  { cls := 9, slots := #[.long (-13)], vm := .none },
  { cls := 9, slots := #[.long (-12)], vm := .none },
  { cls := 9, slots := #[.long (-11)], vm := .none },
  { cls := 9, slots := #[.long (-10)], vm := .none },
  { cls := 9, slots := #[.long (-9)], vm := .none },
  { cls := 9, slots := #[.long (-8)], vm := .none },
  { cls := 9, slots := #[.long (-7)], vm := .none },
  { cls := 9, slots := #[.long (-6)], vm := .none },
  { cls := 9, slots := #[.long (-5)], vm := .none },
  { cls := 9, slots := #[.long (-4)], vm := .none },
  { cls := 9, slots := #[.long (-3)], vm := .none },
  { cls := 9, slots := #[.long (-2)], vm := .none },
  { cls := 9, slots := #[.long (-1)], vm := .none },
  { cls := 9, slots := #[.long (0)], vm := .none },
  { cls := 9, slots := #[.long (1)], vm := .none },
  { cls := 9, slots := #[.long (2)], vm := .none },
  { cls := 9, slots := #[.long (3)], vm := .none },
  { cls := 9, slots := #[.long (4)], vm := .none },
  { cls := 9, slots := #[.long (5)], vm := .none },
  { cls := 9, slots := #[.long (6)], vm := .none },
  { cls := 9, slots := #[.long (7)], vm := .none },
  { cls := 9, slots := #[.long (8)], vm := .none },
  { cls := 9, slots := #[.long (9)], vm := .none },
  { cls := 9, slots := #[.long (10)], vm := .none },
  { cls := 9, slots := #[.long (11)], vm := .none },
  { cls := 9, slots := #[.long (12)], vm := .none },
  { cls := 9, slots := #[.long (13)], vm := .none },
  { cls := 9, slots := #[.long (14)], vm := .none },
  { cls := 9, slots := #[.long (15)], vm := .none },
  { cls := 9, slots := #[.long (16)], vm := .none },
  { cls := 9, slots := #[.long (17)], vm := .none },
  { cls := 9, slots := #[.long (18)], vm := .none },
  { cls := 9, slots := #[.long (19)], vm := .none },
  { cls := 9, slots := #[.long (20)], vm := .none },
  { cls := 9, slots := #[.long (21)], vm := .none },
  { cls := 9, slots := #[.long (22)], vm := .none },
  { cls := 9, slots := #[.long (23)], vm := .none },
  { cls := 9, slots := #[.long (24)], vm := .none },
  { cls := 9, slots := #[.long (25)], vm := .none },
  { cls := 9, slots := #[.long (26)], vm := .none },
  { cls := 9, slots := #[.long (27)], vm := .none },
  { cls := 9, slots := #[.long (28)], vm := .none },
  { cls := 9, slots := #[.long (29)], vm := .none },
  { cls := 9, slots := #[.long (30)], vm := .none },
  { cls := 9, slots := #[.long (31)], vm := .none },
  { cls := 9, slots := #[.long (32)], vm := .none },
  { cls := 9, slots := #[.long (33)], vm := .none },
  { cls := 9, slots := #[.long (34)], vm := .none },
  { cls := 9, slots := #[.long (35)], vm := .none },
  { cls := 9, slots := #[.long (36)], vm := .none },
  { cls := 9, slots := #[.long (37)], vm := .none },
  { cls := 9, slots := #[.long (38)], vm := .none },
  { cls := 9, slots := #[.long (39)], vm := .none },
  { cls := 9, slots := #[.long (40)], vm := .none },
  { cls := 9, slots := #[.long (41)], vm := .none },
  { cls := 9, slots := #[.long (42)], vm := .none },
  { cls := 9, slots := #[.long (43)], vm := .none },
  { cls := 9, slots := #[.long (44)], vm := .none },
  { cls := 9, slots := #[.long (45)], vm := .none },
  { cls := 9, slots := #[.long (46)], vm := .none },
  { cls := 9, slots := #[.long (47)], vm := .none },
  { cls := 9, slots := #[.long (48)], vm := .none },
  { cls := 9, slots := #[.long (49)], vm := .none },
  { cls := 9, slots := #[.long (50)], vm := .none },
  { cls := 9, slots := #[.long (51)], vm := .none },
  { cls := 9, slots := #[.long (52)], vm := .none },
  { cls := 9, slots := #[.long (53)], vm := .none },
  { cls := 9, slots := #[.long (54)], vm := .none },
  { cls := 9, slots := #[.long (55)], vm := .none },
  { cls := 9, slots := #[.long (56)], vm := .none },
  { cls := 9, slots := #[.long (57)], vm := .none },
  { cls := 9, slots := #[.long (58)], vm := .none },
  { cls := 9, slots := #[.long (59)], vm := .none },
  { cls := 9, slots := #[.long (60)], vm := .none },
  { cls := 9, slots := #[.long (61)], vm := .none },
  { cls := 9, slots := #[.long (62)], vm := .none },
  { cls := 9, slots := #[.long (63)], vm := .none },
  { cls := 9, slots := #[.long (64)], vm := .none },
  { cls := 9, slots := #[.long (65)], vm := .none },
  { cls := 9, slots := #[.long (66)], vm := .none },
  { cls := 9, slots := #[.long (67)], vm := .none },
  { cls := 9, slots := #[.long (68)], vm := .none },
  { cls := 9, slots := #[.long (69)], vm := .none },
  { cls := 9, slots := #[.long (70)], vm := .none },
  { cls := 9, slots := #[.long (71)], vm := .none },
  { cls := 9, slots := #[.long (72)], vm := .none },
  { cls := 9, slots := #[.long (73)], vm := .none },
  { cls := 9, slots := #[.long (74)], vm := .none },
  { cls := 9, slots := #[.long (75)], vm := .none },
  { cls := 9, slots := #[.long (76)], vm := .none },
  { cls := 9, slots := #[.long (77)], vm := .none },
  { cls := 9, slots := #[.long (78)], vm := .none },
  { cls := 9, slots := #[.long (79)], vm := .none },
  { cls := 9, slots := #[.long (80)], vm := .none },
  { cls := 9, slots := #[.long (81)], vm := .none },
  { cls := 9, slots := #[.long (82)], vm := .none },
  { cls := 9, slots := #[.long (83)], vm := .none },
  { cls := 9, slots := #[.long (84)], vm := .none },
  { cls := 9, slots := #[.long (85)], vm := .none },
  { cls := 9, slots := #[.long (86)], vm := .none },
  { cls := 9, slots := #[.long (87)], vm := .none },
  { cls := 9, slots := #[.long (88)], vm := .none },
  { cls := 9, slots := #[.long (89)], vm := .none },
  { cls := 9, slots := #[.long (90)], vm := .none },
  { cls := 9, slots := #[.long (91)], vm := .none },
  { cls := 9, slots := #[.long (92)], vm := .none },
  { cls := 9, slots := #[.long (93)], vm := .none },
  { cls := 9, slots := #[.long (94)], vm := .none },
  { cls := 9, slots := #[.long (95)], vm := .none },
  { cls := 9, slots := #[.long (96)], vm := .none },
  { cls := 9, slots := #[.long (97)], vm := .none },
  { cls := 9, slots := #[.long (98)], vm := .none },
  { cls := 9, slots := #[.long (99)], vm := .none },
  { cls := 9, slots := #[.long (100)], vm := .none },
  { cls := 9, slots := #[.long (101)], vm := .none },
  { cls := 9, slots := #[.long (102)], vm := .none },
  { cls := 9, slots := #[.long (103)], vm := .none },
  { cls := 9, slots := #[.long (104)], vm := .none },
  { cls := 9, slots := #[.long (105)], vm := .none },
  { cls := 9, slots := #[.long (106)], vm := .none },
  { cls := 9, slots := #[.long (107)], vm := .none },
  { cls := 9, slots := #[.long (108)], vm := .none },
  { cls := 9, slots := #[.long (109)], vm := .none },
  { cls := 9, slots := #[.long (110)], vm := .none },
  { cls := 9, slots := #[.long (111)], vm := .none },
  { cls := 9, slots := #[.long (112)], vm := .none },
  { cls := 9, slots := #[.long (113)], vm := .none },
  { cls := 9, slots := #[.long (114)], vm := .none },
  { cls := 9, slots := #[.long (115)], vm := .none },
  { cls := 9, slots := #[.long (116)], vm := .none },
  { cls := 9, slots := #[.long (117)], vm := .none },
  { cls := 9, slots := #[.long (118)], vm := .none },
  { cls := 9, slots := #[.long (119)], vm := .none },
  { cls := 9, slots := #[.long (120)], vm := .none },
  { cls := 9, slots := #[.long (121)], vm := .none },
  { cls := 9, slots := #[.long (122)], vm := .none },
  { cls := 9, slots := #[.long (123)], vm := .none },
  { cls := 9, slots := #[.long (124)], vm := .none },
  { cls := 9, slots := #[.long (125)], vm := .none },
  { cls := 9, slots := #[.long (126)], vm := .none },
  { cls := 9, slots := #[.long (127)], vm := .none }]
def classes : Array Class := #[k0, k1, k2, k3, k4, k5, k6, k7, k8, k9, k10, k11, k12, k13, k14, k15, k16, k17, k18, k19, k20, k21, k22, k23, k24, k25, k26, k27]
def interned : List (Array UInt16 × Addr) := []
def slotsUsed : Nat := 1042
def theMethod : MethodId := ⟨1, 1⟩
def args0 : Array Value := #[.int 5, .int 300, .long 7, .int 65, .int 66]
def aboutOver (below : List Frame) : State where
  vm := { classes := classes, interned := interned.toArray }
  heap := heap
  slotsUsed := slotsUsed
  threads := #[{ frames := .invoking theMethod args0 :: below }]
def below0 : List Frame := [.native { method := ⟨0, 0⟩, args := #[] }]
def about1 : State := aboutOver below0
def p0 : Program := .bare "" "" ""
def e0 : Env := launch0.env 0 0 0
theorem w_frames : about1.frames = Frame.invoking theMethod args0 :: below0 := rfl
set_option maxRecDepth 65536 in
theorem w_args : argsFit about1.vm theMethod args0 = true := by decide +kernel
set_option maxRecDepth 65536 in
theorem w_heap : heapFits about1 = true := by decide +kernel
set_option maxRecDepth 65536 in
theorem w_runnable : about1.curStatus? = some .runnable := by decide +kernel
set_option maxRecDepth 65536 in
theorem w_alone : about1.alone = true := by decide +kernel
set_option maxRecDepth 65536 in
theorem w_named : about1.methodNamed? x = some theMethod := by decide +kernel
set_option maxRecDepth 65536 in
theorem w_hears : about1.hears theMethod below0 = true := by decide +kernel
set_option maxRecDepth 65536 in
theorem w_ripe : about1.ripe theMethod args0 below0 = true := by decide +kernel
theorem w_running : about1.status = .running := rfl
set_option maxRecDepth 65536 in
theorem w_room : about1.hasRoom e0.platform room_1 = true :=
  launch0.hasRoom_least _ room_1 (by decide +kernel) (by decide +kernel) (by decide +kernel) (by decide +kernel) (by decide +kernel) (by decide +kernel)
theorem allAtoms_all (ts : List Jvm.Cond) (a : Array Jvm.Value) (st : Jvm.State) : (allAtoms ts).before a st = ts.all (fun c => c.before a st) := by
  induction ts with
  | nil => rfl
  | cons c t ih =>
    show (Jvm.Cond.and c (allAtoms t)).before a st = _
    rw [Jvm.Cond.before_and, ih, List.all_cons]
def words1 : List Jvm.Cond := Jvm.Cond.code x code maxLocals ret :: tables_1
/-- a 'code' word, met by the world's own term for the bytes: nothing is compared byte by byte -/
theorem code_word {y : MethodName} {bytes : ByteArray} {mx : Nat} {rt : Option FieldType} {a : Array Value} {s : State} {m : MethodId} {meth : Method} {c : Code} (h1 : s.methodNamed? y = some m) (h2 : s.vm.method? m = some meth) (h3 : meth.code = some c) (h4 : c.code = bytes)
    (h5 : (c.maxLocals == mx && c.exceptionTable.isEmpty && decide (c.maxStack ≤ mostOperands) && decide (meth.sig.returnType = rt) && !meth.locks && decide (parseMethodDescriptor y.desc = some meth.sig)) = true) : (Jvm.Cond.code y bytes mx rt).before a s = true := by
  simp only [Bool.and_eq_true, beq_iff_eq, Bool.not_eq_true', decide_eq_true_eq] at h5
  obtain ⟨⟨⟨⟨⟨g1, g2⟩, g3⟩, g4⟩, g5⟩, g6⟩ := h5
  simp [Cond.before, Cond.holds, Cond.value, h1, h2, h3, h4, g1, g2, g3, g4, g5, g6]
def isCode : Jvm.Cond → Bool
  | .code _ _ _ _ => true
  | _ => false
theorem all_split {L : List Jvm.Cond} {P : Jvm.Cond → Bool} (h1 : L.all (fun c => isCode c || P c) = true) (h2 : ∀ c ∈ L.filter isCode, P c = true) : L.all P = true := by
  refine List.all_eq_true.mpr fun c hc => ?_
  have h := List.all_eq_true.mp h1 c hc
  rcases Bool.eq_false_or_eq_true (isCode c) with hi | hi
  · exact h2 c (List.mem_filter.mpr ⟨hc, hi⟩)
  · simpa [hi] using h
set_option maxRecDepth 65536 in
theorem w_c0 : (Jvm.Cond.code x code maxLocals ret).before args0 about1 = true := code_word (m := ⟨1, 1⟩) (meth := k1m1) (c := k1c1) (by decide +kernel) rfl rfl rfl (by decide +kernel)
set_option maxRecDepth 65536 in
theorem w_c1 : (Jvm.Cond.code ({ cls := "java/lang/Integer", name := "valueOf", desc := "(I)Ljava/lang/Integer;" } : Jvm.MethodName) jdk_33_method_22_code (1 : Nat) (Option.some (Jvm.ClassFile.FieldType.object "java/lang/Integer"))).before args0 about1 = true := code_word (m := ⟨7, 0⟩) (meth := k7m0) (c := k7c0) (by decide +kernel) rfl rfl rfl (by decide +kernel)
set_option maxRecDepth 65536 in
theorem w_c2 : (Jvm.Cond.code ({ cls := "java/lang/Long", name := "valueOf", desc := "(J)Ljava/lang/Long;" } : Jvm.MethodName) jdk_35_method_24_code (3 : Nat) (Option.some (Jvm.ClassFile.FieldType.object "java/lang/Long"))).before args0 about1 = true := code_word (m := ⟨9, 0⟩) (meth := k9m0) (c := k9c0) (by decide +kernel) rfl rfl rfl (by decide +kernel)
set_option maxRecDepth 65536 in
theorem w_c3 : (Jvm.Cond.code ({ cls := "java/lang/String", name := "<init>", desc := "([C)V" } : Jvm.MethodName) jdk_42_method_3_code (2 : Nat) (Option.none : Option Jvm.ClassFile.FieldType)).before args0 about1 = true := code_word (m := ⟨12, 1⟩) (meth := k12m1) (c := k12c1) (by decide +kernel) rfl rfl rfl (by decide +kernel)
set_option maxRecDepth 65536 in
theorem w_c4 : (Jvm.Cond.code ({ cls := "java/lang/String", name := "<init>", desc := "([CIILjava/lang/Void;)V" } : Jvm.MethodName) jdk_42_method_149_code (6 : Nat) (Option.none : Option Jvm.ClassFile.FieldType)).before args0 about1 = true := code_word (m := ⟨12, 4⟩) (meth := k12m4) (c := k12c4) (by decide +kernel) rfl rfl rfl (by decide +kernel)
set_option maxRecDepth 65536 in
theorem w_c5 : (Jvm.Cond.code ({ cls := "java/lang/Object", name := "<init>", desc := "()V" } : Jvm.MethodName) object_method_1_code (1 : Nat) (Option.none : Option Jvm.ClassFile.FieldType)).before args0 about1 = true := code_word (m := ⟨0, 0⟩) (meth := k0m0) (c := k0c0) (by decide +kernel) rfl rfl rfl (by decide +kernel)
set_option maxRecDepth 65536 in
theorem w_c6 : (Jvm.Cond.code ({ cls := "java/lang/StringUTF16", name := "compress", desc := "([CII)[B" } : Jvm.MethodName) jdk_52_method_16_code (6 : Nat) (Option.some (Jvm.ClassFile.FieldType.array Jvm.ClassFile.FieldType.byte))).before args0 about1 = true := code_word (m := ⟨13, 2⟩) (meth := k13m2) (c := k13c2) (by decide +kernel) rfl rfl rfl (by decide +kernel)
set_option maxRecDepth 65536 in
theorem w_c7 : (Jvm.Cond.code ({ cls := "java/lang/StringUTF16", name := "compress", desc := "([CI[BII)I" } : Jvm.MethodName) jdk_52_method_21_code (7 : Nat) (Option.some Jvm.ClassFile.FieldType.int)).before args0 about1 = true := code_word (m := ⟨13, 3⟩) (meth := k13m3) (c := k13c3) (by decide +kernel) rfl rfl rfl (by decide +kernel)
set_option maxRecDepth 65536 in
theorem w_c8 : (Jvm.Cond.code ({ cls := "java/lang/StringUTF16", name := "coderFromArrayLen", desc := "([BI)B" } : Jvm.MethodName) jdk_52_method_15_code (2 : Nat) (Option.some Jvm.ClassFile.FieldType.byte)).before args0 about1 = true := code_word (m := ⟨13, 1⟩) (meth := k13m1) (c := k13c1) (by decide +kernel) rfl rfl rfl (by decide +kernel)
set_option maxRecDepth 65536 in
theorem w_c9 : (Jvm.Cond.code ({ cls := "com/example/commit_to_chain/committochain/core/ChainAnswer", name := "of", desc := "(Ljava/lang/Object;)Lcom/example/commit_to_chain/committochain/core/ChainAnswer;" } : Jvm.MethodName) prog_5_method_2_code (1 : Nat) (Option.some (Jvm.ClassFile.FieldType.object "com/example/commit_to_chain/committochain/core/ChainAnswer"))).before args0 about1 = true := code_word (m := ⟨14, 1⟩) (meth := k14m1) (c := k14c1) (by decide +kernel) rfl rfl rfl (by decide +kernel)
set_option maxRecDepth 65536 in
theorem w_c10 : (Jvm.Cond.code ({ cls := "java/util/Objects", name := "requireNonNull", desc := "(Ljava/lang/Object;Ljava/lang/String;)Ljava/lang/Object;" } : Jvm.MethodName) jdk_31_method_11_code (2 : Nat) (Option.some (Jvm.ClassFile.FieldType.object "java/lang/Object"))).before args0 about1 = true := code_word (m := ⟨15, 1⟩) (meth := k15m1) (c := k15c1) (by decide +kernel) rfl rfl rfl (by decide +kernel)
set_option maxRecDepth 65536 in
theorem w_c11 : (Jvm.Cond.code ({ cls := "com/example/commit_to_chain/committochain/core/ChainAnswer", name := "<init>", desc := "(Ljava/lang/Object;Lcom/example/commit_to_chain/committochain/core/ChainException;)V" } : Jvm.MethodName) prog_5_method_1_code (3 : Nat) (Option.none : Option Jvm.ClassFile.FieldType)).before args0 about1 = true := code_word (m := ⟨14, 0⟩) (meth := k14m0) (c := k14c0) (by decide +kernel) rfl rfl rfl (by decide +kernel)
set_option maxRecDepth 65536 in
theorem w_c12 : (Jvm.Cond.code ({ cls := "com/example/commit_to_chain/committochain/core/ChainAnswer", name := "get", desc := "()Ljava/lang/Object;" } : Jvm.MethodName) prog_5_method_4_code (1 : Nat) (Option.some (Jvm.ClassFile.FieldType.object "java/lang/Object"))).before args0 about1 = true := code_word (m := ⟨14, 2⟩) (meth := k14m2) (c := k14c2) (by decide +kernel) rfl rfl rfl (by decide +kernel)
set_option maxRecDepth 65536 in
theorem w_c13 : (Jvm.Cond.code ({ cls := "java/lang/Integer", name := "intValue", desc := "()I" } : Jvm.MethodName) jdk_33_method_27_code (1 : Nat) (Option.some Jvm.ClassFile.FieldType.int)).before args0 about1 = true := code_word (m := ⟨7, 2⟩) (meth := k7m2) (c := k7c2) (by decide +kernel) rfl rfl rfl (by decide +kernel)
set_option maxRecDepth 65536 in
theorem w_c14 : (Jvm.Cond.code ({ cls := "java/lang/Long", name := "longValue", desc := "()J" } : Jvm.MethodName) jdk_35_method_31_code (1 : Nat) (Option.some Jvm.ClassFile.FieldType.long)).before args0 about1 = true := code_word (m := ⟨9, 2⟩) (meth := k9m2) (c := k9c2) (by decide +kernel) rfl rfl rfl (by decide +kernel)
set_option maxRecDepth 65536 in
theorem w_c15 : (Jvm.Cond.code ({ cls := "java/lang/String", name := "length", desc := "()I" } : Jvm.MethodName) jdk_42_method_54_code (1 : Nat) (Option.some Jvm.ClassFile.FieldType.int)).before args0 about1 = true := code_word (m := ⟨12, 2⟩) (meth := k12m2) (c := k12c2) (by decide +kernel) rfl rfl rfl (by decide +kernel)
set_option maxRecDepth 65536 in
theorem w_c16 : (Jvm.Cond.code ({ cls := "java/lang/String", name := "coder", desc := "()B" } : Jvm.MethodName) jdk_42_method_152_code (1 : Nat) (Option.some Jvm.ClassFile.FieldType.byte)).before args0 about1 = true := code_word (m := ⟨12, 5⟩) (meth := k12m5) (c := k12c5) (by decide +kernel) rfl rfl rfl (by decide +kernel)
set_option maxRecDepth 65536 in
theorem w_c17 : (Jvm.Cond.code ({ cls := "java/lang/String", name := "charAt", desc := "(I)C" } : Jvm.MethodName) jdk_42_method_56_code (2 : Nat) (Option.some Jvm.ClassFile.FieldType.char)).before args0 about1 = true := code_word (m := ⟨12, 3⟩) (meth := k12m3) (c := k12c3) (by decide +kernel) rfl rfl rfl (by decide +kernel)
set_option maxRecDepth 65536 in
theorem w_c18 : (Jvm.Cond.code ({ cls := "java/lang/String", name := "isLatin1", desc := "()Z" } : Jvm.MethodName) jdk_42_method_154_code (1 : Nat) (Option.some Jvm.ClassFile.FieldType.boolean)).before args0 about1 = true := code_word (m := ⟨12, 6⟩) (meth := k12m6) (c := k12c6) (by decide +kernel) rfl rfl rfl (by decide +kernel)
set_option maxRecDepth 65536 in
theorem w_c19 : (Jvm.Cond.code ({ cls := "java/lang/StringLatin1", name := "charAt", desc := "([BI)C" } : Jvm.MethodName) jdk_43_method_2_code (2 : Nat) (Option.some Jvm.ClassFile.FieldType.char)).before args0 about1 = true := code_word (m := ⟨16, 1⟩) (meth := k16m1) (c := k16c1) (by decide +kernel) rfl rfl rfl (by decide +kernel)
set_option maxRecDepth 65536 in
theorem w_c20 : (Jvm.Cond.code ({ cls := "java/lang/String", name := "checkIndex", desc := "(II)V" } : Jvm.MethodName) jdk_42_method_155_code (2 : Nat) (Option.none : Option Jvm.ClassFile.FieldType)).before args0 about1 = true := code_word (m := ⟨12, 7⟩) (meth := k12m7) (c := k12c7) (by decide +kernel) rfl rfl rfl (by decide +kernel)
set_option maxRecDepth 65536 in
theorem w_c21 : (Jvm.Cond.code ({ cls := "jdk/internal/util/Preconditions", name := "checkIndex", desc := "(IILjava/util/function/BiFunction;)I" } : Jvm.MethodName) jdk_41_method_11_code (3 : Nat) (Option.some Jvm.ClassFile.FieldType.int)).before args0 about1 = true := code_word (m := ⟨17, 1⟩) (meth := k17m1) (c := k17c1) (by decide +kernel) rfl rfl rfl (by decide +kernel)
set_option maxRecDepth 65536 in
theorem w_c22 : (Jvm.Cond.code ({ cls := "java/lang/Long", name := "<init>", desc := "(J)V" } : Jvm.MethodName) jdk_35_method_26_code (3 : Nat) (Option.none : Option Jvm.ClassFile.FieldType)).before args0 about1 = true := code_word (m := ⟨9, 1⟩) (meth := k9m1) (c := k9c1) (by decide +kernel) rfl rfl rfl (by decide +kernel)
set_option maxRecDepth 65536 in
theorem w_c23 : (Jvm.Cond.code ({ cls := "java/lang/Number", name := "<init>", desc := "()V" } : Jvm.MethodName) jdk_18_method_1_code (1 : Nat) (Option.none : Option Jvm.ClassFile.FieldType)).before args0 about1 = true := code_word (m := ⟨3, 0⟩) (meth := k3m0) (c := k3c0) (by decide +kernel) rfl rfl rfl (by decide +kernel)
set_option maxRecDepth 65536 in
theorem w_c24 : (Jvm.Cond.code ({ cls := "java/lang/Integer", name := "<init>", desc := "(I)V" } : Jvm.MethodName) jdk_33_method_23_code (2 : Nat) (Option.none : Option Jvm.ClassFile.FieldType)).before args0 about1 = true := code_word (m := ⟨7, 1⟩) (meth := k7m1) (c := k7c1) (by decide +kernel) rfl rfl rfl (by decide +kernel)
def codes1 : List Jvm.Cond := [Jvm.Cond.code x code maxLocals ret, Jvm.Cond.code ({ cls := "java/lang/Integer", name := "valueOf", desc := "(I)Ljava/lang/Integer;" } : Jvm.MethodName) jdk_33_method_22_code (1 : Nat) (Option.some (Jvm.ClassFile.FieldType.object "java/lang/Integer")), Jvm.Cond.code ({ cls := "java/lang/Long", name := "valueOf", desc := "(J)Ljava/lang/Long;" } : Jvm.MethodName) jdk_35_method_24_code (3 : Nat) (Option.some (Jvm.ClassFile.FieldType.object "java/lang/Long")), Jvm.Cond.code ({ cls := "java/lang/String", name := "<init>", desc := "([C)V" } : Jvm.MethodName) jdk_42_method_3_code (2 : Nat) (Option.none : Option Jvm.ClassFile.FieldType), Jvm.Cond.code ({ cls := "java/lang/String", name := "<init>", desc := "([CIILjava/lang/Void;)V" } : Jvm.MethodName) jdk_42_method_149_code (6 : Nat) (Option.none : Option Jvm.ClassFile.FieldType), Jvm.Cond.code ({ cls := "java/lang/Object", name := "<init>", desc := "()V" } : Jvm.MethodName) object_method_1_code (1 : Nat) (Option.none : Option Jvm.ClassFile.FieldType), Jvm.Cond.code ({ cls := "java/lang/StringUTF16", name := "compress", desc := "([CII)[B" } : Jvm.MethodName) jdk_52_method_16_code (6 : Nat) (Option.some (Jvm.ClassFile.FieldType.array Jvm.ClassFile.FieldType.byte)), Jvm.Cond.code ({ cls := "java/lang/StringUTF16", name := "compress", desc := "([CI[BII)I" } : Jvm.MethodName) jdk_52_method_21_code (7 : Nat) (Option.some Jvm.ClassFile.FieldType.int), Jvm.Cond.code ({ cls := "java/lang/StringUTF16", name := "coderFromArrayLen", desc := "([BI)B" } : Jvm.MethodName) jdk_52_method_15_code (2 : Nat) (Option.some Jvm.ClassFile.FieldType.byte), Jvm.Cond.code ({ cls := "com/example/commit_to_chain/committochain/core/ChainAnswer", name := "of", desc := "(Ljava/lang/Object;)Lcom/example/commit_to_chain/committochain/core/ChainAnswer;" } : Jvm.MethodName) prog_5_method_2_code (1 : Nat) (Option.some (Jvm.ClassFile.FieldType.object "com/example/commit_to_chain/committochain/core/ChainAnswer")), Jvm.Cond.code ({ cls := "java/util/Objects", name := "requireNonNull", desc := "(Ljava/lang/Object;Ljava/lang/String;)Ljava/lang/Object;" } : Jvm.MethodName) jdk_31_method_11_code (2 : Nat) (Option.some (Jvm.ClassFile.FieldType.object "java/lang/Object")), Jvm.Cond.code ({ cls := "com/example/commit_to_chain/committochain/core/ChainAnswer", name := "<init>", desc := "(Ljava/lang/Object;Lcom/example/commit_to_chain/committochain/core/ChainException;)V" } : Jvm.MethodName) prog_5_method_1_code (3 : Nat) (Option.none : Option Jvm.ClassFile.FieldType), Jvm.Cond.code ({ cls := "com/example/commit_to_chain/committochain/core/ChainAnswer", name := "get", desc := "()Ljava/lang/Object;" } : Jvm.MethodName) prog_5_method_4_code (1 : Nat) (Option.some (Jvm.ClassFile.FieldType.object "java/lang/Object")), Jvm.Cond.code ({ cls := "java/lang/Integer", name := "intValue", desc := "()I" } : Jvm.MethodName) jdk_33_method_27_code (1 : Nat) (Option.some Jvm.ClassFile.FieldType.int), Jvm.Cond.code ({ cls := "java/lang/Long", name := "longValue", desc := "()J" } : Jvm.MethodName) jdk_35_method_31_code (1 : Nat) (Option.some Jvm.ClassFile.FieldType.long), Jvm.Cond.code ({ cls := "java/lang/String", name := "length", desc := "()I" } : Jvm.MethodName) jdk_42_method_54_code (1 : Nat) (Option.some Jvm.ClassFile.FieldType.int), Jvm.Cond.code ({ cls := "java/lang/String", name := "coder", desc := "()B" } : Jvm.MethodName) jdk_42_method_152_code (1 : Nat) (Option.some Jvm.ClassFile.FieldType.byte), Jvm.Cond.code ({ cls := "java/lang/String", name := "charAt", desc := "(I)C" } : Jvm.MethodName) jdk_42_method_56_code (2 : Nat) (Option.some Jvm.ClassFile.FieldType.char), Jvm.Cond.code ({ cls := "java/lang/String", name := "isLatin1", desc := "()Z" } : Jvm.MethodName) jdk_42_method_154_code (1 : Nat) (Option.some Jvm.ClassFile.FieldType.boolean), Jvm.Cond.code ({ cls := "java/lang/StringLatin1", name := "charAt", desc := "([BI)C" } : Jvm.MethodName) jdk_43_method_2_code (2 : Nat) (Option.some Jvm.ClassFile.FieldType.char), Jvm.Cond.code ({ cls := "java/lang/String", name := "checkIndex", desc := "(II)V" } : Jvm.MethodName) jdk_42_method_155_code (2 : Nat) (Option.none : Option Jvm.ClassFile.FieldType), Jvm.Cond.code ({ cls := "jdk/internal/util/Preconditions", name := "checkIndex", desc := "(IILjava/util/function/BiFunction;)I" } : Jvm.MethodName) jdk_41_method_11_code (3 : Nat) (Option.some Jvm.ClassFile.FieldType.int), Jvm.Cond.code ({ cls := "java/lang/Long", name := "<init>", desc := "(J)V" } : Jvm.MethodName) jdk_35_method_26_code (3 : Nat) (Option.none : Option Jvm.ClassFile.FieldType), Jvm.Cond.code ({ cls := "java/lang/Number", name := "<init>", desc := "()V" } : Jvm.MethodName) jdk_18_method_1_code (1 : Nat) (Option.none : Option Jvm.ClassFile.FieldType), Jvm.Cond.code ({ cls := "java/lang/Integer", name := "<init>", desc := "(I)V" } : Jvm.MethodName) jdk_33_method_23_code (2 : Nat) (Option.none : Option Jvm.ClassFile.FieldType)]
set_option maxRecDepth 65536 in
theorem codes_eq : words1.filter isCode = codes1 := rfl
theorem w_codes : ∀ c ∈ words1.filter isCode, c.before args0 about1 = true := by
  rw [codes_eq]
  intro c hc
  simp only [codes1, List.mem_cons, List.not_mem_nil, or_false] at hc
  rcases hc with rfl | rfl | rfl | rfl | rfl | rfl | rfl | rfl | rfl | rfl | rfl | rfl | rfl | rfl | rfl | rfl | rfl | rfl | rfl | rfl | rfl | rfl | rfl | rfl | rfl
  · exact w_c0
  · exact w_c1
  · exact w_c2
  · exact w_c3
  · exact w_c4
  · exact w_c5
  · exact w_c6
  · exact w_c7
  · exact w_c8
  · exact w_c9
  · exact w_c10
  · exact w_c11
  · exact w_c12
  · exact w_c13
  · exact w_c14
  · exact w_c15
  · exact w_c16
  · exact w_c17
  · exact w_c18
  · exact w_c19
  · exact w_c20
  · exact w_c21
  · exact w_c22
  · exact w_c23
  · exact w_c24
set_option maxRecDepth 65536 in
theorem w_t1 : (words1.take 24).all (fun c => isCode c || c.before args0 about1) = true := by decide +kernel
set_option maxRecDepth 65536 in
theorem w_t2 : ((words1.drop 24).take 24).all (fun c => isCode c || c.before args0 about1) = true := by decide +kernel
set_option maxRecDepth 65536 in
theorem w_t3 : (((words1.drop 24).drop 24).take 24).all (fun c => isCode c || c.before args0 about1) = true := by decide +kernel
set_option maxRecDepth 65536 in
theorem w_t4 : ((((words1.drop 24).drop 24).drop 24).take 24).all (fun c => isCode c || c.before args0 about1) = true := by decide +kernel
set_option maxRecDepth 65536 in
theorem w_t5 : (((((words1.drop 24).drop 24).drop 24).drop 24).take 24).all (fun c => isCode c || c.before args0 about1) = true := by decide +kernel
set_option maxRecDepth 65536 in
theorem w_t6 : (((((words1.drop 24).drop 24).drop 24).drop 24).drop 24).all (fun c => isCode c || c.before args0 about1) = true := by decide +kernel
theorem w_tables : (allAtoms (Jvm.Cond.code x code maxLocals ret :: tables_1)).before args0 about1 = true := by
  rw [allAtoms_all]
  show words1.all (fun c => c.before args0 about1) = true
  refine all_split ?_ w_codes
  rw [← List.take_append_drop 24 words1, List.all_append, w_t1, ← List.take_append_drop 24 (words1.drop 24), List.all_append, w_t2, ← List.take_append_drop 24 ((words1.drop 24).drop 24), List.all_append, w_t3, ← List.take_append_drop 24 (((words1.drop 24).drop 24).drop 24), List.all_append, w_t4, ← List.take_append_drop 24 ((((words1.drop 24).drop 24).drop 24).drop 24), List.all_append, w_t5, w_t6]
  rfl
set_option maxRecDepth 65536 in
theorem w_rest : rest_1_c.before args0 about1 = true := by decide +kernel
set_option maxRecDepth 65536 in
theorem w_case : (Jvm.Cond.and given_1 narrow_1).before args0 about1 = true := by decide +kernel
theorem w_applies : (headSpec (Jvm.Cond.code x code maxLocals ret :: tables_1) room_1).applies x e0.platform about1 = true :=
  (Spec.applies_iff w_frames).mpr ⟨w_running, w_runnable, w_alone, w_named, w_hears, w_ripe, w_room, w_tables⟩
theorem atStart : AtStart classFile x code maxLocals ret World_1 tables_1 room_1 Calls_1 rest_1 Pre_1 launch0 p0 e0 about1 theMethod args0 below0 :=
  ⟨lists_1, trivial, launch0.admits_env _ _ _, launch0.least_env, fairChoices_fair.cas, fairChoices_fair.clock, w_frames, w_args, w_heap, w_applies, trivial, w_rest, w_case⟩
end start1
theorem witness_1 : WitnessClaimed_1 := ⟨start1.p0, start1.e0, start1.about1, start1.theMethod, start1.args0, start1.below0, start1.atStart⟩
end Jvm.Pilot.@@N@@
