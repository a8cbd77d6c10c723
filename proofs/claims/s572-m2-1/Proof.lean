import JvmDerived
import JvmDerived.Pilot.@@N@@Statement
import JvmDerived.Pilot.@@N@@Code
set_option linter.unusedVariables false
set_option linter.unusedSimpArgs false
namespace Jvm.RoadKit
open Sem ClassFile Op Lib Jvm.Stand Jvm.Free Jvm.LawKit
section New
variable {p : Program} {l : Launch} {e : Env} {R : Room} {s : State} {m : MethodId} {args : Array Value} {below : List Frame} {meth : Method} {c : Code} {T : State} {locs : List Loc} {cells slots : Nat}
theorem retI (X : Stand p l e R s m args below meth c T locs cells slots) (hx : p.tables.exec = Jvm.exec) {pc : Nat} {Ls : Array Slot} {z : Int32} {rest : List Value} (hret : meth.sig.returnType = some .int) (hd : decode c.code pc = .ok (.ireturn, 1)) {fs : List Frame}
    (hl : ∀ (f : JFrame) (acts : List Action), f.method = m → f.locked = none → f.entered = [] → (doReturn e (T.setTop f) acts (some (.int z))).1 = T.setFrames fs) : Steps p.tables e below (T.setTop (mkF m pc Ls (.int z :: rest))) (T.setFrames fs) :=
  retOut X hx hret rfl (Or.inl ⟨rfl, Or.inl rfl, _, rfl⟩) hd hl
end New
end Jvm.RoadKit
namespace Jvm.Pilot.@@N@@
open Jvm Jvm.ClassFile Sem Op Lib Jvm.Free Jvm.Stand Jvm.LawKit Jvm.RoadKit Bundle Jvm.Pilot.@@N@@.Jvm.D
/-- the run goes on from A and comes to an end of which R holds -/
def own_Go (p : Program) (e : Env) (below : List Frame) (A : State) (R : State → Outcome → Prop) : Prop := ∃ s₂ o, Steps p.tables e below A s₂ ∧ s₂.status = .running ∧ Ended s₂ below o ∧ R s₂ o
theorem own_by {p : Program} {e : Env} {below : List Frame} {A B : State} {R : State → Outcome → Prop} (k : ∀ t, Steps p.tables e below B t → Steps p.tables e below A t) (h : own_Go p e below B R) : own_Go p e below A R := by
  obtain ⟨s₂, o, h1, h2⟩ := h
  exact ⟨s₂, o, k _ h1, h2⟩
theorem own_ne {x y : Nat} (h : x ≠ y) : x ≠ y := h
theorem own_cat {v : Value} (h : v.isRef = true) : v.category = 1 := by rcases ref_cases h with rfl | ⟨_, rfl⟩ <;> rfl
theorem own_w {Z : State} {a0 : Array Value} (hw : ∀ d ∈ tables_1, d.before a0 Z = true) {d : Jvm.Cond} (i : Nat) (h : tables_1[i]? = some d) : d.before a0 Z = true := hw _ (List.mem_of_getElem? h)
theorem own_Ins_keep {Z : State} {h h' : Heap} {a : Addr} {C : String} {bo : Bool} {ws : List Addr} (F : Ins Z h a C bo) (K : Keep h h' ws) : Ins Z h' a C bo := by
  obtain ⟨cell, cT, h1, h2, h3⟩ := F
  obtain ⟨c', q, r1, r2, -⟩ := K.2.2 a cell h1
  exact ⟨c', cT, q, h2, by rw [r1, r2]; exact h3⟩
theorem own_narrow_ref {t : FieldType} {v : Value} (ht : t.isReference = true) (hv : v.isRef = true) : narrow t v = v := by
  cases t <;> first | (cases ht; done) | (cases v <;> first | rfl | (cases hv; done))
theorem own_fits_ref {t : FieldType} {v : Value} (hv : v.isRef = true) (ht : t.isReference = true := by rfl) : fits t v = true := by
  cases t <;> first | (cases ht; done) | (cases v <;> first | rfl | (cases hv; done))
abbrev s1_ : String := "com/example/ostiarius/ostiarius/key/KeyKindOfLabelPinLaw"
abbrev s2_ : String := "com/example/ostiarius/ostiarius/key/KeyKind"
abbrev s3_ : String := "(Ljava/lang/String;)Lcom/example/ostiarius/ostiarius/key/KeyKind;"
abbrev s4_ : String := "()[Lcom/example/ostiarius/ostiarius/key/KeyKind;"
abbrev s5_ : String := "[Lcom/example/ostiarius/ostiarius/key/KeyKind;"
abbrev s6_ : String := "()Ljava/lang/Object;"
abbrev s7_ : String := "java/lang/Object"
abbrev s8_ : String := "java/lang/Cloneable"
abbrev s9_ : String := "Lcom/example/ostiarius/ostiarius/key/KeyKind;"
abbrev s10_ : String := "Ljava/lang/String;"
abbrev s11_ : String := "java/lang/String"
abbrev s12_ : String := "(Ljava/lang/Object;)Z"
abbrev s13_ : String := "([CI)Ljava/lang/String;"
abbrev s14_ : String := "([CIILjava/lang/Void;)V"
abbrev s15_ : String := "COMPACT_STRINGS"
abbrev s16_ : String := "java/lang/StringUTF16"
abbrev s17_ : String := "coderFromArrayLen"
abbrev s18_ : String := "java/lang/StringLatin1"
theorem own_eq_int {args : Array Value} {first s : State} {o : Option Outcome} {idx : List Nat} {t : Term} {n : Int32} (h : (Cond.eq t (.int n)).value args first o s idx = some true) : t.eval args first o idx s = some (.int n) := by
  simp only [Cond.value, Term.eval] at h
  cases ht : t.eval args first o idx s with
  | none => simp [ht] at h
  | some x => cases x <;> simp [ht] at h ⊢; exact h
theorem own_eq_ref {args : Array Value} {s : State} {X Y : Term} {y : Addr} (hy : Y.eval args s none [] s = some (.ref y)) (h : (Cond.eq X Y).value args s none s [] = some true) : X.eval args s none [] s = some (.ref y) := by
  obtain ⟨x, y', e1, e2, k1, k2⟩ := cmp_v (Or.inl h)
  cases hy.symm.trans e2
  have hx : x.isRef = true := k2.2
  have := gotT (eq_R e1 hy hx rfl) h
  rw [e1, this]
theorem own_sta_via {s : State} {args : Array Value} {C n d n' d' : String} {v : Value} (wl : (Cond.laysStatic C n' d').before args s = true) (wi : (Cond.initializedFor C n' d').before args s = true) (w : (Cond.laysStatic C n d).before args s = true) (ev : (Term.static C n d).eval args s none [] s = some v) : Sta s s.heap C n d v := by
  have ini : (Cond.initialized C).before args s = true := by
    obtain ⟨c, k, i, f, a, cell, h1, h2, -⟩ := Cond.laysStatic_spec wl
    have q := Cond.initializedFor_spec h2 wi
    have hk := State.fieldFound?_class h2
    simp [Cond.before, Cond.holds, Cond.value, h1, hk, q]
  exact Sta.start ev (Or.inr ⟨ini, w⟩)
theorem own_static_idx {s : State} {args : Array Value} {C n d : String} {v : Value} {idx : List Nat} (h : (Term.static C n d).eval args s none [] s = some v) : (Term.static C n d).eval args s none idx s = some v := h
theorem own_len {s : State} {args : Array Value} {t : Term} {a : Addr} {c : Cell} {ty : FieldType} {n : Int32} (ht : t.eval args s none [] s = some (.ref a)) (A : Arr s s.heap a c ty) (h : (Cond.eq (.length t) (.int n)).value args s none s [] = some true) : c.slots.size < 2 ^ 31 ∧ c.slots.size.toInt32 = n := by
  have e := own_eq_int h
  have ha := A.fin (U := s) (Vm.Alike.refl _)
  by_cases q : c.slots.size < 2 ^ 31
  · rw [len_f ht ha q] at e
    exact ⟨q, by simpa using e⟩
  · simp [Term.eval, ht, ha, q] at e
theorem own_idx {s : State} {args : Array Value} {j : Int32} (nj : ¬ j < 0) : (Term.sub (.index 0) (.int 128)).eval args s none [j.toNatClampNeg] s = some (.int (j - 128)) := by
  have := idx_at (args := args) (s := s) (first := s) (o := none) nj
  simp [Term.eval] at this ⊢
  simp [this]
theorem own_box_i {s : State} {args : Array Value} {X : Term} {j : Int32} (nj : ¬ j < 0) (h : (Cond.eq X (.sub (.index 0) (.int 128))).value args s none s [j.toNatClampNeg] = some true) : X.eval args s none [j.toNatClampNeg] s = some (.int (j - 128)) := eqv_i (own_idx nj) h
theorem own_box_l {s : State} {args : Array Value} {X : Term} {j : Int32} (nj : ¬ j < 0) (h : (Cond.eq X (.op1 .i2l (.sub (.index 0) (.int 128)))).value args s none s [j.toNatClampNeg] = some true) : X.eval args s none [j.toNatClampNeg] s = some (.long (j - 128).toInt64) := eqv_l (i2l_at (own_idx nj)) h
def own_b (x : Int32) : Int32 := nar .byte (x.toInt8.toInt32)
def own_ch (x : Int32) : Int32 := (x &&& 255)
theorem fits_nar_byte2 (x : Int32) : fits .byte (.int (own_b x)) = true := fits_nar_byte _
theorem own_mask_c (x : Int32) : nar .char (x &&& 255) = x &&& 255 := i2c_mask x
theorem own_ret_char (x : Int32) : some (Value.int (nar .char (x &&& 255))) = some (.int (x &&& 255)) := by rw [own_mask_c]
theorem own_ret_ch (x : Int32) : some (Value.int (nar .char (own_ch x))) = some (.int (own_ch x)) := own_ret_char x
theorem own_fits_c (x : Int32) : fits .char (.int (x &&& 255)) = true := by rw [← own_mask_c]; exact fits_nar_char _
theorem own_mask_nat (x : Int32) : ∃ i : Fin 256, x &&& 255 = Int32.ofNat i.1 := by
  have h : (x &&& 255).toBitVec.toNat < 256 := by
    show (x.toBitVec &&& 255#32).toNat < 256
    rw [BitVec.toNat_and]
    exact Nat.lt_of_le_of_lt Nat.and_le_right (by decide)
  refine ⟨⟨_, h⟩, ?_⟩
  apply Int32.toBitVec_inj.mp
  show _ = BitVec.ofNat 32 _
  simp
theorem own_ch_all : ∀ i : Fin 256, own_ch (own_b (Int32.ofNat i.1)) = Int32.ofNat i.1 ∧ ¬ ((255 : Int32) < Int32.ofNat i.1) := by decide +kernel
theorem own_mask_hi (x : Int32) : ¬ ((255 : Int32) < x &&& 255) := by obtain ⟨i, e⟩ := own_mask_nat x; rw [e]; exact (own_ch_all i).2
theorem own_ch_mask (x : Int32) : own_ch (own_b (x &&& 255)) = x &&& 255 := by obtain ⟨i, e⟩ := own_mask_nat x; rw [e]; exact (own_ch_all i).1
def own_all : List (Int32 × Int32) → Int32
  | [] => 1
  | (x, y) :: r => if x = y then own_all r else 0
theorem own_all_pos {x y : Int32} {r : List (Int32 × Int32)} (h : x = y) : own_all ((x, y) :: r) = own_all r := if_pos h
theorem own_all_neg {x y : Int32} {r : List (Int32 × Int32)} (h : ¬ (x = y)) : own_all ((x, y) :: r) = 0 := if_neg h
theorem own_all_01 : ∀ l, own_all l = 0 ∨ own_all l = 1
  | [] => Or.inr rfl
  | (x, y) :: r => by
    by_cases h : x = y
    · simp only [own_all, h, if_true]; exact own_all_01 r
    · exact Or.inl (by simp [own_all, h])
theorem own_all_ret0 {l : List (Int32 × Int32)} (h : own_all l = (0 : Int32)) : some (Value.int (0 : Int32)) = some (.int (own_all l)) := by rw [h]
theorem own_all_ret1 {l : List (Int32 × Int32)} (h : ¬ (own_all l = (0 : Int32))) : some (Value.int (1 : Int32)) = some (.int (own_all l)) := by rcases own_all_01 l with q | q; exact absurd q h; rw [q]
theorem own_b_inj {x y : Int32} : own_b (x &&& 255) = own_b (y &&& 255) ↔ x &&& 255 = y &&& 255 := by
  constructor
  · intro h
    rw [← own_ch_mask x, ← own_ch_mask y, h]
  · intro h; rw [h]
theorem own_wS {Z : State} {a0 : Array Value} (hw : ∀ d ∈ tables_1, d.before a0 Z = true) : ∀ a ∈ Bundle.stringAtoms, a.before a0 Z = true := fun a ha => by
  simp only [Bundle.stringAtoms, List.mem_cons, List.not_mem_nil, or_false] at ha
  rcases ha with rfl | rfl | rfl | rfl | rfl | rfl | rfl
  · exact own_w hw 30 rfl
  · exact own_w hw 37 rfl
  · exact own_w hw 53 rfl
  · exact own_w hw 63 rfl
  · exact own_w hw 61 rfl
  · exact own_w hw 70 rfl
  · exact own_w hw 71 rfl
theorem own_CHr_safe {Z : State} {EL : List (String × Nat)} {vm vm1 : Vm} {h h' : Heap} (A : CHr Z EL vm h vm1 h') {x : Nat} (hx : h.size > x) (S : Safe Z EL vm h x) : Safe Z EL vm1 h' x := A.safe hx S
theorem own_safe_null {Z : State} {EL : List (String × Nat)} {vm : Vm} {h : Heap} {x : Addr} (hal : Z.vm.Alike vm) (E : Exa Z h x "java/lang/String") (F : Fld Z h x "java/lang/String" "value" "[B" .null) : Safe Z EL vm h x := fun B => by
  obtain ⟨p, hp, u, a, hb, q, hq, G, hy⟩ := B
  rcases hy with rfl | rfl
  · obtain ⟨cell, cf, k, i, f, h1, h2, -, -, -, -, h7⟩ := F
    cases (show h[q.sa]? = some q.sC from G.ha).symm.trans h1
    obtain ⟨cS, ⟨⟨-, -, -, ⟨c1, k1, i1, f1, -⟩, -, -, -, v1, -⟩, -⟩, -⟩ := G
    obtain ⟨k3, e3, -⟩ := State.fieldFound?_setVm (s := Z) hal h2
    have e4 := (show (Wst Z vm h).fieldFound? _ _ _ = _ from e3).symm.trans f1
    simp only [Option.some.injEq, Prod.mk.injEq] at e4
    rw [e4.2.2.2, v1] at h7; cases h7
  · obtain ⟨cell, k, e1, e2, e3, -, -⟩ := E
    cases (show h[q.sd]? = some q.SA from G.hd).symm.trans e1
    obtain ⟨cS, -, -, f, -⟩ := G
    have f' : vm.findClass "[B" = some q.SA.cls := f
    rw [hal.findClass] at f'
    obtain ⟨k1, q1, q2⟩ := Vm.findClass_spec f'
    obtain ⟨k2, q3, q4⟩ := Vm.findClass_spec e2
    cases q1.symm.trans q3
    exact absurd (q2.symm.trans q4) (by decide)
abbrev own_EL : List (String × Nat) := consts_1
theorem own_old_ne {Z : State} {n0 : Nat} {h : Heap} {x : Addr} {y : Nat} {C : String} (E : Exa Z Z.heap x C) (O : Old Z n0 h) (g : n0 ≤ y) : ¬ (x = y) := fun q => by
  have := E.lt
  have e := O.1
  subst q
  exact absurd (Nat.lt_of_lt_of_le (e ▸ this) g) (Nat.lt_irrefl _)
theorem own_blit_all : ∀ j : Fin 128, own_b (Int32.ofNat j.1) = Int32.ofNat j.1 ∧ Int32.ofNat j.1 &&& 255 = Int32.ofNat j.1 := by decide +kernel
theorem own_blit {u : Int32} (k : Int32) (hk : own_b k = k ∧ k &&& 255 = k := by decide) : (k = own_b (u &&& 255)) ↔ (u &&& 255 = k) := by
  constructor
  · intro h
    have h2 : own_b (k &&& 255) = own_b (u &&& 255) := by rw [hk.2, hk.1]; exact h
    rw [← own_b_inj.mp h2, hk.2]
  · intro h; rw [h]; exact hk.1.symm
theorem own_rem5 {k i : Int32} (h : i = (k &&& (2147483647 : Int32)) % (5 : Int32)) : i = 0 ∨ i = 1 ∨ i = 2 ∨ i = 3 ∨ i = 4 := by
  have h1 := (c_andS k 2147483647).2.2 (by decide)
  have h2 := (c_irem (k &&& 2147483647) 5 5 (by decide)).1 h1
  rw [← h] at h2
  simp only [← Int32.toInt_inj]
  simp
  omega
theorem own_rem6 {k i : Int32} (h : i = (k &&& (2147483647 : Int32)) % (6 : Int32)) : i = 0 ∨ i = 1 ∨ i = 2 ∨ i = 3 ∨ i = 4 ∨ i = 5 := by
  have h1 := (c_andS k 2147483647).2.2 (by decide)
  have h2 := (c_irem (k &&& 2147483647) 6 6 (by decide)).1 h1
  rw [← h] at h2
  simp only [← Int32.toInt_inj]
  simp
  omega
theorem own_pn_com_example_ostiarius_ostiarius_key_KeyKind : plainName "com/example/ostiarius/ostiarius/key/KeyKind" = true := by first | (simp [plainName, overriddenIn]; done) | decide +kernel
theorem own_pn_java_lang_StringLatin1 : plainName "java/lang/StringLatin1" = true := by first | (simp [plainName, overriddenIn]; done) | decide +kernel
theorem own_pn_java_lang_String : plainName "java/lang/String" = true := by first | (simp [plainName, overriddenIn]; done) | decide +kernel
theorem own_pn_java_lang_StringUTF16 : plainName "java/lang/StringUTF16" = true := by first | (simp [plainName, overriddenIn]; done) | decide +kernel
theorem own_pn_com_example_ostiarius_ostiarius_key_KeyKindOfLabelPinLaw : plainName "com/example/ostiarius/ostiarius/key/KeyKindOfLabelPinLaw" = true := by first | (simp [plainName, overriddenIn]; done) | decide +kernel
theorem own_pd__28_5bB_5bB_29Z : parseMethodDescriptor "([B[B)Z" = some ⟨[(.array .byte), (.array .byte)], some .boolean⟩ := by decide +kernel
theorem own_pd__28_5bCIILjava_2flang_2fVoid_3b_29V : parseMethodDescriptor "([CIILjava/lang/Void;)V" = some ⟨[(.array .char), .int, .int, (.object "java/lang/Void")], none⟩ := by decide +kernel
theorem own_pd__28_5bCI_5bBII_29I : parseMethodDescriptor "([CI[BII)I" = some ⟨[(.array .char), .int, (.array .byte), .int, .int], some .int⟩ := by decide +kernel
theorem own_pd__28_5bCII_29_5bB : parseMethodDescriptor "([CII)[B" = some ⟨[(.array .char), .int, .int], some (.array .byte)⟩ := by decide +kernel
theorem own_pd__28_5bBI_29B : parseMethodDescriptor "([BI)B" = some ⟨[(.array .byte), .int], some .byte⟩ := by decide +kernel
theorem own_pd__28_29_5bLcom_2fexample_2fostiarius_2fostiarius_2fkey_2fKeyKind_3b : parseMethodDescriptor "()[Lcom/example/ostiarius/ostiarius/key/KeyKind;" = some ⟨[], some (.array (.object s2_))⟩ := by decide +kernel
theorem own_pd__28Ljava_2flang_2fObject_3b_29Z : parseMethodDescriptor "(Ljava/lang/Object;)Z" = some ⟨[(.object s7_)], some .boolean⟩ := by decide +kernel
theorem own_pd__28_5bC_29V : parseMethodDescriptor "([C)V" = some ⟨[(.array .char)], none⟩ := by decide +kernel
theorem own_pd__28_5bCI_29Ljava_2flang_2fString_3b : parseMethodDescriptor "([CI)Ljava/lang/String;" = some ⟨[(.array .char), .int], some (.object s11_)⟩ := by decide +kernel
theorem own_pd__28Ljava_2flang_2fString_3b_29Lcom_2fexample_2fostiarius_2fostiarius_2fkey_2fKeyKind_3b : parseMethodDescriptor "(Ljava/lang/String;)Lcom/example/ostiarius/ostiarius/key/KeyKind;" = some ⟨[(.object s11_)], some (.object s2_)⟩ := by decide +kernel
theorem D2_0 : decode prog_6_method_1_code 0 = .ok (.getstatic 13, 3) := by decide +kernel
theorem D2_3 : decode prog_6_method_1_code 3 = .ok (.invokevirtual 17, 3) := by decide +kernel
theorem D2_6 : decode prog_6_method_1_code 6 = .ok (.checkcast 18, 3) := by decide +kernel
theorem D2_9 : decode prog_6_method_1_code 9 = .ok (.areturn, 1) := by decide +kernel
def Q_rm_values (Z : State) (va : Addr) (kva : ClassId) (a_LIVE : Addr) (a_TEST : Addr) (a_MANAGEMENT : Addr) (h0 : Heap) (n0 : Nat) (v : Option Value) (h : Heap) (L : List Loc) : Prop := ∃ (r1 : Addr), ∃ (kr : ClassId), v = some (.ref r1) ∧ Fr n0 L ∧ Keep h0 h [] ∧ Arv Z h r1 kr (.object s2_) (3 : Int32) [(.ref a_LIVE), (.ref a_TEST), (.ref a_MANAGEMENT)] .null
theorem ef_rm_values (m : MethodId) (va : Addr) (kva : ClassId) (a_LIVE : Addr) (a_TEST : Addr) (a_MANAGEMENT : Addr) : entryFrame m #[] 0 = mkF m 0 #[] [] := by first | (simp [entryFrame, mkF, argsToLocals, Value.category]; done) | rfl
set_option maxRecDepth 65536 in
set_option maxHeartbeats 40000000 in
theorem rm_values (l : Launch) (Z : State) (a0 : Array Value) (hw : ∀ d ∈ tables_1, d.before a0 Z = true) (ws : List Jvm.Cond) (va : Addr) (kva : ClassId) (a_LIVE : Addr) (a_TEST : Addr) (a_MANAGEMENT : Addr) (h0 : Heap) (n0 : Nat) (O0 : Old Z n0 h0) (S_VALUES : Sta Z Z.heap s2_ "$VALUES" s5_ (.ref va)) (E_va : Exa Z Z.heap va s5_) (V_va : Arv Z Z.heap va kva (.object s2_) (3 : Int32) [(.ref a_LIVE), (.ref a_TEST), (.ref a_MANAGEMENT)] .null) :
    MetFree l (⟨s2_, "values", s4_⟩ : MethodName) (head1 (Jvm.Cond.code (⟨s2_, "values", s4_⟩ : MethodName) prog_6_method_1_code 0 (some (.array (.object s2_))) :: ws) ({ frames := 1, cells := 1, slots := 3, locals := 14 } : Room)) (fun a U => a = #[] ∧ Z.Warmed39 U.vm ∧ U.heap = h0) (fun _ _ _ _ _ => True) (fun _ U o U' => ∃ v L, o = .returned v ∧ Q_rm_values Z va kva a_LIVE a_TEST a_MANAGEMENT h0 n0 v U'.heap L ∧ FrameEnd U o U' L ({ frames := 1, cells := 1, slots := 3, locals := 14 } : Room).cells ({ frames := 1, cells := 1, slots := 3, locals := 14 } : Room).slots) := by
  refine MetFree.of_bodySF (plainFor_of_name own_pn_com_example_ostiarius_ostiarius_key_KeyKind) hisR ?_
  intro p e s m args below meth c s₁ Bd hml0 hP hK
  obtain ⟨rfl, hZ, hh⟩ := hP
  have hx := Bd.exec
  have hby := Bd.bytes
  have hml : c.maxLocals = 0 := hml0
  have hown : s.vm.findClass s2_ = some m.cls := findClass_of_methodNamed Bd.named
  have hnm := (name_of_methodNamed Bd.named Bd.method).1
  have X0 : Stand p l e ({ frames := 1, cells := 1, slots := 3, locals := 14 } : Room) s m #[] below meth c s₁ [] 0 0 := Stand.of_body Bd
  have e0 : s₁.heap = h0 := by rw [← hh, Bd.state]; rfl
  have N0 := Fr.nil n0
  have Z0 : n0 ≤ h0.size := by rw [← O0.1]; exact O0.2.1
  show own_Go p e below (s₁.setTop (entryFrame m #[] 0)) (fun t o => ∃ v L, o = .returned v ∧ Q_rm_values Z va kva a_LIVE a_TEST a_MANAGEMENT h0 n0 v t.heap L ∧ FrameEnd s o t L ({ frames := 1, cells := 1, slots := 3, locals := 14 } : Room).cells ({ frames := 1, cells := 1, slots := 3, locals := 14 } : Room).slots)
  rw [ef_rm_values m va kva a_LIVE a_TEST a_MANAGEMENT]
  obtain ⟨T1, X1, e1, st1⟩ := getS2 X0 hx hZ hown (host := "") (Or.inl (own_w hw 9 rfl)) Via.refl e0 (S_VALUES.ext O0.2) (g := (mkF m 0 #[] [])) rfl (hb hby D2_0)
  refine own_by st1 ?_
  have fc2 : Arv Z h0 va kva (.object s2_) (3 : Int32) [(.ref a_LIVE), (.ref a_TEST), (.ref a_MANAGEMENT)] .null := V_va.ext O0.2
  have fc3 : Exa Z h0 va s5_ := E_va.ext O0.2
  obtain ⟨T4, h4, X4, e4, E4, A4, Ex4, st4⟩ := cloneH X1 hx hZ hown (own_w hw 11 rfl) (own_w hw 12 rfl) (own_w hw 16 rfl) (own_w hw 14 rfl) (own_w hw 15 rfl) (own_w hw 17 rfl) e1 (Arv.arh fc2) fc3 (g := (mkF m 3 #[] [(.ref va)])) rfl (by rw [hml]; rfl) rfl (hb hby D2_3) (by decide) (W := 0) (cap := 3) (by show 2 * 0 + _ ≤ _; exact Nat.le_of_eq rfl) (by decide) (by decide) (by decide) (by decide)
  obtain ⟨ob4, g4⟩ : ∃ z, z = h0.size := ⟨_, rfl⟩
  rw [← g4] at A4 Ex4 st4
  refine own_by st4 ?_
  have z4 := E4.1
  have Vw4 : Arv Z h4 ob4 kva (.object s2_) (3 : Int32) [(.ref a_LIVE), (.ref a_TEST), (.ref a_MANAGEMENT)] .null := A4
  have lt4 : h4.size > ob4 := Vw4.lt
  obtain ⟨T5, X5, e5, st5⟩ := castY X4 hx hZ hown (own_w hw 22 rfl) e4 (Ins.self Ex4) (g := (mkF m 6 #[] [(.ref ob4)])) rfl rfl (hb hby D2_6)
  refine own_by st5 ?_
  have K6 : Keep h0 h4 [] := ((Keep.refl h0 []).ext E4)
  obtain ⟨fs, hr, hrun, hended, hW, hsame⟩ := X5.leave (v := some (.ref ob4)) (fun h => by rw [Bd.returns] at h; cases h)
  refine ⟨_, _, retOut X5 hx Bd.returns (own_narrow_ref (by decide) rfl) (Or.inr (Or.inr (Or.inr (Or.inr ⟨rfl, by decide, rfl⟩)))) (hb hby D2_9) hr, hrun, hended, _, _, rfl, ?_, ⟨_, rfl⟩, hW, hsame.mono (by decide) (by decide)⟩
  show Q_rm_values Z va kva a_LIVE a_TEST a_MANAGEMENT h0 n0 _ T5.heap _
  rw [e5]
  exact ⟨ob4, kva, rfl, N0, K6, Vw4⟩
theorem D11_0 : decode jdk_43_method_13_code 0 = .ok (.aload_n 0, 1) := by decide +kernel
theorem D11_1 : decode jdk_43_method_13_code 1 = .ok (.arraylength, 1) := by decide +kernel
theorem D11_2 : decode jdk_43_method_13_code 2 = .ok (.aload_n 1, 1) := by decide +kernel
theorem D11_3 : decode jdk_43_method_13_code 3 = .ok (.arraylength, 1) := by decide +kernel
theorem D11_4 : decode jdk_43_method_13_code 4 = .ok (.if_icmp .ne 30, 3) := by decide +kernel
theorem D11_7 : decode jdk_43_method_13_code 7 = .ok (.iconst 0, 1) := by decide +kernel
theorem D11_8 : decode jdk_43_method_13_code 8 = .ok (.istore_n 2, 1) := by decide +kernel
theorem D11_9 : decode jdk_43_method_13_code 9 = .ok (.iload_n 2, 1) := by decide +kernel
theorem D11_10 : decode jdk_43_method_13_code 10 = .ok (.aload_n 0, 1) := by decide +kernel
theorem D11_11 : decode jdk_43_method_13_code 11 = .ok (.arraylength, 1) := by decide +kernel
theorem D11_12 : decode jdk_43_method_13_code 12 = .ok (.if_icmp .ge 20, 3) := by decide +kernel
theorem D11_15 : decode jdk_43_method_13_code 15 = .ok (.aload_n 0, 1) := by decide +kernel
theorem D11_16 : decode jdk_43_method_13_code 16 = .ok (.iload_n 2, 1) := by decide +kernel
theorem D11_17 : decode jdk_43_method_13_code 17 = .ok (.baload, 1) := by decide +kernel
theorem D11_18 : decode jdk_43_method_13_code 18 = .ok (.aload_n 1, 1) := by decide +kernel
theorem D11_19 : decode jdk_43_method_13_code 19 = .ok (.iload_n 2, 1) := by decide +kernel
theorem D11_20 : decode jdk_43_method_13_code 20 = .ok (.baload, 1) := by decide +kernel
theorem D11_21 : decode jdk_43_method_13_code 21 = .ok (.if_icmp .eq 5, 3) := by decide +kernel
theorem D11_24 : decode jdk_43_method_13_code 24 = .ok (.iconst 0, 1) := by decide +kernel
theorem D11_25 : decode jdk_43_method_13_code 25 = .ok (.ireturn, 1) := by decide +kernel
theorem D11_26 : decode jdk_43_method_13_code 26 = .ok (.iinc 2 1, 3) := by decide +kernel
theorem D11_29 : decode jdk_43_method_13_code 29 = .ok (.goto (-20), 3) := by decide +kernel
theorem D11_32 : decode jdk_43_method_13_code 32 = .ok (.iconst 1, 1) := by decide +kernel
theorem D11_33 : decode jdk_43_method_13_code 33 = .ok (.ireturn, 1) := by decide +kernel
def Q_rm_leq_4_4 (Z : State) (b1 : Addr) (b2 : Addr) (kb1 : ClassId) (kb2 : ClassId) (d1 : Int32) (d2 : Int32) (d3 : Int32) (d4 : Int32) (f1 : Int32) (f2 : Int32) (f3 : Int32) (f4 : Int32) (h0 : Heap) (n0 : Nat) (v : Option Value) (h : Heap) (L : List Loc) : Prop := v = some (.int (own_all [(d1, f1), (d2, f2), (d3, f3), (d4, f4)])) ∧ Fr n0 L ∧ h = h0
theorem ef_rm_leq_4_4 (m : MethodId) (b1 : Addr) (b2 : Addr) (kb1 : ClassId) (kb2 : ClassId) (d1 : Int32) (d2 : Int32) (d3 : Int32) (d4 : Int32) (f1 : Int32) (f2 : Int32) (f3 : Int32) (f4 : Int32) : entryFrame m #[(.ref b1), (.ref b2)] 3 = mkF m 0 #[.val (.ref b1), .val (.ref b2), .unset] [] := by first | (simp [entryFrame, mkF, argsToLocals, Value.category]; done) | rfl
set_option maxRecDepth 65536 in
set_option maxHeartbeats 40000000 in
theorem rm_leq_4_4 (l : Launch) (Z : State) (a0 : Array Value) (hw : ∀ d ∈ tables_1, d.before a0 Z = true) (ws : List Jvm.Cond) (b1 : Addr) (b2 : Addr) (kb1 : ClassId) (kb2 : ClassId) (d1 : Int32) (d2 : Int32) (d3 : Int32) (d4 : Int32) (f1 : Int32) (f2 : Int32) (f3 : Int32) (f4 : Int32) (h0 : Heap) (n0 : Nat) (O0 : Old Z n0 h0) (Vb1 : Arv Z h0 b1 kb1 .byte (4 : Int32) [(.int d1), (.int d2), (.int d3), (.int d4)] (.int (0 : Int32))) (Vb2 : Arv Z h0 b2 kb2 .byte (4 : Int32) [(.int f1), (.int f2), (.int f3), (.int f4)] (.int (0 : Int32))) :
    MetFree l (⟨s18_, "equals", "([B[B)Z"⟩ : MethodName) (head1 (Jvm.Cond.code (⟨s18_, "equals", "([B[B)Z"⟩ : MethodName) jdk_43_method_13_code 3 (some .boolean) :: ws) ({ frames := 0, cells := 0, slots := 0, locals := 0 } : Room)) (fun a U => a = #[(.ref b1), (.ref b2)] ∧ Z.Warmed39 U.vm ∧ U.heap = h0) (fun _ _ _ _ _ => True) (fun _ U o U' => ∃ v L, o = .returned v ∧ Q_rm_leq_4_4 Z b1 b2 kb1 kb2 d1 d2 d3 d4 f1 f2 f3 f4 h0 n0 v U'.heap L ∧ FrameEnd U o U' L ({ frames := 0, cells := 0, slots := 0, locals := 0 } : Room).cells ({ frames := 0, cells := 0, slots := 0, locals := 0 } : Room).slots) := by
  refine MetFree.of_bodySF (plainFor_of_name own_pn_java_lang_StringLatin1) hisR ?_
  intro p e s m args below meth c s₁ Bd hml0 hP hK
  obtain ⟨rfl, hZ, hh⟩ := hP
  have hx := Bd.exec
  have hby := Bd.bytes
  have hml : c.maxLocals = 3 := hml0
  have hown : s.vm.findClass s18_ = some m.cls := findClass_of_methodNamed Bd.named
  have hnm := (name_of_methodNamed Bd.named Bd.method).1
  have X0 : Stand p l e ({ frames := 0, cells := 0, slots := 0, locals := 0 } : Room) s m #[(.ref b1), (.ref b2)] below meth c s₁ [] 0 0 := Stand.of_body Bd
  have e0 : s₁.heap = h0 := by rw [← hh, Bd.state]; rfl
  have N0 := Fr.nil n0
  have Z0 : n0 ≤ h0.size := by rw [← O0.1]; exact O0.2.1
  show own_Go p e below (s₁.setTop (entryFrame m #[(.ref b1), (.ref b2)] 3)) (fun t o => ∃ v L, o = .returned v ∧ Q_rm_leq_4_4 Z b1 b2 kb1 kb2 d1 d2 d3 d4 f1 f2 f3 f4 h0 n0 v t.heap L ∧ FrameEnd s o t L ({ frames := 0, cells := 0, slots := 0, locals := 0 } : Room).cells ({ frames := 0, cells := 0, slots := 0, locals := 0 } : Room).slots)
  rw [ef_rm_leq_4_4 m b1 b2 kb1 kb2 d1 d2 d3 d4 f1 f2 f3 f4]
  have lt_Vb1 : h0.size > b1 := Vb1.lt
  have lt_Vb2 : h0.size > b2 := Vb2.lt
  refine own_by (fun _ k => XS.aloadN X0.here hx rfl (hb hby D11_0) rfl rfl k) ?_
  obtain ⟨cl1, Ar1, q1, S1, M1, H1, G1⟩ := (id Vb1)
  refine own_by (X0.arraylength hx (by rw [e0]; exact Ar1.1) (State.isArrayOf_alike hZ.alike Ar1.2.1) (g := (mkF m 1 #[.val (.ref b1), .val (.ref b2), .unset] [(.ref b1)])) rfl rfl (hb hby D11_1)) ?_
  rw [len_of S1 M1]
  refine own_by (fun _ k => XS.aloadN X0.here hx rfl (hb hby D11_2) rfl rfl k) ?_
  obtain ⟨cl2, Ar2, q2, S2, M2, H2, G2⟩ := (id Vb2)
  refine own_by (X0.arraylength hx (by rw [e0]; exact Ar2.1) (State.isArrayOf_alike hZ.alike Ar2.2.1) (g := (mkF m 3 #[.val (.ref b1), .val (.ref b2), .unset] [(.ref b2), (.int (4 : Int32))])) rfl rfl (hb hby D11_3)) ?_
  rw [len_of S2 M2]
  refine own_by (fun _ k => XS.icmpNo X0.here hx rfl (hb hby D11_4) rfl (teq (by decide : (4 : Int32) = (4 : Int32))).2 k) ?_
  show own_Go p e below (s₁.setTop (mkF m 7 #[.val (.ref b1), .val (.ref b2), .unset] [])) _
  refine own_by (fun _ k => XS.iconst X0.here hx rfl (hb hby D11_7) k) ?_
  refine own_by (fun _ k => XS.istoreN X0.here hx rfl (hb hby D11_8) rfl (l' := #[.val (.ref b1), .val (.ref b2), .val (.int (0 : Int32))]) rfl k) ?_
  refine own_by (fun _ k => XS.iloadN X0.here hx rfl (hb hby D11_9) rfl k) ?_
  refine own_by (fun _ k => XS.aloadN X0.here hx rfl (hb hby D11_10) rfl rfl k) ?_
  obtain ⟨cl3, Ar3, q3, S3, M3, H3, G3⟩ := (id Vb1)
  refine own_by (X0.arraylength hx (by rw [e0]; exact Ar3.1) (State.isArrayOf_alike hZ.alike Ar3.2.1) (g := (mkF m 11 #[.val (.ref b1), .val (.ref b2), .val (.int (0 : Int32))] [(.ref b1), (.int (0 : Int32))])) rfl rfl (hb hby D11_11)) ?_
  rw [len_of S3 M3]
  refine own_by (fun _ k => XS.icmpNo X0.here hx rfl (hb hby D11_12) rfl (tlt (by decide : (0 : Int32) < (4 : Int32))).2.1 k) ?_
  show own_Go p e below (s₁.setTop (mkF m 15 #[.val (.ref b1), .val (.ref b2), .val (.int (0 : Int32))] [])) _
  refine own_by (fun _ k => XS.aloadN X0.here hx rfl (hb hby D11_15) rfl rfl k) ?_
  refine own_by (fun _ k => XS.iloadN X0.here hx rfl (hb hby D11_16) rfl k) ?_
  obtain ⟨cl4, Ar4, q4, S4, M4, H4, G4⟩ := (id Vb1)
  have hin4 : ¬ ((0 : Int32) < 0 ∨ cl4.slots.size ≤ ((0 : Int32)).toNatClampNeg) := inb_of S4 ⟨by decide, by decide⟩
  refine own_by (X0.baloadBytes hx (j := (0 : Int32)) (v := (.int d1)) (by rw [e0]; exact Ar4.1) (State.isArrayOf_alike hZ.alike Ar4.2.1) Ar4.2.2 hin4 (H4.at hin4 rfl) (g := (mkF m 17 #[.val (.ref b1), .val (.ref b2), .val (.int (0 : Int32))] [(.int (0 : Int32)), (.ref b1)])) rfl rfl (hb hby D11_17)) ?_
  refine own_by (fun _ k => XS.aloadN X0.here hx rfl (hb hby D11_18) rfl rfl k) ?_
  refine own_by (fun _ k => XS.iloadN X0.here hx rfl (hb hby D11_19) rfl k) ?_
  obtain ⟨cl5, Ar5, q5, S5, M5, H5, G5⟩ := (id Vb2)
  have hin5 : ¬ ((0 : Int32) < 0 ∨ cl5.slots.size ≤ ((0 : Int32)).toNatClampNeg) := inb_of S5 ⟨by decide, by decide⟩
  refine own_by (X0.baloadBytes hx (j := (0 : Int32)) (v := (.int f1)) (by rw [e0]; exact Ar5.1) (State.isArrayOf_alike hZ.alike Ar5.2.1) Ar5.2.2 hin5 (H5.at hin5 rfl) (g := (mkF m 20 #[.val (.ref b1), .val (.ref b2), .val (.int (0 : Int32))] [(.int (0 : Int32)), (.ref b2), (.int d1)])) rfl rfl (hb hby D11_20)) ?_
  show own_Go p e below (s₁.setTop (mkF m 21 #[.val (.ref b1), .val (.ref b2), .val (.int (0 : Int32))] [(.int f1), (.int d1)])) _
  by_cases hc6 : d1 = f1
  · skip
    refine own_by (fun _ k => XS.icmpYes X0.here hx rfl (pc0 := 21) (pc' := 26) rfl (hb hby D11_21) rfl (teq hc6).1 (by decide) (by decide) k) ?_
    show own_Go p e below (s₁.setTop (mkF m 26 #[.val (.ref b1), .val (.ref b2), .val (.int (0 : Int32))] [])) _
    refine own_by (fun _ k => XS.iinc X0.here hx rfl (hb hby D11_26) rfl (l' := #[.val (.ref b1), .val (.ref b2), .val (.int (1 : Int32))]) rfl k) ?_
    refine own_by (fun _ k => XS.goto X0.here hx rfl (pc0 := 29) (pc' := 9) rfl (hb hby D11_29) (by decide) (by decide) k) ?_
    refine own_by (fun _ k => XS.iloadN X0.here hx rfl (hb hby D11_9) rfl k) ?_
    refine own_by (fun _ k => XS.aloadN X0.here hx rfl (hb hby D11_10) rfl rfl k) ?_
    obtain ⟨cl7, Ar7, q7, S7, M7, H7, G7⟩ := (id Vb1)
    refine own_by (X0.arraylength hx (by rw [e0]; exact Ar7.1) (State.isArrayOf_alike hZ.alike Ar7.2.1) (g := (mkF m 11 #[.val (.ref b1), .val (.ref b2), .val (.int (1 : Int32))] [(.ref b1), (.int (1 : Int32))])) rfl rfl (hb hby D11_11)) ?_
    rw [len_of S7 M7]
    refine own_by (fun _ k => XS.icmpNo X0.here hx rfl (hb hby D11_12) rfl (tlt (by decide : (1 : Int32) < (4 : Int32))).2.1 k) ?_
    show own_Go p e below (s₁.setTop (mkF m 15 #[.val (.ref b1), .val (.ref b2), .val (.int (1 : Int32))] [])) _
    refine own_by (fun _ k => XS.aloadN X0.here hx rfl (hb hby D11_15) rfl rfl k) ?_
    refine own_by (fun _ k => XS.iloadN X0.here hx rfl (hb hby D11_16) rfl k) ?_
    obtain ⟨cl8, Ar8, q8, S8, M8, H8, G8⟩ := (id Vb1)
    have hin8 : ¬ ((1 : Int32) < 0 ∨ cl8.slots.size ≤ ((1 : Int32)).toNatClampNeg) := inb_of S8 ⟨by decide, by decide⟩
    refine own_by (X0.baloadBytes hx (j := (1 : Int32)) (v := (.int d2)) (by rw [e0]; exact Ar8.1) (State.isArrayOf_alike hZ.alike Ar8.2.1) Ar8.2.2 hin8 (H8.at hin8 rfl) (g := (mkF m 17 #[.val (.ref b1), .val (.ref b2), .val (.int (1 : Int32))] [(.int (1 : Int32)), (.ref b1)])) rfl rfl (hb hby D11_17)) ?_
    refine own_by (fun _ k => XS.aloadN X0.here hx rfl (hb hby D11_18) rfl rfl k) ?_
    refine own_by (fun _ k => XS.iloadN X0.here hx rfl (hb hby D11_19) rfl k) ?_
    obtain ⟨cl9, Ar9, q9, S9, M9, H9, G9⟩ := (id Vb2)
    have hin9 : ¬ ((1 : Int32) < 0 ∨ cl9.slots.size ≤ ((1 : Int32)).toNatClampNeg) := inb_of S9 ⟨by decide, by decide⟩
    refine own_by (X0.baloadBytes hx (j := (1 : Int32)) (v := (.int f2)) (by rw [e0]; exact Ar9.1) (State.isArrayOf_alike hZ.alike Ar9.2.1) Ar9.2.2 hin9 (H9.at hin9 rfl) (g := (mkF m 20 #[.val (.ref b1), .val (.ref b2), .val (.int (1 : Int32))] [(.int (1 : Int32)), (.ref b2), (.int d2)])) rfl rfl (hb hby D11_20)) ?_
    show own_Go p e below (s₁.setTop (mkF m 21 #[.val (.ref b1), .val (.ref b2), .val (.int (1 : Int32))] [(.int f2), (.int d2)])) _
    by_cases hc10 : d2 = f2
    · skip
      refine own_by (fun _ k => XS.icmpYes X0.here hx rfl (pc0 := 21) (pc' := 26) rfl (hb hby D11_21) rfl (teq hc10).1 (by decide) (by decide) k) ?_
      show own_Go p e below (s₁.setTop (mkF m 26 #[.val (.ref b1), .val (.ref b2), .val (.int (1 : Int32))] [])) _
      refine own_by (fun _ k => XS.iinc X0.here hx rfl (hb hby D11_26) rfl (l' := #[.val (.ref b1), .val (.ref b2), .val (.int (2 : Int32))]) rfl k) ?_
      refine own_by (fun _ k => XS.goto X0.here hx rfl (pc0 := 29) (pc' := 9) rfl (hb hby D11_29) (by decide) (by decide) k) ?_
      refine own_by (fun _ k => XS.iloadN X0.here hx rfl (hb hby D11_9) rfl k) ?_
      refine own_by (fun _ k => XS.aloadN X0.here hx rfl (hb hby D11_10) rfl rfl k) ?_
      obtain ⟨cl11, Ar11, q11, S11, M11, H11, G11⟩ := (id Vb1)
      refine own_by (X0.arraylength hx (by rw [e0]; exact Ar11.1) (State.isArrayOf_alike hZ.alike Ar11.2.1) (g := (mkF m 11 #[.val (.ref b1), .val (.ref b2), .val (.int (2 : Int32))] [(.ref b1), (.int (2 : Int32))])) rfl rfl (hb hby D11_11)) ?_
      rw [len_of S11 M11]
      refine own_by (fun _ k => XS.icmpNo X0.here hx rfl (hb hby D11_12) rfl (tlt (by decide : (2 : Int32) < (4 : Int32))).2.1 k) ?_
      show own_Go p e below (s₁.setTop (mkF m 15 #[.val (.ref b1), .val (.ref b2), .val (.int (2 : Int32))] [])) _
      refine own_by (fun _ k => XS.aloadN X0.here hx rfl (hb hby D11_15) rfl rfl k) ?_
      refine own_by (fun _ k => XS.iloadN X0.here hx rfl (hb hby D11_16) rfl k) ?_
      obtain ⟨cl12, Ar12, q12, S12, M12, H12, G12⟩ := (id Vb1)
      have hin12 : ¬ ((2 : Int32) < 0 ∨ cl12.slots.size ≤ ((2 : Int32)).toNatClampNeg) := inb_of S12 ⟨by decide, by decide⟩
      refine own_by (X0.baloadBytes hx (j := (2 : Int32)) (v := (.int d3)) (by rw [e0]; exact Ar12.1) (State.isArrayOf_alike hZ.alike Ar12.2.1) Ar12.2.2 hin12 (H12.at hin12 rfl) (g := (mkF m 17 #[.val (.ref b1), .val (.ref b2), .val (.int (2 : Int32))] [(.int (2 : Int32)), (.ref b1)])) rfl rfl (hb hby D11_17)) ?_
      refine own_by (fun _ k => XS.aloadN X0.here hx rfl (hb hby D11_18) rfl rfl k) ?_
      refine own_by (fun _ k => XS.iloadN X0.here hx rfl (hb hby D11_19) rfl k) ?_
      obtain ⟨cl13, Ar13, q13, S13, M13, H13, G13⟩ := (id Vb2)
      have hin13 : ¬ ((2 : Int32) < 0 ∨ cl13.slots.size ≤ ((2 : Int32)).toNatClampNeg) := inb_of S13 ⟨by decide, by decide⟩
      refine own_by (X0.baloadBytes hx (j := (2 : Int32)) (v := (.int f3)) (by rw [e0]; exact Ar13.1) (State.isArrayOf_alike hZ.alike Ar13.2.1) Ar13.2.2 hin13 (H13.at hin13 rfl) (g := (mkF m 20 #[.val (.ref b1), .val (.ref b2), .val (.int (2 : Int32))] [(.int (2 : Int32)), (.ref b2), (.int d3)])) rfl rfl (hb hby D11_20)) ?_
      show own_Go p e below (s₁.setTop (mkF m 21 #[.val (.ref b1), .val (.ref b2), .val (.int (2 : Int32))] [(.int f3), (.int d3)])) _
      by_cases hc14 : d3 = f3
      · skip
        refine own_by (fun _ k => XS.icmpYes X0.here hx rfl (pc0 := 21) (pc' := 26) rfl (hb hby D11_21) rfl (teq hc14).1 (by decide) (by decide) k) ?_
        show own_Go p e below (s₁.setTop (mkF m 26 #[.val (.ref b1), .val (.ref b2), .val (.int (2 : Int32))] [])) _
        refine own_by (fun _ k => XS.iinc X0.here hx rfl (hb hby D11_26) rfl (l' := #[.val (.ref b1), .val (.ref b2), .val (.int (3 : Int32))]) rfl k) ?_
        refine own_by (fun _ k => XS.goto X0.here hx rfl (pc0 := 29) (pc' := 9) rfl (hb hby D11_29) (by decide) (by decide) k) ?_
        refine own_by (fun _ k => XS.iloadN X0.here hx rfl (hb hby D11_9) rfl k) ?_
        refine own_by (fun _ k => XS.aloadN X0.here hx rfl (hb hby D11_10) rfl rfl k) ?_
        obtain ⟨cl15, Ar15, q15, S15, M15, H15, G15⟩ := (id Vb1)
        refine own_by (X0.arraylength hx (by rw [e0]; exact Ar15.1) (State.isArrayOf_alike hZ.alike Ar15.2.1) (g := (mkF m 11 #[.val (.ref b1), .val (.ref b2), .val (.int (3 : Int32))] [(.ref b1), (.int (3 : Int32))])) rfl rfl (hb hby D11_11)) ?_
        rw [len_of S15 M15]
        refine own_by (fun _ k => XS.icmpNo X0.here hx rfl (hb hby D11_12) rfl (tlt (by decide : (3 : Int32) < (4 : Int32))).2.1 k) ?_
        show own_Go p e below (s₁.setTop (mkF m 15 #[.val (.ref b1), .val (.ref b2), .val (.int (3 : Int32))] [])) _
        refine own_by (fun _ k => XS.aloadN X0.here hx rfl (hb hby D11_15) rfl rfl k) ?_
        refine own_by (fun _ k => XS.iloadN X0.here hx rfl (hb hby D11_16) rfl k) ?_
        obtain ⟨cl16, Ar16, q16, S16, M16, H16, G16⟩ := (id Vb1)
        have hin16 : ¬ ((3 : Int32) < 0 ∨ cl16.slots.size ≤ ((3 : Int32)).toNatClampNeg) := inb_of S16 ⟨by decide, by decide⟩
        refine own_by (X0.baloadBytes hx (j := (3 : Int32)) (v := (.int d4)) (by rw [e0]; exact Ar16.1) (State.isArrayOf_alike hZ.alike Ar16.2.1) Ar16.2.2 hin16 (H16.at hin16 rfl) (g := (mkF m 17 #[.val (.ref b1), .val (.ref b2), .val (.int (3 : Int32))] [(.int (3 : Int32)), (.ref b1)])) rfl rfl (hb hby D11_17)) ?_
        refine own_by (fun _ k => XS.aloadN X0.here hx rfl (hb hby D11_18) rfl rfl k) ?_
        refine own_by (fun _ k => XS.iloadN X0.here hx rfl (hb hby D11_19) rfl k) ?_
        obtain ⟨cl17, Ar17, q17, S17, M17, H17, G17⟩ := (id Vb2)
        have hin17 : ¬ ((3 : Int32) < 0 ∨ cl17.slots.size ≤ ((3 : Int32)).toNatClampNeg) := inb_of S17 ⟨by decide, by decide⟩
        refine own_by (X0.baloadBytes hx (j := (3 : Int32)) (v := (.int f4)) (by rw [e0]; exact Ar17.1) (State.isArrayOf_alike hZ.alike Ar17.2.1) Ar17.2.2 hin17 (H17.at hin17 rfl) (g := (mkF m 20 #[.val (.ref b1), .val (.ref b2), .val (.int (3 : Int32))] [(.int (3 : Int32)), (.ref b2), (.int d4)])) rfl rfl (hb hby D11_20)) ?_
        show own_Go p e below (s₁.setTop (mkF m 21 #[.val (.ref b1), .val (.ref b2), .val (.int (3 : Int32))] [(.int f4), (.int d4)])) _
        by_cases hc18 : d4 = f4
        · skip
          refine own_by (fun _ k => XS.icmpYes X0.here hx rfl (pc0 := 21) (pc' := 26) rfl (hb hby D11_21) rfl (teq hc18).1 (by decide) (by decide) k) ?_
          show own_Go p e below (s₁.setTop (mkF m 26 #[.val (.ref b1), .val (.ref b2), .val (.int (3 : Int32))] [])) _
          refine own_by (fun _ k => XS.iinc X0.here hx rfl (hb hby D11_26) rfl (l' := #[.val (.ref b1), .val (.ref b2), .val (.int (4 : Int32))]) rfl k) ?_
          refine own_by (fun _ k => XS.goto X0.here hx rfl (pc0 := 29) (pc' := 9) rfl (hb hby D11_29) (by decide) (by decide) k) ?_
          refine own_by (fun _ k => XS.iloadN X0.here hx rfl (hb hby D11_9) rfl k) ?_
          refine own_by (fun _ k => XS.aloadN X0.here hx rfl (hb hby D11_10) rfl rfl k) ?_
          obtain ⟨cl19, Ar19, q19, S19, M19, H19, G19⟩ := (id Vb1)
          refine own_by (X0.arraylength hx (by rw [e0]; exact Ar19.1) (State.isArrayOf_alike hZ.alike Ar19.2.1) (g := (mkF m 11 #[.val (.ref b1), .val (.ref b2), .val (.int (4 : Int32))] [(.ref b1), (.int (4 : Int32))])) rfl rfl (hb hby D11_11)) ?_
          rw [len_of S19 M19]
          refine own_by (fun _ k => XS.icmpYes X0.here hx rfl (pc0 := 12) (pc' := 32) rfl (hb hby D11_12) rfl (flt (by decide : ¬ ((4 : Int32) < (4 : Int32)))).2.1 (by decide) (by decide) k) ?_
          show own_Go p e below (s₁.setTop (mkF m 32 #[.val (.ref b1), .val (.ref b2), .val (.int (4 : Int32))] [])) _
          refine own_by (fun _ k => XS.iconst X0.here hx rfl (hb hby D11_32) k) ?_
          obtain ⟨fs, hr, hrun, hended, hW, hsame⟩ := X0.leave (v := some (.int (1 : Int32))) (fun h => by rw [Bd.returns] at h; cases h)
          refine ⟨_, _, retN X0 hx (t := .boolean) Bd.returns (by simp) (hb hby D11_33) hr, hrun, hended, _, _, rfl, ?_, ⟨_, rfl⟩, hW, hsame.mono (by decide) (by decide)⟩
          show Q_rm_leq_4_4 Z b1 b2 kb1 kb2 d1 d2 d3 d4 f1 f2 f3 f4 h0 n0 _ s₁.heap _
          rw [e0]
          exact ⟨(by simp [own_all, hc6, hc10, hc14, hc18]), N0, rfl⟩
        · skip
          refine own_by (fun _ k => XS.icmpNo X0.here hx rfl (hb hby D11_21) rfl (feq hc18).1 k) ?_
          show own_Go p e below (s₁.setTop (mkF m 24 #[.val (.ref b1), .val (.ref b2), .val (.int (3 : Int32))] [])) _
          refine own_by (fun _ k => XS.iconst X0.here hx rfl (hb hby D11_24) k) ?_
          obtain ⟨fs, hr, hrun, hended, hW, hsame⟩ := X0.leave (v := some (.int (0 : Int32))) (fun h => by rw [Bd.returns] at h; cases h)
          refine ⟨_, _, retN X0 hx (t := .boolean) Bd.returns (by simp) (hb hby D11_25) hr, hrun, hended, _, _, rfl, ?_, ⟨_, rfl⟩, hW, hsame.mono (by decide) (by decide)⟩
          show Q_rm_leq_4_4 Z b1 b2 kb1 kb2 d1 d2 d3 d4 f1 f2 f3 f4 h0 n0 _ s₁.heap _
          rw [e0]
          exact ⟨(by simp [own_all, hc6, hc10, hc14, hc18]), N0, rfl⟩
      · skip
        refine own_by (fun _ k => XS.icmpNo X0.here hx rfl (hb hby D11_21) rfl (feq hc14).1 k) ?_
        show own_Go p e below (s₁.setTop (mkF m 24 #[.val (.ref b1), .val (.ref b2), .val (.int (2 : Int32))] [])) _
        refine own_by (fun _ k => XS.iconst X0.here hx rfl (hb hby D11_24) k) ?_
        obtain ⟨fs, hr, hrun, hended, hW, hsame⟩ := X0.leave (v := some (.int (0 : Int32))) (fun h => by rw [Bd.returns] at h; cases h)
        refine ⟨_, _, retN X0 hx (t := .boolean) Bd.returns (by simp) (hb hby D11_25) hr, hrun, hended, _, _, rfl, ?_, ⟨_, rfl⟩, hW, hsame.mono (by decide) (by decide)⟩
        show Q_rm_leq_4_4 Z b1 b2 kb1 kb2 d1 d2 d3 d4 f1 f2 f3 f4 h0 n0 _ s₁.heap _
        rw [e0]
        exact ⟨(by simp [own_all, hc6, hc10, hc14]), N0, rfl⟩
    · skip
      refine own_by (fun _ k => XS.icmpNo X0.here hx rfl (hb hby D11_21) rfl (feq hc10).1 k) ?_
      show own_Go p e below (s₁.setTop (mkF m 24 #[.val (.ref b1), .val (.ref b2), .val (.int (1 : Int32))] [])) _
      refine own_by (fun _ k => XS.iconst X0.here hx rfl (hb hby D11_24) k) ?_
      obtain ⟨fs, hr, hrun, hended, hW, hsame⟩ := X0.leave (v := some (.int (0 : Int32))) (fun h => by rw [Bd.returns] at h; cases h)
      refine ⟨_, _, retN X0 hx (t := .boolean) Bd.returns (by simp) (hb hby D11_25) hr, hrun, hended, _, _, rfl, ?_, ⟨_, rfl⟩, hW, hsame.mono (by decide) (by decide)⟩
      show Q_rm_leq_4_4 Z b1 b2 kb1 kb2 d1 d2 d3 d4 f1 f2 f3 f4 h0 n0 _ s₁.heap _
      rw [e0]
      exact ⟨(by simp [own_all, hc6, hc10]), N0, rfl⟩
  · skip
    refine own_by (fun _ k => XS.icmpNo X0.here hx rfl (hb hby D11_21) rfl (feq hc6).1 k) ?_
    show own_Go p e below (s₁.setTop (mkF m 24 #[.val (.ref b1), .val (.ref b2), .val (.int (0 : Int32))] [])) _
    refine own_by (fun _ k => XS.iconst X0.here hx rfl (hb hby D11_24) k) ?_
    obtain ⟨fs, hr, hrun, hended, hW, hsame⟩ := X0.leave (v := some (.int (0 : Int32))) (fun h => by rw [Bd.returns] at h; cases h)
    refine ⟨_, _, retN X0 hx (t := .boolean) Bd.returns (by simp) (hb hby D11_25) hr, hrun, hended, _, _, rfl, ?_, ⟨_, rfl⟩, hW, hsame.mono (by decide) (by decide)⟩
    show Q_rm_leq_4_4 Z b1 b2 kb1 kb2 d1 d2 d3 d4 f1 f2 f3 f4 h0 n0 _ s₁.heap _
    rw [e0]
    exact ⟨(by simp [own_all, hc6]), N0, rfl⟩
theorem D3_0 : decode jdk_42_method_66_code 0 = .ok (.aload_n 0, 1) := by decide +kernel
theorem D3_1 : decode jdk_42_method_66_code 1 = .ok (.aload_n 1, 1) := by decide +kernel
theorem D3_2 : decode jdk_42_method_66_code 2 = .ok (.if_acmp .ne 5, 3) := by decide +kernel
theorem D3_7 : decode jdk_42_method_66_code 7 = .ok (.aload_n 1, 1) := by decide +kernel
theorem D3_8 : decode jdk_42_method_66_code 8 = .ok (.instanceof 10, 3) := by decide +kernel
theorem D3_11 : decode jdk_42_method_66_code 11 = .ok (.ifCond .eq 43, 3) := by decide +kernel
theorem D3_14 : decode jdk_42_method_66_code 14 = .ok (.aload_n 1, 1) := by decide +kernel
theorem D3_15 : decode jdk_42_method_66_code 15 = .ok (.checkcast 10, 3) := by decide +kernel
theorem D3_18 : decode jdk_42_method_66_code 18 = .ok (.astore_n 2, 1) := by decide +kernel
theorem D3_19 : decode jdk_42_method_66_code 19 = .ok (.getstatic 38, 3) := by decide +kernel
theorem D3_22 : decode jdk_42_method_66_code 22 = .ok (.ifCond .eq 14, 3) := by decide +kernel
theorem D3_25 : decode jdk_42_method_66_code 25 = .ok (.aload_n 0, 1) := by decide +kernel
theorem D3_26 : decode jdk_42_method_66_code 26 = .ok (.getfield 15, 3) := by decide +kernel
theorem D3_29 : decode jdk_42_method_66_code 29 = .ok (.aload_n 2, 1) := by decide +kernel
theorem D3_30 : decode jdk_42_method_66_code 30 = .ok (.getfield 15, 3) := by decide +kernel
theorem D3_33 : decode jdk_42_method_66_code 33 = .ok (.if_icmp .ne 21, 3) := by decide +kernel
theorem D3_36 : decode jdk_42_method_66_code 36 = .ok (.aload_n 0, 1) := by decide +kernel
theorem D3_37 : decode jdk_42_method_66_code 37 = .ok (.getfield 9, 3) := by decide +kernel
theorem D3_40 : decode jdk_42_method_66_code 40 = .ok (.aload_n 2, 1) := by decide +kernel
theorem D3_41 : decode jdk_42_method_66_code 41 = .ok (.getfield 9, 3) := by decide +kernel
theorem D3_44 : decode jdk_42_method_66_code 44 = .ok (.invokestatic 541, 3) := by decide +kernel
theorem D3_47 : decode jdk_42_method_66_code 47 = .ok (.ifCond .eq 7, 3) := by decide +kernel
theorem D3_50 : decode jdk_42_method_66_code 50 = .ok (.iconst 1, 1) := by decide +kernel
theorem D3_51 : decode jdk_42_method_66_code 51 = .ok (.goto 4, 3) := by decide +kernel
theorem D3_54 : decode jdk_42_method_66_code 54 = .ok (.iconst 0, 1) := by decide +kernel
theorem D3_55 : decode jdk_42_method_66_code 55 = .ok (.ireturn, 1) := by decide +kernel
def Q_rm_eq_4_4 (Z : State) (t1 : Addr) (t2 : Addr) (b1 : Addr) (b2 : Addr) (kb1 : ClassId) (kb2 : ClassId) (cs : Int32) (d1 : Int32) (d2 : Int32) (d3 : Int32) (d4 : Int32) (f1 : Int32) (f2 : Int32) (f3 : Int32) (f4 : Int32) (h0 : Heap) (n0 : Nat) (v : Option Value) (h : Heap) (L : List Loc) : Prop := v = some (.int (own_all [(d1, f1), (d2, f2), (d3, f3), (d4, f4)])) ∧ Fr n0 L ∧ h = h0
theorem ef_rm_eq_4_4 (m : MethodId) (t1 : Addr) (t2 : Addr) (b1 : Addr) (b2 : Addr) (kb1 : ClassId) (kb2 : ClassId) (cs : Int32) (d1 : Int32) (d2 : Int32) (d3 : Int32) (d4 : Int32) (f1 : Int32) (f2 : Int32) (f3 : Int32) (f4 : Int32) : entryFrame m #[(.ref t1), (.ref t2)] 3 = mkF m 0 #[.val (.ref t1), .val (.ref t2), .unset] [] := by first | (simp [entryFrame, mkF, argsToLocals, Value.category]; done) | rfl
set_option maxRecDepth 65536 in
set_option maxHeartbeats 40000000 in
theorem rm_eq_4_4 (l : Launch) (Z : State) (a0 : Array Value) (hw : ∀ d ∈ tables_1, d.before a0 Z = true) (ws : List Jvm.Cond) (t1 : Addr) (t2 : Addr) (b1 : Addr) (b2 : Addr) (kb1 : ClassId) (kb2 : ClassId) (cs : Int32) (d1 : Int32) (d2 : Int32) (d3 : Int32) (d4 : Int32) (f1 : Int32) (f2 : Int32) (f3 : Int32) (f4 : Int32) (h0 : Heap) (n0 : Nat) (O0 : Old Z n0 h0) (S_COMPACT : Sta Z Z.heap s11_ s15_ "Z" (.int cs)) (Et1 : Exa Z h0 t1 s11_) (Fc1 : Fld Z h0 t1 s11_ "coder" "B" (.int (0 : Int32))) (Fv1 : Fld Z h0 t1 s11_ "value" "[B" (.ref b1)) (Vb1 : Arv Z h0 b1 kb1 .byte (4 : Int32) [(.int d1), (.int d2), (.int d3), (.int d4)] (.int (0 : Int32))) (Et2 : Exa Z h0 t2 s11_) (Fc2 : Fld Z h0 t2 s11_ "coder" "B" (.int (0 : Int32))) (Fv2 : Fld Z h0 t2 s11_ "value" "[B" (.ref b2)) (Vb2 : Arv Z h0 b2 kb2 .byte (4 : Int32) [(.int f1), (.int f2), (.int f3), (.int f4)] (.int (0 : Int32))) (hcs : ¬ (cs = (0 : Int32))) (nt : ¬ (t1 = t2)) :
    MetFree l (⟨s11_, "equals", s12_⟩ : MethodName) (head1 (Jvm.Cond.code (⟨s11_, "equals", s12_⟩ : MethodName) jdk_42_method_66_code 3 (some .boolean) :: ws) ({ frames := 1, cells := 0, slots := 0, locals := 14 } : Room)) (fun a U => a = #[(.ref t1), (.ref t2)] ∧ Z.Warmed39 U.vm ∧ U.heap = h0) (fun _ _ _ _ _ => True) (fun _ U o U' => ∃ v L, o = .returned v ∧ Q_rm_eq_4_4 Z t1 t2 b1 b2 kb1 kb2 cs d1 d2 d3 d4 f1 f2 f3 f4 h0 n0 v U'.heap L ∧ FrameEnd U o U' L ({ frames := 1, cells := 0, slots := 0, locals := 14 } : Room).cells ({ frames := 1, cells := 0, slots := 0, locals := 14 } : Room).slots) := by
  refine MetFree.of_bodySF (plainFor_of_name own_pn_java_lang_String) hisR ?_
  intro p e s m args below meth c s₁ Bd hml0 hP hK
  obtain ⟨rfl, hZ, hh⟩ := hP
  have hx := Bd.exec
  have hby := Bd.bytes
  have hml : c.maxLocals = 3 := hml0
  have hown : s.vm.findClass s11_ = some m.cls := findClass_of_methodNamed Bd.named
  have hnm := (name_of_methodNamed Bd.named Bd.method).1
  have X0 : Stand p l e ({ frames := 1, cells := 0, slots := 0, locals := 14 } : Room) s m #[(.ref t1), (.ref t2)] below meth c s₁ [] 0 0 := Stand.of_body Bd
  have e0 : s₁.heap = h0 := by rw [← hh, Bd.state]; rfl
  have N0 := Fr.nil n0
  have Z0 : n0 ≤ h0.size := by rw [← O0.1]; exact O0.2.1
  show own_Go p e below (s₁.setTop (entryFrame m #[(.ref t1), (.ref t2)] 3)) (fun t o => ∃ v L, o = .returned v ∧ Q_rm_eq_4_4 Z t1 t2 b1 b2 kb1 kb2 cs d1 d2 d3 d4 f1 f2 f3 f4 h0 n0 v t.heap L ∧ FrameEnd s o t L ({ frames := 1, cells := 0, slots := 0, locals := 14 } : Room).cells ({ frames := 1, cells := 0, slots := 0, locals := 14 } : Room).slots)
  rw [ef_rm_eq_4_4 m t1 t2 b1 b2 kb1 kb2 cs d1 d2 d3 d4 f1 f2 f3 f4]
  have lt_Et1 : h0.size > t1 := Et1.lt
  have lt_Fc1 : h0.size > t1 := Fc1.lt
  have lt_Fv1 : h0.size > t1 := Fv1.lt
  have lt_Vb1 : h0.size > b1 := Vb1.lt
  have lt_Et2 : h0.size > t2 := Et2.lt
  have lt_Fc2 : h0.size > t2 := Fc2.lt
  have lt_Fv2 : h0.size > t2 := Fv2.lt
  have lt_Vb2 : h0.size > b2 := Vb2.lt
  refine own_by (fun _ k => XS.aloadN X0.here hx rfl (hb hby D3_0) rfl rfl k) ?_
  refine own_by (fun _ k => XS.aloadN X0.here hx rfl (hb hby D3_1) rfl rfl k) ?_
  refine own_by (fun _ k => Jvm.RoadKit.acmp (g := (mkF m 2 #[.val (.ref t1), .val (.ref t2), .unset] [(.ref t2), (.ref t1)])) X0 hx rfl rfl rfl (pc0 := 2) (pc' := 7) (same := false) rfl (hb hby D3_2) rfl (decide_eq_false fun q => nt (Value.ref.inj q)) (by decide) (by decide) k) ?_
  show own_Go p e below (s₁.setTop (mkF m 7 #[.val (.ref t1), .val (.ref t2), .unset] [])) _
  refine own_by (fun _ k => XS.aloadN X0.here hx rfl (hb hby D3_7) rfl rfl k) ?_
  obtain ⟨T1, X1, e1, st1⟩ := instY X0 hx hZ hown (own_w hw 64 rfl) e0 (Ins.self Et2) (g := (mkF m 8 #[.val (.ref t1), .val (.ref t2), .unset] [(.ref t2)])) rfl rfl (hb hby D3_8)
  refine own_by st1 ?_
  refine own_by (fun _ k => XS.ifNo X1.here hx rfl (hb hby D3_11) rfl ((if0 _ _).trans (feq (by decide : ¬ ((1 : Int32) = (0 : Int32)))).1) k) ?_
  show own_Go p e below (T1.setTop (mkF m 14 #[.val (.ref t1), .val (.ref t2), .unset] [])) _
  refine own_by (fun _ k => XS.aloadN X1.here hx rfl (hb hby D3_14) rfl rfl k) ?_
  obtain ⟨T2, X2, e2, st2⟩ := castY X1 hx hZ hown (own_w hw 64 rfl) e1 (Ins.self Et2) (g := (mkF m 15 #[.val (.ref t1), .val (.ref t2), .unset] [(.ref t2)])) rfl rfl (hb hby D3_15)
  refine own_by st2 ?_
  refine own_by (fun _ k => XS.astoreN X2.here hx rfl (hb hby D3_18) rfl rfl (l' := #[.val (.ref t1), .val (.ref t2), .val (.ref t2)]) rfl k) ?_
  obtain ⟨T3, X3, e3, st3⟩ := getS2 X2 hx hZ hown (host := "") (Or.inl (own_w hw 48 rfl)) Via.refl e2 (S_COMPACT.ext O0.2) (g := (mkF m 19 #[.val (.ref t1), .val (.ref t2), .val (.ref t2)] [])) rfl (hb hby D3_19)
  refine own_by st3 ?_
  refine own_by (fun _ k => XS.ifNo X3.here hx rfl (hb hby D3_22) rfl ((if0 _ _).trans (feq hcs).1) k) ?_
  show own_Go p e below (T3.setTop (mkF m 25 #[.val (.ref t1), .val (.ref t2), .val (.ref t2)] [])) _
  refine own_by (fun _ k => XS.aloadN X3.here hx rfl (hb hby D3_25) rfl rfl k) ?_
  obtain ⟨T4, X4, e4, st4⟩ := getF X3 hx hZ hown (host := "") (Or.inl (own_w hw 60 rfl)) Via.refl e3 Fc1 (g := (mkF m 26 #[.val (.ref t1), .val (.ref t2), .val (.ref t2)] [(.ref t1)])) rfl rfl (hb hby D3_26)
  refine own_by st4 ?_
  refine own_by (fun _ k => XS.aloadN X4.here hx rfl (hb hby D3_29) rfl rfl k) ?_
  obtain ⟨T5, X5, e5, st5⟩ := getF X4 hx hZ hown (host := "") (Or.inl (own_w hw 60 rfl)) Via.refl e4 Fc2 (g := (mkF m 30 #[.val (.ref t1), .val (.ref t2), .val (.ref t2)] [(.ref t2), (.int (0 : Int32))])) rfl rfl (hb hby D3_30)
  refine own_by st5 ?_
  refine own_by (fun _ k => XS.icmpNo X5.here hx rfl (hb hby D3_33) rfl (teq (by decide : (0 : Int32) = (0 : Int32))).2 k) ?_
  show own_Go p e below (T5.setTop (mkF m 36 #[.val (.ref t1), .val (.ref t2), .val (.ref t2)] [])) _
  refine own_by (fun _ k => XS.aloadN X5.here hx rfl (hb hby D3_36) rfl rfl k) ?_
  obtain ⟨T6, X6, e6, st6⟩ := getF X5 hx hZ hown (host := "") (Or.inl (own_w hw 62 rfl)) Via.refl e5 Fv1 (g := (mkF m 37 #[.val (.ref t1), .val (.ref t2), .val (.ref t2)] [(.ref t1)])) rfl rfl (hb hby D3_37)
  refine own_by st6 ?_
  refine own_by (fun _ k => XS.aloadN X6.here hx rfl (hb hby D3_40) rfl rfl k) ?_
  obtain ⟨T7, X7, e7, st7⟩ := getF X6 hx hZ hown (host := "") (Or.inl (own_w hw 62 rfl)) Via.refl e6 Fv2 (g := (mkF m 41 #[.val (.ref t1), .val (.ref t2), .val (.ref t2)] [(.ref t2), (.ref b1)])) rfl rfl (hb hby D3_41)
  refine own_by st7 ?_
  obtain ⟨_, _, ⟨T8, L8, k8, n8⟩, -, X8, ⟨Lc8, hQ8, l8, y8, z8⟩, st8⟩ := Jvm.LawKit.callS X7 hx (y := (⟨s18_, "equals", "([B[B)Z"⟩ : MethodName)) hown (mvT hZ (own_w hw 65 rfl)) (mvT hZ (own_w hw 66 rfl)) (mvT hZ (own_w hw 67 rfl)) (mvT hZ (own_w hw 68 rfl)) (by decide) (backOf (W := 0) (rm_leq_4_4 l Z a0 hw [] b1 b2 kb1 kb2 d1 d2 d3 d4 f1 f2 f3 f4 h0 n0 O0 Vb1 Vb2) hZ (own_w hw 68 rfl) (own_w hw 67 rfl) (by decide) (by decide)) (g := (mkF m 44 #[.val (.ref t1), .val (.ref t2), .val (.ref t2)] [(.ref b2), (.ref b1)])) rfl (by rw [hml]; rfl) (argsL := [(.ref b1), (.ref b2)]) (rest := []) (lenOf own_pd__28_5bB_5bB_29Z rfl) rfl (by show 2 * 0 + _ ≤ _; exact Nat.le_of_eq rfl) (hb hby D3_44) (fun _ _ => ⟨rfl, e7, (by decide : 0 + 0 ≤ _), (by decide : 0 + 0 ≤ _)⟩)
  dsimp only [Pt.U, Pt.locs, Pt.cells, Pt.slots] at X8 l8 y8 z8 st8 hQ8
  subst l8 y8 z8
  obtain ⟨rfl, M8, K8⟩ := hQ8
  have N8 := Fr.app N0 M8
  refine own_by st8 ?_
  by_cases hc9 : (own_all [(d1, f1), (d2, f2), (d3, f3), (d4, f4)]) = (0 : Int32)
  · skip
    refine own_by (fun _ k => XS.ifYes X8.here hx rfl (pc0 := 47) (pc' := 54) rfl (hb hby D3_47) rfl ((if0 _ _).trans (teq hc9).1) (by decide) (by decide) k) ?_
    show own_Go p e below (T8.setTop (mkF m 54 #[.val (.ref t1), .val (.ref t2), .val (.ref t2)] [])) _
    refine own_by (fun _ k => XS.iconst X8.here hx rfl (hb hby D3_54) k) ?_
    obtain ⟨fs, hr, hrun, hended, hW, hsame⟩ := X8.leave (v := some (.int (0 : Int32))) (fun h => by rw [Bd.returns] at h; cases h)
    refine ⟨_, _, retN X8 hx (t := .boolean) Bd.returns (by simp) (hb hby D3_55) hr, hrun, hended, _, _, rfl, ?_, ⟨_, rfl⟩, hW, hsame.mono (by decide) (by decide)⟩
    show Q_rm_eq_4_4 Z t1 t2 b1 b2 kb1 kb2 cs d1 d2 d3 d4 f1 f2 f3 f4 h0 n0 _ T8.heap _
    rw [K8]
    exact ⟨(own_all_ret0 hc9), N8, rfl⟩
  · skip
    refine own_by (fun _ k => XS.ifNo X8.here hx rfl (hb hby D3_47) rfl ((if0 _ _).trans (feq hc9).1) k) ?_
    show own_Go p e below (T8.setTop (mkF m 50 #[.val (.ref t1), .val (.ref t2), .val (.ref t2)] [])) _
    refine own_by (fun _ k => XS.iconst X8.here hx rfl (hb hby D3_50) k) ?_
    refine own_by (fun _ k => XS.goto X8.here hx rfl (pc0 := 51) (pc' := 55) rfl (hb hby D3_51) (by decide) (by decide) k) ?_
    obtain ⟨fs, hr, hrun, hended, hW, hsame⟩ := X8.leave (v := some (.int (1 : Int32))) (fun h => by rw [Bd.returns] at h; cases h)
    refine ⟨_, _, retN X8 hx (t := .boolean) Bd.returns (by simp) (hb hby D3_55) hr, hrun, hended, _, _, rfl, ?_, ⟨_, rfl⟩, hW, hsame.mono (by decide) (by decide)⟩
    show Q_rm_eq_4_4 Z t1 t2 b1 b2 kb1 kb2 cs d1 d2 d3 d4 f1 f2 f3 f4 h0 n0 _ T8.heap _
    rw [K8]
    exact ⟨(own_all_ret1 hc9), N8, rfl⟩
theorem D11_34 : decode jdk_43_method_13_code 34 = .ok (.iconst 0, 1) := by decide +kernel
theorem D11_35 : decode jdk_43_method_13_code 35 = .ok (.ireturn, 1) := by decide +kernel
def Q_rm_leqne_4 (Z : State) (b1 : Addr) (b2 : Addr) (kb1 : ClassId) (kb2 : ClassId) (nx : Int32) (lv : List Value) (d1 : Int32) (d2 : Int32) (d3 : Int32) (d4 : Int32) (h0 : Heap) (n0 : Nat) (v : Option Value) (h : Heap) (L : List Loc) : Prop := v = some (.int (0 : Int32)) ∧ Fr n0 L ∧ h = h0
theorem ef_rm_leqne_4 (m : MethodId) (b1 : Addr) (b2 : Addr) (kb1 : ClassId) (kb2 : ClassId) (nx : Int32) (lv : List Value) (d1 : Int32) (d2 : Int32) (d3 : Int32) (d4 : Int32) : entryFrame m #[(.ref b1), (.ref b2)] 3 = mkF m 0 #[.val (.ref b1), .val (.ref b2), .unset] [] := by first | (simp [entryFrame, mkF, argsToLocals, Value.category]; done) | rfl
set_option maxRecDepth 65536 in
set_option maxHeartbeats 40000000 in
theorem rm_leqne_4 (l : Launch) (Z : State) (a0 : Array Value) (hw : ∀ d ∈ tables_1, d.before a0 Z = true) (ws : List Jvm.Cond) (b1 : Addr) (b2 : Addr) (kb1 : ClassId) (kb2 : ClassId) (nx : Int32) (lv : List Value) (d1 : Int32) (d2 : Int32) (d3 : Int32) (d4 : Int32) (h0 : Heap) (n0 : Nat) (O0 : Old Z n0 h0) (Vb1 : Arv Z h0 b1 kb1 .byte (4 : Int32) [(.int d1), (.int d2), (.int d3), (.int d4)] (.int (0 : Int32))) (Vb2 : Arv Z h0 b2 kb2 .byte nx lv (.int (0 : Int32))) (hne : ¬ ((4 : Int32) = nx)) :
    MetFree l (⟨s18_, "equals", "([B[B)Z"⟩ : MethodName) (head1 (Jvm.Cond.code (⟨s18_, "equals", "([B[B)Z"⟩ : MethodName) jdk_43_method_13_code 3 (some .boolean) :: ws) ({ frames := 0, cells := 0, slots := 0, locals := 0 } : Room)) (fun a U => a = #[(.ref b1), (.ref b2)] ∧ Z.Warmed39 U.vm ∧ U.heap = h0) (fun _ _ _ _ _ => True) (fun _ U o U' => ∃ v L, o = .returned v ∧ Q_rm_leqne_4 Z b1 b2 kb1 kb2 nx lv d1 d2 d3 d4 h0 n0 v U'.heap L ∧ FrameEnd U o U' L ({ frames := 0, cells := 0, slots := 0, locals := 0 } : Room).cells ({ frames := 0, cells := 0, slots := 0, locals := 0 } : Room).slots) := by
  refine MetFree.of_bodySF (plainFor_of_name own_pn_java_lang_StringLatin1) hisR ?_
  intro p e s m args below meth c s₁ Bd hml0 hP hK
  obtain ⟨rfl, hZ, hh⟩ := hP
  have hx := Bd.exec
  have hby := Bd.bytes
  have hml : c.maxLocals = 3 := hml0
  have hown : s.vm.findClass s18_ = some m.cls := findClass_of_methodNamed Bd.named
  have hnm := (name_of_methodNamed Bd.named Bd.method).1
  have X0 : Stand p l e ({ frames := 0, cells := 0, slots := 0, locals := 0 } : Room) s m #[(.ref b1), (.ref b2)] below meth c s₁ [] 0 0 := Stand.of_body Bd
  have e0 : s₁.heap = h0 := by rw [← hh, Bd.state]; rfl
  have N0 := Fr.nil n0
  have Z0 : n0 ≤ h0.size := by rw [← O0.1]; exact O0.2.1
  show own_Go p e below (s₁.setTop (entryFrame m #[(.ref b1), (.ref b2)] 3)) (fun t o => ∃ v L, o = .returned v ∧ Q_rm_leqne_4 Z b1 b2 kb1 kb2 nx lv d1 d2 d3 d4 h0 n0 v t.heap L ∧ FrameEnd s o t L ({ frames := 0, cells := 0, slots := 0, locals := 0 } : Room).cells ({ frames := 0, cells := 0, slots := 0, locals := 0 } : Room).slots)
  rw [ef_rm_leqne_4 m b1 b2 kb1 kb2 nx lv d1 d2 d3 d4]
  have lt_Vb1 : h0.size > b1 := Vb1.lt
  have lt_Vb2 : h0.size > b2 := Vb2.lt
  refine own_by (fun _ k => XS.aloadN X0.here hx rfl (hb hby D11_0) rfl rfl k) ?_
  obtain ⟨cl1, Ar1, q1, S1, M1, H1, G1⟩ := (id Vb1)
  refine own_by (X0.arraylength hx (by rw [e0]; exact Ar1.1) (State.isArrayOf_alike hZ.alike Ar1.2.1) (g := (mkF m 1 #[.val (.ref b1), .val (.ref b2), .unset] [(.ref b1)])) rfl rfl (hb hby D11_1)) ?_
  rw [len_of S1 M1]
  refine own_by (fun _ k => XS.aloadN X0.here hx rfl (hb hby D11_2) rfl rfl k) ?_
  obtain ⟨cl2, Ar2, q2, S2, M2, H2, G2⟩ := (id Vb2)
  refine own_by (X0.arraylength hx (by rw [e0]; exact Ar2.1) (State.isArrayOf_alike hZ.alike Ar2.2.1) (g := (mkF m 3 #[.val (.ref b1), .val (.ref b2), .unset] [(.ref b2), (.int (4 : Int32))])) rfl rfl (hb hby D11_3)) ?_
  rw [len_of S2 M2]
  refine own_by (fun _ k => XS.icmpYes X0.here hx rfl (pc0 := 4) (pc' := 34) rfl (hb hby D11_4) rfl (feq hne).2 (by decide) (by decide) k) ?_
  show own_Go p e below (s₁.setTop (mkF m 34 #[.val (.ref b1), .val (.ref b2), .unset] [])) _
  refine own_by (fun _ k => XS.iconst X0.here hx rfl (hb hby D11_34) k) ?_
  obtain ⟨fs, hr, hrun, hended, hW, hsame⟩ := X0.leave (v := some (.int (0 : Int32))) (fun h => by rw [Bd.returns] at h; cases h)
  refine ⟨_, _, retN X0 hx (t := .boolean) Bd.returns (by simp) (hb hby D11_35) hr, hrun, hended, _, _, rfl, ?_, ⟨_, rfl⟩, hW, hsame.mono (by decide) (by decide)⟩
  show Q_rm_leqne_4 Z b1 b2 kb1 kb2 nx lv d1 d2 d3 d4 h0 n0 _ s₁.heap _
  rw [e0]
  exact ⟨rfl, N0, rfl⟩
def Q_rm_eqne_4 (Z : State) (t1 : Addr) (t2 : Addr) (b1 : Addr) (b2 : Addr) (kb1 : ClassId) (kb2 : ClassId) (nx : Int32) (lv : List Value) (cs : Int32) (d1 : Int32) (d2 : Int32) (d3 : Int32) (d4 : Int32) (h0 : Heap) (n0 : Nat) (v : Option Value) (h : Heap) (L : List Loc) : Prop := v = some (.int (0 : Int32)) ∧ Fr n0 L ∧ h = h0
theorem ef_rm_eqne_4 (m : MethodId) (t1 : Addr) (t2 : Addr) (b1 : Addr) (b2 : Addr) (kb1 : ClassId) (kb2 : ClassId) (nx : Int32) (lv : List Value) (cs : Int32) (d1 : Int32) (d2 : Int32) (d3 : Int32) (d4 : Int32) : entryFrame m #[(.ref t1), (.ref t2)] 3 = mkF m 0 #[.val (.ref t1), .val (.ref t2), .unset] [] := by first | (simp [entryFrame, mkF, argsToLocals, Value.category]; done) | rfl
set_option maxRecDepth 65536 in
set_option maxHeartbeats 40000000 in
theorem rm_eqne_4 (l : Launch) (Z : State) (a0 : Array Value) (hw : ∀ d ∈ tables_1, d.before a0 Z = true) (ws : List Jvm.Cond) (t1 : Addr) (t2 : Addr) (b1 : Addr) (b2 : Addr) (kb1 : ClassId) (kb2 : ClassId) (nx : Int32) (lv : List Value) (cs : Int32) (d1 : Int32) (d2 : Int32) (d3 : Int32) (d4 : Int32) (h0 : Heap) (n0 : Nat) (O0 : Old Z n0 h0) (S_COMPACT : Sta Z Z.heap s11_ s15_ "Z" (.int cs)) (Et1 : Exa Z h0 t1 s11_) (Fc1 : Fld Z h0 t1 s11_ "coder" "B" (.int (0 : Int32))) (Fv1 : Fld Z h0 t1 s11_ "value" "[B" (.ref b1)) (Vb1 : Arv Z h0 b1 kb1 .byte (4 : Int32) [(.int d1), (.int d2), (.int d3), (.int d4)] (.int (0 : Int32))) (Et2 : Exa Z h0 t2 s11_) (Fc2 : Fld Z h0 t2 s11_ "coder" "B" (.int (0 : Int32))) (Fv2 : Fld Z h0 t2 s11_ "value" "[B" (.ref b2)) (Vb2 : Arv Z h0 b2 kb2 .byte nx lv (.int (0 : Int32))) (hcs : ¬ (cs = (0 : Int32))) (nt : ¬ (t1 = t2)) (hne : ¬ ((4 : Int32) = nx)) :
    MetFree l (⟨s11_, "equals", s12_⟩ : MethodName) (head1 (Jvm.Cond.code (⟨s11_, "equals", s12_⟩ : MethodName) jdk_42_method_66_code 3 (some .boolean) :: ws) ({ frames := 1, cells := 0, slots := 0, locals := 14 } : Room)) (fun a U => a = #[(.ref t1), (.ref t2)] ∧ Z.Warmed39 U.vm ∧ U.heap = h0) (fun _ _ _ _ _ => True) (fun _ U o U' => ∃ v L, o = .returned v ∧ Q_rm_eqne_4 Z t1 t2 b1 b2 kb1 kb2 nx lv cs d1 d2 d3 d4 h0 n0 v U'.heap L ∧ FrameEnd U o U' L ({ frames := 1, cells := 0, slots := 0, locals := 14 } : Room).cells ({ frames := 1, cells := 0, slots := 0, locals := 14 } : Room).slots) := by
  refine MetFree.of_bodySF (plainFor_of_name own_pn_java_lang_String) hisR ?_
  intro p e s m args below meth c s₁ Bd hml0 hP hK
  obtain ⟨rfl, hZ, hh⟩ := hP
  have hx := Bd.exec
  have hby := Bd.bytes
  have hml : c.maxLocals = 3 := hml0
  have hown : s.vm.findClass s11_ = some m.cls := findClass_of_methodNamed Bd.named
  have hnm := (name_of_methodNamed Bd.named Bd.method).1
  have X0 : Stand p l e ({ frames := 1, cells := 0, slots := 0, locals := 14 } : Room) s m #[(.ref t1), (.ref t2)] below meth c s₁ [] 0 0 := Stand.of_body Bd
  have e0 : s₁.heap = h0 := by rw [← hh, Bd.state]; rfl
  have N0 := Fr.nil n0
  have Z0 : n0 ≤ h0.size := by rw [← O0.1]; exact O0.2.1
  show own_Go p e below (s₁.setTop (entryFrame m #[(.ref t1), (.ref t2)] 3)) (fun t o => ∃ v L, o = .returned v ∧ Q_rm_eqne_4 Z t1 t2 b1 b2 kb1 kb2 nx lv cs d1 d2 d3 d4 h0 n0 v t.heap L ∧ FrameEnd s o t L ({ frames := 1, cells := 0, slots := 0, locals := 14 } : Room).cells ({ frames := 1, cells := 0, slots := 0, locals := 14 } : Room).slots)
  rw [ef_rm_eqne_4 m t1 t2 b1 b2 kb1 kb2 nx lv cs d1 d2 d3 d4]
  have lt_Et1 : h0.size > t1 := Et1.lt
  have lt_Fc1 : h0.size > t1 := Fc1.lt
  have lt_Fv1 : h0.size > t1 := Fv1.lt
  have lt_Vb1 : h0.size > b1 := Vb1.lt
  have lt_Et2 : h0.size > t2 := Et2.lt
  have lt_Fc2 : h0.size > t2 := Fc2.lt
  have lt_Fv2 : h0.size > t2 := Fv2.lt
  have lt_Vb2 : h0.size > b2 := Vb2.lt
  refine own_by (fun _ k => XS.aloadN X0.here hx rfl (hb hby D3_0) rfl rfl k) ?_
  refine own_by (fun _ k => XS.aloadN X0.here hx rfl (hb hby D3_1) rfl rfl k) ?_
  refine own_by (fun _ k => Jvm.RoadKit.acmp (g := (mkF m 2 #[.val (.ref t1), .val (.ref t2), .unset] [(.ref t2), (.ref t1)])) X0 hx rfl rfl rfl (pc0 := 2) (pc' := 7) (same := false) rfl (hb hby D3_2) rfl (decide_eq_false fun q => nt (Value.ref.inj q)) (by decide) (by decide) k) ?_
  show own_Go p e below (s₁.setTop (mkF m 7 #[.val (.ref t1), .val (.ref t2), .unset] [])) _
  refine own_by (fun _ k => XS.aloadN X0.here hx rfl (hb hby D3_7) rfl rfl k) ?_
  obtain ⟨T1, X1, e1, st1⟩ := instY X0 hx hZ hown (own_w hw 64 rfl) e0 (Ins.self Et2) (g := (mkF m 8 #[.val (.ref t1), .val (.ref t2), .unset] [(.ref t2)])) rfl rfl (hb hby D3_8)
  refine own_by st1 ?_
  refine own_by (fun _ k => XS.ifNo X1.here hx rfl (hb hby D3_11) rfl ((if0 _ _).trans (feq (by decide : ¬ ((1 : Int32) = (0 : Int32)))).1) k) ?_
  show own_Go p e below (T1.setTop (mkF m 14 #[.val (.ref t1), .val (.ref t2), .unset] [])) _
  refine own_by (fun _ k => XS.aloadN X1.here hx rfl (hb hby D3_14) rfl rfl k) ?_
  obtain ⟨T2, X2, e2, st2⟩ := castY X1 hx hZ hown (own_w hw 64 rfl) e1 (Ins.self Et2) (g := (mkF m 15 #[.val (.ref t1), .val (.ref t2), .unset] [(.ref t2)])) rfl rfl (hb hby D3_15)
  refine own_by st2 ?_
  refine own_by (fun _ k => XS.astoreN X2.here hx rfl (hb hby D3_18) rfl rfl (l' := #[.val (.ref t1), .val (.ref t2), .val (.ref t2)]) rfl k) ?_
  obtain ⟨T3, X3, e3, st3⟩ := getS2 X2 hx hZ hown (host := "") (Or.inl (own_w hw 48 rfl)) Via.refl e2 (S_COMPACT.ext O0.2) (g := (mkF m 19 #[.val (.ref t1), .val (.ref t2), .val (.ref t2)] [])) rfl (hb hby D3_19)
  refine own_by st3 ?_
  refine own_by (fun _ k => XS.ifNo X3.here hx rfl (hb hby D3_22) rfl ((if0 _ _).trans (feq hcs).1) k) ?_
  show own_Go p e below (T3.setTop (mkF m 25 #[.val (.ref t1), .val (.ref t2), .val (.ref t2)] [])) _
  refine own_by (fun _ k => XS.aloadN X3.here hx rfl (hb hby D3_25) rfl rfl k) ?_
  obtain ⟨T4, X4, e4, st4⟩ := getF X3 hx hZ hown (host := "") (Or.inl (own_w hw 60 rfl)) Via.refl e3 Fc1 (g := (mkF m 26 #[.val (.ref t1), .val (.ref t2), .val (.ref t2)] [(.ref t1)])) rfl rfl (hb hby D3_26)
  refine own_by st4 ?_
  refine own_by (fun _ k => XS.aloadN X4.here hx rfl (hb hby D3_29) rfl rfl k) ?_
  obtain ⟨T5, X5, e5, st5⟩ := getF X4 hx hZ hown (host := "") (Or.inl (own_w hw 60 rfl)) Via.refl e4 Fc2 (g := (mkF m 30 #[.val (.ref t1), .val (.ref t2), .val (.ref t2)] [(.ref t2), (.int (0 : Int32))])) rfl rfl (hb hby D3_30)
  refine own_by st5 ?_
  refine own_by (fun _ k => XS.icmpNo X5.here hx rfl (hb hby D3_33) rfl (teq (by decide : (0 : Int32) = (0 : Int32))).2 k) ?_
  show own_Go p e below (T5.setTop (mkF m 36 #[.val (.ref t1), .val (.ref t2), .val (.ref t2)] [])) _
  refine own_by (fun _ k => XS.aloadN X5.here hx rfl (hb hby D3_36) rfl rfl k) ?_
  obtain ⟨T6, X6, e6, st6⟩ := getF X5 hx hZ hown (host := "") (Or.inl (own_w hw 62 rfl)) Via.refl e5 Fv1 (g := (mkF m 37 #[.val (.ref t1), .val (.ref t2), .val (.ref t2)] [(.ref t1)])) rfl rfl (hb hby D3_37)
  refine own_by st6 ?_
  refine own_by (fun _ k => XS.aloadN X6.here hx rfl (hb hby D3_40) rfl rfl k) ?_
  obtain ⟨T7, X7, e7, st7⟩ := getF X6 hx hZ hown (host := "") (Or.inl (own_w hw 62 rfl)) Via.refl e6 Fv2 (g := (mkF m 41 #[.val (.ref t1), .val (.ref t2), .val (.ref t2)] [(.ref t2), (.ref b1)])) rfl rfl (hb hby D3_41)
  refine own_by st7 ?_
  obtain ⟨_, _, ⟨T8, L8, k8, n8⟩, -, X8, ⟨Lc8, hQ8, l8, y8, z8⟩, st8⟩ := Jvm.LawKit.callS X7 hx (y := (⟨s18_, "equals", "([B[B)Z"⟩ : MethodName)) hown (mvT hZ (own_w hw 65 rfl)) (mvT hZ (own_w hw 66 rfl)) (mvT hZ (own_w hw 67 rfl)) (mvT hZ (own_w hw 68 rfl)) (by decide) (backOf (W := 0) (rm_leqne_4 l Z a0 hw [] b1 b2 kb1 kb2 nx lv d1 d2 d3 d4 h0 n0 O0 Vb1 Vb2 hne) hZ (own_w hw 68 rfl) (own_w hw 67 rfl) (by decide) (by decide)) (g := (mkF m 44 #[.val (.ref t1), .val (.ref t2), .val (.ref t2)] [(.ref b2), (.ref b1)])) rfl (by rw [hml]; rfl) (argsL := [(.ref b1), (.ref b2)]) (rest := []) (lenOf own_pd__28_5bB_5bB_29Z rfl) rfl (by show 2 * 0 + _ ≤ _; exact Nat.le_of_eq rfl) (hb hby D3_44) (fun _ _ => ⟨rfl, e7, (by decide : 0 + 0 ≤ _), (by decide : 0 + 0 ≤ _)⟩)
  dsimp only [Pt.U, Pt.locs, Pt.cells, Pt.slots] at X8 l8 y8 z8 st8 hQ8
  subst l8 y8 z8
  obtain ⟨rfl, M8, K8⟩ := hQ8
  have N8 := Fr.app N0 M8
  refine own_by st8 ?_
  refine own_by (fun _ k => XS.ifYes X8.here hx rfl (pc0 := 47) (pc' := 54) rfl (hb hby D3_47) rfl ((if0 _ _).trans (teq (by decide : (0 : Int32) = (0 : Int32))).1) (by decide) (by decide) k) ?_
  show own_Go p e below (T8.setTop (mkF m 54 #[.val (.ref t1), .val (.ref t2), .val (.ref t2)] [])) _
  refine own_by (fun _ k => XS.iconst X8.here hx rfl (hb hby D3_54) k) ?_
  obtain ⟨fs, hr, hrun, hended, hW, hsame⟩ := X8.leave (v := some (.int (0 : Int32))) (fun h => by rw [Bd.returns] at h; cases h)
  refine ⟨_, _, retN X8 hx (t := .boolean) Bd.returns (by simp) (hb hby D3_55) hr, hrun, hended, _, _, rfl, ?_, ⟨_, rfl⟩, hW, hsame.mono (by decide) (by decide)⟩
  show Q_rm_eqne_4 Z t1 t2 b1 b2 kb1 kb2 nx lv cs d1 d2 d3 d4 h0 n0 _ T8.heap _
  rw [K8]
  exact ⟨rfl, N8, rfl⟩
theorem D6_0 : decode jdk_42_method_149_code 0 = .ok (.aload_n 0, 1) := by decide +kernel
theorem D6_1 : decode jdk_42_method_149_code 1 = .ok (.invokespecial 1, 3) := by decide +kernel
theorem D6_4 : decode jdk_42_method_149_code 4 = .ok (.iload_n 3, 1) := by decide +kernel
theorem D6_5 : decode jdk_42_method_149_code 5 = .ok (.ifCond .ne 22, 3) := by decide +kernel
theorem D6_8 : decode jdk_42_method_149_code 8 = .ok (.aload_n 0, 1) := by decide +kernel
theorem D6_9 : decode jdk_42_method_149_code 9 = .ok (.ldc 7, 2) := by decide +kernel
theorem D6_11 : decode jdk_42_method_149_code 11 = .ok (.getfield 9, 3) := by decide +kernel
theorem D6_14 : decode jdk_42_method_149_code 14 = .ok (.putfield 9, 3) := by decide +kernel
theorem D6_17 : decode jdk_42_method_149_code 17 = .ok (.aload_n 0, 1) := by decide +kernel
theorem D6_18 : decode jdk_42_method_149_code 18 = .ok (.ldc 7, 2) := by decide +kernel
theorem D6_20 : decode jdk_42_method_149_code 20 = .ok (.getfield 15, 3) := by decide +kernel
theorem D6_23 : decode jdk_42_method_149_code 23 = .ok (.putfield 15, 3) := by decide +kernel
theorem D6_26 : decode jdk_42_method_149_code 26 = .ok (.return_, 1) := by decide +kernel
def Q_rm_sinit4_0 (Z : State) (t1 : Addr) (a1 : Addr) (h0 : Heap) (n0 : Nat) (v : Option Value) (h : Heap) (L : List Loc) : Prop := ∃ (b : Addr), ∃ (kb : ClassId), v = none ∧ Fr n0 L ∧ Keep h0 h [t1] ∧ Exa Z h t1 s11_ ∧ Fld Z h t1 s11_ "coder" "B" (.int (0 : Int32)) ∧ Fld Z h t1 s11_ "value" "[B" (.ref b) ∧ Arv Z h b kb .byte (0 : Int32) [] (.int (0 : Int32))
theorem ef_rm_sinit4_0 (m : MethodId) (t1 : Addr) (a1 : Addr) : entryFrame m #[(.ref t1), (.ref a1), (.int (0 : Int32)), (.int (0 : Int32)), .null] 6 = mkF m 0 #[.val (.ref t1), .val (.ref a1), .val (.int (0 : Int32)), .val (.int (0 : Int32)), .val .null, .unset] [] := by first | (simp [entryFrame, mkF, argsToLocals, Value.category]; done) | rfl
set_option maxRecDepth 65536 in
set_option maxHeartbeats 40000000 in
theorem rm_sinit4_0 (l : Launch) (Z : State) (a0 : Array Value) (hw : ∀ d ∈ tables_1, d.before a0 Z = true) (ws : List Jvm.Cond) (t1 : Addr) (a1 : Addr) (h0 : Heap) (n0 : Nat) (O0 : Old Z n0 h0) (hEL : EW Z a0 own_EL) (Et : Exa Z h0 t1 s11_) (Fv : Fld Z h0 t1 s11_ "value" "[B" .null) (Fc : Fld Z h0 t1 s11_ "coder" "B" (.int (0 : Int32))) (gt : n0 ≤ t1) :
    MetFree l (⟨s11_, "<init>", s14_⟩ : MethodName) (head1 (Jvm.Cond.code (⟨s11_, "<init>", s14_⟩ : MethodName) jdk_42_method_149_code 6 none :: ws) ({ frames := 1, cells := 4, slots := 8, locals := 12 } : Room)) (fun a U => a = #[(.ref t1), (.ref a1), (.int (0 : Int32)), (.int (0 : Int32)), .null] ∧ Z.Warmed39 U.vm ∧ U.heap = h0 ∧ CHv Z own_EL U.vm h0) (fun _ _ _ _ _ => True) (fun _ U o U' => ∃ v L, o = .returned v ∧ Q_rm_sinit4_0 Z t1 a1 h0 n0 v U'.heap L ∧ CHr Z own_EL U.vm U.heap U'.vm U'.heap ∧ ReturnedEndW U o U' L ({ frames := 1, cells := 4, slots := 8, locals := 12 } : Room).cells ({ frames := 1, cells := 4, slots := 8, locals := 12 } : Room).slots) := by
  refine MetFree.of_bodySF (plainFor_of_name own_pn_java_lang_String) hisR ?_
  intro p e s m args below meth c s₁ Bd hml0 hP hK
  obtain ⟨rfl, hZ, hh, hC⟩ := hP
  have hx := Bd.exec
  have hby := Bd.bytes
  have hml : c.maxLocals = 6 := hml0
  have hown : s.vm.findClass s11_ = some m.cls := findClass_of_methodNamed Bd.named
  have hnm := (name_of_methodNamed Bd.named Bd.method).1
  have X0 : Stand p l e ({ frames := 1, cells := 4, slots := 8, locals := 12 } : Room) (s.setVm s.vm) m #[(.ref t1), (.ref a1), (.int (0 : Int32)), (.int (0 : Int32)), .null] below meth c s₁ [] 0 0 := Stand.of_body Bd
  have S0 : s.Since s.vm h0.size := (State.WarmedH.refl s).since _
  have hZ : Z.Warmed39 (s.setVm s.vm).vm := hZ
  have hown : (s.setVm s.vm).vm.findClass s11_ = some m.cls := hown
  have R0 : CHr Z own_EL s.vm h0 s.vm h0 := CHr.refl hC
  have e0 : s₁.heap = h0 := by rw [← hh, Bd.state]; rfl
  have N0 := Fr.nil n0
  have Z0 : n0 ≤ h0.size := by rw [← O0.1]; exact O0.2.1
  show own_Go p e below (s₁.setTop (entryFrame m #[(.ref t1), (.ref a1), (.int (0 : Int32)), (.int (0 : Int32)), .null] 6)) (fun t o => ∃ v L, o = .returned v ∧ Q_rm_sinit4_0 Z t1 a1 h0 n0 v t.heap L ∧ CHr Z own_EL s.vm s.heap t.vm t.heap ∧ ReturnedEndW s o t L ({ frames := 1, cells := 4, slots := 8, locals := 12 } : Room).cells ({ frames := 1, cells := 4, slots := 8, locals := 12 } : Room).slots)
  rw [ef_rm_sinit4_0 m t1 a1]
  have lt_Et : h0.size > t1 := Et.lt
  have lt_Fv : h0.size > t1 := Fv.lt
  have lt_Fc : h0.size > t1 := Fc.lt
  refine own_by (fun _ k => XS.aloadN X0.here hx rfl (hb hby D6_0) rfl rfl k) ?_
  obtain ⟨T1, X1, e1, st1⟩ := initO X0 hx hZ hown (own_w hw 45 rfl) (own_w hw 46 rfl) (own_w hw 47 rfl) e0 (g := (mkF m 1 #[.val (.ref t1), .val (.ref a1), .val (.int (0 : Int32)), .val (.int (0 : Int32)), .val .null, .unset] [(.ref t1)])) rfl (by rw [hml]; rfl) rfl (hb hby D6_1) (by decide) (W := 0) (by show 2 * 0 + _ ≤ _; exact Nat.le_of_eq rfl) (by decide)
  refine own_by st1 ?_
  refine own_by (fun _ k => XS.iloadN X1.here hx rfl (hb hby D6_4) rfl k) ?_
  refine own_by (fun _ k => XS.ifNo X1.here hx rfl (hb hby D6_5) rfl ((if0 _ _).trans (teq (by decide : (0 : Int32) = (0 : Int32))).2) k) ?_
  show own_Go p e below (T1.setTop (mkF m 8 #[.val (.ref t1), .val (.ref a1), .val (.int (0 : Int32)), .val (.int (0 : Int32)), .val .null, .unset] [])) _
  refine own_by (fun _ k => XS.aloadN X1.here hx rfl (hb hby D6_8) rfl rfl k) ?_
  obtain ⟨b2, T2, h2, k2, c2, kb2, X2, e2, E2, S2, kk2, hZ2, ho2, A2, Fc2, Fv2, V2, la2, lb2, C2, -, sn2, st2⟩ := ldcCH X1 hx hZ hown (own_w hw 69 rfl) (own_wS hw) e1 S0 (by omega) hEL (by decide) R0.1 (vs := []) (z := (0 : Int32)) (by decide) (by decide) (by decide) (g := (mkF m 9 #[.val (.ref t1), .val (.ref a1), .val (.int (0 : Int32)), .val (.int (0 : Int32)), .val .null, .unset] [(.ref t1)])) rfl (hb hby D6_9) (n := 0) (by decide) (by decide) (by decide) (by decide)
  refine own_by st2 ?_
  have z2 := E2.1
  have nl2_0 := sn2 _ (own_CHr_safe C2 (by omega) (show Safe Z own_EL _ _ t1 from (own_safe_null hZ.alike Et Fv)))
  have ml2_0 : ¬ (@Eq Nat t1 b2) ∧ ¬ (@Eq Nat t1 c2) := nl2_0
  have R2 := R0.trans C2
  obtain ⟨T3, X3, e3, st3⟩ := getF X2 hx hZ2 ho2 (host := "") (Or.inl (own_w hw 62 rfl)) Via.refl e2 Fv2 (g := (mkF m 11 #[.val (.ref t1), .val (.ref a1), .val (.int (0 : Int32)), .val (.int (0 : Int32)), .val .null, .unset] [(.ref b2), (.ref t1)])) rfl rfl (hb hby D6_11)
  refine own_by st3 ?_
  have fc4 : Fld Z h2 t1 s11_ "value" "[B" .null := (Fv.ext E2)
  have fc5 : Exa Z h2 t1 s11_ := (Et.ext E2)
  obtain ⟨T6, h6, X6, e6, W6, st6⟩ := putF X3 hx hZ2 ho2 (host := "") (Or.inl (own_w hw 62 rfl)) Via.refl e3 fc4 fc5 (Or.inr ⟨(own_w hw 63 rfl), rfl, hnm⟩) (own_w hw 37 rfl) (ty := (.array .byte)) (by decide) rfl rfl (g := (mkF m 14 #[.val (.ref t1), .val (.ref a1), .val (.int (0 : Int32)), .val (.int (0 : Int32)), .val .null, .unset] [(.ref c2), (.ref t1)])) rfl rfl (hb hby D6_14)
  refine own_by st6 ?_
  have z6 := W6.size
  have N6 := Fr.snoc X6 N0 (by omega)
  have sw6 : Safe Z own_EL T2.vm h2 t1 := (own_safe_null hZ2.alike fc5 fc4)
  have sf6_t1 := Safe.wr W6 sw6 R2.1 sw6
  have R6 := R2.trans (CHr.wr W6 sw6 R2.1)
  have Fw6 : Fld Z h6 t1 s11_ "value" "[B" (.ref c2) := fc4.same W6
  refine own_by (fun _ k => XS.aloadN X6.here hx rfl (hb hby D6_17) rfl rfl k) ?_
  obtain ⟨b7, T7, h7, k7, c7, kb7, X7, e7, E7, S7, kk7, hZ7, ho7, A7, Fc7, Fv7, V7, la7, lb7, C7, -, sn7, st7⟩ := ldcCH X6 hx hZ2 ho2 (own_w hw 69 rfl) (own_wS hw) e6 S2 (by omega) hEL (by decide) R6.1 (vs := []) (z := (0 : Int32)) (by decide) (by decide) (by decide) (g := (mkF m 18 #[.val (.ref t1), .val (.ref a1), .val (.int (0 : Int32)), .val (.int (0 : Int32)), .val .null, .unset] [(.ref t1)])) rfl (hb hby D6_18) (n := 0) (by decide) (by decide) (by decide) (by decide)
  refine own_by st7 ?_
  have z7 := E7.1
  have nl7_0 := sn7 _ (own_CHr_safe C7 (by omega) (show Safe Z own_EL _ _ t1 from sf6_t1))
  have ml7_0 : ¬ (@Eq Nat t1 b7) ∧ ¬ (@Eq Nat t1 c7) := nl7_0
  have sf7_t1 := own_CHr_safe C7 (x := t1) (by omega) sf6_t1
  have R7 := R6.trans C7
  show own_Go p e below (T7.setTop (mkF m 20 #[.val (.ref t1), .val (.ref a1), .val (.int (0 : Int32)), .val (.int (0 : Int32)), .val .null, .unset] [(.ref b7), (.ref t1)])) _
  obtain ⟨T8, X8, e8, st8⟩ := getF X7 hx hZ7 ho7 (host := "") (Or.inl (own_w hw 60 rfl)) Via.refl e7 Fc7 (g := (mkF m 20 #[.val (.ref t1), .val (.ref a1), .val (.int (0 : Int32)), .val (.int (0 : Int32)), .val .null, .unset] [(.ref b7), (.ref t1)])) rfl rfl (hb hby D6_20)
  refine own_by st8 ?_
  have fc9 : Fld Z h7 t1 s11_ "coder" "B" (.int (0 : Int32)) := (((Fc.ext E2).other W6 (Or.inr (slot_ne (a0 := a0) (Or.inr (own_w hw 61 rfl)) (Or.inr (own_w hw 63 rfl)) (by decide) (t := .byte) (by decide) (t' := (.array .byte)) (by decide)))).ext E7)
  have fc10 : Exa Z h7 t1 s11_ := ((fc5.wr W6).ext E7)
  obtain ⟨T11, h11, X11, e11, W11, st11⟩ := putFN X8 hx hZ7 ho7 (own_w hw 60 rfl) Via.refl e8 fc9 fc10 (Or.inr ⟨(own_w hw 61 rfl), rfl, hnm⟩) (own_w hw 37 rfl) (ty := .byte) (v' := (.int (0 : Int32))) (by decide) rfl rfl (g := (mkF m 23 #[.val (.ref t1), .val (.ref a1), .val (.int (0 : Int32)), .val (.int (0 : Int32)), .val .null, .unset] [(.int (0 : Int32)), (.ref t1)])) rfl rfl (hb hby D6_23)
  refine own_by st11 ?_
  have z11 := W11.size
  have N11 := Fr.snoc X11 N6 (by omega)
  have sw11 : Safe Z own_EL T7.vm h7 t1 := sf7_t1
  have sf11_t1 := Safe.wr W11 sw11 R7.1 sw11
  have R11 := R7.trans (CHr.wr W11 sw11 R7.1)
  have Fw11 : Fld Z h11 t1 s11_ "coder" "B" (.int (0 : Int32)) := fc9.same W11
  have fc12 : Exa Z h11 t1 s11_ := (fc10.wr W11)
  have fc13 : Fld Z h11 t1 s11_ "value" "[B" (.ref c2) := ((Fw6.ext E7).other W11 (Or.inr (slot_ne (a0 := a0) (Or.inr (own_w hw 63 rfl)) (Or.inr (own_w hw 61 rfl)) (by decide) (t := (.array .byte)) (by decide) (t' := .byte) (by decide))))
  have fc14 : Arv Z h11 c2 kb2 .byte (0 : Int32) [] (.int (0 : Int32)) := (((V2.other W6 (own_ne (by omega))).ext E7).other W11 (own_ne (by omega)))
  have K15 : Keep h0 h11 [t1] := (((((Keep.refl h0 [t1]).ext E2).wr W6 (Or.inl (List.mem_of_getElem? (i := 0) rfl))).ext E7).wr W11 (Or.inl (List.mem_of_getElem? (i := 0) rfl)))
  obtain ⟨fs, hr, hrun, hended, hW⟩ := X11.leaveW S7 (by first | omega | (rw [e11]; omega)) (v := none) (fun h => rfl)
  have RR := R11.trans (CHv.at X11 hZ7 hEL R11.1)
  have RR' : CHr Z own_EL s.vm s.heap T11.vm T11.heap := by rw [hh, e11]; exact RR
  refine ⟨_, _, X11.returnOut hx Bd.returns (hb hby D6_26) hr, hrun, hended, _, _, rfl, ?_, RR', ⟨_, rfl⟩, hW.2.1, hW.2.2.1, hW.2.2.2.mono (by decide) (by decide)⟩
  show Q_rm_sinit4_0 Z t1 a1 h0 n0 _ T11.heap _
  rw [e11]
  exact ⟨c2, kb2, rfl, N11, K15, fc12, Fw11, fc13, fc14⟩
theorem D5_0 : decode jdk_42_method_3_code 0 = .ok (.aload_n 0, 1) := by decide +kernel
theorem D5_1 : decode jdk_42_method_3_code 1 = .ok (.aload_n 1, 1) := by decide +kernel
theorem D5_2 : decode jdk_42_method_3_code 2 = .ok (.iconst 0, 1) := by decide +kernel
theorem D5_3 : decode jdk_42_method_3_code 3 = .ok (.aload_n 1, 1) := by decide +kernel
theorem D5_4 : decode jdk_42_method_3_code 4 = .ok (.arraylength, 1) := by decide +kernel
theorem D5_5 : decode jdk_42_method_3_code 5 = .ok (.aconst_null, 1) := by decide +kernel
theorem D5_6 : decode jdk_42_method_3_code 6 = .ok (.invokespecial 27, 3) := by decide +kernel
theorem D5_9 : decode jdk_42_method_3_code 9 = .ok (.return_, 1) := by decide +kernel
def Q_rm_sinit_0 (Z : State) (t1 : Addr) (a1 : Addr) (ka : ClassId) (h0 : Heap) (n0 : Nat) (v : Option Value) (h : Heap) (L : List Loc) : Prop := ∃ (b : Addr), ∃ (kb : ClassId), v = none ∧ Fr n0 L ∧ Keep h0 h [t1] ∧ Exa Z h t1 s11_ ∧ Fld Z h t1 s11_ "coder" "B" (.int (0 : Int32)) ∧ Fld Z h t1 s11_ "value" "[B" (.ref b) ∧ Arv Z h b kb .byte (0 : Int32) [] (.int (0 : Int32))
theorem ef_rm_sinit_0 (m : MethodId) (t1 : Addr) (a1 : Addr) (ka : ClassId) : entryFrame m #[(.ref t1), (.ref a1)] 2 = mkF m 0 #[.val (.ref t1), .val (.ref a1)] [] := by first | (simp [entryFrame, mkF, argsToLocals, Value.category]; done) | rfl
set_option maxRecDepth 65536 in
set_option maxHeartbeats 40000000 in
theorem rm_sinit_0 (l : Launch) (Z : State) (a0 : Array Value) (hw : ∀ d ∈ tables_1, d.before a0 Z = true) (ws : List Jvm.Cond) (t1 : Addr) (a1 : Addr) (ka : ClassId) (h0 : Heap) (n0 : Nat) (O0 : Old Z n0 h0) (hEL : EW Z a0 own_EL) (Et : Exa Z h0 t1 s11_) (Fv : Fld Z h0 t1 s11_ "value" "[B" .null) (Fc : Fld Z h0 t1 s11_ "coder" "B" (.int (0 : Int32))) (Va : Arv Z h0 a1 ka .char (0 : Int32) [] (.int (0 : Int32))) (gt : n0 ≤ t1) :
    MetFree l (⟨s11_, "<init>", "([C)V"⟩ : MethodName) (head1 (Jvm.Cond.code (⟨s11_, "<init>", "([C)V"⟩ : MethodName) jdk_42_method_3_code 2 none :: ws) ({ frames := 2, cells := 4, slots := 8, locals := 29 } : Room)) (fun a U => a = #[(.ref t1), (.ref a1)] ∧ Z.Warmed39 U.vm ∧ U.heap = h0 ∧ CHv Z own_EL U.vm h0) (fun _ _ _ _ _ => True) (fun _ U o U' => ∃ v L, o = .returned v ∧ Q_rm_sinit_0 Z t1 a1 ka h0 n0 v U'.heap L ∧ CHr Z own_EL U.vm U.heap U'.vm U'.heap ∧ ReturnedEndW U o U' L ({ frames := 2, cells := 4, slots := 8, locals := 29 } : Room).cells ({ frames := 2, cells := 4, slots := 8, locals := 29 } : Room).slots) := by
  refine MetFree.of_bodySF (plainFor_of_name own_pn_java_lang_String) hisR ?_
  intro p e s m args below meth c s₁ Bd hml0 hP hK
  obtain ⟨rfl, hZ, hh, hC⟩ := hP
  have hx := Bd.exec
  have hby := Bd.bytes
  have hml : c.maxLocals = 2 := hml0
  have hown : s.vm.findClass s11_ = some m.cls := findClass_of_methodNamed Bd.named
  have hnm := (name_of_methodNamed Bd.named Bd.method).1
  have X0 : Stand p l e ({ frames := 2, cells := 4, slots := 8, locals := 29 } : Room) (s.setVm s.vm) m #[(.ref t1), (.ref a1)] below meth c s₁ [] 0 0 := Stand.of_body Bd
  have S0 : s.Since s.vm h0.size := (State.WarmedH.refl s).since _
  have hZ : Z.Warmed39 (s.setVm s.vm).vm := hZ
  have hown : (s.setVm s.vm).vm.findClass s11_ = some m.cls := hown
  have R0 : CHr Z own_EL s.vm h0 s.vm h0 := CHr.refl hC
  have e0 : s₁.heap = h0 := by rw [← hh, Bd.state]; rfl
  have N0 := Fr.nil n0
  have Z0 : n0 ≤ h0.size := by rw [← O0.1]; exact O0.2.1
  show own_Go p e below (s₁.setTop (entryFrame m #[(.ref t1), (.ref a1)] 2)) (fun t o => ∃ v L, o = .returned v ∧ Q_rm_sinit_0 Z t1 a1 ka h0 n0 v t.heap L ∧ CHr Z own_EL s.vm s.heap t.vm t.heap ∧ ReturnedEndW s o t L ({ frames := 2, cells := 4, slots := 8, locals := 29 } : Room).cells ({ frames := 2, cells := 4, slots := 8, locals := 29 } : Room).slots)
  rw [ef_rm_sinit_0 m t1 a1 ka]
  have lt_Et : h0.size > t1 := Et.lt
  have lt_Fv : h0.size > t1 := Fv.lt
  have lt_Fc : h0.size > t1 := Fc.lt
  have lt_Va : h0.size > a1 := Va.lt
  refine own_by (fun _ k => XS.aloadN X0.here hx rfl (hb hby D5_0) rfl rfl k) ?_
  refine own_by (fun _ k => XS.aloadN X0.here hx rfl (hb hby D5_1) rfl rfl k) ?_
  refine own_by (fun _ k => XS.iconst X0.here hx rfl (hb hby D5_2) k) ?_
  refine own_by (fun _ k => XS.aloadN X0.here hx rfl (hb hby D5_3) rfl rfl k) ?_
  obtain ⟨cl1, Ar1, q1, S1, M1, H1, G1⟩ := (id Va)
  refine own_by (X0.arraylength hx (by rw [e0]; exact Ar1.1) (State.isArrayOf_alike hZ.alike Ar1.2.1) (g := (mkF m 4 #[.val (.ref t1), .val (.ref a1)] [(.ref a1), (.int (0 : Int32)), (.ref a1), (.ref t1)])) rfl rfl (hb hby D5_4)) ?_
  rw [len_of S1 M1]
  refine own_by (fun _ k => XS.aconstNull X0.here hx rfl (hb hby D5_5) k) ?_
  show own_Go p e below (s₁.setTop (mkF m 6 #[.val (.ref t1), .val (.ref a1)] [.null, (.int (0 : Int32)), (.int (0 : Int32)), (.ref a1), (.ref t1)])) _
  obtain ⟨_, _, ⟨T2, L2, k2, n2⟩, -, X2, S'2, gr2, ⟨Lc2, hQ2, l2, y2, z2, C2⟩, st2⟩ := X0.specialBackS hx (y := (⟨s11_, "<init>", s14_⟩ : MethodName)) rfl hown (mvT hZ (own_w hw 41 rfl)) (mvT hZ (own_w hw 42 rfl)) (mvT hZ (own_w hw 44 rfl)) (by decide) (backOfSH (W := 0) (rm_sinit4_0 l Z a0 hw [] t1 a1 h0 n0 O0 hEL Et Fv Fc gt) hZ (own_w hw 44 rfl) (own_w hw 30 rfl) (by decide) (by decide) hEL R0.1) (g := (mkF m 6 #[.val (.ref t1), .val (.ref a1)] [.null, (.int (0 : Int32)), (.int (0 : Int32)), (.ref a1), (.ref t1)])) rfl (by rw [hml]; rfl) (Steps.refl _) (a := t1) (argsL := [(.ref a1), (.int (0 : Int32)), (.int (0 : Int32)), .null]) (rest := []) (lenOf own_pd__28_5bCIILjava_2flang_2fVoid_3b_29V rfl) rfl (by show 2 * 0 + _ ≤ _; exact Nat.le_of_eq rfl) (hb hby D5_6) (fun _ _ => ⟨rfl, e0, (by decide : 0 + 4 ≤ _), (by decide : 0 + 8 ≤ _)⟩)
  dsimp only [Pt.U, Pt.locs, Pt.cells, Pt.slots] at X2 l2 y2 z2 st2 hQ2 S'2 gr2 C2
  subst l2 y2 z2
  obtain ⟨X2, S2, hZ2, ho2⟩ := rebS S0 (by first | omega | (rw [e0]; omega)) X2 S'2 gr2 hZ hown
  obtain ⟨b_2, kb_2, rfl, M2, K2, g2_0, g2_1, g2_2, g2_3⟩ := hQ2
  have N2 := Fr.app N0 M2
  refine own_by (fun _ k => st2.trans k) ?_
  have R2 := R0.trans C2
  have z2 := K2.1
  have lt_g2_0 : T2.heap.size > t1 := g2_0.lt
  have lt_g2_1 : T2.heap.size > t1 := g2_1.lt
  have lt_g2_2 : T2.heap.size > t1 := g2_2.lt
  have lt_g2_3 : T2.heap.size > b_2 := g2_3.lt
  have K3 : Keep h0 T2.heap [t1] := ((Keep.refl h0 [t1]).trans K2 (allS (P := fun x => x ∈ [t1] ∨ h0.size ≤ x) (Or.inl (List.mem_of_getElem? (i := 0) rfl)) all0))
  obtain ⟨fs, hr, hrun, hended, hW⟩ := X2.leaveW S2 (by first | omega | (rw [e0]; omega)) (v := none) (fun h => rfl)
  have RR := R2.trans (CHv.at X2 hZ2 hEL R2.1)
  have RR' : CHr Z own_EL s.vm s.heap T2.vm T2.heap := by rw [hh]; exact RR
  refine ⟨_, _, X2.returnOut hx Bd.returns (hb hby D5_9) hr, hrun, hended, _, _, rfl, ?_, RR', ⟨_, rfl⟩, hW.2.1, hW.2.2.1, hW.2.2.2.mono (by decide) (by decide)⟩
  show Q_rm_sinit_0 Z t1 a1 ka h0 n0 _ T2.heap _
  exact ⟨b_2, kb_2, rfl, N2, K3, g2_0, g2_1, g2_2, g2_3⟩
theorem D9_0 : decode jdk_52_method_21_code 0 = .ok (.iconst 0, 1) := by decide +kernel
theorem D9_1 : decode jdk_52_method_21_code 1 = .ok (.istore 5, 2) := by decide +kernel
theorem D9_3 : decode jdk_52_method_21_code 3 = .ok (.iload 5, 2) := by decide +kernel
theorem D9_5 : decode jdk_52_method_21_code 5 = .ok (.iload 4, 2) := by decide +kernel
theorem D9_7 : decode jdk_52_method_21_code 7 = .ok (.if_icmp .ge 37, 3) := by decide +kernel
theorem D9_10 : decode jdk_52_method_21_code 10 = .ok (.aload_n 0, 1) := by decide +kernel
theorem D9_11 : decode jdk_52_method_21_code 11 = .ok (.iload_n 1, 1) := by decide +kernel
theorem D9_12 : decode jdk_52_method_21_code 12 = .ok (.caload, 1) := by decide +kernel
theorem D9_13 : decode jdk_52_method_21_code 13 = .ok (.istore 6, 2) := by decide +kernel
theorem D9_15 : decode jdk_52_method_21_code 15 = .ok (.iload 6, 2) := by decide +kernel
theorem D9_17 : decode jdk_52_method_21_code 17 = .ok (.sipush 255, 3) := by decide +kernel
theorem D9_20 : decode jdk_52_method_21_code 20 = .ok (.if_icmp .le 6, 3) := by decide +kernel
theorem D9_26 : decode jdk_52_method_21_code 26 = .ok (.aload_n 2, 1) := by decide +kernel
theorem D9_27 : decode jdk_52_method_21_code 27 = .ok (.iload_n 3, 1) := by decide +kernel
theorem D9_28 : decode jdk_52_method_21_code 28 = .ok (.iload 6, 2) := by decide +kernel
theorem D9_30 : decode jdk_52_method_21_code 30 = .ok (.i2b, 1) := by decide +kernel
theorem D9_31 : decode jdk_52_method_21_code 31 = .ok (.bastore, 1) := by decide +kernel
theorem D9_32 : decode jdk_52_method_21_code 32 = .ok (.iinc 1 1, 3) := by decide +kernel
theorem D9_35 : decode jdk_52_method_21_code 35 = .ok (.iinc 3 1, 3) := by decide +kernel
theorem D9_38 : decode jdk_52_method_21_code 38 = .ok (.iinc 5 1, 3) := by decide +kernel
theorem D9_41 : decode jdk_52_method_21_code 41 = .ok (.goto (-38), 3) := by decide +kernel
theorem D9_44 : decode jdk_52_method_21_code 44 = .ok (.iload 4, 2) := by decide +kernel
theorem D9_46 : decode jdk_52_method_21_code 46 = .ok (.ireturn, 1) := by decide +kernel
def Q_rm_comp5_1 (Z : State) (a1 : Addr) (b : Addr) (ka : ClassId) (kb : ClassId) (c1 : Int32) (h0 : Heap) (n0 : Nat) (v : Option Value) (h : Heap) (L : List Loc) : Prop := v = some (.int (1 : Int32)) ∧ Fr n0 L ∧ Keep h0 h [b] ∧ Arv Z h b kb .byte (1 : Int32) [(.int (own_b c1))] (.int (0 : Int32))
theorem ef_rm_comp5_1 (m : MethodId) (a1 : Addr) (b : Addr) (ka : ClassId) (kb : ClassId) (c1 : Int32) : entryFrame m #[(.ref a1), (.int (0 : Int32)), (.ref b), (.int (0 : Int32)), (.int (1 : Int32))] 7 = mkF m 0 #[.val (.ref a1), .val (.int (0 : Int32)), .val (.ref b), .val (.int (0 : Int32)), .val (.int (1 : Int32)), .unset, .unset] [] := by first | (simp [entryFrame, mkF, argsToLocals, Value.category]; done) | rfl
set_option maxRecDepth 65536 in
set_option maxHeartbeats 40000000 in
theorem rm_comp5_1 (l : Launch) (Z : State) (a0 : Array Value) (hw : ∀ d ∈ tables_1, d.before a0 Z = true) (ws : List Jvm.Cond) (a1 : Addr) (b : Addr) (ka : ClassId) (kb : ClassId) (c1 : Int32) (h0 : Heap) (n0 : Nat) (O0 : Old Z n0 h0) (Va : Arv Z h0 a1 ka .char (1 : Int32) [(.int c1)] (.int (0 : Int32))) (Vb : Arv Z h0 b kb .byte (1 : Int32) [] (.int (0 : Int32))) (rc1 : ¬ ((255 : Int32) < c1)) (gb : n0 ≤ b) (nab : ¬ (@Eq Nat a1 b)) :
    MetFree l (⟨s16_, "compress", "([CI[BII)I"⟩ : MethodName) (head1 (Jvm.Cond.code (⟨s16_, "compress", "([CI[BII)I"⟩ : MethodName) jdk_52_method_21_code 7 (some .int) :: ws) ({ frames := 0, cells := 0, slots := 0, locals := 0 } : Room)) (fun a U => a = #[(.ref a1), (.int (0 : Int32)), (.ref b), (.int (0 : Int32)), (.int (1 : Int32))] ∧ Z.Warmed39 U.vm ∧ U.heap = h0) (fun _ _ _ _ _ => True) (fun _ U o U' => ∃ v L, o = .returned v ∧ Q_rm_comp5_1 Z a1 b ka kb c1 h0 n0 v U'.heap L ∧ FrameEnd U o U' L ({ frames := 0, cells := 0, slots := 0, locals := 0 } : Room).cells ({ frames := 0, cells := 0, slots := 0, locals := 0 } : Room).slots) := by
  refine MetFree.of_bodySF (plainFor_of_name own_pn_java_lang_StringUTF16) hisR ?_
  intro p e s m args below meth c s₁ Bd hml0 hP hK
  obtain ⟨rfl, hZ, hh⟩ := hP
  have hx := Bd.exec
  have hby := Bd.bytes
  have hml : c.maxLocals = 7 := hml0
  have hown : s.vm.findClass s16_ = some m.cls := findClass_of_methodNamed Bd.named
  have hnm := (name_of_methodNamed Bd.named Bd.method).1
  have X0 : Stand p l e ({ frames := 0, cells := 0, slots := 0, locals := 0 } : Room) s m #[(.ref a1), (.int (0 : Int32)), (.ref b), (.int (0 : Int32)), (.int (1 : Int32))] below meth c s₁ [] 0 0 := Stand.of_body Bd
  have e0 : s₁.heap = h0 := by rw [← hh, Bd.state]; rfl
  have N0 := Fr.nil n0
  have Z0 : n0 ≤ h0.size := by rw [← O0.1]; exact O0.2.1
  show own_Go p e below (s₁.setTop (entryFrame m #[(.ref a1), (.int (0 : Int32)), (.ref b), (.int (0 : Int32)), (.int (1 : Int32))] 7)) (fun t o => ∃ v L, o = .returned v ∧ Q_rm_comp5_1 Z a1 b ka kb c1 h0 n0 v t.heap L ∧ FrameEnd s o t L ({ frames := 0, cells := 0, slots := 0, locals := 0 } : Room).cells ({ frames := 0, cells := 0, slots := 0, locals := 0 } : Room).slots)
  rw [ef_rm_comp5_1 m a1 b ka kb c1]
  have lt_Va : h0.size > a1 := Va.lt
  have lt_Vb : h0.size > b := Vb.lt
  refine own_by (fun _ k => XS.iconst X0.here hx rfl (hb hby D9_0) k) ?_
  refine own_by (fun _ k => XS.istore X0.here hx rfl (hb hby D9_1) rfl (l' := #[.val (.ref a1), .val (.int (0 : Int32)), .val (.ref b), .val (.int (0 : Int32)), .val (.int (1 : Int32)), .val (.int (0 : Int32)), .unset]) rfl k) ?_
  refine own_by (fun _ k => XS.iload X0.here hx rfl (hb hby D9_3) rfl k) ?_
  refine own_by (fun _ k => XS.iload X0.here hx rfl (hb hby D9_5) rfl k) ?_
  refine own_by (fun _ k => XS.icmpNo X0.here hx rfl (hb hby D9_7) rfl (tlt (by decide : (0 : Int32) < (1 : Int32))).2.1 k) ?_
  show own_Go p e below (s₁.setTop (mkF m 10 #[.val (.ref a1), .val (.int (0 : Int32)), .val (.ref b), .val (.int (0 : Int32)), .val (.int (1 : Int32)), .val (.int (0 : Int32)), .unset] [])) _
  refine own_by (fun _ k => XS.aloadN X0.here hx rfl (hb hby D9_10) rfl rfl k) ?_
  refine own_by (fun _ k => XS.iloadN X0.here hx rfl (hb hby D9_11) rfl k) ?_
  obtain ⟨cl1, Ar1, q1, S1, M1, H1, G1⟩ := (id Va)
  have hin1 : ¬ ((0 : Int32) < 0 ∨ cl1.slots.size ≤ ((0 : Int32)).toNatClampNeg) := inb_of S1 ⟨by decide, by decide⟩
  refine own_by (X0.caload hx (j := (0 : Int32)) (v := (.int c1)) (by rw [e0]; exact Ar1.1) (State.isArrayOf_alike hZ.alike Ar1.2.1) Ar1.2.2 hin1 (H1.at hin1 rfl) (g := (mkF m 12 #[.val (.ref a1), .val (.int (0 : Int32)), .val (.ref b), .val (.int (0 : Int32)), .val (.int (1 : Int32)), .val (.int (0 : Int32)), .unset] [(.int (0 : Int32)), (.ref a1)])) rfl rfl (hb hby D9_12)) ?_
  refine own_by (fun _ k => XS.istore X0.here hx rfl (hb hby D9_13) rfl (l' := #[.val (.ref a1), .val (.int (0 : Int32)), .val (.ref b), .val (.int (0 : Int32)), .val (.int (1 : Int32)), .val (.int (0 : Int32)), .val (.int c1)]) rfl k) ?_
  refine own_by (fun _ k => XS.iload X0.here hx rfl (hb hby D9_15) rfl k) ?_
  refine own_by (fun _ k => XS.sipush X0.here hx rfl (hb hby D9_17) k) ?_
  show own_Go p e below (s₁.setTop (mkF m 20 #[.val (.ref a1), .val (.int (0 : Int32)), .val (.ref b), .val (.int (0 : Int32)), .val (.int (1 : Int32)), .val (.int (0 : Int32)), .val (.int c1)] [(.int (255 : Int32)), (.int c1)])) _
  refine own_by (fun _ k => XS.icmpYes X0.here hx rfl (pc0 := 20) (pc' := 26) rfl (hb hby D9_20) rfl (flt rc1).2.2.2 (by decide) (by decide) k) ?_
  show own_Go p e below (s₁.setTop (mkF m 26 #[.val (.ref a1), .val (.int (0 : Int32)), .val (.ref b), .val (.int (0 : Int32)), .val (.int (1 : Int32)), .val (.int (0 : Int32)), .val (.int c1)] [])) _
  refine own_by (fun _ k => XS.aloadN X0.here hx rfl (hb hby D9_26) rfl rfl k) ?_
  refine own_by (fun _ k => XS.iloadN X0.here hx rfl (hb hby D9_27) rfl k) ?_
  refine own_by (fun _ k => XS.iload X0.here hx rfl (hb hby D9_28) rfl k) ?_
  refine own_by (fun _ k => XS.i2b X0.here hx rfl (hb hby D9_30) rfl k) ?_
  have Vw2 : Arv Z h0 b kb .byte (1 : Int32) [(.int (0 : Int32))] (.int (0 : Int32)) := Vb.pad (pad_rep [] (.int (0 : Int32)) 1)
  obtain ⟨cl3, Ar3, q3, S3, M3, H3, G3⟩ := (id Vw2)
  have hin3 : ¬ ((0 : Int32) < 0 ∨ cl3.slots.size ≤ ((0 : Int32)).toNatClampNeg) := inb_of S3 ⟨by decide, by decide⟩
  obtain ⟨T3, h3, X3, e3, W3, st3⟩ := stB X0 hx hZ e0 Ar3 (j := (0 : Int32)) hin3 (g := (mkF m 31 #[.val (.ref a1), .val (.int (0 : Int32)), .val (.ref b), .val (.int (0 : Int32)), .val (.int (1 : Int32)), .val (.int (0 : Int32)), .val (.int c1)] [(.int (c1.toInt8.toInt32)), (.int (0 : Int32)), (.ref b)])) rfl rfl (hb hby D9_31)
  refine own_by st3 ?_
  have z3 := W3.size
  have N3 := Fr.snoc X3 N0 (by omega)
  have Vw3 : Arv Z h3 b kb .byte (1 : Int32) [(.int (own_b c1))] (.int (0 : Int32)) := Arv.set Ar3 q3 S3 M3 H3 G3 (fits_nar_byte2 _) W3 0 rfl (Nat.le_of_ble_eq_true rfl)
  refine own_by (fun _ k => XS.iinc X3.here hx rfl (hb hby D9_32) rfl (l' := #[.val (.ref a1), .val (.int (1 : Int32)), .val (.ref b), .val (.int (0 : Int32)), .val (.int (1 : Int32)), .val (.int (0 : Int32)), .val (.int c1)]) rfl k) ?_
  show own_Go p e below (T3.setTop (mkF m 35 #[.val (.ref a1), .val (.int (1 : Int32)), .val (.ref b), .val (.int (0 : Int32)), .val (.int (1 : Int32)), .val (.int (0 : Int32)), .val (.int c1)] [])) _
  refine own_by (fun _ k => XS.iinc X3.here hx rfl (hb hby D9_35) rfl (l' := #[.val (.ref a1), .val (.int (1 : Int32)), .val (.ref b), .val (.int (1 : Int32)), .val (.int (1 : Int32)), .val (.int (0 : Int32)), .val (.int c1)]) rfl k) ?_
  refine own_by (fun _ k => XS.iinc X3.here hx rfl (hb hby D9_38) rfl (l' := #[.val (.ref a1), .val (.int (1 : Int32)), .val (.ref b), .val (.int (1 : Int32)), .val (.int (1 : Int32)), .val (.int (1 : Int32)), .val (.int c1)]) rfl k) ?_
  refine own_by (fun _ k => XS.goto X3.here hx rfl (pc0 := 41) (pc' := 3) rfl (hb hby D9_41) (by decide) (by decide) k) ?_
  refine own_by (fun _ k => XS.iload X3.here hx rfl (hb hby D9_3) rfl k) ?_
  refine own_by (fun _ k => XS.iload X3.here hx rfl (hb hby D9_5) rfl k) ?_
  refine own_by (fun _ k => XS.icmpYes X3.here hx rfl (pc0 := 7) (pc' := 44) rfl (hb hby D9_7) rfl (flt (by decide : ¬ ((1 : Int32) < (1 : Int32)))).2.1 (by decide) (by decide) k) ?_
  show own_Go p e below (T3.setTop (mkF m 44 #[.val (.ref a1), .val (.int (1 : Int32)), .val (.ref b), .val (.int (1 : Int32)), .val (.int (1 : Int32)), .val (.int (1 : Int32)), .val (.int c1)] [])) _
  refine own_by (fun _ k => XS.iload X3.here hx rfl (hb hby D9_44) rfl k) ?_
  have K4 : Keep h0 h3 [b] := ((Keep.refl h0 [b]).wr W3 (Or.inl (List.mem_of_getElem? (i := 0) rfl)))
  obtain ⟨fs, hr, hrun, hended, hW, hsame⟩ := X3.leave (v := some (.int (1 : Int32))) (fun h => by rw [Bd.returns] at h; cases h)
  refine ⟨_, _, retI X3 hx Bd.returns (hb hby D9_46) hr, hrun, hended, _, _, rfl, ?_, ⟨_, rfl⟩, hW, hsame.mono (by decide) (by decide)⟩
  show Q_rm_comp5_1 Z a1 b ka kb c1 h0 n0 _ T3.heap _
  rw [e3]
  exact ⟨rfl, N3, K4, Vw3⟩
theorem D8_0 : decode jdk_52_method_16_code 0 = .ok (.iload_n 2, 1) := by decide +kernel
theorem D8_1 : decode jdk_52_method_16_code 1 = .ok (.newarray .byte, 2) := by decide +kernel
theorem D8_3 : decode jdk_52_method_16_code 3 = .ok (.astore_n 3, 1) := by decide +kernel
theorem D8_4 : decode jdk_52_method_16_code 4 = .ok (.aload_n 0, 1) := by decide +kernel
theorem D8_5 : decode jdk_52_method_16_code 5 = .ok (.iload_n 1, 1) := by decide +kernel
theorem D8_6 : decode jdk_52_method_16_code 6 = .ok (.aload_n 3, 1) := by decide +kernel
theorem D8_7 : decode jdk_52_method_16_code 7 = .ok (.iconst 0, 1) := by decide +kernel
theorem D8_8 : decode jdk_52_method_16_code 8 = .ok (.iload_n 2, 1) := by decide +kernel
theorem D8_9 : decode jdk_52_method_16_code 9 = .ok (.invokestatic 115, 3) := by decide +kernel
theorem D8_12 : decode jdk_52_method_16_code 12 = .ok (.istore 4, 2) := by decide +kernel
theorem D8_14 : decode jdk_52_method_16_code 14 = .ok (.iload 4, 2) := by decide +kernel
theorem D8_16 : decode jdk_52_method_16_code 16 = .ok (.iload_n 2, 1) := by decide +kernel
theorem D8_17 : decode jdk_52_method_16_code 17 = .ok (.if_icmp .eq 40, 3) := by decide +kernel
theorem D8_57 : decode jdk_52_method_16_code 57 = .ok (.aload_n 3, 1) := by decide +kernel
theorem D8_58 : decode jdk_52_method_16_code 58 = .ok (.areturn, 1) := by decide +kernel
def Q_rm_comp3_1 (Z : State) (a1 : Addr) (ka : ClassId) (c1 : Int32) (h0 : Heap) (n0 : Nat) (v : Option Value) (h : Heap) (L : List Loc) : Prop := ∃ (b : Addr), ∃ (kb : ClassId), v = some (.ref b) ∧ Fr n0 L ∧ Keep h0 h [] ∧ Arv Z h b kb .byte (1 : Int32) [(.int (own_b c1))] (.int (0 : Int32)) ∧ h0.size ≤ b
theorem ef_rm_comp3_1 (m : MethodId) (a1 : Addr) (ka : ClassId) (c1 : Int32) : entryFrame m #[(.ref a1), (.int (0 : Int32)), (.int (1 : Int32))] 6 = mkF m 0 #[.val (.ref a1), .val (.int (0 : Int32)), .val (.int (1 : Int32)), .unset, .unset, .unset] [] := by first | (simp [entryFrame, mkF, argsToLocals, Value.category]; done) | rfl
set_option maxRecDepth 65536 in
set_option maxHeartbeats 40000000 in
theorem rm_comp3_1 (l : Launch) (Z : State) (a0 : Array Value) (hw : ∀ d ∈ tables_1, d.before a0 Z = true) (ws : List Jvm.Cond) (a1 : Addr) (ka : ClassId) (c1 : Int32) (h0 : Heap) (n0 : Nat) (O0 : Old Z n0 h0) (Va : Arv Z h0 a1 ka .char (1 : Int32) [(.int c1)] (.int (0 : Int32))) (rc1 : ¬ ((255 : Int32) < c1)) :
    MetFree l (⟨s16_, "compress", "([CII)[B"⟩ : MethodName) (head1 (Jvm.Cond.code (⟨s16_, "compress", "([CII)[B"⟩ : MethodName) jdk_52_method_16_code 6 (some (.array .byte)) :: ws) ({ frames := 1, cells := 1, slots := 1, locals := 18 } : Room)) (fun a U => a = #[(.ref a1), (.int (0 : Int32)), (.int (1 : Int32))] ∧ Z.Warmed39 U.vm ∧ U.heap = h0) (fun _ _ _ _ _ => True) (fun _ U o U' => ∃ v L, o = .returned v ∧ Q_rm_comp3_1 Z a1 ka c1 h0 n0 v U'.heap L ∧ FrameEnd U o U' L ({ frames := 1, cells := 1, slots := 1, locals := 18 } : Room).cells ({ frames := 1, cells := 1, slots := 1, locals := 18 } : Room).slots) := by
  refine MetFree.of_bodySF (plainFor_of_name own_pn_java_lang_StringUTF16) hisR ?_
  intro p e s m args below meth c s₁ Bd hml0 hP hK
  obtain ⟨rfl, hZ, hh⟩ := hP
  have hx := Bd.exec
  have hby := Bd.bytes
  have hml : c.maxLocals = 6 := hml0
  have hown : s.vm.findClass s16_ = some m.cls := findClass_of_methodNamed Bd.named
  have hnm := (name_of_methodNamed Bd.named Bd.method).1
  have X0 : Stand p l e ({ frames := 1, cells := 1, slots := 1, locals := 18 } : Room) s m #[(.ref a1), (.int (0 : Int32)), (.int (1 : Int32))] below meth c s₁ [] 0 0 := Stand.of_body Bd
  have e0 : s₁.heap = h0 := by rw [← hh, Bd.state]; rfl
  have N0 := Fr.nil n0
  have Z0 : n0 ≤ h0.size := by rw [← O0.1]; exact O0.2.1
  show own_Go p e below (s₁.setTop (entryFrame m #[(.ref a1), (.int (0 : Int32)), (.int (1 : Int32))] 6)) (fun t o => ∃ v L, o = .returned v ∧ Q_rm_comp3_1 Z a1 ka c1 h0 n0 v t.heap L ∧ FrameEnd s o t L ({ frames := 1, cells := 1, slots := 1, locals := 18 } : Room).cells ({ frames := 1, cells := 1, slots := 1, locals := 18 } : Room).slots)
  rw [ef_rm_comp3_1 m a1 ka c1]
  have lt_Va : h0.size > a1 := Va.lt
  refine own_by (fun _ k => XS.iloadN X0.here hx rfl (hb hby D8_0) rfl k) ?_
  obtain ⟨T1, h1, k1, X1, e1, E1, A1, st1⟩ := newP X0 hx hZ (own_w hw 53 rfl) e0 (g := (mkF m 1 #[.val (.ref a1), .val (.int (0 : Int32)), .val (.int (1 : Int32)), .unset, .unset, .unset] [(.int (1 : Int32))])) rfl (hb hby D8_1) rfl (by decide) (cap := 1) (by decide) (by decide) (by decide) (by decide)
  obtain ⟨ob1, g1⟩ : ∃ z, z = h0.size := ⟨_, rfl⟩
  rw [← g1] at A1 st1
  refine own_by st1 ?_
  have z1 := E1.1
  have Vw1 : Arv Z h1 ob1 k1 .byte (1 : Int32) [] (.int (0 : Int32)) := Arv.new A1 (by decide)
  have lt1 : h1.size > ob1 := Vw1.lt
  refine own_by (fun _ k => XS.astoreN X1.here hx rfl (hb hby D8_3) rfl rfl (l' := #[.val (.ref a1), .val (.int (0 : Int32)), .val (.int (1 : Int32)), .val (.ref ob1), .unset, .unset]) rfl k) ?_
  refine own_by (fun _ k => XS.aloadN X1.here hx rfl (hb hby D8_4) rfl rfl k) ?_
  refine own_by (fun _ k => XS.iloadN X1.here hx rfl (hb hby D8_5) rfl k) ?_
  refine own_by (fun _ k => XS.aloadN X1.here hx rfl (hb hby D8_6) rfl rfl k) ?_
  show own_Go p e below (T1.setTop (mkF m 7 #[.val (.ref a1), .val (.int (0 : Int32)), .val (.int (1 : Int32)), .val (.ref ob1), .unset, .unset] [(.ref ob1), (.int (0 : Int32)), (.ref a1)])) _
  refine own_by (fun _ k => XS.iconst X1.here hx rfl (hb hby D8_7) k) ?_
  refine own_by (fun _ k => XS.iloadN X1.here hx rfl (hb hby D8_8) rfl k) ?_
  have fc2 : Arv Z h1 a1 ka .char (1 : Int32) [(.int c1)] (.int (0 : Int32)) := (Va.ext E1)
  have O3 : Old Z n0 h1 := (O0.ext E1)
  obtain ⟨_, _, ⟨T4, L4, k4, n4⟩, -, X4, ⟨Lc4, hQ4, l4, y4, z4⟩, st4⟩ := Jvm.LawKit.callS X1 hx (y := (⟨s16_, "compress", "([CI[BII)I"⟩ : MethodName)) hown (mvT hZ (own_w hw 54 rfl)) (mvT hZ (own_w hw 55 rfl)) (mvT hZ (own_w hw 51 rfl)) (mvT hZ (own_w hw 56 rfl)) (by decide) (backOf (W := 0) (rm_comp5_1 l Z a0 hw [] a1 ob1 ka k1 c1 h1 n0 O3 fc2 Vw1 rc1 (by first | assumption | omega | decide) (by first | assumption | omega | decide)) hZ (own_w hw 56 rfl) (own_w hw 51 rfl) (by decide) (by decide)) (g := (mkF m 9 #[.val (.ref a1), .val (.int (0 : Int32)), .val (.int (1 : Int32)), .val (.ref ob1), .unset, .unset] [(.int (1 : Int32)), (.int (0 : Int32)), (.ref ob1), (.int (0 : Int32)), (.ref a1)])) rfl (by rw [hml]; rfl) (argsL := [(.ref a1), (.int (0 : Int32)), (.ref ob1), (.int (0 : Int32)), (.int (1 : Int32))]) (rest := []) (lenOf own_pd__28_5bCI_5bBII_29I rfl) rfl (by show 2 * 0 + _ ≤ _; exact Nat.le_of_eq rfl) (hb hby D8_9) (fun _ _ => ⟨rfl, e1, (by decide : 1 + 0 ≤ _), (by decide : 1 + 0 ≤ _)⟩)
  dsimp only [Pt.U, Pt.locs, Pt.cells, Pt.slots] at X4 l4 y4 z4 st4 hQ4
  subst l4 y4 z4
  obtain ⟨rfl, M4, K4, g4_0⟩ := hQ4
  have N4 := Fr.app N0 M4
  refine own_by st4 ?_
  have z4 := K4.1
  have lt_g4_0 : T4.heap.size > ob1 := g4_0.lt
  refine own_by (fun _ k => XS.istore X4.here hx rfl (hb hby D8_12) rfl (l' := #[.val (.ref a1), .val (.int (0 : Int32)), .val (.int (1 : Int32)), .val (.ref ob1), .val (.int (1 : Int32)), .unset]) rfl k) ?_
  refine own_by (fun _ k => XS.iload X4.here hx rfl (hb hby D8_14) rfl k) ?_
  refine own_by (fun _ k => XS.iloadN X4.here hx rfl (hb hby D8_16) rfl k) ?_
  show own_Go p e below (T4.setTop (mkF m 17 #[.val (.ref a1), .val (.int (0 : Int32)), .val (.int (1 : Int32)), .val (.ref ob1), .val (.int (1 : Int32)), .unset] [(.int (1 : Int32)), (.int (1 : Int32))])) _
  refine own_by (fun _ k => XS.icmpYes X4.here hx rfl (pc0 := 17) (pc' := 57) rfl (hb hby D8_17) rfl (teq (by decide : (1 : Int32) = (1 : Int32))).1 (by decide) (by decide) k) ?_
  show own_Go p e below (T4.setTop (mkF m 57 #[.val (.ref a1), .val (.int (0 : Int32)), .val (.int (1 : Int32)), .val (.ref ob1), .val (.int (1 : Int32)), .unset] [])) _
  refine own_by (fun _ k => XS.aloadN X4.here hx rfl (hb hby D8_57) rfl rfl k) ?_
  have K5 : Keep h0 T4.heap [] := (((Keep.refl h0 []).ext E1).trans K4 (allS (P := fun x => x ∈ [] ∨ h0.size ≤ x) (Or.inr (by omega)) all0))
  obtain ⟨fs, hr, hrun, hended, hW, hsame⟩ := X4.leave (v := some (.ref ob1)) (fun h => by rw [Bd.returns] at h; cases h)
  refine ⟨_, _, retOut X4 hx Bd.returns (own_narrow_ref (by decide) rfl) (Or.inr (Or.inr (Or.inr (Or.inr ⟨rfl, by decide, rfl⟩)))) (hb hby D8_58) hr, hrun, hended, _, _, rfl, ?_, ⟨_, rfl⟩, hW, hsame.mono (by decide) (by decide)⟩
  show Q_rm_comp3_1 Z a1 ka c1 h0 n0 _ T4.heap _
  exact ⟨ob1, k1, rfl, N4, K5, g4_0, (by first | assumption | omega)⟩
theorem D10_0 : decode jdk_52_method_15_code 0 = .ok (.iload_n 1, 1) := by decide +kernel
theorem D10_1 : decode jdk_52_method_15_code 1 = .ok (.aload_n 0, 1) := by decide +kernel
theorem D10_2 : decode jdk_52_method_15_code 2 = .ok (.arraylength, 1) := by decide +kernel
theorem D10_3 : decode jdk_52_method_15_code 3 = .ok (.isub, 1) := by decide +kernel
theorem D10_4 : decode jdk_52_method_15_code 4 = .ok (.bipush 31, 2) := by decide +kernel
theorem D10_6 : decode jdk_52_method_15_code 6 = .ok (.iushr, 1) := by decide +kernel
theorem D10_7 : decode jdk_52_method_15_code 7 = .ok (.i2b, 1) := by decide +kernel
theorem D10_8 : decode jdk_52_method_15_code 8 = .ok (.ireturn, 1) := by decide +kernel
def Q_rm_cfal_1 (Z : State) (b : Addr) (kb : ClassId) (d1 : Int32) (h0 : Heap) (n0 : Nat) (v : Option Value) (h : Heap) (L : List Loc) : Prop := v = some (.int (0 : Int32)) ∧ Fr n0 L ∧ h = h0
theorem ef_rm_cfal_1 (m : MethodId) (b : Addr) (kb : ClassId) (d1 : Int32) : entryFrame m #[(.ref b), (.int (1 : Int32))] 2 = mkF m 0 #[.val (.ref b), .val (.int (1 : Int32))] [] := by first | (simp [entryFrame, mkF, argsToLocals, Value.category]; done) | rfl
set_option maxRecDepth 65536 in
set_option maxHeartbeats 40000000 in
theorem rm_cfal_1 (l : Launch) (Z : State) (a0 : Array Value) (hw : ∀ d ∈ tables_1, d.before a0 Z = true) (ws : List Jvm.Cond) (b : Addr) (kb : ClassId) (d1 : Int32) (h0 : Heap) (n0 : Nat) (O0 : Old Z n0 h0) (Vb : Arv Z h0 b kb .byte (1 : Int32) [(.int d1)] (.int (0 : Int32))) :
    MetFree l (⟨s16_, s17_, "([BI)B"⟩ : MethodName) (head1 (Jvm.Cond.code (⟨s16_, s17_, "([BI)B"⟩ : MethodName) jdk_52_method_15_code 2 (some .byte) :: ws) ({ frames := 0, cells := 0, slots := 0, locals := 0 } : Room)) (fun a U => a = #[(.ref b), (.int (1 : Int32))] ∧ Z.Warmed39 U.vm ∧ U.heap = h0) (fun _ _ _ _ _ => True) (fun _ U o U' => ∃ v L, o = .returned v ∧ Q_rm_cfal_1 Z b kb d1 h0 n0 v U'.heap L ∧ FrameEnd U o U' L ({ frames := 0, cells := 0, slots := 0, locals := 0 } : Room).cells ({ frames := 0, cells := 0, slots := 0, locals := 0 } : Room).slots) := by
  refine MetFree.of_bodySF (plainFor_of_name own_pn_java_lang_StringUTF16) hisR ?_
  intro p e s m args below meth c s₁ Bd hml0 hP hK
  obtain ⟨rfl, hZ, hh⟩ := hP
  have hx := Bd.exec
  have hby := Bd.bytes
  have hml : c.maxLocals = 2 := hml0
  have hown : s.vm.findClass s16_ = some m.cls := findClass_of_methodNamed Bd.named
  have hnm := (name_of_methodNamed Bd.named Bd.method).1
  have X0 : Stand p l e ({ frames := 0, cells := 0, slots := 0, locals := 0 } : Room) s m #[(.ref b), (.int (1 : Int32))] below meth c s₁ [] 0 0 := Stand.of_body Bd
  have e0 : s₁.heap = h0 := by rw [← hh, Bd.state]; rfl
  have N0 := Fr.nil n0
  have Z0 : n0 ≤ h0.size := by rw [← O0.1]; exact O0.2.1
  show own_Go p e below (s₁.setTop (entryFrame m #[(.ref b), (.int (1 : Int32))] 2)) (fun t o => ∃ v L, o = .returned v ∧ Q_rm_cfal_1 Z b kb d1 h0 n0 v t.heap L ∧ FrameEnd s o t L ({ frames := 0, cells := 0, slots := 0, locals := 0 } : Room).cells ({ frames := 0, cells := 0, slots := 0, locals := 0 } : Room).slots)
  rw [ef_rm_cfal_1 m b kb d1]
  have lt_Vb : h0.size > b := Vb.lt
  refine own_by (fun _ k => XS.iloadN X0.here hx rfl (hb hby D10_0) rfl k) ?_
  refine own_by (fun _ k => XS.aloadN X0.here hx rfl (hb hby D10_1) rfl rfl k) ?_
  obtain ⟨cl1, Ar1, q1, S1, M1, H1, G1⟩ := (id Vb)
  refine own_by (X0.arraylength hx (by rw [e0]; exact Ar1.1) (State.isArrayOf_alike hZ.alike Ar1.2.1) (g := (mkF m 2 #[.val (.ref b), .val (.int (1 : Int32))] [(.ref b), (.int (1 : Int32))])) rfl rfl (hb hby D10_2)) ?_
  rw [len_of S1 M1]
  refine own_by (fun _ k => XS.isub X0.here hx rfl (hb hby D10_3) rfl k) ?_
  refine own_by (fun _ k => XS.bipush X0.here hx rfl (hb hby D10_4) k) ?_
  refine own_by (fun _ k => XS.iushr X0.here hx rfl (hb hby D10_6) rfl k) ?_
  show own_Go p e below (s₁.setTop (mkF m 7 #[.val (.ref b), .val (.int (1 : Int32))] [(.int (0 : Int32))])) _
  refine own_by (fun _ k => XS.i2b X0.here hx rfl (hb hby D10_7) rfl k) ?_
  obtain ⟨fs, hr, hrun, hended, hW, hsame⟩ := X0.leave (v := some (.int (0 : Int32))) (fun h => by rw [Bd.returns] at h; cases h)
  refine ⟨_, _, retN X0 hx (t := .byte) Bd.returns (by simp) (hb hby D10_8) hr, hrun, hended, _, _, rfl, ?_, ⟨_, rfl⟩, hW, hsame.mono (by decide) (by decide)⟩
  show Q_rm_cfal_1 Z b kb d1 h0 n0 _ s₁.heap _
  rw [e0]
  exact ⟨rfl, N0, rfl⟩
theorem D6_27 : decode jdk_42_method_149_code 27 = .ok (.getstatic 38, 3) := by decide +kernel
theorem D6_30 : decode jdk_42_method_149_code 30 = .ok (.ifCond .eq 28, 3) := by decide +kernel
theorem D6_33 : decode jdk_42_method_149_code 33 = .ok (.aload_n 1, 1) := by decide +kernel
theorem D6_34 : decode jdk_42_method_149_code 34 = .ok (.iload_n 2, 1) := by decide +kernel
theorem D6_35 : decode jdk_42_method_149_code 35 = .ok (.iload_n 3, 1) := by decide +kernel
theorem D6_36 : decode jdk_42_method_149_code 36 = .ok (.invokestatic 177, 3) := by decide +kernel
theorem D6_39 : decode jdk_42_method_149_code 39 = .ok (.astore 5, 2) := by decide +kernel
theorem D6_41 : decode jdk_42_method_149_code 41 = .ok (.aload_n 0, 1) := by decide +kernel
theorem D6_42 : decode jdk_42_method_149_code 42 = .ok (.aload 5, 2) := by decide +kernel
theorem D6_44 : decode jdk_42_method_149_code 44 = .ok (.iload_n 3, 1) := by decide +kernel
theorem D6_45 : decode jdk_42_method_149_code 45 = .ok (.invokestatic 47, 3) := by decide +kernel
theorem D6_48 : decode jdk_42_method_149_code 48 = .ok (.putfield 15, 3) := by decide +kernel
theorem D6_51 : decode jdk_42_method_149_code 51 = .ok (.aload_n 0, 1) := by decide +kernel
theorem D6_52 : decode jdk_42_method_149_code 52 = .ok (.aload 5, 2) := by decide +kernel
theorem D6_54 : decode jdk_42_method_149_code 54 = .ok (.putfield 9, 3) := by decide +kernel
theorem D6_57 : decode jdk_42_method_149_code 57 = .ok (.return_, 1) := by decide +kernel
def Q_rm_sinit4_1 (Z : State) (t1 : Addr) (a1 : Addr) (ka : ClassId) (cs : Int32) (c1 : Int32) (h0 : Heap) (n0 : Nat) (v : Option Value) (h : Heap) (L : List Loc) : Prop := ∃ (b : Addr), ∃ (kb : ClassId), v = none ∧ Fr n0 L ∧ Keep h0 h [t1] ∧ Exa Z h t1 s11_ ∧ Fld Z h t1 s11_ "coder" "B" (.int (0 : Int32)) ∧ Fld Z h t1 s11_ "value" "[B" (.ref b) ∧ Arv Z h b kb .byte (1 : Int32) [(.int (own_b c1))] (.int (0 : Int32)) ∧ h0.size ≤ b
theorem ef_rm_sinit4_1 (m : MethodId) (t1 : Addr) (a1 : Addr) (ka : ClassId) (cs : Int32) (c1 : Int32) : entryFrame m #[(.ref t1), (.ref a1), (.int (0 : Int32)), (.int (1 : Int32)), .null] 6 = mkF m 0 #[.val (.ref t1), .val (.ref a1), .val (.int (0 : Int32)), .val (.int (1 : Int32)), .val .null, .unset] [] := by first | (simp [entryFrame, mkF, argsToLocals, Value.category]; done) | rfl
set_option maxRecDepth 65536 in
set_option maxHeartbeats 40000000 in
theorem rm_sinit4_1 (l : Launch) (Z : State) (a0 : Array Value) (hw : ∀ d ∈ tables_1, d.before a0 Z = true) (ws : List Jvm.Cond) (t1 : Addr) (a1 : Addr) (ka : ClassId) (cs : Int32) (c1 : Int32) (h0 : Heap) (n0 : Nat) (O0 : Old Z n0 h0) (S_COMPACT : Sta Z Z.heap s11_ s15_ "Z" (.int cs)) (Et : Exa Z h0 t1 s11_) (Fv : Fld Z h0 t1 s11_ "value" "[B" .null) (Fc : Fld Z h0 t1 s11_ "coder" "B" (.int (0 : Int32))) (Va : Arv Z h0 a1 ka .char (1 : Int32) [(.int c1)] (.int (0 : Int32))) (rc1 : ¬ ((255 : Int32) < c1)) (gt : n0 ≤ t1) (hcs : ¬ (cs = (0 : Int32))) (nta : ¬ (@Eq Nat a1 t1)) :
    MetFree l (⟨s11_, "<init>", s14_⟩ : MethodName) (head1 (Jvm.Cond.code (⟨s11_, "<init>", s14_⟩ : MethodName) jdk_42_method_149_code 6 none :: ws) ({ frames := 2, cells := 1, slots := 1, locals := 35 } : Room)) (fun a U => a = #[(.ref t1), (.ref a1), (.int (0 : Int32)), (.int (1 : Int32)), .null] ∧ Z.Warmed39 U.vm ∧ U.heap = h0) (fun _ _ _ _ _ => True) (fun _ U o U' => ∃ v L, o = .returned v ∧ Q_rm_sinit4_1 Z t1 a1 ka cs c1 h0 n0 v U'.heap L ∧ FrameEnd U o U' L ({ frames := 2, cells := 1, slots := 1, locals := 35 } : Room).cells ({ frames := 2, cells := 1, slots := 1, locals := 35 } : Room).slots) := by
  refine MetFree.of_bodySF (plainFor_of_name own_pn_java_lang_String) hisR ?_
  intro p e s m args below meth c s₁ Bd hml0 hP hK
  obtain ⟨rfl, hZ, hh⟩ := hP
  have hx := Bd.exec
  have hby := Bd.bytes
  have hml : c.maxLocals = 6 := hml0
  have hown : s.vm.findClass s11_ = some m.cls := findClass_of_methodNamed Bd.named
  have hnm := (name_of_methodNamed Bd.named Bd.method).1
  have X0 : Stand p l e ({ frames := 2, cells := 1, slots := 1, locals := 35 } : Room) s m #[(.ref t1), (.ref a1), (.int (0 : Int32)), (.int (1 : Int32)), .null] below meth c s₁ [] 0 0 := Stand.of_body Bd
  have e0 : s₁.heap = h0 := by rw [← hh, Bd.state]; rfl
  have N0 := Fr.nil n0
  have Z0 : n0 ≤ h0.size := by rw [← O0.1]; exact O0.2.1
  show own_Go p e below (s₁.setTop (entryFrame m #[(.ref t1), (.ref a1), (.int (0 : Int32)), (.int (1 : Int32)), .null] 6)) (fun t o => ∃ v L, o = .returned v ∧ Q_rm_sinit4_1 Z t1 a1 ka cs c1 h0 n0 v t.heap L ∧ FrameEnd s o t L ({ frames := 2, cells := 1, slots := 1, locals := 35 } : Room).cells ({ frames := 2, cells := 1, slots := 1, locals := 35 } : Room).slots)
  rw [ef_rm_sinit4_1 m t1 a1 ka cs c1]
  have lt_Et : h0.size > t1 := Et.lt
  have lt_Fv : h0.size > t1 := Fv.lt
  have lt_Fc : h0.size > t1 := Fc.lt
  have lt_Va : h0.size > a1 := Va.lt
  refine own_by (fun _ k => XS.aloadN X0.here hx rfl (hb hby D6_0) rfl rfl k) ?_
  obtain ⟨T1, X1, e1, st1⟩ := initO X0 hx hZ hown (own_w hw 45 rfl) (own_w hw 46 rfl) (own_w hw 47 rfl) e0 (g := (mkF m 1 #[.val (.ref t1), .val (.ref a1), .val (.int (0 : Int32)), .val (.int (1 : Int32)), .val .null, .unset] [(.ref t1)])) rfl (by rw [hml]; rfl) rfl (hb hby D6_1) (by decide) (W := 0) (by show 2 * 0 + _ ≤ _; exact Nat.le_of_eq rfl) (by decide)
  refine own_by st1 ?_
  refine own_by (fun _ k => XS.iloadN X1.here hx rfl (hb hby D6_4) rfl k) ?_
  refine own_by (fun _ k => XS.ifYes X1.here hx rfl (pc0 := 5) (pc' := 27) rfl (hb hby D6_5) rfl ((if0 _ _).trans (feq (by decide : ¬ ((1 : Int32) = (0 : Int32)))).2) (by decide) (by decide) k) ?_
  show own_Go p e below (T1.setTop (mkF m 27 #[.val (.ref t1), .val (.ref a1), .val (.int (0 : Int32)), .val (.int (1 : Int32)), .val .null, .unset] [])) _
  obtain ⟨T2, X2, e2, st2⟩ := getS2 X1 hx hZ hown (host := "") (Or.inl (own_w hw 48 rfl)) Via.refl e1 (S_COMPACT.ext O0.2) (g := (mkF m 27 #[.val (.ref t1), .val (.ref a1), .val (.int (0 : Int32)), .val (.int (1 : Int32)), .val .null, .unset] [])) rfl (hb hby D6_27)
  refine own_by st2 ?_
  refine own_by (fun _ k => XS.ifNo X2.here hx rfl (hb hby D6_30) rfl ((if0 _ _).trans (feq hcs).1) k) ?_
  show own_Go p e below (T2.setTop (mkF m 33 #[.val (.ref t1), .val (.ref a1), .val (.int (0 : Int32)), .val (.int (1 : Int32)), .val .null, .unset] [])) _
  refine own_by (fun _ k => XS.aloadN X2.here hx rfl (hb hby D6_33) rfl rfl k) ?_
  refine own_by (fun _ k => XS.iloadN X2.here hx rfl (hb hby D6_34) rfl k) ?_
  refine own_by (fun _ k => XS.iloadN X2.here hx rfl (hb hby D6_35) rfl k) ?_
  obtain ⟨_, _, ⟨T3, L3, k3, n3⟩, -, X3, ⟨Lc3, hQ3, l3, y3, z3⟩, st3⟩ := Jvm.LawKit.callS X2 hx (y := (⟨s16_, "compress", "([CII)[B"⟩ : MethodName)) hown (mvT hZ (own_w hw 49 rfl)) (mvT hZ (own_w hw 50 rfl)) (mvT hZ (own_w hw 51 rfl)) (mvT hZ (own_w hw 52 rfl)) (by decide) (backOf (W := 0) (rm_comp3_1 l Z a0 hw [] a1 ka c1 h0 n0 O0 Va rc1) hZ (own_w hw 52 rfl) (own_w hw 51 rfl) (by decide) (by decide)) (g := (mkF m 36 #[.val (.ref t1), .val (.ref a1), .val (.int (0 : Int32)), .val (.int (1 : Int32)), .val .null, .unset] [(.int (1 : Int32)), (.int (0 : Int32)), (.ref a1)])) rfl (by rw [hml]; rfl) (argsL := [(.ref a1), (.int (0 : Int32)), (.int (1 : Int32))]) (rest := []) (lenOf own_pd__28_5bCII_29_5bB rfl) rfl (by show 2 * 0 + _ ≤ _; exact Nat.le_of_eq rfl) (hb hby D6_36) (fun _ _ => ⟨rfl, e2, (by decide : 0 + 1 ≤ _), (by decide : 0 + 1 ≤ _)⟩)
  dsimp only [Pt.U, Pt.locs, Pt.cells, Pt.slots] at X3 l3 y3 z3 st3 hQ3
  subst l3 y3 z3
  obtain ⟨b_3, kb_3, rfl, M3, K3, g3_0, r3_0⟩ := hQ3
  have N3 := Fr.app N0 M3
  refine own_by st3 ?_
  have z3 := K3.1
  have lt_g3_0 : T3.heap.size > b_3 := g3_0.lt
  refine own_by (fun _ k => XS.astore X3.here hx rfl (hb hby D6_39) rfl rfl (l' := #[.val (.ref t1), .val (.ref a1), .val (.int (0 : Int32)), .val (.int (1 : Int32)), .val .null, .val (.ref b_3)]) rfl k) ?_
  refine own_by (fun _ k => XS.aloadN X3.here hx rfl (hb hby D6_41) rfl rfl k) ?_
  show own_Go p e below (T3.setTop (mkF m 42 #[.val (.ref t1), .val (.ref a1), .val (.int (0 : Int32)), .val (.int (1 : Int32)), .val .null, .val (.ref b_3)] [(.ref t1)])) _
  refine own_by (fun _ k => XS.aload X3.here hx rfl (hb hby D6_42) rfl rfl k) ?_
  refine own_by (fun _ k => XS.iloadN X3.here hx rfl (hb hby D6_44) rfl k) ?_
  have O4 : Old Z n0 T3.heap := (O0.keep K3 all0)
  obtain ⟨_, _, ⟨T5, L5, k5, n5⟩, -, X5, ⟨Lc5, hQ5, l5, y5, z5⟩, st5⟩ := Jvm.LawKit.callS X3 hx (y := (⟨s16_, s17_, "([BI)B"⟩ : MethodName)) hown (mvT hZ (own_w hw 57 rfl)) (mvT hZ (own_w hw 58 rfl)) (mvT hZ (own_w hw 51 rfl)) (mvT hZ (own_w hw 59 rfl)) (by decide) (backOf (W := 1) (rm_cfal_1 l Z a0 hw [] b_3 kb_3 (own_b c1) T3.heap n0 O4 g3_0) hZ (own_w hw 59 rfl) (own_w hw 51 rfl) (by decide) (by decide)) (g := (mkF m 45 #[.val (.ref t1), .val (.ref a1), .val (.int (0 : Int32)), .val (.int (1 : Int32)), .val .null, .val (.ref b_3)] [(.int (1 : Int32)), (.ref b_3), (.ref t1)])) rfl (by rw [hml]; rfl) (argsL := [(.ref b_3), (.int (1 : Int32))]) (rest := [(.ref t1)]) (lenOf own_pd__28_5bBI_29B rfl) rfl (by show 2 * 0 + _ ≤ _; exact Nat.le_of_eq rfl) (hb hby D6_45) (fun _ _ => ⟨rfl, rfl, (by decide : 1 + 0 ≤ _), (by decide : 1 + 0 ≤ _)⟩)
  dsimp only [Pt.U, Pt.locs, Pt.cells, Pt.slots] at X5 l5 y5 z5 st5 hQ5
  subst l5 y5 z5
  obtain ⟨rfl, M5, K5⟩ := hQ5
  have N5 := Fr.app N3 M5
  refine own_by st5 ?_
  have fc6 : Fld Z T3.heap t1 s11_ "coder" "B" (.int (0 : Int32)) := (Fc.keep K3 nin0)
  have fc7 : Exa Z T3.heap t1 s11_ := (Et.keep K3)
  obtain ⟨T8, h8, X8, e8, W8, st8⟩ := putFN X5 hx hZ hown (own_w hw 60 rfl) Via.refl K5 fc6 fc7 (Or.inr ⟨(own_w hw 61 rfl), rfl, hnm⟩) (own_w hw 37 rfl) (ty := .byte) (v' := (.int (0 : Int32))) (by decide) rfl rfl (g := (mkF m 48 #[.val (.ref t1), .val (.ref a1), .val (.int (0 : Int32)), .val (.int (1 : Int32)), .val .null, .val (.ref b_3)] [(.int (0 : Int32)), (.ref t1)])) rfl rfl (hb hby D6_48)
  refine own_by st8 ?_
  have z8 := W8.size
  have N8 := Fr.snoc X8 N5 (by omega)
  have Fw8 : Fld Z h8 t1 s11_ "coder" "B" (.int (0 : Int32)) := fc6.same W8
  refine own_by (fun _ k => XS.aloadN X8.here hx rfl (hb hby D6_51) rfl rfl k) ?_
  refine own_by (fun _ k => XS.aload X8.here hx rfl (hb hby D6_52) rfl rfl k) ?_
  show own_Go p e below (T8.setTop (mkF m 54 #[.val (.ref t1), .val (.ref a1), .val (.int (0 : Int32)), .val (.int (1 : Int32)), .val .null, .val (.ref b_3)] [(.ref b_3), (.ref t1)])) _
  have fc9 : Fld Z h8 t1 s11_ "value" "[B" .null := ((Fv.keep K3 nin0).other W8 (Or.inr (slot_ne (a0 := a0) (Or.inr (own_w hw 63 rfl)) (Or.inr (own_w hw 61 rfl)) (by decide) (t := (.array .byte)) (by decide) (t' := .byte) (by decide))))
  have fc10 : Exa Z h8 t1 s11_ := (fc7.wr W8)
  obtain ⟨T11, h11, X11, e11, W11, st11⟩ := putF X8 hx hZ hown (host := "") (Or.inl (own_w hw 62 rfl)) Via.refl e8 fc9 fc10 (Or.inr ⟨(own_w hw 63 rfl), rfl, hnm⟩) (own_w hw 37 rfl) (ty := (.array .byte)) (by decide) rfl rfl (g := (mkF m 54 #[.val (.ref t1), .val (.ref a1), .val (.int (0 : Int32)), .val (.int (1 : Int32)), .val .null, .val (.ref b_3)] [(.ref b_3), (.ref t1)])) rfl rfl (hb hby D6_54)
  refine own_by st11 ?_
  have z11 := W11.size
  have N11 := Fr.snoc X11 N8 (by omega)
  have Fw11 : Fld Z h11 t1 s11_ "value" "[B" (.ref b_3) := fc9.same W11
  have fc12 : Exa Z h11 t1 s11_ := (fc10.wr W11)
  have fc13 : Fld Z h11 t1 s11_ "coder" "B" (.int (0 : Int32)) := (Fw8.other W11 (Or.inr (slot_ne (a0 := a0) (Or.inr (own_w hw 61 rfl)) (Or.inr (own_w hw 63 rfl)) (by decide) (t := .byte) (by decide) (t' := (.array .byte)) (by decide))))
  have fc14 : Arv Z h11 b_3 kb_3 .byte (1 : Int32) [(.int (own_b c1))] (.int (0 : Int32)) := ((g3_0.other W8 (own_ne (by omega))).other W11 (own_ne (by omega)))
  have K15 : Keep h0 h11 [t1] := ((((Keep.refl h0 [t1]).trans K3 all0).wr W8 (Or.inl (List.mem_of_getElem? (i := 0) rfl))).wr W11 (Or.inl (List.mem_of_getElem? (i := 0) rfl)))
  obtain ⟨fs, hr, hrun, hended, hW, hsame⟩ := X11.leave (v := none) (fun h => rfl)
  refine ⟨_, _, X11.returnOut hx Bd.returns (hb hby D6_57) hr, hrun, hended, _, _, rfl, ?_, ⟨_, rfl⟩, hW, hsame.mono (by decide) (by decide)⟩
  show Q_rm_sinit4_1 Z t1 a1 ka cs c1 h0 n0 _ T11.heap _
  rw [e11]
  exact ⟨b_3, kb_3, rfl, N11, K15, fc12, fc13, Fw11, fc14, (by first | assumption | omega)⟩
def Q_rm_sinit_1 (Z : State) (t1 : Addr) (a1 : Addr) (ka : ClassId) (cs : Int32) (c1 : Int32) (h0 : Heap) (n0 : Nat) (v : Option Value) (h : Heap) (L : List Loc) : Prop := ∃ (b : Addr), ∃ (kb : ClassId), v = none ∧ Fr n0 L ∧ Keep h0 h [t1] ∧ Exa Z h t1 s11_ ∧ Fld Z h t1 s11_ "coder" "B" (.int (0 : Int32)) ∧ Fld Z h t1 s11_ "value" "[B" (.ref b) ∧ Arv Z h b kb .byte (1 : Int32) [(.int (own_b c1))] (.int (0 : Int32)) ∧ h0.size ≤ b
theorem ef_rm_sinit_1 (m : MethodId) (t1 : Addr) (a1 : Addr) (ka : ClassId) (cs : Int32) (c1 : Int32) : entryFrame m #[(.ref t1), (.ref a1)] 2 = mkF m 0 #[.val (.ref t1), .val (.ref a1)] [] := by first | (simp [entryFrame, mkF, argsToLocals, Value.category]; done) | rfl
set_option maxRecDepth 65536 in
set_option maxHeartbeats 40000000 in
theorem rm_sinit_1 (l : Launch) (Z : State) (a0 : Array Value) (hw : ∀ d ∈ tables_1, d.before a0 Z = true) (ws : List Jvm.Cond) (t1 : Addr) (a1 : Addr) (ka : ClassId) (cs : Int32) (c1 : Int32) (h0 : Heap) (n0 : Nat) (O0 : Old Z n0 h0) (S_COMPACT : Sta Z Z.heap s11_ s15_ "Z" (.int cs)) (Et : Exa Z h0 t1 s11_) (Fv : Fld Z h0 t1 s11_ "value" "[B" .null) (Fc : Fld Z h0 t1 s11_ "coder" "B" (.int (0 : Int32))) (Va : Arv Z h0 a1 ka .char (1 : Int32) [(.int c1)] (.int (0 : Int32))) (rc1 : ¬ ((255 : Int32) < c1)) (gt : n0 ≤ t1) (hcs : ¬ (cs = (0 : Int32))) (nta : ¬ (@Eq Nat a1 t1)) :
    MetFree l (⟨s11_, "<init>", "([C)V"⟩ : MethodName) (head1 (Jvm.Cond.code (⟨s11_, "<init>", "([C)V"⟩ : MethodName) jdk_42_method_3_code 2 none :: ws) ({ frames := 3, cells := 1, slots := 1, locals := 52 } : Room)) (fun a U => a = #[(.ref t1), (.ref a1)] ∧ Z.Warmed39 U.vm ∧ U.heap = h0) (fun _ _ _ _ _ => True) (fun _ U o U' => ∃ v L, o = .returned v ∧ Q_rm_sinit_1 Z t1 a1 ka cs c1 h0 n0 v U'.heap L ∧ FrameEnd U o U' L ({ frames := 3, cells := 1, slots := 1, locals := 52 } : Room).cells ({ frames := 3, cells := 1, slots := 1, locals := 52 } : Room).slots) := by
  refine MetFree.of_bodySF (plainFor_of_name own_pn_java_lang_String) hisR ?_
  intro p e s m args below meth c s₁ Bd hml0 hP hK
  obtain ⟨rfl, hZ, hh⟩ := hP
  have hx := Bd.exec
  have hby := Bd.bytes
  have hml : c.maxLocals = 2 := hml0
  have hown : s.vm.findClass s11_ = some m.cls := findClass_of_methodNamed Bd.named
  have hnm := (name_of_methodNamed Bd.named Bd.method).1
  have X0 : Stand p l e ({ frames := 3, cells := 1, slots := 1, locals := 52 } : Room) s m #[(.ref t1), (.ref a1)] below meth c s₁ [] 0 0 := Stand.of_body Bd
  have e0 : s₁.heap = h0 := by rw [← hh, Bd.state]; rfl
  have N0 := Fr.nil n0
  have Z0 : n0 ≤ h0.size := by rw [← O0.1]; exact O0.2.1
  show own_Go p e below (s₁.setTop (entryFrame m #[(.ref t1), (.ref a1)] 2)) (fun t o => ∃ v L, o = .returned v ∧ Q_rm_sinit_1 Z t1 a1 ka cs c1 h0 n0 v t.heap L ∧ FrameEnd s o t L ({ frames := 3, cells := 1, slots := 1, locals := 52 } : Room).cells ({ frames := 3, cells := 1, slots := 1, locals := 52 } : Room).slots)
  rw [ef_rm_sinit_1 m t1 a1 ka cs c1]
  have lt_Et : h0.size > t1 := Et.lt
  have lt_Fv : h0.size > t1 := Fv.lt
  have lt_Fc : h0.size > t1 := Fc.lt
  have lt_Va : h0.size > a1 := Va.lt
  refine own_by (fun _ k => XS.aloadN X0.here hx rfl (hb hby D5_0) rfl rfl k) ?_
  refine own_by (fun _ k => XS.aloadN X0.here hx rfl (hb hby D5_1) rfl rfl k) ?_
  refine own_by (fun _ k => XS.iconst X0.here hx rfl (hb hby D5_2) k) ?_
  refine own_by (fun _ k => XS.aloadN X0.here hx rfl (hb hby D5_3) rfl rfl k) ?_
  obtain ⟨cl1, Ar1, q1, S1, M1, H1, G1⟩ := (id Va)
  refine own_by (X0.arraylength hx (by rw [e0]; exact Ar1.1) (State.isArrayOf_alike hZ.alike Ar1.2.1) (g := (mkF m 4 #[.val (.ref t1), .val (.ref a1)] [(.ref a1), (.int (0 : Int32)), (.ref a1), (.ref t1)])) rfl rfl (hb hby D5_4)) ?_
  rw [len_of S1 M1]
  refine own_by (fun _ k => XS.aconstNull X0.here hx rfl (hb hby D5_5) k) ?_
  show own_Go p e below (s₁.setTop (mkF m 6 #[.val (.ref t1), .val (.ref a1)] [.null, (.int (1 : Int32)), (.int (0 : Int32)), (.ref a1), (.ref t1)])) _
  obtain ⟨_, _, ⟨T2, L2, k2, n2⟩, -, X2, ⟨Lc2, hQ2, l2, y2, z2⟩, st2⟩ := X0.specialBack hx (y := (⟨s11_, "<init>", s14_⟩ : MethodName)) rfl hown (mvT hZ (own_w hw 41 rfl)) (mvT hZ (own_w hw 42 rfl)) (mvT hZ (own_w hw 44 rfl)) (by decide) (backOf (W := 0) (rm_sinit4_1 l Z a0 hw [] t1 a1 ka cs c1 h0 n0 O0 S_COMPACT Et Fv Fc Va rc1 gt hcs nta) hZ (own_w hw 44 rfl) (own_w hw 30 rfl) (by decide) (by decide)) (g := (mkF m 6 #[.val (.ref t1), .val (.ref a1)] [.null, (.int (1 : Int32)), (.int (0 : Int32)), (.ref a1), (.ref t1)])) rfl (by rw [hml]; rfl) (Steps.refl _) (a := t1) (argsL := [(.ref a1), (.int (0 : Int32)), (.int (1 : Int32)), .null]) (rest := []) (lenOf own_pd__28_5bCIILjava_2flang_2fVoid_3b_29V rfl) rfl (by show 2 * 0 + _ ≤ _; exact Nat.le_of_eq rfl) (hb hby D5_6) (fun _ _ => ⟨rfl, e0, (by decide : 0 + 1 ≤ _), (by decide : 0 + 1 ≤ _)⟩)
  dsimp only [Pt.U, Pt.locs, Pt.cells, Pt.slots] at X2 l2 y2 z2 st2 hQ2
  subst l2 y2 z2
  obtain ⟨b_2, kb_2, rfl, M2, K2, g2_0, g2_1, g2_2, g2_3, r2_0⟩ := hQ2
  have N2 := Fr.app N0 M2
  refine own_by (fun _ k => st2.trans k) ?_
  have z2 := K2.1
  have lt_g2_0 : T2.heap.size > t1 := g2_0.lt
  have lt_g2_1 : T2.heap.size > t1 := g2_1.lt
  have lt_g2_2 : T2.heap.size > t1 := g2_2.lt
  have lt_g2_3 : T2.heap.size > b_2 := g2_3.lt
  have K3 : Keep h0 T2.heap [t1] := ((Keep.refl h0 [t1]).trans K2 (allS (P := fun x => x ∈ [t1] ∨ h0.size ≤ x) (Or.inl (List.mem_of_getElem? (i := 0) rfl)) all0))
  obtain ⟨fs, hr, hrun, hended, hW, hsame⟩ := X2.leave (v := none) (fun h => rfl)
  refine ⟨_, _, X2.returnOut hx Bd.returns (hb hby D5_9) hr, hrun, hended, _, _, rfl, ?_, ⟨_, rfl⟩, hW, hsame.mono (by decide) (by decide)⟩
  show Q_rm_sinit_1 Z t1 a1 ka cs c1 h0 n0 _ T2.heap _
  exact ⟨b_2, kb_2, rfl, N2, K3, g2_0, g2_1, g2_2, g2_3, (by first | assumption | omega)⟩
def Q_rm_comp5_2 (Z : State) (a1 : Addr) (b : Addr) (ka : ClassId) (kb : ClassId) (c1 : Int32) (c2 : Int32) (h0 : Heap) (n0 : Nat) (v : Option Value) (h : Heap) (L : List Loc) : Prop := v = some (.int (2 : Int32)) ∧ Fr n0 L ∧ Keep h0 h [b] ∧ Arv Z h b kb .byte (2 : Int32) [(.int (own_b c1)), (.int (own_b c2))] (.int (0 : Int32))
theorem ef_rm_comp5_2 (m : MethodId) (a1 : Addr) (b : Addr) (ka : ClassId) (kb : ClassId) (c1 : Int32) (c2 : Int32) : entryFrame m #[(.ref a1), (.int (0 : Int32)), (.ref b), (.int (0 : Int32)), (.int (2 : Int32))] 7 = mkF m 0 #[.val (.ref a1), .val (.int (0 : Int32)), .val (.ref b), .val (.int (0 : Int32)), .val (.int (2 : Int32)), .unset, .unset] [] := by first | (simp [entryFrame, mkF, argsToLocals, Value.category]; done) | rfl
set_option maxRecDepth 65536 in
set_option maxHeartbeats 40000000 in
theorem rm_comp5_2 (l : Launch) (Z : State) (a0 : Array Value) (hw : ∀ d ∈ tables_1, d.before a0 Z = true) (ws : List Jvm.Cond) (a1 : Addr) (b : Addr) (ka : ClassId) (kb : ClassId) (c1 : Int32) (c2 : Int32) (h0 : Heap) (n0 : Nat) (O0 : Old Z n0 h0) (Va : Arv Z h0 a1 ka .char (2 : Int32) [(.int c1), (.int c2)] (.int (0 : Int32))) (Vb : Arv Z h0 b kb .byte (2 : Int32) [] (.int (0 : Int32))) (rc1 : ¬ ((255 : Int32) < c1)) (rc2 : ¬ ((255 : Int32) < c2)) (gb : n0 ≤ b) (nab : ¬ (@Eq Nat a1 b)) :
    MetFree l (⟨s16_, "compress", "([CI[BII)I"⟩ : MethodName) (head1 (Jvm.Cond.code (⟨s16_, "compress", "([CI[BII)I"⟩ : MethodName) jdk_52_method_21_code 7 (some .int) :: ws) ({ frames := 0, cells := 0, slots := 0, locals := 0 } : Room)) (fun a U => a = #[(.ref a1), (.int (0 : Int32)), (.ref b), (.int (0 : Int32)), (.int (2 : Int32))] ∧ Z.Warmed39 U.vm ∧ U.heap = h0) (fun _ _ _ _ _ => True) (fun _ U o U' => ∃ v L, o = .returned v ∧ Q_rm_comp5_2 Z a1 b ka kb c1 c2 h0 n0 v U'.heap L ∧ FrameEnd U o U' L ({ frames := 0, cells := 0, slots := 0, locals := 0 } : Room).cells ({ frames := 0, cells := 0, slots := 0, locals := 0 } : Room).slots) := by
  refine MetFree.of_bodySF (plainFor_of_name own_pn_java_lang_StringUTF16) hisR ?_
  intro p e s m args below meth c s₁ Bd hml0 hP hK
  obtain ⟨rfl, hZ, hh⟩ := hP
  have hx := Bd.exec
  have hby := Bd.bytes
  have hml : c.maxLocals = 7 := hml0
  have hown : s.vm.findClass s16_ = some m.cls := findClass_of_methodNamed Bd.named
  have hnm := (name_of_methodNamed Bd.named Bd.method).1
  have X0 : Stand p l e ({ frames := 0, cells := 0, slots := 0, locals := 0 } : Room) s m #[(.ref a1), (.int (0 : Int32)), (.ref b), (.int (0 : Int32)), (.int (2 : Int32))] below meth c s₁ [] 0 0 := Stand.of_body Bd
  have e0 : s₁.heap = h0 := by rw [← hh, Bd.state]; rfl
  have N0 := Fr.nil n0
  have Z0 : n0 ≤ h0.size := by rw [← O0.1]; exact O0.2.1
  show own_Go p e below (s₁.setTop (entryFrame m #[(.ref a1), (.int (0 : Int32)), (.ref b), (.int (0 : Int32)), (.int (2 : Int32))] 7)) (fun t o => ∃ v L, o = .returned v ∧ Q_rm_comp5_2 Z a1 b ka kb c1 c2 h0 n0 v t.heap L ∧ FrameEnd s o t L ({ frames := 0, cells := 0, slots := 0, locals := 0 } : Room).cells ({ frames := 0, cells := 0, slots := 0, locals := 0 } : Room).slots)
  rw [ef_rm_comp5_2 m a1 b ka kb c1 c2]
  have lt_Va : h0.size > a1 := Va.lt
  have lt_Vb : h0.size > b := Vb.lt
  refine own_by (fun _ k => XS.iconst X0.here hx rfl (hb hby D9_0) k) ?_
  refine own_by (fun _ k => XS.istore X0.here hx rfl (hb hby D9_1) rfl (l' := #[.val (.ref a1), .val (.int (0 : Int32)), .val (.ref b), .val (.int (0 : Int32)), .val (.int (2 : Int32)), .val (.int (0 : Int32)), .unset]) rfl k) ?_
  refine own_by (fun _ k => XS.iload X0.here hx rfl (hb hby D9_3) rfl k) ?_
  refine own_by (fun _ k => XS.iload X0.here hx rfl (hb hby D9_5) rfl k) ?_
  refine own_by (fun _ k => XS.icmpNo X0.here hx rfl (hb hby D9_7) rfl (tlt (by decide : (0 : Int32) < (2 : Int32))).2.1 k) ?_
  show own_Go p e below (s₁.setTop (mkF m 10 #[.val (.ref a1), .val (.int (0 : Int32)), .val (.ref b), .val (.int (0 : Int32)), .val (.int (2 : Int32)), .val (.int (0 : Int32)), .unset] [])) _
  refine own_by (fun _ k => XS.aloadN X0.here hx rfl (hb hby D9_10) rfl rfl k) ?_
  refine own_by (fun _ k => XS.iloadN X0.here hx rfl (hb hby D9_11) rfl k) ?_
  obtain ⟨cl1, Ar1, q1, S1, M1, H1, G1⟩ := (id Va)
  have hin1 : ¬ ((0 : Int32) < 0 ∨ cl1.slots.size ≤ ((0 : Int32)).toNatClampNeg) := inb_of S1 ⟨by decide, by decide⟩
  refine own_by (X0.caload hx (j := (0 : Int32)) (v := (.int c1)) (by rw [e0]; exact Ar1.1) (State.isArrayOf_alike hZ.alike Ar1.2.1) Ar1.2.2 hin1 (H1.at hin1 rfl) (g := (mkF m 12 #[.val (.ref a1), .val (.int (0 : Int32)), .val (.ref b), .val (.int (0 : Int32)), .val (.int (2 : Int32)), .val (.int (0 : Int32)), .unset] [(.int (0 : Int32)), (.ref a1)])) rfl rfl (hb hby D9_12)) ?_
  refine own_by (fun _ k => XS.istore X0.here hx rfl (hb hby D9_13) rfl (l' := #[.val (.ref a1), .val (.int (0 : Int32)), .val (.ref b), .val (.int (0 : Int32)), .val (.int (2 : Int32)), .val (.int (0 : Int32)), .val (.int c1)]) rfl k) ?_
  refine own_by (fun _ k => XS.iload X0.here hx rfl (hb hby D9_15) rfl k) ?_
  refine own_by (fun _ k => XS.sipush X0.here hx rfl (hb hby D9_17) k) ?_
  show own_Go p e below (s₁.setTop (mkF m 20 #[.val (.ref a1), .val (.int (0 : Int32)), .val (.ref b), .val (.int (0 : Int32)), .val (.int (2 : Int32)), .val (.int (0 : Int32)), .val (.int c1)] [(.int (255 : Int32)), (.int c1)])) _
  refine own_by (fun _ k => XS.icmpYes X0.here hx rfl (pc0 := 20) (pc' := 26) rfl (hb hby D9_20) rfl (flt rc1).2.2.2 (by decide) (by decide) k) ?_
  show own_Go p e below (s₁.setTop (mkF m 26 #[.val (.ref a1), .val (.int (0 : Int32)), .val (.ref b), .val (.int (0 : Int32)), .val (.int (2 : Int32)), .val (.int (0 : Int32)), .val (.int c1)] [])) _
  refine own_by (fun _ k => XS.aloadN X0.here hx rfl (hb hby D9_26) rfl rfl k) ?_
  refine own_by (fun _ k => XS.iloadN X0.here hx rfl (hb hby D9_27) rfl k) ?_
  refine own_by (fun _ k => XS.iload X0.here hx rfl (hb hby D9_28) rfl k) ?_
  refine own_by (fun _ k => XS.i2b X0.here hx rfl (hb hby D9_30) rfl k) ?_
  have Vw2 : Arv Z h0 b kb .byte (2 : Int32) [(.int (0 : Int32))] (.int (0 : Int32)) := Vb.pad (pad_rep [] (.int (0 : Int32)) 1)
  obtain ⟨cl3, Ar3, q3, S3, M3, H3, G3⟩ := (id Vw2)
  have hin3 : ¬ ((0 : Int32) < 0 ∨ cl3.slots.size ≤ ((0 : Int32)).toNatClampNeg) := inb_of S3 ⟨by decide, by decide⟩
  obtain ⟨T3, h3, X3, e3, W3, st3⟩ := stB X0 hx hZ e0 Ar3 (j := (0 : Int32)) hin3 (g := (mkF m 31 #[.val (.ref a1), .val (.int (0 : Int32)), .val (.ref b), .val (.int (0 : Int32)), .val (.int (2 : Int32)), .val (.int (0 : Int32)), .val (.int c1)] [(.int (c1.toInt8.toInt32)), (.int (0 : Int32)), (.ref b)])) rfl rfl (hb hby D9_31)
  refine own_by st3 ?_
  have z3 := W3.size
  have N3 := Fr.snoc X3 N0 (by omega)
  have Vw3 : Arv Z h3 b kb .byte (2 : Int32) [(.int (own_b c1))] (.int (0 : Int32)) := Arv.set Ar3 q3 S3 M3 H3 G3 (fits_nar_byte2 _) W3 0 rfl (Nat.le_of_ble_eq_true rfl)
  refine own_by (fun _ k => XS.iinc X3.here hx rfl (hb hby D9_32) rfl (l' := #[.val (.ref a1), .val (.int (1 : Int32)), .val (.ref b), .val (.int (0 : Int32)), .val (.int (2 : Int32)), .val (.int (0 : Int32)), .val (.int c1)]) rfl k) ?_
  show own_Go p e below (T3.setTop (mkF m 35 #[.val (.ref a1), .val (.int (1 : Int32)), .val (.ref b), .val (.int (0 : Int32)), .val (.int (2 : Int32)), .val (.int (0 : Int32)), .val (.int c1)] [])) _
  refine own_by (fun _ k => XS.iinc X3.here hx rfl (hb hby D9_35) rfl (l' := #[.val (.ref a1), .val (.int (1 : Int32)), .val (.ref b), .val (.int (1 : Int32)), .val (.int (2 : Int32)), .val (.int (0 : Int32)), .val (.int c1)]) rfl k) ?_
  refine own_by (fun _ k => XS.iinc X3.here hx rfl (hb hby D9_38) rfl (l' := #[.val (.ref a1), .val (.int (1 : Int32)), .val (.ref b), .val (.int (1 : Int32)), .val (.int (2 : Int32)), .val (.int (1 : Int32)), .val (.int c1)]) rfl k) ?_
  refine own_by (fun _ k => XS.goto X3.here hx rfl (pc0 := 41) (pc' := 3) rfl (hb hby D9_41) (by decide) (by decide) k) ?_
  refine own_by (fun _ k => XS.iload X3.here hx rfl (hb hby D9_3) rfl k) ?_
  refine own_by (fun _ k => XS.iload X3.here hx rfl (hb hby D9_5) rfl k) ?_
  refine own_by (fun _ k => XS.icmpNo X3.here hx rfl (hb hby D9_7) rfl (tlt (by decide : (1 : Int32) < (2 : Int32))).2.1 k) ?_
  show own_Go p e below (T3.setTop (mkF m 10 #[.val (.ref a1), .val (.int (1 : Int32)), .val (.ref b), .val (.int (1 : Int32)), .val (.int (2 : Int32)), .val (.int (1 : Int32)), .val (.int c1)] [])) _
  refine own_by (fun _ k => XS.aloadN X3.here hx rfl (hb hby D9_10) rfl rfl k) ?_
  refine own_by (fun _ k => XS.iloadN X3.here hx rfl (hb hby D9_11) rfl k) ?_
  have fc4 : Arv Z h3 a1 ka .char (2 : Int32) [(.int c1), (.int c2)] (.int (0 : Int32)) := (Va.other W3 (own_ne (by omega)))
  obtain ⟨cl5, Ar5, q5, S5, M5, H5, G5⟩ := (id fc4)
  have hin5 : ¬ ((1 : Int32) < 0 ∨ cl5.slots.size ≤ ((1 : Int32)).toNatClampNeg) := inb_of S5 ⟨by decide, by decide⟩
  refine own_by (X3.caload hx (j := (1 : Int32)) (v := (.int c2)) (by rw [e3]; exact Ar5.1) (State.isArrayOf_alike hZ.alike Ar5.2.1) Ar5.2.2 hin5 (H5.at hin5 rfl) (g := (mkF m 12 #[.val (.ref a1), .val (.int (1 : Int32)), .val (.ref b), .val (.int (1 : Int32)), .val (.int (2 : Int32)), .val (.int (1 : Int32)), .val (.int c1)] [(.int (1 : Int32)), (.ref a1)])) rfl rfl (hb hby D9_12)) ?_
  refine own_by (fun _ k => XS.istore X3.here hx rfl (hb hby D9_13) rfl (l' := #[.val (.ref a1), .val (.int (1 : Int32)), .val (.ref b), .val (.int (1 : Int32)), .val (.int (2 : Int32)), .val (.int (1 : Int32)), .val (.int c2)]) rfl k) ?_
  refine own_by (fun _ k => XS.iload X3.here hx rfl (hb hby D9_15) rfl k) ?_
  refine own_by (fun _ k => XS.sipush X3.here hx rfl (hb hby D9_17) k) ?_
  show own_Go p e below (T3.setTop (mkF m 20 #[.val (.ref a1), .val (.int (1 : Int32)), .val (.ref b), .val (.int (1 : Int32)), .val (.int (2 : Int32)), .val (.int (1 : Int32)), .val (.int c2)] [(.int (255 : Int32)), (.int c2)])) _
  refine own_by (fun _ k => XS.icmpYes X3.here hx rfl (pc0 := 20) (pc' := 26) rfl (hb hby D9_20) rfl (flt rc2).2.2.2 (by decide) (by decide) k) ?_
  show own_Go p e below (T3.setTop (mkF m 26 #[.val (.ref a1), .val (.int (1 : Int32)), .val (.ref b), .val (.int (1 : Int32)), .val (.int (2 : Int32)), .val (.int (1 : Int32)), .val (.int c2)] [])) _
  refine own_by (fun _ k => XS.aloadN X3.here hx rfl (hb hby D9_26) rfl rfl k) ?_
  refine own_by (fun _ k => XS.iloadN X3.here hx rfl (hb hby D9_27) rfl k) ?_
  refine own_by (fun _ k => XS.iload X3.here hx rfl (hb hby D9_28) rfl k) ?_
  refine own_by (fun _ k => XS.i2b X3.here hx rfl (hb hby D9_30) rfl k) ?_
  have Vw6 : Arv Z h3 b kb .byte (2 : Int32) [(.int (own_b c1)), (.int (0 : Int32))] (.int (0 : Int32)) := Vw3.pad (pad_rep [(.int (own_b c1))] (.int (0 : Int32)) 1)
  obtain ⟨cl7, Ar7, q7, S7, M7, H7, G7⟩ := (id Vw6)
  have hin7 : ¬ ((1 : Int32) < 0 ∨ cl7.slots.size ≤ ((1 : Int32)).toNatClampNeg) := inb_of S7 ⟨by decide, by decide⟩
  obtain ⟨T7, h7, X7, e7, W7, st7⟩ := stB X3 hx hZ e3 Ar7 (j := (1 : Int32)) hin7 (g := (mkF m 31 #[.val (.ref a1), .val (.int (1 : Int32)), .val (.ref b), .val (.int (1 : Int32)), .val (.int (2 : Int32)), .val (.int (1 : Int32)), .val (.int c2)] [(.int (c2.toInt8.toInt32)), (.int (1 : Int32)), (.ref b)])) rfl rfl (hb hby D9_31)
  refine own_by st7 ?_
  have z7 := W7.size
  have N7 := Fr.snoc X7 N3 (by omega)
  have Vw7 : Arv Z h7 b kb .byte (2 : Int32) [(.int (own_b c1)), (.int (own_b c2))] (.int (0 : Int32)) := Arv.set Ar7 q7 S7 M7 H7 G7 (fits_nar_byte2 _) W7 1 rfl (Nat.le_of_ble_eq_true rfl)
  refine own_by (fun _ k => XS.iinc X7.here hx rfl (hb hby D9_32) rfl (l' := #[.val (.ref a1), .val (.int (2 : Int32)), .val (.ref b), .val (.int (1 : Int32)), .val (.int (2 : Int32)), .val (.int (1 : Int32)), .val (.int c2)]) rfl k) ?_
  show own_Go p e below (T7.setTop (mkF m 35 #[.val (.ref a1), .val (.int (2 : Int32)), .val (.ref b), .val (.int (1 : Int32)), .val (.int (2 : Int32)), .val (.int (1 : Int32)), .val (.int c2)] [])) _
  refine own_by (fun _ k => XS.iinc X7.here hx rfl (hb hby D9_35) rfl (l' := #[.val (.ref a1), .val (.int (2 : Int32)), .val (.ref b), .val (.int (2 : Int32)), .val (.int (2 : Int32)), .val (.int (1 : Int32)), .val (.int c2)]) rfl k) ?_
  refine own_by (fun _ k => XS.iinc X7.here hx rfl (hb hby D9_38) rfl (l' := #[.val (.ref a1), .val (.int (2 : Int32)), .val (.ref b), .val (.int (2 : Int32)), .val (.int (2 : Int32)), .val (.int (2 : Int32)), .val (.int c2)]) rfl k) ?_
  refine own_by (fun _ k => XS.goto X7.here hx rfl (pc0 := 41) (pc' := 3) rfl (hb hby D9_41) (by decide) (by decide) k) ?_
  refine own_by (fun _ k => XS.iload X7.here hx rfl (hb hby D9_3) rfl k) ?_
  refine own_by (fun _ k => XS.iload X7.here hx rfl (hb hby D9_5) rfl k) ?_
  refine own_by (fun _ k => XS.icmpYes X7.here hx rfl (pc0 := 7) (pc' := 44) rfl (hb hby D9_7) rfl (flt (by decide : ¬ ((2 : Int32) < (2 : Int32)))).2.1 (by decide) (by decide) k) ?_
  show own_Go p e below (T7.setTop (mkF m 44 #[.val (.ref a1), .val (.int (2 : Int32)), .val (.ref b), .val (.int (2 : Int32)), .val (.int (2 : Int32)), .val (.int (2 : Int32)), .val (.int c2)] [])) _
  refine own_by (fun _ k => XS.iload X7.here hx rfl (hb hby D9_44) rfl k) ?_
  have K8 : Keep h0 h7 [b] := (((Keep.refl h0 [b]).wr W3 (Or.inl (List.mem_of_getElem? (i := 0) rfl))).wr W7 (Or.inl (List.mem_of_getElem? (i := 0) rfl)))
  obtain ⟨fs, hr, hrun, hended, hW, hsame⟩ := X7.leave (v := some (.int (2 : Int32))) (fun h => by rw [Bd.returns] at h; cases h)
  refine ⟨_, _, retI X7 hx Bd.returns (hb hby D9_46) hr, hrun, hended, _, _, rfl, ?_, ⟨_, rfl⟩, hW, hsame.mono (by decide) (by decide)⟩
  show Q_rm_comp5_2 Z a1 b ka kb c1 c2 h0 n0 _ T7.heap _
  rw [e7]
  exact ⟨rfl, N7, K8, Vw7⟩
def Q_rm_comp3_2 (Z : State) (a1 : Addr) (ka : ClassId) (c1 : Int32) (c2 : Int32) (h0 : Heap) (n0 : Nat) (v : Option Value) (h : Heap) (L : List Loc) : Prop := ∃ (b : Addr), ∃ (kb : ClassId), v = some (.ref b) ∧ Fr n0 L ∧ Keep h0 h [] ∧ Arv Z h b kb .byte (2 : Int32) [(.int (own_b c1)), (.int (own_b c2))] (.int (0 : Int32)) ∧ h0.size ≤ b
theorem ef_rm_comp3_2 (m : MethodId) (a1 : Addr) (ka : ClassId) (c1 : Int32) (c2 : Int32) : entryFrame m #[(.ref a1), (.int (0 : Int32)), (.int (2 : Int32))] 6 = mkF m 0 #[.val (.ref a1), .val (.int (0 : Int32)), .val (.int (2 : Int32)), .unset, .unset, .unset] [] := by first | (simp [entryFrame, mkF, argsToLocals, Value.category]; done) | rfl
set_option maxRecDepth 65536 in
set_option maxHeartbeats 40000000 in
theorem rm_comp3_2 (l : Launch) (Z : State) (a0 : Array Value) (hw : ∀ d ∈ tables_1, d.before a0 Z = true) (ws : List Jvm.Cond) (a1 : Addr) (ka : ClassId) (c1 : Int32) (c2 : Int32) (h0 : Heap) (n0 : Nat) (O0 : Old Z n0 h0) (Va : Arv Z h0 a1 ka .char (2 : Int32) [(.int c1), (.int c2)] (.int (0 : Int32))) (rc1 : ¬ ((255 : Int32) < c1)) (rc2 : ¬ ((255 : Int32) < c2)) :
    MetFree l (⟨s16_, "compress", "([CII)[B"⟩ : MethodName) (head1 (Jvm.Cond.code (⟨s16_, "compress", "([CII)[B"⟩ : MethodName) jdk_52_method_16_code 6 (some (.array .byte)) :: ws) ({ frames := 1, cells := 1, slots := 2, locals := 18 } : Room)) (fun a U => a = #[(.ref a1), (.int (0 : Int32)), (.int (2 : Int32))] ∧ Z.Warmed39 U.vm ∧ U.heap = h0) (fun _ _ _ _ _ => True) (fun _ U o U' => ∃ v L, o = .returned v ∧ Q_rm_comp3_2 Z a1 ka c1 c2 h0 n0 v U'.heap L ∧ FrameEnd U o U' L ({ frames := 1, cells := 1, slots := 2, locals := 18 } : Room).cells ({ frames := 1, cells := 1, slots := 2, locals := 18 } : Room).slots) := by
  refine MetFree.of_bodySF (plainFor_of_name own_pn_java_lang_StringUTF16) hisR ?_
  intro p e s m args below meth c s₁ Bd hml0 hP hK
  obtain ⟨rfl, hZ, hh⟩ := hP
  have hx := Bd.exec
  have hby := Bd.bytes
  have hml : c.maxLocals = 6 := hml0
  have hown : s.vm.findClass s16_ = some m.cls := findClass_of_methodNamed Bd.named
  have hnm := (name_of_methodNamed Bd.named Bd.method).1
  have X0 : Stand p l e ({ frames := 1, cells := 1, slots := 2, locals := 18 } : Room) s m #[(.ref a1), (.int (0 : Int32)), (.int (2 : Int32))] below meth c s₁ [] 0 0 := Stand.of_body Bd
  have e0 : s₁.heap = h0 := by rw [← hh, Bd.state]; rfl
  have N0 := Fr.nil n0
  have Z0 : n0 ≤ h0.size := by rw [← O0.1]; exact O0.2.1
  show own_Go p e below (s₁.setTop (entryFrame m #[(.ref a1), (.int (0 : Int32)), (.int (2 : Int32))] 6)) (fun t o => ∃ v L, o = .returned v ∧ Q_rm_comp3_2 Z a1 ka c1 c2 h0 n0 v t.heap L ∧ FrameEnd s o t L ({ frames := 1, cells := 1, slots := 2, locals := 18 } : Room).cells ({ frames := 1, cells := 1, slots := 2, locals := 18 } : Room).slots)
  rw [ef_rm_comp3_2 m a1 ka c1 c2]
  have lt_Va : h0.size > a1 := Va.lt
  refine own_by (fun _ k => XS.iloadN X0.here hx rfl (hb hby D8_0) rfl k) ?_
  obtain ⟨T1, h1, k1, X1, e1, E1, A1, st1⟩ := newP X0 hx hZ (own_w hw 53 rfl) e0 (g := (mkF m 1 #[.val (.ref a1), .val (.int (0 : Int32)), .val (.int (2 : Int32)), .unset, .unset, .unset] [(.int (2 : Int32))])) rfl (hb hby D8_1) rfl (by decide) (cap := 2) (by decide) (by decide) (by decide) (by decide)
  obtain ⟨ob1, g1⟩ : ∃ z, z = h0.size := ⟨_, rfl⟩
  rw [← g1] at A1 st1
  refine own_by st1 ?_
  have z1 := E1.1
  have Vw1 : Arv Z h1 ob1 k1 .byte (2 : Int32) [] (.int (0 : Int32)) := Arv.new A1 (by decide)
  have lt1 : h1.size > ob1 := Vw1.lt
  refine own_by (fun _ k => XS.astoreN X1.here hx rfl (hb hby D8_3) rfl rfl (l' := #[.val (.ref a1), .val (.int (0 : Int32)), .val (.int (2 : Int32)), .val (.ref ob1), .unset, .unset]) rfl k) ?_
  refine own_by (fun _ k => XS.aloadN X1.here hx rfl (hb hby D8_4) rfl rfl k) ?_
  refine own_by (fun _ k => XS.iloadN X1.here hx rfl (hb hby D8_5) rfl k) ?_
  refine own_by (fun _ k => XS.aloadN X1.here hx rfl (hb hby D8_6) rfl rfl k) ?_
  show own_Go p e below (T1.setTop (mkF m 7 #[.val (.ref a1), .val (.int (0 : Int32)), .val (.int (2 : Int32)), .val (.ref ob1), .unset, .unset] [(.ref ob1), (.int (0 : Int32)), (.ref a1)])) _
  refine own_by (fun _ k => XS.iconst X1.here hx rfl (hb hby D8_7) k) ?_
  refine own_by (fun _ k => XS.iloadN X1.here hx rfl (hb hby D8_8) rfl k) ?_
  have fc2 : Arv Z h1 a1 ka .char (2 : Int32) [(.int c1), (.int c2)] (.int (0 : Int32)) := (Va.ext E1)
  have O3 : Old Z n0 h1 := (O0.ext E1)
  obtain ⟨_, _, ⟨T4, L4, k4, n4⟩, -, X4, ⟨Lc4, hQ4, l4, y4, z4⟩, st4⟩ := Jvm.LawKit.callS X1 hx (y := (⟨s16_, "compress", "([CI[BII)I"⟩ : MethodName)) hown (mvT hZ (own_w hw 54 rfl)) (mvT hZ (own_w hw 55 rfl)) (mvT hZ (own_w hw 51 rfl)) (mvT hZ (own_w hw 56 rfl)) (by decide) (backOf (W := 0) (rm_comp5_2 l Z a0 hw [] a1 ob1 ka k1 c1 c2 h1 n0 O3 fc2 Vw1 rc1 rc2 (by first | assumption | omega | decide) (by first | assumption | omega | decide)) hZ (own_w hw 56 rfl) (own_w hw 51 rfl) (by decide) (by decide)) (g := (mkF m 9 #[.val (.ref a1), .val (.int (0 : Int32)), .val (.int (2 : Int32)), .val (.ref ob1), .unset, .unset] [(.int (2 : Int32)), (.int (0 : Int32)), (.ref ob1), (.int (0 : Int32)), (.ref a1)])) rfl (by rw [hml]; rfl) (argsL := [(.ref a1), (.int (0 : Int32)), (.ref ob1), (.int (0 : Int32)), (.int (2 : Int32))]) (rest := []) (lenOf own_pd__28_5bCI_5bBII_29I rfl) rfl (by show 2 * 0 + _ ≤ _; exact Nat.le_of_eq rfl) (hb hby D8_9) (fun _ _ => ⟨rfl, e1, (by decide : 1 + 0 ≤ _), (by decide : 2 + 0 ≤ _)⟩)
  dsimp only [Pt.U, Pt.locs, Pt.cells, Pt.slots] at X4 l4 y4 z4 st4 hQ4
  subst l4 y4 z4
  obtain ⟨rfl, M4, K4, g4_0⟩ := hQ4
  have N4 := Fr.app N0 M4
  refine own_by st4 ?_
  have z4 := K4.1
  have lt_g4_0 : T4.heap.size > ob1 := g4_0.lt
  refine own_by (fun _ k => XS.istore X4.here hx rfl (hb hby D8_12) rfl (l' := #[.val (.ref a1), .val (.int (0 : Int32)), .val (.int (2 : Int32)), .val (.ref ob1), .val (.int (2 : Int32)), .unset]) rfl k) ?_
  refine own_by (fun _ k => XS.iload X4.here hx rfl (hb hby D8_14) rfl k) ?_
  refine own_by (fun _ k => XS.iloadN X4.here hx rfl (hb hby D8_16) rfl k) ?_
  show own_Go p e below (T4.setTop (mkF m 17 #[.val (.ref a1), .val (.int (0 : Int32)), .val (.int (2 : Int32)), .val (.ref ob1), .val (.int (2 : Int32)), .unset] [(.int (2 : Int32)), (.int (2 : Int32))])) _
  refine own_by (fun _ k => XS.icmpYes X4.here hx rfl (pc0 := 17) (pc' := 57) rfl (hb hby D8_17) rfl (teq (by decide : (2 : Int32) = (2 : Int32))).1 (by decide) (by decide) k) ?_
  show own_Go p e below (T4.setTop (mkF m 57 #[.val (.ref a1), .val (.int (0 : Int32)), .val (.int (2 : Int32)), .val (.ref ob1), .val (.int (2 : Int32)), .unset] [])) _
  refine own_by (fun _ k => XS.aloadN X4.here hx rfl (hb hby D8_57) rfl rfl k) ?_
  have K5 : Keep h0 T4.heap [] := (((Keep.refl h0 []).ext E1).trans K4 (allS (P := fun x => x ∈ [] ∨ h0.size ≤ x) (Or.inr (by omega)) all0))
  obtain ⟨fs, hr, hrun, hended, hW, hsame⟩ := X4.leave (v := some (.ref ob1)) (fun h => by rw [Bd.returns] at h; cases h)
  refine ⟨_, _, retOut X4 hx Bd.returns (own_narrow_ref (by decide) rfl) (Or.inr (Or.inr (Or.inr (Or.inr ⟨rfl, by decide, rfl⟩)))) (hb hby D8_58) hr, hrun, hended, _, _, rfl, ?_, ⟨_, rfl⟩, hW, hsame.mono (by decide) (by decide)⟩
  show Q_rm_comp3_2 Z a1 ka c1 c2 h0 n0 _ T4.heap _
  exact ⟨ob1, k1, rfl, N4, K5, g4_0, (by first | assumption | omega)⟩
def Q_rm_cfal_2 (Z : State) (b : Addr) (kb : ClassId) (d1 : Int32) (d2 : Int32) (h0 : Heap) (n0 : Nat) (v : Option Value) (h : Heap) (L : List Loc) : Prop := v = some (.int (0 : Int32)) ∧ Fr n0 L ∧ h = h0
theorem ef_rm_cfal_2 (m : MethodId) (b : Addr) (kb : ClassId) (d1 : Int32) (d2 : Int32) : entryFrame m #[(.ref b), (.int (2 : Int32))] 2 = mkF m 0 #[.val (.ref b), .val (.int (2 : Int32))] [] := by first | (simp [entryFrame, mkF, argsToLocals, Value.category]; done) | rfl
set_option maxRecDepth 65536 in
set_option maxHeartbeats 40000000 in
theorem rm_cfal_2 (l : Launch) (Z : State) (a0 : Array Value) (hw : ∀ d ∈ tables_1, d.before a0 Z = true) (ws : List Jvm.Cond) (b : Addr) (kb : ClassId) (d1 : Int32) (d2 : Int32) (h0 : Heap) (n0 : Nat) (O0 : Old Z n0 h0) (Vb : Arv Z h0 b kb .byte (2 : Int32) [(.int d1), (.int d2)] (.int (0 : Int32))) :
    MetFree l (⟨s16_, s17_, "([BI)B"⟩ : MethodName) (head1 (Jvm.Cond.code (⟨s16_, s17_, "([BI)B"⟩ : MethodName) jdk_52_method_15_code 2 (some .byte) :: ws) ({ frames := 0, cells := 0, slots := 0, locals := 0 } : Room)) (fun a U => a = #[(.ref b), (.int (2 : Int32))] ∧ Z.Warmed39 U.vm ∧ U.heap = h0) (fun _ _ _ _ _ => True) (fun _ U o U' => ∃ v L, o = .returned v ∧ Q_rm_cfal_2 Z b kb d1 d2 h0 n0 v U'.heap L ∧ FrameEnd U o U' L ({ frames := 0, cells := 0, slots := 0, locals := 0 } : Room).cells ({ frames := 0, cells := 0, slots := 0, locals := 0 } : Room).slots) := by
  refine MetFree.of_bodySF (plainFor_of_name own_pn_java_lang_StringUTF16) hisR ?_
  intro p e s m args below meth c s₁ Bd hml0 hP hK
  obtain ⟨rfl, hZ, hh⟩ := hP
  have hx := Bd.exec
  have hby := Bd.bytes
  have hml : c.maxLocals = 2 := hml0
  have hown : s.vm.findClass s16_ = some m.cls := findClass_of_methodNamed Bd.named
  have hnm := (name_of_methodNamed Bd.named Bd.method).1
  have X0 : Stand p l e ({ frames := 0, cells := 0, slots := 0, locals := 0 } : Room) s m #[(.ref b), (.int (2 : Int32))] below meth c s₁ [] 0 0 := Stand.of_body Bd
  have e0 : s₁.heap = h0 := by rw [← hh, Bd.state]; rfl
  have N0 := Fr.nil n0
  have Z0 : n0 ≤ h0.size := by rw [← O0.1]; exact O0.2.1
  show own_Go p e below (s₁.setTop (entryFrame m #[(.ref b), (.int (2 : Int32))] 2)) (fun t o => ∃ v L, o = .returned v ∧ Q_rm_cfal_2 Z b kb d1 d2 h0 n0 v t.heap L ∧ FrameEnd s o t L ({ frames := 0, cells := 0, slots := 0, locals := 0 } : Room).cells ({ frames := 0, cells := 0, slots := 0, locals := 0 } : Room).slots)
  rw [ef_rm_cfal_2 m b kb d1 d2]
  have lt_Vb : h0.size > b := Vb.lt
  refine own_by (fun _ k => XS.iloadN X0.here hx rfl (hb hby D10_0) rfl k) ?_
  refine own_by (fun _ k => XS.aloadN X0.here hx rfl (hb hby D10_1) rfl rfl k) ?_
  obtain ⟨cl1, Ar1, q1, S1, M1, H1, G1⟩ := (id Vb)
  refine own_by (X0.arraylength hx (by rw [e0]; exact Ar1.1) (State.isArrayOf_alike hZ.alike Ar1.2.1) (g := (mkF m 2 #[.val (.ref b), .val (.int (2 : Int32))] [(.ref b), (.int (2 : Int32))])) rfl rfl (hb hby D10_2)) ?_
  rw [len_of S1 M1]
  refine own_by (fun _ k => XS.isub X0.here hx rfl (hb hby D10_3) rfl k) ?_
  refine own_by (fun _ k => XS.bipush X0.here hx rfl (hb hby D10_4) k) ?_
  refine own_by (fun _ k => XS.iushr X0.here hx rfl (hb hby D10_6) rfl k) ?_
  show own_Go p e below (s₁.setTop (mkF m 7 #[.val (.ref b), .val (.int (2 : Int32))] [(.int (0 : Int32))])) _
  refine own_by (fun _ k => XS.i2b X0.here hx rfl (hb hby D10_7) rfl k) ?_
  obtain ⟨fs, hr, hrun, hended, hW, hsame⟩ := X0.leave (v := some (.int (0 : Int32))) (fun h => by rw [Bd.returns] at h; cases h)
  refine ⟨_, _, retN X0 hx (t := .byte) Bd.returns (by simp) (hb hby D10_8) hr, hrun, hended, _, _, rfl, ?_, ⟨_, rfl⟩, hW, hsame.mono (by decide) (by decide)⟩
  show Q_rm_cfal_2 Z b kb d1 d2 h0 n0 _ s₁.heap _
  rw [e0]
  exact ⟨rfl, N0, rfl⟩
def Q_rm_sinit4_2 (Z : State) (t1 : Addr) (a1 : Addr) (ka : ClassId) (cs : Int32) (c1 : Int32) (c2 : Int32) (h0 : Heap) (n0 : Nat) (v : Option Value) (h : Heap) (L : List Loc) : Prop := ∃ (b : Addr), ∃ (kb : ClassId), v = none ∧ Fr n0 L ∧ Keep h0 h [t1] ∧ Exa Z h t1 s11_ ∧ Fld Z h t1 s11_ "coder" "B" (.int (0 : Int32)) ∧ Fld Z h t1 s11_ "value" "[B" (.ref b) ∧ Arv Z h b kb .byte (2 : Int32) [(.int (own_b c1)), (.int (own_b c2))] (.int (0 : Int32)) ∧ h0.size ≤ b
theorem ef_rm_sinit4_2 (m : MethodId) (t1 : Addr) (a1 : Addr) (ka : ClassId) (cs : Int32) (c1 : Int32) (c2 : Int32) : entryFrame m #[(.ref t1), (.ref a1), (.int (0 : Int32)), (.int (2 : Int32)), .null] 6 = mkF m 0 #[.val (.ref t1), .val (.ref a1), .val (.int (0 : Int32)), .val (.int (2 : Int32)), .val .null, .unset] [] := by first | (simp [entryFrame, mkF, argsToLocals, Value.category]; done) | rfl
set_option maxRecDepth 65536 in
set_option maxHeartbeats 40000000 in
theorem rm_sinit4_2 (l : Launch) (Z : State) (a0 : Array Value) (hw : ∀ d ∈ tables_1, d.before a0 Z = true) (ws : List Jvm.Cond) (t1 : Addr) (a1 : Addr) (ka : ClassId) (cs : Int32) (c1 : Int32) (c2 : Int32) (h0 : Heap) (n0 : Nat) (O0 : Old Z n0 h0) (S_COMPACT : Sta Z Z.heap s11_ s15_ "Z" (.int cs)) (Et : Exa Z h0 t1 s11_) (Fv : Fld Z h0 t1 s11_ "value" "[B" .null) (Fc : Fld Z h0 t1 s11_ "coder" "B" (.int (0 : Int32))) (Va : Arv Z h0 a1 ka .char (2 : Int32) [(.int c1), (.int c2)] (.int (0 : Int32))) (rc1 : ¬ ((255 : Int32) < c1)) (rc2 : ¬ ((255 : Int32) < c2)) (gt : n0 ≤ t1) (hcs : ¬ (cs = (0 : Int32))) (nta : ¬ (@Eq Nat a1 t1)) :
    MetFree l (⟨s11_, "<init>", s14_⟩ : MethodName) (head1 (Jvm.Cond.code (⟨s11_, "<init>", s14_⟩ : MethodName) jdk_42_method_149_code 6 none :: ws) ({ frames := 2, cells := 1, slots := 2, locals := 35 } : Room)) (fun a U => a = #[(.ref t1), (.ref a1), (.int (0 : Int32)), (.int (2 : Int32)), .null] ∧ Z.Warmed39 U.vm ∧ U.heap = h0) (fun _ _ _ _ _ => True) (fun _ U o U' => ∃ v L, o = .returned v ∧ Q_rm_sinit4_2 Z t1 a1 ka cs c1 c2 h0 n0 v U'.heap L ∧ FrameEnd U o U' L ({ frames := 2, cells := 1, slots := 2, locals := 35 } : Room).cells ({ frames := 2, cells := 1, slots := 2, locals := 35 } : Room).slots) := by
  refine MetFree.of_bodySF (plainFor_of_name own_pn_java_lang_String) hisR ?_
  intro p e s m args below meth c s₁ Bd hml0 hP hK
  obtain ⟨rfl, hZ, hh⟩ := hP
  have hx := Bd.exec
  have hby := Bd.bytes
  have hml : c.maxLocals = 6 := hml0
  have hown : s.vm.findClass s11_ = some m.cls := findClass_of_methodNamed Bd.named
  have hnm := (name_of_methodNamed Bd.named Bd.method).1
  have X0 : Stand p l e ({ frames := 2, cells := 1, slots := 2, locals := 35 } : Room) s m #[(.ref t1), (.ref a1), (.int (0 : Int32)), (.int (2 : Int32)), .null] below meth c s₁ [] 0 0 := Stand.of_body Bd
  have e0 : s₁.heap = h0 := by rw [← hh, Bd.state]; rfl
  have N0 := Fr.nil n0
  have Z0 : n0 ≤ h0.size := by rw [← O0.1]; exact O0.2.1
  show own_Go p e below (s₁.setTop (entryFrame m #[(.ref t1), (.ref a1), (.int (0 : Int32)), (.int (2 : Int32)), .null] 6)) (fun t o => ∃ v L, o = .returned v ∧ Q_rm_sinit4_2 Z t1 a1 ka cs c1 c2 h0 n0 v t.heap L ∧ FrameEnd s o t L ({ frames := 2, cells := 1, slots := 2, locals := 35 } : Room).cells ({ frames := 2, cells := 1, slots := 2, locals := 35 } : Room).slots)
  rw [ef_rm_sinit4_2 m t1 a1 ka cs c1 c2]
  have lt_Et : h0.size > t1 := Et.lt
  have lt_Fv : h0.size > t1 := Fv.lt
  have lt_Fc : h0.size > t1 := Fc.lt
  have lt_Va : h0.size > a1 := Va.lt
  refine own_by (fun _ k => XS.aloadN X0.here hx rfl (hb hby D6_0) rfl rfl k) ?_
  obtain ⟨T1, X1, e1, st1⟩ := initO X0 hx hZ hown (own_w hw 45 rfl) (own_w hw 46 rfl) (own_w hw 47 rfl) e0 (g := (mkF m 1 #[.val (.ref t1), .val (.ref a1), .val (.int (0 : Int32)), .val (.int (2 : Int32)), .val .null, .unset] [(.ref t1)])) rfl (by rw [hml]; rfl) rfl (hb hby D6_1) (by decide) (W := 0) (by show 2 * 0 + _ ≤ _; exact Nat.le_of_eq rfl) (by decide)
  refine own_by st1 ?_
  refine own_by (fun _ k => XS.iloadN X1.here hx rfl (hb hby D6_4) rfl k) ?_
  refine own_by (fun _ k => XS.ifYes X1.here hx rfl (pc0 := 5) (pc' := 27) rfl (hb hby D6_5) rfl ((if0 _ _).trans (feq (by decide : ¬ ((2 : Int32) = (0 : Int32)))).2) (by decide) (by decide) k) ?_
  show own_Go p e below (T1.setTop (mkF m 27 #[.val (.ref t1), .val (.ref a1), .val (.int (0 : Int32)), .val (.int (2 : Int32)), .val .null, .unset] [])) _
  obtain ⟨T2, X2, e2, st2⟩ := getS2 X1 hx hZ hown (host := "") (Or.inl (own_w hw 48 rfl)) Via.refl e1 (S_COMPACT.ext O0.2) (g := (mkF m 27 #[.val (.ref t1), .val (.ref a1), .val (.int (0 : Int32)), .val (.int (2 : Int32)), .val .null, .unset] [])) rfl (hb hby D6_27)
  refine own_by st2 ?_
  refine own_by (fun _ k => XS.ifNo X2.here hx rfl (hb hby D6_30) rfl ((if0 _ _).trans (feq hcs).1) k) ?_
  show own_Go p e below (T2.setTop (mkF m 33 #[.val (.ref t1), .val (.ref a1), .val (.int (0 : Int32)), .val (.int (2 : Int32)), .val .null, .unset] [])) _
  refine own_by (fun _ k => XS.aloadN X2.here hx rfl (hb hby D6_33) rfl rfl k) ?_
  refine own_by (fun _ k => XS.iloadN X2.here hx rfl (hb hby D6_34) rfl k) ?_
  refine own_by (fun _ k => XS.iloadN X2.here hx rfl (hb hby D6_35) rfl k) ?_
  obtain ⟨_, _, ⟨T3, L3, k3, n3⟩, -, X3, ⟨Lc3, hQ3, l3, y3, z3⟩, st3⟩ := Jvm.LawKit.callS X2 hx (y := (⟨s16_, "compress", "([CII)[B"⟩ : MethodName)) hown (mvT hZ (own_w hw 49 rfl)) (mvT hZ (own_w hw 50 rfl)) (mvT hZ (own_w hw 51 rfl)) (mvT hZ (own_w hw 52 rfl)) (by decide) (backOf (W := 0) (rm_comp3_2 l Z a0 hw [] a1 ka c1 c2 h0 n0 O0 Va rc1 rc2) hZ (own_w hw 52 rfl) (own_w hw 51 rfl) (by decide) (by decide)) (g := (mkF m 36 #[.val (.ref t1), .val (.ref a1), .val (.int (0 : Int32)), .val (.int (2 : Int32)), .val .null, .unset] [(.int (2 : Int32)), (.int (0 : Int32)), (.ref a1)])) rfl (by rw [hml]; rfl) (argsL := [(.ref a1), (.int (0 : Int32)), (.int (2 : Int32))]) (rest := []) (lenOf own_pd__28_5bCII_29_5bB rfl) rfl (by show 2 * 0 + _ ≤ _; exact Nat.le_of_eq rfl) (hb hby D6_36) (fun _ _ => ⟨rfl, e2, (by decide : 0 + 1 ≤ _), (by decide : 0 + 2 ≤ _)⟩)
  dsimp only [Pt.U, Pt.locs, Pt.cells, Pt.slots] at X3 l3 y3 z3 st3 hQ3
  subst l3 y3 z3
  obtain ⟨b_3, kb_3, rfl, M3, K3, g3_0, r3_0⟩ := hQ3
  have N3 := Fr.app N0 M3
  refine own_by st3 ?_
  have z3 := K3.1
  have lt_g3_0 : T3.heap.size > b_3 := g3_0.lt
  refine own_by (fun _ k => XS.astore X3.here hx rfl (hb hby D6_39) rfl rfl (l' := #[.val (.ref t1), .val (.ref a1), .val (.int (0 : Int32)), .val (.int (2 : Int32)), .val .null, .val (.ref b_3)]) rfl k) ?_
  refine own_by (fun _ k => XS.aloadN X3.here hx rfl (hb hby D6_41) rfl rfl k) ?_
  show own_Go p e below (T3.setTop (mkF m 42 #[.val (.ref t1), .val (.ref a1), .val (.int (0 : Int32)), .val (.int (2 : Int32)), .val .null, .val (.ref b_3)] [(.ref t1)])) _
  refine own_by (fun _ k => XS.aload X3.here hx rfl (hb hby D6_42) rfl rfl k) ?_
  refine own_by (fun _ k => XS.iloadN X3.here hx rfl (hb hby D6_44) rfl k) ?_
  have O4 : Old Z n0 T3.heap := (O0.keep K3 all0)
  obtain ⟨_, _, ⟨T5, L5, k5, n5⟩, -, X5, ⟨Lc5, hQ5, l5, y5, z5⟩, st5⟩ := Jvm.LawKit.callS X3 hx (y := (⟨s16_, s17_, "([BI)B"⟩ : MethodName)) hown (mvT hZ (own_w hw 57 rfl)) (mvT hZ (own_w hw 58 rfl)) (mvT hZ (own_w hw 51 rfl)) (mvT hZ (own_w hw 59 rfl)) (by decide) (backOf (W := 1) (rm_cfal_2 l Z a0 hw [] b_3 kb_3 (own_b c1) (own_b c2) T3.heap n0 O4 g3_0) hZ (own_w hw 59 rfl) (own_w hw 51 rfl) (by decide) (by decide)) (g := (mkF m 45 #[.val (.ref t1), .val (.ref a1), .val (.int (0 : Int32)), .val (.int (2 : Int32)), .val .null, .val (.ref b_3)] [(.int (2 : Int32)), (.ref b_3), (.ref t1)])) rfl (by rw [hml]; rfl) (argsL := [(.ref b_3), (.int (2 : Int32))]) (rest := [(.ref t1)]) (lenOf own_pd__28_5bBI_29B rfl) rfl (by show 2 * 0 + _ ≤ _; exact Nat.le_of_eq rfl) (hb hby D6_45) (fun _ _ => ⟨rfl, rfl, (by decide : 1 + 0 ≤ _), (by decide : 2 + 0 ≤ _)⟩)
  dsimp only [Pt.U, Pt.locs, Pt.cells, Pt.slots] at X5 l5 y5 z5 st5 hQ5
  subst l5 y5 z5
  obtain ⟨rfl, M5, K5⟩ := hQ5
  have N5 := Fr.app N3 M5
  refine own_by st5 ?_
  have fc6 : Fld Z T3.heap t1 s11_ "coder" "B" (.int (0 : Int32)) := (Fc.keep K3 nin0)
  have fc7 : Exa Z T3.heap t1 s11_ := (Et.keep K3)
  obtain ⟨T8, h8, X8, e8, W8, st8⟩ := putFN X5 hx hZ hown (own_w hw 60 rfl) Via.refl K5 fc6 fc7 (Or.inr ⟨(own_w hw 61 rfl), rfl, hnm⟩) (own_w hw 37 rfl) (ty := .byte) (v' := (.int (0 : Int32))) (by decide) rfl rfl (g := (mkF m 48 #[.val (.ref t1), .val (.ref a1), .val (.int (0 : Int32)), .val (.int (2 : Int32)), .val .null, .val (.ref b_3)] [(.int (0 : Int32)), (.ref t1)])) rfl rfl (hb hby D6_48)
  refine own_by st8 ?_
  have z8 := W8.size
  have N8 := Fr.snoc X8 N5 (by omega)
  have Fw8 : Fld Z h8 t1 s11_ "coder" "B" (.int (0 : Int32)) := fc6.same W8
  refine own_by (fun _ k => XS.aloadN X8.here hx rfl (hb hby D6_51) rfl rfl k) ?_
  refine own_by (fun _ k => XS.aload X8.here hx rfl (hb hby D6_52) rfl rfl k) ?_
  show own_Go p e below (T8.setTop (mkF m 54 #[.val (.ref t1), .val (.ref a1), .val (.int (0 : Int32)), .val (.int (2 : Int32)), .val .null, .val (.ref b_3)] [(.ref b_3), (.ref t1)])) _
  have fc9 : Fld Z h8 t1 s11_ "value" "[B" .null := ((Fv.keep K3 nin0).other W8 (Or.inr (slot_ne (a0 := a0) (Or.inr (own_w hw 63 rfl)) (Or.inr (own_w hw 61 rfl)) (by decide) (t := (.array .byte)) (by decide) (t' := .byte) (by decide))))
  have fc10 : Exa Z h8 t1 s11_ := (fc7.wr W8)
  obtain ⟨T11, h11, X11, e11, W11, st11⟩ := putF X8 hx hZ hown (host := "") (Or.inl (own_w hw 62 rfl)) Via.refl e8 fc9 fc10 (Or.inr ⟨(own_w hw 63 rfl), rfl, hnm⟩) (own_w hw 37 rfl) (ty := (.array .byte)) (by decide) rfl rfl (g := (mkF m 54 #[.val (.ref t1), .val (.ref a1), .val (.int (0 : Int32)), .val (.int (2 : Int32)), .val .null, .val (.ref b_3)] [(.ref b_3), (.ref t1)])) rfl rfl (hb hby D6_54)
  refine own_by st11 ?_
  have z11 := W11.size
  have N11 := Fr.snoc X11 N8 (by omega)
  have Fw11 : Fld Z h11 t1 s11_ "value" "[B" (.ref b_3) := fc9.same W11
  have fc12 : Exa Z h11 t1 s11_ := (fc10.wr W11)
  have fc13 : Fld Z h11 t1 s11_ "coder" "B" (.int (0 : Int32)) := (Fw8.other W11 (Or.inr (slot_ne (a0 := a0) (Or.inr (own_w hw 61 rfl)) (Or.inr (own_w hw 63 rfl)) (by decide) (t := .byte) (by decide) (t' := (.array .byte)) (by decide))))
  have fc14 : Arv Z h11 b_3 kb_3 .byte (2 : Int32) [(.int (own_b c1)), (.int (own_b c2))] (.int (0 : Int32)) := ((g3_0.other W8 (own_ne (by omega))).other W11 (own_ne (by omega)))
  have K15 : Keep h0 h11 [t1] := ((((Keep.refl h0 [t1]).trans K3 all0).wr W8 (Or.inl (List.mem_of_getElem? (i := 0) rfl))).wr W11 (Or.inl (List.mem_of_getElem? (i := 0) rfl)))
  obtain ⟨fs, hr, hrun, hended, hW, hsame⟩ := X11.leave (v := none) (fun h => rfl)
  refine ⟨_, _, X11.returnOut hx Bd.returns (hb hby D6_57) hr, hrun, hended, _, _, rfl, ?_, ⟨_, rfl⟩, hW, hsame.mono (by decide) (by decide)⟩
  show Q_rm_sinit4_2 Z t1 a1 ka cs c1 c2 h0 n0 _ T11.heap _
  rw [e11]
  exact ⟨b_3, kb_3, rfl, N11, K15, fc12, fc13, Fw11, fc14, (by first | assumption | omega)⟩
def Q_rm_sinit_2 (Z : State) (t1 : Addr) (a1 : Addr) (ka : ClassId) (cs : Int32) (c1 : Int32) (c2 : Int32) (h0 : Heap) (n0 : Nat) (v : Option Value) (h : Heap) (L : List Loc) : Prop := ∃ (b : Addr), ∃ (kb : ClassId), v = none ∧ Fr n0 L ∧ Keep h0 h [t1] ∧ Exa Z h t1 s11_ ∧ Fld Z h t1 s11_ "coder" "B" (.int (0 : Int32)) ∧ Fld Z h t1 s11_ "value" "[B" (.ref b) ∧ Arv Z h b kb .byte (2 : Int32) [(.int (own_b c1)), (.int (own_b c2))] (.int (0 : Int32)) ∧ h0.size ≤ b
theorem ef_rm_sinit_2 (m : MethodId) (t1 : Addr) (a1 : Addr) (ka : ClassId) (cs : Int32) (c1 : Int32) (c2 : Int32) : entryFrame m #[(.ref t1), (.ref a1)] 2 = mkF m 0 #[.val (.ref t1), .val (.ref a1)] [] := by first | (simp [entryFrame, mkF, argsToLocals, Value.category]; done) | rfl
set_option maxRecDepth 65536 in
set_option maxHeartbeats 40000000 in
theorem rm_sinit_2 (l : Launch) (Z : State) (a0 : Array Value) (hw : ∀ d ∈ tables_1, d.before a0 Z = true) (ws : List Jvm.Cond) (t1 : Addr) (a1 : Addr) (ka : ClassId) (cs : Int32) (c1 : Int32) (c2 : Int32) (h0 : Heap) (n0 : Nat) (O0 : Old Z n0 h0) (S_COMPACT : Sta Z Z.heap s11_ s15_ "Z" (.int cs)) (Et : Exa Z h0 t1 s11_) (Fv : Fld Z h0 t1 s11_ "value" "[B" .null) (Fc : Fld Z h0 t1 s11_ "coder" "B" (.int (0 : Int32))) (Va : Arv Z h0 a1 ka .char (2 : Int32) [(.int c1), (.int c2)] (.int (0 : Int32))) (rc1 : ¬ ((255 : Int32) < c1)) (rc2 : ¬ ((255 : Int32) < c2)) (gt : n0 ≤ t1) (hcs : ¬ (cs = (0 : Int32))) (nta : ¬ (@Eq Nat a1 t1)) :
    MetFree l (⟨s11_, "<init>", "([C)V"⟩ : MethodName) (head1 (Jvm.Cond.code (⟨s11_, "<init>", "([C)V"⟩ : MethodName) jdk_42_method_3_code 2 none :: ws) ({ frames := 3, cells := 1, slots := 2, locals := 52 } : Room)) (fun a U => a = #[(.ref t1), (.ref a1)] ∧ Z.Warmed39 U.vm ∧ U.heap = h0) (fun _ _ _ _ _ => True) (fun _ U o U' => ∃ v L, o = .returned v ∧ Q_rm_sinit_2 Z t1 a1 ka cs c1 c2 h0 n0 v U'.heap L ∧ FrameEnd U o U' L ({ frames := 3, cells := 1, slots := 2, locals := 52 } : Room).cells ({ frames := 3, cells := 1, slots := 2, locals := 52 } : Room).slots) := by
  refine MetFree.of_bodySF (plainFor_of_name own_pn_java_lang_String) hisR ?_
  intro p e s m args below meth c s₁ Bd hml0 hP hK
  obtain ⟨rfl, hZ, hh⟩ := hP
  have hx := Bd.exec
  have hby := Bd.bytes
  have hml : c.maxLocals = 2 := hml0
  have hown : s.vm.findClass s11_ = some m.cls := findClass_of_methodNamed Bd.named
  have hnm := (name_of_methodNamed Bd.named Bd.method).1
  have X0 : Stand p l e ({ frames := 3, cells := 1, slots := 2, locals := 52 } : Room) s m #[(.ref t1), (.ref a1)] below meth c s₁ [] 0 0 := Stand.of_body Bd
  have e0 : s₁.heap = h0 := by rw [← hh, Bd.state]; rfl
  have N0 := Fr.nil n0
  have Z0 : n0 ≤ h0.size := by rw [← O0.1]; exact O0.2.1
  show own_Go p e below (s₁.setTop (entryFrame m #[(.ref t1), (.ref a1)] 2)) (fun t o => ∃ v L, o = .returned v ∧ Q_rm_sinit_2 Z t1 a1 ka cs c1 c2 h0 n0 v t.heap L ∧ FrameEnd s o t L ({ frames := 3, cells := 1, slots := 2, locals := 52 } : Room).cells ({ frames := 3, cells := 1, slots := 2, locals := 52 } : Room).slots)
  rw [ef_rm_sinit_2 m t1 a1 ka cs c1 c2]
  have lt_Et : h0.size > t1 := Et.lt
  have lt_Fv : h0.size > t1 := Fv.lt
  have lt_Fc : h0.size > t1 := Fc.lt
  have lt_Va : h0.size > a1 := Va.lt
  refine own_by (fun _ k => XS.aloadN X0.here hx rfl (hb hby D5_0) rfl rfl k) ?_
  refine own_by (fun _ k => XS.aloadN X0.here hx rfl (hb hby D5_1) rfl rfl k) ?_
  refine own_by (fun _ k => XS.iconst X0.here hx rfl (hb hby D5_2) k) ?_
  refine own_by (fun _ k => XS.aloadN X0.here hx rfl (hb hby D5_3) rfl rfl k) ?_
  obtain ⟨cl1, Ar1, q1, S1, M1, H1, G1⟩ := (id Va)
  refine own_by (X0.arraylength hx (by rw [e0]; exact Ar1.1) (State.isArrayOf_alike hZ.alike Ar1.2.1) (g := (mkF m 4 #[.val (.ref t1), .val (.ref a1)] [(.ref a1), (.int (0 : Int32)), (.ref a1), (.ref t1)])) rfl rfl (hb hby D5_4)) ?_
  rw [len_of S1 M1]
  refine own_by (fun _ k => XS.aconstNull X0.here hx rfl (hb hby D5_5) k) ?_
  show own_Go p e below (s₁.setTop (mkF m 6 #[.val (.ref t1), .val (.ref a1)] [.null, (.int (2 : Int32)), (.int (0 : Int32)), (.ref a1), (.ref t1)])) _
  obtain ⟨_, _, ⟨T2, L2, k2, n2⟩, -, X2, ⟨Lc2, hQ2, l2, y2, z2⟩, st2⟩ := X0.specialBack hx (y := (⟨s11_, "<init>", s14_⟩ : MethodName)) rfl hown (mvT hZ (own_w hw 41 rfl)) (mvT hZ (own_w hw 42 rfl)) (mvT hZ (own_w hw 44 rfl)) (by decide) (backOf (W := 0) (rm_sinit4_2 l Z a0 hw [] t1 a1 ka cs c1 c2 h0 n0 O0 S_COMPACT Et Fv Fc Va rc1 rc2 gt hcs nta) hZ (own_w hw 44 rfl) (own_w hw 30 rfl) (by decide) (by decide)) (g := (mkF m 6 #[.val (.ref t1), .val (.ref a1)] [.null, (.int (2 : Int32)), (.int (0 : Int32)), (.ref a1), (.ref t1)])) rfl (by rw [hml]; rfl) (Steps.refl _) (a := t1) (argsL := [(.ref a1), (.int (0 : Int32)), (.int (2 : Int32)), .null]) (rest := []) (lenOf own_pd__28_5bCIILjava_2flang_2fVoid_3b_29V rfl) rfl (by show 2 * 0 + _ ≤ _; exact Nat.le_of_eq rfl) (hb hby D5_6) (fun _ _ => ⟨rfl, e0, (by decide : 0 + 1 ≤ _), (by decide : 0 + 2 ≤ _)⟩)
  dsimp only [Pt.U, Pt.locs, Pt.cells, Pt.slots] at X2 l2 y2 z2 st2 hQ2
  subst l2 y2 z2
  obtain ⟨b_2, kb_2, rfl, M2, K2, g2_0, g2_1, g2_2, g2_3, r2_0⟩ := hQ2
  have N2 := Fr.app N0 M2
  refine own_by (fun _ k => st2.trans k) ?_
  have z2 := K2.1
  have lt_g2_0 : T2.heap.size > t1 := g2_0.lt
  have lt_g2_1 : T2.heap.size > t1 := g2_1.lt
  have lt_g2_2 : T2.heap.size > t1 := g2_2.lt
  have lt_g2_3 : T2.heap.size > b_2 := g2_3.lt
  have K3 : Keep h0 T2.heap [t1] := ((Keep.refl h0 [t1]).trans K2 (allS (P := fun x => x ∈ [t1] ∨ h0.size ≤ x) (Or.inl (List.mem_of_getElem? (i := 0) rfl)) all0))
  obtain ⟨fs, hr, hrun, hended, hW, hsame⟩ := X2.leave (v := none) (fun h => rfl)
  refine ⟨_, _, X2.returnOut hx Bd.returns (hb hby D5_9) hr, hrun, hended, _, _, rfl, ?_, ⟨_, rfl⟩, hW, hsame.mono (by decide) (by decide)⟩
  show Q_rm_sinit_2 Z t1 a1 ka cs c1 c2 h0 n0 _ T2.heap _
  exact ⟨b_2, kb_2, rfl, N2, K3, g2_0, g2_1, g2_2, g2_3, (by first | assumption | omega)⟩
def Q_rm_comp5_3 (Z : State) (a1 : Addr) (b : Addr) (ka : ClassId) (kb : ClassId) (c1 : Int32) (c2 : Int32) (c3 : Int32) (h0 : Heap) (n0 : Nat) (v : Option Value) (h : Heap) (L : List Loc) : Prop := v = some (.int (3 : Int32)) ∧ Fr n0 L ∧ Keep h0 h [b] ∧ Arv Z h b kb .byte (3 : Int32) [(.int (own_b c1)), (.int (own_b c2)), (.int (own_b c3))] (.int (0 : Int32))
theorem ef_rm_comp5_3 (m : MethodId) (a1 : Addr) (b : Addr) (ka : ClassId) (kb : ClassId) (c1 : Int32) (c2 : Int32) (c3 : Int32) : entryFrame m #[(.ref a1), (.int (0 : Int32)), (.ref b), (.int (0 : Int32)), (.int (3 : Int32))] 7 = mkF m 0 #[.val (.ref a1), .val (.int (0 : Int32)), .val (.ref b), .val (.int (0 : Int32)), .val (.int (3 : Int32)), .unset, .unset] [] := by first | (simp [entryFrame, mkF, argsToLocals, Value.category]; done) | rfl
set_option maxRecDepth 65536 in
set_option maxHeartbeats 40000000 in
theorem rm_comp5_3 (l : Launch) (Z : State) (a0 : Array Value) (hw : ∀ d ∈ tables_1, d.before a0 Z = true) (ws : List Jvm.Cond) (a1 : Addr) (b : Addr) (ka : ClassId) (kb : ClassId) (c1 : Int32) (c2 : Int32) (c3 : Int32) (h0 : Heap) (n0 : Nat) (O0 : Old Z n0 h0) (Va : Arv Z h0 a1 ka .char (3 : Int32) [(.int c1), (.int c2), (.int c3)] (.int (0 : Int32))) (Vb : Arv Z h0 b kb .byte (3 : Int32) [] (.int (0 : Int32))) (rc1 : ¬ ((255 : Int32) < c1)) (rc2 : ¬ ((255 : Int32) < c2)) (rc3 : ¬ ((255 : Int32) < c3)) (gb : n0 ≤ b) (nab : ¬ (@Eq Nat a1 b)) :
    MetFree l (⟨s16_, "compress", "([CI[BII)I"⟩ : MethodName) (head1 (Jvm.Cond.code (⟨s16_, "compress", "([CI[BII)I"⟩ : MethodName) jdk_52_method_21_code 7 (some .int) :: ws) ({ frames := 0, cells := 0, slots := 0, locals := 0 } : Room)) (fun a U => a = #[(.ref a1), (.int (0 : Int32)), (.ref b), (.int (0 : Int32)), (.int (3 : Int32))] ∧ Z.Warmed39 U.vm ∧ U.heap = h0) (fun _ _ _ _ _ => True) (fun _ U o U' => ∃ v L, o = .returned v ∧ Q_rm_comp5_3 Z a1 b ka kb c1 c2 c3 h0 n0 v U'.heap L ∧ FrameEnd U o U' L ({ frames := 0, cells := 0, slots := 0, locals := 0 } : Room).cells ({ frames := 0, cells := 0, slots := 0, locals := 0 } : Room).slots) := by
  refine MetFree.of_bodySF (plainFor_of_name own_pn_java_lang_StringUTF16) hisR ?_
  intro p e s m args below meth c s₁ Bd hml0 hP hK
  obtain ⟨rfl, hZ, hh⟩ := hP
  have hx := Bd.exec
  have hby := Bd.bytes
  have hml : c.maxLocals = 7 := hml0
  have hown : s.vm.findClass s16_ = some m.cls := findClass_of_methodNamed Bd.named
  have hnm := (name_of_methodNamed Bd.named Bd.method).1
  have X0 : Stand p l e ({ frames := 0, cells := 0, slots := 0, locals := 0 } : Room) s m #[(.ref a1), (.int (0 : Int32)), (.ref b), (.int (0 : Int32)), (.int (3 : Int32))] below meth c s₁ [] 0 0 := Stand.of_body Bd
  have e0 : s₁.heap = h0 := by rw [← hh, Bd.state]; rfl
  have N0 := Fr.nil n0
  have Z0 : n0 ≤ h0.size := by rw [← O0.1]; exact O0.2.1
  show own_Go p e below (s₁.setTop (entryFrame m #[(.ref a1), (.int (0 : Int32)), (.ref b), (.int (0 : Int32)), (.int (3 : Int32))] 7)) (fun t o => ∃ v L, o = .returned v ∧ Q_rm_comp5_3 Z a1 b ka kb c1 c2 c3 h0 n0 v t.heap L ∧ FrameEnd s o t L ({ frames := 0, cells := 0, slots := 0, locals := 0 } : Room).cells ({ frames := 0, cells := 0, slots := 0, locals := 0 } : Room).slots)
  rw [ef_rm_comp5_3 m a1 b ka kb c1 c2 c3]
  have lt_Va : h0.size > a1 := Va.lt
  have lt_Vb : h0.size > b := Vb.lt
  refine own_by (fun _ k => XS.iconst X0.here hx rfl (hb hby D9_0) k) ?_
  refine own_by (fun _ k => XS.istore X0.here hx rfl (hb hby D9_1) rfl (l' := #[.val (.ref a1), .val (.int (0 : Int32)), .val (.ref b), .val (.int (0 : Int32)), .val (.int (3 : Int32)), .val (.int (0 : Int32)), .unset]) rfl k) ?_
  refine own_by (fun _ k => XS.iload X0.here hx rfl (hb hby D9_3) rfl k) ?_
  refine own_by (fun _ k => XS.iload X0.here hx rfl (hb hby D9_5) rfl k) ?_
  refine own_by (fun _ k => XS.icmpNo X0.here hx rfl (hb hby D9_7) rfl (tlt (by decide : (0 : Int32) < (3 : Int32))).2.1 k) ?_
  show own_Go p e below (s₁.setTop (mkF m 10 #[.val (.ref a1), .val (.int (0 : Int32)), .val (.ref b), .val (.int (0 : Int32)), .val (.int (3 : Int32)), .val (.int (0 : Int32)), .unset] [])) _
  refine own_by (fun _ k => XS.aloadN X0.here hx rfl (hb hby D9_10) rfl rfl k) ?_
  refine own_by (fun _ k => XS.iloadN X0.here hx rfl (hb hby D9_11) rfl k) ?_
  obtain ⟨cl1, Ar1, q1, S1, M1, H1, G1⟩ := (id Va)
  have hin1 : ¬ ((0 : Int32) < 0 ∨ cl1.slots.size ≤ ((0 : Int32)).toNatClampNeg) := inb_of S1 ⟨by decide, by decide⟩
  refine own_by (X0.caload hx (j := (0 : Int32)) (v := (.int c1)) (by rw [e0]; exact Ar1.1) (State.isArrayOf_alike hZ.alike Ar1.2.1) Ar1.2.2 hin1 (H1.at hin1 rfl) (g := (mkF m 12 #[.val (.ref a1), .val (.int (0 : Int32)), .val (.ref b), .val (.int (0 : Int32)), .val (.int (3 : Int32)), .val (.int (0 : Int32)), .unset] [(.int (0 : Int32)), (.ref a1)])) rfl rfl (hb hby D9_12)) ?_
  refine own_by (fun _ k => XS.istore X0.here hx rfl (hb hby D9_13) rfl (l' := #[.val (.ref a1), .val (.int (0 : Int32)), .val (.ref b), .val (.int (0 : Int32)), .val (.int (3 : Int32)), .val (.int (0 : Int32)), .val (.int c1)]) rfl k) ?_
  refine own_by (fun _ k => XS.iload X0.here hx rfl (hb hby D9_15) rfl k) ?_
  refine own_by (fun _ k => XS.sipush X0.here hx rfl (hb hby D9_17) k) ?_
  show own_Go p e below (s₁.setTop (mkF m 20 #[.val (.ref a1), .val (.int (0 : Int32)), .val (.ref b), .val (.int (0 : Int32)), .val (.int (3 : Int32)), .val (.int (0 : Int32)), .val (.int c1)] [(.int (255 : Int32)), (.int c1)])) _
  refine own_by (fun _ k => XS.icmpYes X0.here hx rfl (pc0 := 20) (pc' := 26) rfl (hb hby D9_20) rfl (flt rc1).2.2.2 (by decide) (by decide) k) ?_
  show own_Go p e below (s₁.setTop (mkF m 26 #[.val (.ref a1), .val (.int (0 : Int32)), .val (.ref b), .val (.int (0 : Int32)), .val (.int (3 : Int32)), .val (.int (0 : Int32)), .val (.int c1)] [])) _
  refine own_by (fun _ k => XS.aloadN X0.here hx rfl (hb hby D9_26) rfl rfl k) ?_
  refine own_by (fun _ k => XS.iloadN X0.here hx rfl (hb hby D9_27) rfl k) ?_
  refine own_by (fun _ k => XS.iload X0.here hx rfl (hb hby D9_28) rfl k) ?_
  refine own_by (fun _ k => XS.i2b X0.here hx rfl (hb hby D9_30) rfl k) ?_
  have Vw2 : Arv Z h0 b kb .byte (3 : Int32) [(.int (0 : Int32))] (.int (0 : Int32)) := Vb.pad (pad_rep [] (.int (0 : Int32)) 1)
  obtain ⟨cl3, Ar3, q3, S3, M3, H3, G3⟩ := (id Vw2)
  have hin3 : ¬ ((0 : Int32) < 0 ∨ cl3.slots.size ≤ ((0 : Int32)).toNatClampNeg) := inb_of S3 ⟨by decide, by decide⟩
  obtain ⟨T3, h3, X3, e3, W3, st3⟩ := stB X0 hx hZ e0 Ar3 (j := (0 : Int32)) hin3 (g := (mkF m 31 #[.val (.ref a1), .val (.int (0 : Int32)), .val (.ref b), .val (.int (0 : Int32)), .val (.int (3 : Int32)), .val (.int (0 : Int32)), .val (.int c1)] [(.int (c1.toInt8.toInt32)), (.int (0 : Int32)), (.ref b)])) rfl rfl (hb hby D9_31)
  refine own_by st3 ?_
  have z3 := W3.size
  have N3 := Fr.snoc X3 N0 (by omega)
  have Vw3 : Arv Z h3 b kb .byte (3 : Int32) [(.int (own_b c1))] (.int (0 : Int32)) := Arv.set Ar3 q3 S3 M3 H3 G3 (fits_nar_byte2 _) W3 0 rfl (Nat.le_of_ble_eq_true rfl)
  refine own_by (fun _ k => XS.iinc X3.here hx rfl (hb hby D9_32) rfl (l' := #[.val (.ref a1), .val (.int (1 : Int32)), .val (.ref b), .val (.int (0 : Int32)), .val (.int (3 : Int32)), .val (.int (0 : Int32)), .val (.int c1)]) rfl k) ?_
  show own_Go p e below (T3.setTop (mkF m 35 #[.val (.ref a1), .val (.int (1 : Int32)), .val (.ref b), .val (.int (0 : Int32)), .val (.int (3 : Int32)), .val (.int (0 : Int32)), .val (.int c1)] [])) _
  refine own_by (fun _ k => XS.iinc X3.here hx rfl (hb hby D9_35) rfl (l' := #[.val (.ref a1), .val (.int (1 : Int32)), .val (.ref b), .val (.int (1 : Int32)), .val (.int (3 : Int32)), .val (.int (0 : Int32)), .val (.int c1)]) rfl k) ?_
  refine own_by (fun _ k => XS.iinc X3.here hx rfl (hb hby D9_38) rfl (l' := #[.val (.ref a1), .val (.int (1 : Int32)), .val (.ref b), .val (.int (1 : Int32)), .val (.int (3 : Int32)), .val (.int (1 : Int32)), .val (.int c1)]) rfl k) ?_
  refine own_by (fun _ k => XS.goto X3.here hx rfl (pc0 := 41) (pc' := 3) rfl (hb hby D9_41) (by decide) (by decide) k) ?_
  refine own_by (fun _ k => XS.iload X3.here hx rfl (hb hby D9_3) rfl k) ?_
  refine own_by (fun _ k => XS.iload X3.here hx rfl (hb hby D9_5) rfl k) ?_
  refine own_by (fun _ k => XS.icmpNo X3.here hx rfl (hb hby D9_7) rfl (tlt (by decide : (1 : Int32) < (3 : Int32))).2.1 k) ?_
  show own_Go p e below (T3.setTop (mkF m 10 #[.val (.ref a1), .val (.int (1 : Int32)), .val (.ref b), .val (.int (1 : Int32)), .val (.int (3 : Int32)), .val (.int (1 : Int32)), .val (.int c1)] [])) _
  refine own_by (fun _ k => XS.aloadN X3.here hx rfl (hb hby D9_10) rfl rfl k) ?_
  refine own_by (fun _ k => XS.iloadN X3.here hx rfl (hb hby D9_11) rfl k) ?_
  have fc4 : Arv Z h3 a1 ka .char (3 : Int32) [(.int c1), (.int c2), (.int c3)] (.int (0 : Int32)) := (Va.other W3 (own_ne (by omega)))
  obtain ⟨cl5, Ar5, q5, S5, M5, H5, G5⟩ := (id fc4)
  have hin5 : ¬ ((1 : Int32) < 0 ∨ cl5.slots.size ≤ ((1 : Int32)).toNatClampNeg) := inb_of S5 ⟨by decide, by decide⟩
  refine own_by (X3.caload hx (j := (1 : Int32)) (v := (.int c2)) (by rw [e3]; exact Ar5.1) (State.isArrayOf_alike hZ.alike Ar5.2.1) Ar5.2.2 hin5 (H5.at hin5 rfl) (g := (mkF m 12 #[.val (.ref a1), .val (.int (1 : Int32)), .val (.ref b), .val (.int (1 : Int32)), .val (.int (3 : Int32)), .val (.int (1 : Int32)), .val (.int c1)] [(.int (1 : Int32)), (.ref a1)])) rfl rfl (hb hby D9_12)) ?_
  refine own_by (fun _ k => XS.istore X3.here hx rfl (hb hby D9_13) rfl (l' := #[.val (.ref a1), .val (.int (1 : Int32)), .val (.ref b), .val (.int (1 : Int32)), .val (.int (3 : Int32)), .val (.int (1 : Int32)), .val (.int c2)]) rfl k) ?_
  refine own_by (fun _ k => XS.iload X3.here hx rfl (hb hby D9_15) rfl k) ?_
  refine own_by (fun _ k => XS.sipush X3.here hx rfl (hb hby D9_17) k) ?_
  show own_Go p e below (T3.setTop (mkF m 20 #[.val (.ref a1), .val (.int (1 : Int32)), .val (.ref b), .val (.int (1 : Int32)), .val (.int (3 : Int32)), .val (.int (1 : Int32)), .val (.int c2)] [(.int (255 : Int32)), (.int c2)])) _
  refine own_by (fun _ k => XS.icmpYes X3.here hx rfl (pc0 := 20) (pc' := 26) rfl (hb hby D9_20) rfl (flt rc2).2.2.2 (by decide) (by decide) k) ?_
  show own_Go p e below (T3.setTop (mkF m 26 #[.val (.ref a1), .val (.int (1 : Int32)), .val (.ref b), .val (.int (1 : Int32)), .val (.int (3 : Int32)), .val (.int (1 : Int32)), .val (.int c2)] [])) _
  refine own_by (fun _ k => XS.aloadN X3.here hx rfl (hb hby D9_26) rfl rfl k) ?_
  refine own_by (fun _ k => XS.iloadN X3.here hx rfl (hb hby D9_27) rfl k) ?_
  refine own_by (fun _ k => XS.iload X3.here hx rfl (hb hby D9_28) rfl k) ?_
  refine own_by (fun _ k => XS.i2b X3.here hx rfl (hb hby D9_30) rfl k) ?_
  have Vw6 : Arv Z h3 b kb .byte (3 : Int32) [(.int (own_b c1)), (.int (0 : Int32))] (.int (0 : Int32)) := Vw3.pad (pad_rep [(.int (own_b c1))] (.int (0 : Int32)) 1)
  obtain ⟨cl7, Ar7, q7, S7, M7, H7, G7⟩ := (id Vw6)
  have hin7 : ¬ ((1 : Int32) < 0 ∨ cl7.slots.size ≤ ((1 : Int32)).toNatClampNeg) := inb_of S7 ⟨by decide, by decide⟩
  obtain ⟨T7, h7, X7, e7, W7, st7⟩ := stB X3 hx hZ e3 Ar7 (j := (1 : Int32)) hin7 (g := (mkF m 31 #[.val (.ref a1), .val (.int (1 : Int32)), .val (.ref b), .val (.int (1 : Int32)), .val (.int (3 : Int32)), .val (.int (1 : Int32)), .val (.int c2)] [(.int (c2.toInt8.toInt32)), (.int (1 : Int32)), (.ref b)])) rfl rfl (hb hby D9_31)
  refine own_by st7 ?_
  have z7 := W7.size
  have N7 := Fr.snoc X7 N3 (by omega)
  have Vw7 : Arv Z h7 b kb .byte (3 : Int32) [(.int (own_b c1)), (.int (own_b c2))] (.int (0 : Int32)) := Arv.set Ar7 q7 S7 M7 H7 G7 (fits_nar_byte2 _) W7 1 rfl (Nat.le_of_ble_eq_true rfl)
  refine own_by (fun _ k => XS.iinc X7.here hx rfl (hb hby D9_32) rfl (l' := #[.val (.ref a1), .val (.int (2 : Int32)), .val (.ref b), .val (.int (1 : Int32)), .val (.int (3 : Int32)), .val (.int (1 : Int32)), .val (.int c2)]) rfl k) ?_
  show own_Go p e below (T7.setTop (mkF m 35 #[.val (.ref a1), .val (.int (2 : Int32)), .val (.ref b), .val (.int (1 : Int32)), .val (.int (3 : Int32)), .val (.int (1 : Int32)), .val (.int c2)] [])) _
  refine own_by (fun _ k => XS.iinc X7.here hx rfl (hb hby D9_35) rfl (l' := #[.val (.ref a1), .val (.int (2 : Int32)), .val (.ref b), .val (.int (2 : Int32)), .val (.int (3 : Int32)), .val (.int (1 : Int32)), .val (.int c2)]) rfl k) ?_
  refine own_by (fun _ k => XS.iinc X7.here hx rfl (hb hby D9_38) rfl (l' := #[.val (.ref a1), .val (.int (2 : Int32)), .val (.ref b), .val (.int (2 : Int32)), .val (.int (3 : Int32)), .val (.int (2 : Int32)), .val (.int c2)]) rfl k) ?_
  refine own_by (fun _ k => XS.goto X7.here hx rfl (pc0 := 41) (pc' := 3) rfl (hb hby D9_41) (by decide) (by decide) k) ?_
  refine own_by (fun _ k => XS.iload X7.here hx rfl (hb hby D9_3) rfl k) ?_
  refine own_by (fun _ k => XS.iload X7.here hx rfl (hb hby D9_5) rfl k) ?_
  refine own_by (fun _ k => XS.icmpNo X7.here hx rfl (hb hby D9_7) rfl (tlt (by decide : (2 : Int32) < (3 : Int32))).2.1 k) ?_
  show own_Go p e below (T7.setTop (mkF m 10 #[.val (.ref a1), .val (.int (2 : Int32)), .val (.ref b), .val (.int (2 : Int32)), .val (.int (3 : Int32)), .val (.int (2 : Int32)), .val (.int c2)] [])) _
  refine own_by (fun _ k => XS.aloadN X7.here hx rfl (hb hby D9_10) rfl rfl k) ?_
  refine own_by (fun _ k => XS.iloadN X7.here hx rfl (hb hby D9_11) rfl k) ?_
  have fc8 : Arv Z h7 a1 ka .char (3 : Int32) [(.int c1), (.int c2), (.int c3)] (.int (0 : Int32)) := (fc4.other W7 (own_ne (by omega)))
  obtain ⟨cl9, Ar9, q9, S9, M9, H9, G9⟩ := (id fc8)
  have hin9 : ¬ ((2 : Int32) < 0 ∨ cl9.slots.size ≤ ((2 : Int32)).toNatClampNeg) := inb_of S9 ⟨by decide, by decide⟩
  refine own_by (X7.caload hx (j := (2 : Int32)) (v := (.int c3)) (by rw [e7]; exact Ar9.1) (State.isArrayOf_alike hZ.alike Ar9.2.1) Ar9.2.2 hin9 (H9.at hin9 rfl) (g := (mkF m 12 #[.val (.ref a1), .val (.int (2 : Int32)), .val (.ref b), .val (.int (2 : Int32)), .val (.int (3 : Int32)), .val (.int (2 : Int32)), .val (.int c2)] [(.int (2 : Int32)), (.ref a1)])) rfl rfl (hb hby D9_12)) ?_
  refine own_by (fun _ k => XS.istore X7.here hx rfl (hb hby D9_13) rfl (l' := #[.val (.ref a1), .val (.int (2 : Int32)), .val (.ref b), .val (.int (2 : Int32)), .val (.int (3 : Int32)), .val (.int (2 : Int32)), .val (.int c3)]) rfl k) ?_
  refine own_by (fun _ k => XS.iload X7.here hx rfl (hb hby D9_15) rfl k) ?_
  refine own_by (fun _ k => XS.sipush X7.here hx rfl (hb hby D9_17) k) ?_
  show own_Go p e below (T7.setTop (mkF m 20 #[.val (.ref a1), .val (.int (2 : Int32)), .val (.ref b), .val (.int (2 : Int32)), .val (.int (3 : Int32)), .val (.int (2 : Int32)), .val (.int c3)] [(.int (255 : Int32)), (.int c3)])) _
  refine own_by (fun _ k => XS.icmpYes X7.here hx rfl (pc0 := 20) (pc' := 26) rfl (hb hby D9_20) rfl (flt rc3).2.2.2 (by decide) (by decide) k) ?_
  show own_Go p e below (T7.setTop (mkF m 26 #[.val (.ref a1), .val (.int (2 : Int32)), .val (.ref b), .val (.int (2 : Int32)), .val (.int (3 : Int32)), .val (.int (2 : Int32)), .val (.int c3)] [])) _
  refine own_by (fun _ k => XS.aloadN X7.here hx rfl (hb hby D9_26) rfl rfl k) ?_
  refine own_by (fun _ k => XS.iloadN X7.here hx rfl (hb hby D9_27) rfl k) ?_
  refine own_by (fun _ k => XS.iload X7.here hx rfl (hb hby D9_28) rfl k) ?_
  refine own_by (fun _ k => XS.i2b X7.here hx rfl (hb hby D9_30) rfl k) ?_
  have Vw10 : Arv Z h7 b kb .byte (3 : Int32) [(.int (own_b c1)), (.int (own_b c2)), (.int (0 : Int32))] (.int (0 : Int32)) := Vw7.pad (pad_rep [(.int (own_b c1)), (.int (own_b c2))] (.int (0 : Int32)) 1)
  obtain ⟨cl11, Ar11, q11, S11, M11, H11, G11⟩ := (id Vw10)
  have hin11 : ¬ ((2 : Int32) < 0 ∨ cl11.slots.size ≤ ((2 : Int32)).toNatClampNeg) := inb_of S11 ⟨by decide, by decide⟩
  obtain ⟨T11, h11, X11, e11, W11, st11⟩ := stB X7 hx hZ e7 Ar11 (j := (2 : Int32)) hin11 (g := (mkF m 31 #[.val (.ref a1), .val (.int (2 : Int32)), .val (.ref b), .val (.int (2 : Int32)), .val (.int (3 : Int32)), .val (.int (2 : Int32)), .val (.int c3)] [(.int (c3.toInt8.toInt32)), (.int (2 : Int32)), (.ref b)])) rfl rfl (hb hby D9_31)
  refine own_by st11 ?_
  have z11 := W11.size
  have N11 := Fr.snoc X11 N7 (by omega)
  have Vw11 : Arv Z h11 b kb .byte (3 : Int32) [(.int (own_b c1)), (.int (own_b c2)), (.int (own_b c3))] (.int (0 : Int32)) := Arv.set Ar11 q11 S11 M11 H11 G11 (fits_nar_byte2 _) W11 2 rfl (Nat.le_of_ble_eq_true rfl)
  refine own_by (fun _ k => XS.iinc X11.here hx rfl (hb hby D9_32) rfl (l' := #[.val (.ref a1), .val (.int (3 : Int32)), .val (.ref b), .val (.int (2 : Int32)), .val (.int (3 : Int32)), .val (.int (2 : Int32)), .val (.int c3)]) rfl k) ?_
  show own_Go p e below (T11.setTop (mkF m 35 #[.val (.ref a1), .val (.int (3 : Int32)), .val (.ref b), .val (.int (2 : Int32)), .val (.int (3 : Int32)), .val (.int (2 : Int32)), .val (.int c3)] [])) _
  refine own_by (fun _ k => XS.iinc X11.here hx rfl (hb hby D9_35) rfl (l' := #[.val (.ref a1), .val (.int (3 : Int32)), .val (.ref b), .val (.int (3 : Int32)), .val (.int (3 : Int32)), .val (.int (2 : Int32)), .val (.int c3)]) rfl k) ?_
  refine own_by (fun _ k => XS.iinc X11.here hx rfl (hb hby D9_38) rfl (l' := #[.val (.ref a1), .val (.int (3 : Int32)), .val (.ref b), .val (.int (3 : Int32)), .val (.int (3 : Int32)), .val (.int (3 : Int32)), .val (.int c3)]) rfl k) ?_
  refine own_by (fun _ k => XS.goto X11.here hx rfl (pc0 := 41) (pc' := 3) rfl (hb hby D9_41) (by decide) (by decide) k) ?_
  refine own_by (fun _ k => XS.iload X11.here hx rfl (hb hby D9_3) rfl k) ?_
  refine own_by (fun _ k => XS.iload X11.here hx rfl (hb hby D9_5) rfl k) ?_
  refine own_by (fun _ k => XS.icmpYes X11.here hx rfl (pc0 := 7) (pc' := 44) rfl (hb hby D9_7) rfl (flt (by decide : ¬ ((3 : Int32) < (3 : Int32)))).2.1 (by decide) (by decide) k) ?_
  show own_Go p e below (T11.setTop (mkF m 44 #[.val (.ref a1), .val (.int (3 : Int32)), .val (.ref b), .val (.int (3 : Int32)), .val (.int (3 : Int32)), .val (.int (3 : Int32)), .val (.int c3)] [])) _
  refine own_by (fun _ k => XS.iload X11.here hx rfl (hb hby D9_44) rfl k) ?_
  have K12 : Keep h0 h11 [b] := ((((Keep.refl h0 [b]).wr W3 (Or.inl (List.mem_of_getElem? (i := 0) rfl))).wr W7 (Or.inl (List.mem_of_getElem? (i := 0) rfl))).wr W11 (Or.inl (List.mem_of_getElem? (i := 0) rfl)))
  obtain ⟨fs, hr, hrun, hended, hW, hsame⟩ := X11.leave (v := some (.int (3 : Int32))) (fun h => by rw [Bd.returns] at h; cases h)
  refine ⟨_, _, retI X11 hx Bd.returns (hb hby D9_46) hr, hrun, hended, _, _, rfl, ?_, ⟨_, rfl⟩, hW, hsame.mono (by decide) (by decide)⟩
  show Q_rm_comp5_3 Z a1 b ka kb c1 c2 c3 h0 n0 _ T11.heap _
  rw [e11]
  exact ⟨rfl, N11, K12, Vw11⟩
def Q_rm_comp3_3 (Z : State) (a1 : Addr) (ka : ClassId) (c1 : Int32) (c2 : Int32) (c3 : Int32) (h0 : Heap) (n0 : Nat) (v : Option Value) (h : Heap) (L : List Loc) : Prop := ∃ (b : Addr), ∃ (kb : ClassId), v = some (.ref b) ∧ Fr n0 L ∧ Keep h0 h [] ∧ Arv Z h b kb .byte (3 : Int32) [(.int (own_b c1)), (.int (own_b c2)), (.int (own_b c3))] (.int (0 : Int32)) ∧ h0.size ≤ b
theorem ef_rm_comp3_3 (m : MethodId) (a1 : Addr) (ka : ClassId) (c1 : Int32) (c2 : Int32) (c3 : Int32) : entryFrame m #[(.ref a1), (.int (0 : Int32)), (.int (3 : Int32))] 6 = mkF m 0 #[.val (.ref a1), .val (.int (0 : Int32)), .val (.int (3 : Int32)), .unset, .unset, .unset] [] := by first | (simp [entryFrame, mkF, argsToLocals, Value.category]; done) | rfl
set_option maxRecDepth 65536 in
set_option maxHeartbeats 40000000 in
theorem rm_comp3_3 (l : Launch) (Z : State) (a0 : Array Value) (hw : ∀ d ∈ tables_1, d.before a0 Z = true) (ws : List Jvm.Cond) (a1 : Addr) (ka : ClassId) (c1 : Int32) (c2 : Int32) (c3 : Int32) (h0 : Heap) (n0 : Nat) (O0 : Old Z n0 h0) (Va : Arv Z h0 a1 ka .char (3 : Int32) [(.int c1), (.int c2), (.int c3)] (.int (0 : Int32))) (rc1 : ¬ ((255 : Int32) < c1)) (rc2 : ¬ ((255 : Int32) < c2)) (rc3 : ¬ ((255 : Int32) < c3)) :
    MetFree l (⟨s16_, "compress", "([CII)[B"⟩ : MethodName) (head1 (Jvm.Cond.code (⟨s16_, "compress", "([CII)[B"⟩ : MethodName) jdk_52_method_16_code 6 (some (.array .byte)) :: ws) ({ frames := 1, cells := 1, slots := 3, locals := 18 } : Room)) (fun a U => a = #[(.ref a1), (.int (0 : Int32)), (.int (3 : Int32))] ∧ Z.Warmed39 U.vm ∧ U.heap = h0) (fun _ _ _ _ _ => True) (fun _ U o U' => ∃ v L, o = .returned v ∧ Q_rm_comp3_3 Z a1 ka c1 c2 c3 h0 n0 v U'.heap L ∧ FrameEnd U o U' L ({ frames := 1, cells := 1, slots := 3, locals := 18 } : Room).cells ({ frames := 1, cells := 1, slots := 3, locals := 18 } : Room).slots) := by
  refine MetFree.of_bodySF (plainFor_of_name own_pn_java_lang_StringUTF16) hisR ?_
  intro p e s m args below meth c s₁ Bd hml0 hP hK
  obtain ⟨rfl, hZ, hh⟩ := hP
  have hx := Bd.exec
  have hby := Bd.bytes
  have hml : c.maxLocals = 6 := hml0
  have hown : s.vm.findClass s16_ = some m.cls := findClass_of_methodNamed Bd.named
  have hnm := (name_of_methodNamed Bd.named Bd.method).1
  have X0 : Stand p l e ({ frames := 1, cells := 1, slots := 3, locals := 18 } : Room) s m #[(.ref a1), (.int (0 : Int32)), (.int (3 : Int32))] below meth c s₁ [] 0 0 := Stand.of_body Bd
  have e0 : s₁.heap = h0 := by rw [← hh, Bd.state]; rfl
  have N0 := Fr.nil n0
  have Z0 : n0 ≤ h0.size := by rw [← O0.1]; exact O0.2.1
  show own_Go p e below (s₁.setTop (entryFrame m #[(.ref a1), (.int (0 : Int32)), (.int (3 : Int32))] 6)) (fun t o => ∃ v L, o = .returned v ∧ Q_rm_comp3_3 Z a1 ka c1 c2 c3 h0 n0 v t.heap L ∧ FrameEnd s o t L ({ frames := 1, cells := 1, slots := 3, locals := 18 } : Room).cells ({ frames := 1, cells := 1, slots := 3, locals := 18 } : Room).slots)
  rw [ef_rm_comp3_3 m a1 ka c1 c2 c3]
  have lt_Va : h0.size > a1 := Va.lt
  refine own_by (fun _ k => XS.iloadN X0.here hx rfl (hb hby D8_0) rfl k) ?_
  obtain ⟨T1, h1, k1, X1, e1, E1, A1, st1⟩ := newP X0 hx hZ (own_w hw 53 rfl) e0 (g := (mkF m 1 #[.val (.ref a1), .val (.int (0 : Int32)), .val (.int (3 : Int32)), .unset, .unset, .unset] [(.int (3 : Int32))])) rfl (hb hby D8_1) rfl (by decide) (cap := 3) (by decide) (by decide) (by decide) (by decide)
  obtain ⟨ob1, g1⟩ : ∃ z, z = h0.size := ⟨_, rfl⟩
  rw [← g1] at A1 st1
  refine own_by st1 ?_
  have z1 := E1.1
  have Vw1 : Arv Z h1 ob1 k1 .byte (3 : Int32) [] (.int (0 : Int32)) := Arv.new A1 (by decide)
  have lt1 : h1.size > ob1 := Vw1.lt
  refine own_by (fun _ k => XS.astoreN X1.here hx rfl (hb hby D8_3) rfl rfl (l' := #[.val (.ref a1), .val (.int (0 : Int32)), .val (.int (3 : Int32)), .val (.ref ob1), .unset, .unset]) rfl k) ?_
  refine own_by (fun _ k => XS.aloadN X1.here hx rfl (hb hby D8_4) rfl rfl k) ?_
  refine own_by (fun _ k => XS.iloadN X1.here hx rfl (hb hby D8_5) rfl k) ?_
  refine own_by (fun _ k => XS.aloadN X1.here hx rfl (hb hby D8_6) rfl rfl k) ?_
  show own_Go p e below (T1.setTop (mkF m 7 #[.val (.ref a1), .val (.int (0 : Int32)), .val (.int (3 : Int32)), .val (.ref ob1), .unset, .unset] [(.ref ob1), (.int (0 : Int32)), (.ref a1)])) _
  refine own_by (fun _ k => XS.iconst X1.here hx rfl (hb hby D8_7) k) ?_
  refine own_by (fun _ k => XS.iloadN X1.here hx rfl (hb hby D8_8) rfl k) ?_
  have fc2 : Arv Z h1 a1 ka .char (3 : Int32) [(.int c1), (.int c2), (.int c3)] (.int (0 : Int32)) := (Va.ext E1)
  have O3 : Old Z n0 h1 := (O0.ext E1)
  obtain ⟨_, _, ⟨T4, L4, k4, n4⟩, -, X4, ⟨Lc4, hQ4, l4, y4, z4⟩, st4⟩ := Jvm.LawKit.callS X1 hx (y := (⟨s16_, "compress", "([CI[BII)I"⟩ : MethodName)) hown (mvT hZ (own_w hw 54 rfl)) (mvT hZ (own_w hw 55 rfl)) (mvT hZ (own_w hw 51 rfl)) (mvT hZ (own_w hw 56 rfl)) (by decide) (backOf (W := 0) (rm_comp5_3 l Z a0 hw [] a1 ob1 ka k1 c1 c2 c3 h1 n0 O3 fc2 Vw1 rc1 rc2 rc3 (by first | assumption | omega | decide) (by first | assumption | omega | decide)) hZ (own_w hw 56 rfl) (own_w hw 51 rfl) (by decide) (by decide)) (g := (mkF m 9 #[.val (.ref a1), .val (.int (0 : Int32)), .val (.int (3 : Int32)), .val (.ref ob1), .unset, .unset] [(.int (3 : Int32)), (.int (0 : Int32)), (.ref ob1), (.int (0 : Int32)), (.ref a1)])) rfl (by rw [hml]; rfl) (argsL := [(.ref a1), (.int (0 : Int32)), (.ref ob1), (.int (0 : Int32)), (.int (3 : Int32))]) (rest := []) (lenOf own_pd__28_5bCI_5bBII_29I rfl) rfl (by show 2 * 0 + _ ≤ _; exact Nat.le_of_eq rfl) (hb hby D8_9) (fun _ _ => ⟨rfl, e1, (by decide : 1 + 0 ≤ _), (by decide : 3 + 0 ≤ _)⟩)
  dsimp only [Pt.U, Pt.locs, Pt.cells, Pt.slots] at X4 l4 y4 z4 st4 hQ4
  subst l4 y4 z4
  obtain ⟨rfl, M4, K4, g4_0⟩ := hQ4
  have N4 := Fr.app N0 M4
  refine own_by st4 ?_
  have z4 := K4.1
  have lt_g4_0 : T4.heap.size > ob1 := g4_0.lt
  refine own_by (fun _ k => XS.istore X4.here hx rfl (hb hby D8_12) rfl (l' := #[.val (.ref a1), .val (.int (0 : Int32)), .val (.int (3 : Int32)), .val (.ref ob1), .val (.int (3 : Int32)), .unset]) rfl k) ?_
  refine own_by (fun _ k => XS.iload X4.here hx rfl (hb hby D8_14) rfl k) ?_
  refine own_by (fun _ k => XS.iloadN X4.here hx rfl (hb hby D8_16) rfl k) ?_
  show own_Go p e below (T4.setTop (mkF m 17 #[.val (.ref a1), .val (.int (0 : Int32)), .val (.int (3 : Int32)), .val (.ref ob1), .val (.int (3 : Int32)), .unset] [(.int (3 : Int32)), (.int (3 : Int32))])) _
  refine own_by (fun _ k => XS.icmpYes X4.here hx rfl (pc0 := 17) (pc' := 57) rfl (hb hby D8_17) rfl (teq (by decide : (3 : Int32) = (3 : Int32))).1 (by decide) (by decide) k) ?_
  show own_Go p e below (T4.setTop (mkF m 57 #[.val (.ref a1), .val (.int (0 : Int32)), .val (.int (3 : Int32)), .val (.ref ob1), .val (.int (3 : Int32)), .unset] [])) _
  refine own_by (fun _ k => XS.aloadN X4.here hx rfl (hb hby D8_57) rfl rfl k) ?_
  have K5 : Keep h0 T4.heap [] := (((Keep.refl h0 []).ext E1).trans K4 (allS (P := fun x => x ∈ [] ∨ h0.size ≤ x) (Or.inr (by omega)) all0))
  obtain ⟨fs, hr, hrun, hended, hW, hsame⟩ := X4.leave (v := some (.ref ob1)) (fun h => by rw [Bd.returns] at h; cases h)
  refine ⟨_, _, retOut X4 hx Bd.returns (own_narrow_ref (by decide) rfl) (Or.inr (Or.inr (Or.inr (Or.inr ⟨rfl, by decide, rfl⟩)))) (hb hby D8_58) hr, hrun, hended, _, _, rfl, ?_, ⟨_, rfl⟩, hW, hsame.mono (by decide) (by decide)⟩
  show Q_rm_comp3_3 Z a1 ka c1 c2 c3 h0 n0 _ T4.heap _
  exact ⟨ob1, k1, rfl, N4, K5, g4_0, (by first | assumption | omega)⟩
def Q_rm_cfal_3 (Z : State) (b : Addr) (kb : ClassId) (d1 : Int32) (d2 : Int32) (d3 : Int32) (h0 : Heap) (n0 : Nat) (v : Option Value) (h : Heap) (L : List Loc) : Prop := v = some (.int (0 : Int32)) ∧ Fr n0 L ∧ h = h0
theorem ef_rm_cfal_3 (m : MethodId) (b : Addr) (kb : ClassId) (d1 : Int32) (d2 : Int32) (d3 : Int32) : entryFrame m #[(.ref b), (.int (3 : Int32))] 2 = mkF m 0 #[.val (.ref b), .val (.int (3 : Int32))] [] := by first | (simp [entryFrame, mkF, argsToLocals, Value.category]; done) | rfl
set_option maxRecDepth 65536 in
set_option maxHeartbeats 40000000 in
theorem rm_cfal_3 (l : Launch) (Z : State) (a0 : Array Value) (hw : ∀ d ∈ tables_1, d.before a0 Z = true) (ws : List Jvm.Cond) (b : Addr) (kb : ClassId) (d1 : Int32) (d2 : Int32) (d3 : Int32) (h0 : Heap) (n0 : Nat) (O0 : Old Z n0 h0) (Vb : Arv Z h0 b kb .byte (3 : Int32) [(.int d1), (.int d2), (.int d3)] (.int (0 : Int32))) :
    MetFree l (⟨s16_, s17_, "([BI)B"⟩ : MethodName) (head1 (Jvm.Cond.code (⟨s16_, s17_, "([BI)B"⟩ : MethodName) jdk_52_method_15_code 2 (some .byte) :: ws) ({ frames := 0, cells := 0, slots := 0, locals := 0 } : Room)) (fun a U => a = #[(.ref b), (.int (3 : Int32))] ∧ Z.Warmed39 U.vm ∧ U.heap = h0) (fun _ _ _ _ _ => True) (fun _ U o U' => ∃ v L, o = .returned v ∧ Q_rm_cfal_3 Z b kb d1 d2 d3 h0 n0 v U'.heap L ∧ FrameEnd U o U' L ({ frames := 0, cells := 0, slots := 0, locals := 0 } : Room).cells ({ frames := 0, cells := 0, slots := 0, locals := 0 } : Room).slots) := by
  refine MetFree.of_bodySF (plainFor_of_name own_pn_java_lang_StringUTF16) hisR ?_
  intro p e s m args below meth c s₁ Bd hml0 hP hK
  obtain ⟨rfl, hZ, hh⟩ := hP
  have hx := Bd.exec
  have hby := Bd.bytes
  have hml : c.maxLocals = 2 := hml0
  have hown : s.vm.findClass s16_ = some m.cls := findClass_of_methodNamed Bd.named
  have hnm := (name_of_methodNamed Bd.named Bd.method).1
  have X0 : Stand p l e ({ frames := 0, cells := 0, slots := 0, locals := 0 } : Room) s m #[(.ref b), (.int (3 : Int32))] below meth c s₁ [] 0 0 := Stand.of_body Bd
  have e0 : s₁.heap = h0 := by rw [← hh, Bd.state]; rfl
  have N0 := Fr.nil n0
  have Z0 : n0 ≤ h0.size := by rw [← O0.1]; exact O0.2.1
  show own_Go p e below (s₁.setTop (entryFrame m #[(.ref b), (.int (3 : Int32))] 2)) (fun t o => ∃ v L, o = .returned v ∧ Q_rm_cfal_3 Z b kb d1 d2 d3 h0 n0 v t.heap L ∧ FrameEnd s o t L ({ frames := 0, cells := 0, slots := 0, locals := 0 } : Room).cells ({ frames := 0, cells := 0, slots := 0, locals := 0 } : Room).slots)
  rw [ef_rm_cfal_3 m b kb d1 d2 d3]
  have lt_Vb : h0.size > b := Vb.lt
  refine own_by (fun _ k => XS.iloadN X0.here hx rfl (hb hby D10_0) rfl k) ?_
  refine own_by (fun _ k => XS.aloadN X0.here hx rfl (hb hby D10_1) rfl rfl k) ?_
  obtain ⟨cl1, Ar1, q1, S1, M1, H1, G1⟩ := (id Vb)
  refine own_by (X0.arraylength hx (by rw [e0]; exact Ar1.1) (State.isArrayOf_alike hZ.alike Ar1.2.1) (g := (mkF m 2 #[.val (.ref b), .val (.int (3 : Int32))] [(.ref b), (.int (3 : Int32))])) rfl rfl (hb hby D10_2)) ?_
  rw [len_of S1 M1]
  refine own_by (fun _ k => XS.isub X0.here hx rfl (hb hby D10_3) rfl k) ?_
  refine own_by (fun _ k => XS.bipush X0.here hx rfl (hb hby D10_4) k) ?_
  refine own_by (fun _ k => XS.iushr X0.here hx rfl (hb hby D10_6) rfl k) ?_
  show own_Go p e below (s₁.setTop (mkF m 7 #[.val (.ref b), .val (.int (3 : Int32))] [(.int (0 : Int32))])) _
  refine own_by (fun _ k => XS.i2b X0.here hx rfl (hb hby D10_7) rfl k) ?_
  obtain ⟨fs, hr, hrun, hended, hW, hsame⟩ := X0.leave (v := some (.int (0 : Int32))) (fun h => by rw [Bd.returns] at h; cases h)
  refine ⟨_, _, retN X0 hx (t := .byte) Bd.returns (by simp) (hb hby D10_8) hr, hrun, hended, _, _, rfl, ?_, ⟨_, rfl⟩, hW, hsame.mono (by decide) (by decide)⟩
  show Q_rm_cfal_3 Z b kb d1 d2 d3 h0 n0 _ s₁.heap _
  rw [e0]
  exact ⟨rfl, N0, rfl⟩
def Q_rm_sinit4_3 (Z : State) (t1 : Addr) (a1 : Addr) (ka : ClassId) (cs : Int32) (c1 : Int32) (c2 : Int32) (c3 : Int32) (h0 : Heap) (n0 : Nat) (v : Option Value) (h : Heap) (L : List Loc) : Prop := ∃ (b : Addr), ∃ (kb : ClassId), v = none ∧ Fr n0 L ∧ Keep h0 h [t1] ∧ Exa Z h t1 s11_ ∧ Fld Z h t1 s11_ "coder" "B" (.int (0 : Int32)) ∧ Fld Z h t1 s11_ "value" "[B" (.ref b) ∧ Arv Z h b kb .byte (3 : Int32) [(.int (own_b c1)), (.int (own_b c2)), (.int (own_b c3))] (.int (0 : Int32)) ∧ h0.size ≤ b
theorem ef_rm_sinit4_3 (m : MethodId) (t1 : Addr) (a1 : Addr) (ka : ClassId) (cs : Int32) (c1 : Int32) (c2 : Int32) (c3 : Int32) : entryFrame m #[(.ref t1), (.ref a1), (.int (0 : Int32)), (.int (3 : Int32)), .null] 6 = mkF m 0 #[.val (.ref t1), .val (.ref a1), .val (.int (0 : Int32)), .val (.int (3 : Int32)), .val .null, .unset] [] := by first | (simp [entryFrame, mkF, argsToLocals, Value.category]; done) | rfl
set_option maxRecDepth 65536 in
set_option maxHeartbeats 40000000 in
theorem rm_sinit4_3 (l : Launch) (Z : State) (a0 : Array Value) (hw : ∀ d ∈ tables_1, d.before a0 Z = true) (ws : List Jvm.Cond) (t1 : Addr) (a1 : Addr) (ka : ClassId) (cs : Int32) (c1 : Int32) (c2 : Int32) (c3 : Int32) (h0 : Heap) (n0 : Nat) (O0 : Old Z n0 h0) (S_COMPACT : Sta Z Z.heap s11_ s15_ "Z" (.int cs)) (Et : Exa Z h0 t1 s11_) (Fv : Fld Z h0 t1 s11_ "value" "[B" .null) (Fc : Fld Z h0 t1 s11_ "coder" "B" (.int (0 : Int32))) (Va : Arv Z h0 a1 ka .char (3 : Int32) [(.int c1), (.int c2), (.int c3)] (.int (0 : Int32))) (rc1 : ¬ ((255 : Int32) < c1)) (rc2 : ¬ ((255 : Int32) < c2)) (rc3 : ¬ ((255 : Int32) < c3)) (gt : n0 ≤ t1) (hcs : ¬ (cs = (0 : Int32))) (nta : ¬ (@Eq Nat a1 t1)) :
    MetFree l (⟨s11_, "<init>", s14_⟩ : MethodName) (head1 (Jvm.Cond.code (⟨s11_, "<init>", s14_⟩ : MethodName) jdk_42_method_149_code 6 none :: ws) ({ frames := 2, cells := 1, slots := 3, locals := 35 } : Room)) (fun a U => a = #[(.ref t1), (.ref a1), (.int (0 : Int32)), (.int (3 : Int32)), .null] ∧ Z.Warmed39 U.vm ∧ U.heap = h0) (fun _ _ _ _ _ => True) (fun _ U o U' => ∃ v L, o = .returned v ∧ Q_rm_sinit4_3 Z t1 a1 ka cs c1 c2 c3 h0 n0 v U'.heap L ∧ FrameEnd U o U' L ({ frames := 2, cells := 1, slots := 3, locals := 35 } : Room).cells ({ frames := 2, cells := 1, slots := 3, locals := 35 } : Room).slots) := by
  refine MetFree.of_bodySF (plainFor_of_name own_pn_java_lang_String) hisR ?_
  intro p e s m args below meth c s₁ Bd hml0 hP hK
  obtain ⟨rfl, hZ, hh⟩ := hP
  have hx := Bd.exec
  have hby := Bd.bytes
  have hml : c.maxLocals = 6 := hml0
  have hown : s.vm.findClass s11_ = some m.cls := findClass_of_methodNamed Bd.named
  have hnm := (name_of_methodNamed Bd.named Bd.method).1
  have X0 : Stand p l e ({ frames := 2, cells := 1, slots := 3, locals := 35 } : Room) s m #[(.ref t1), (.ref a1), (.int (0 : Int32)), (.int (3 : Int32)), .null] below meth c s₁ [] 0 0 := Stand.of_body Bd
  have e0 : s₁.heap = h0 := by rw [← hh, Bd.state]; rfl
  have N0 := Fr.nil n0
  have Z0 : n0 ≤ h0.size := by rw [← O0.1]; exact O0.2.1
  show own_Go p e below (s₁.setTop (entryFrame m #[(.ref t1), (.ref a1), (.int (0 : Int32)), (.int (3 : Int32)), .null] 6)) (fun t o => ∃ v L, o = .returned v ∧ Q_rm_sinit4_3 Z t1 a1 ka cs c1 c2 c3 h0 n0 v t.heap L ∧ FrameEnd s o t L ({ frames := 2, cells := 1, slots := 3, locals := 35 } : Room).cells ({ frames := 2, cells := 1, slots := 3, locals := 35 } : Room).slots)
  rw [ef_rm_sinit4_3 m t1 a1 ka cs c1 c2 c3]
  have lt_Et : h0.size > t1 := Et.lt
  have lt_Fv : h0.size > t1 := Fv.lt
  have lt_Fc : h0.size > t1 := Fc.lt
  have lt_Va : h0.size > a1 := Va.lt
  refine own_by (fun _ k => XS.aloadN X0.here hx rfl (hb hby D6_0) rfl rfl k) ?_
  obtain ⟨T1, X1, e1, st1⟩ := initO X0 hx hZ hown (own_w hw 45 rfl) (own_w hw 46 rfl) (own_w hw 47 rfl) e0 (g := (mkF m 1 #[.val (.ref t1), .val (.ref a1), .val (.int (0 : Int32)), .val (.int (3 : Int32)), .val .null, .unset] [(.ref t1)])) rfl (by rw [hml]; rfl) rfl (hb hby D6_1) (by decide) (W := 0) (by show 2 * 0 + _ ≤ _; exact Nat.le_of_eq rfl) (by decide)
  refine own_by st1 ?_
  refine own_by (fun _ k => XS.iloadN X1.here hx rfl (hb hby D6_4) rfl k) ?_
  refine own_by (fun _ k => XS.ifYes X1.here hx rfl (pc0 := 5) (pc' := 27) rfl (hb hby D6_5) rfl ((if0 _ _).trans (feq (by decide : ¬ ((3 : Int32) = (0 : Int32)))).2) (by decide) (by decide) k) ?_
  show own_Go p e below (T1.setTop (mkF m 27 #[.val (.ref t1), .val (.ref a1), .val (.int (0 : Int32)), .val (.int (3 : Int32)), .val .null, .unset] [])) _
  obtain ⟨T2, X2, e2, st2⟩ := getS2 X1 hx hZ hown (host := "") (Or.inl (own_w hw 48 rfl)) Via.refl e1 (S_COMPACT.ext O0.2) (g := (mkF m 27 #[.val (.ref t1), .val (.ref a1), .val (.int (0 : Int32)), .val (.int (3 : Int32)), .val .null, .unset] [])) rfl (hb hby D6_27)
  refine own_by st2 ?_
  refine own_by (fun _ k => XS.ifNo X2.here hx rfl (hb hby D6_30) rfl ((if0 _ _).trans (feq hcs).1) k) ?_
  show own_Go p e below (T2.setTop (mkF m 33 #[.val (.ref t1), .val (.ref a1), .val (.int (0 : Int32)), .val (.int (3 : Int32)), .val .null, .unset] [])) _
  refine own_by (fun _ k => XS.aloadN X2.here hx rfl (hb hby D6_33) rfl rfl k) ?_
  refine own_by (fun _ k => XS.iloadN X2.here hx rfl (hb hby D6_34) rfl k) ?_
  refine own_by (fun _ k => XS.iloadN X2.here hx rfl (hb hby D6_35) rfl k) ?_
  obtain ⟨_, _, ⟨T3, L3, k3, n3⟩, -, X3, ⟨Lc3, hQ3, l3, y3, z3⟩, st3⟩ := Jvm.LawKit.callS X2 hx (y := (⟨s16_, "compress", "([CII)[B"⟩ : MethodName)) hown (mvT hZ (own_w hw 49 rfl)) (mvT hZ (own_w hw 50 rfl)) (mvT hZ (own_w hw 51 rfl)) (mvT hZ (own_w hw 52 rfl)) (by decide) (backOf (W := 0) (rm_comp3_3 l Z a0 hw [] a1 ka c1 c2 c3 h0 n0 O0 Va rc1 rc2 rc3) hZ (own_w hw 52 rfl) (own_w hw 51 rfl) (by decide) (by decide)) (g := (mkF m 36 #[.val (.ref t1), .val (.ref a1), .val (.int (0 : Int32)), .val (.int (3 : Int32)), .val .null, .unset] [(.int (3 : Int32)), (.int (0 : Int32)), (.ref a1)])) rfl (by rw [hml]; rfl) (argsL := [(.ref a1), (.int (0 : Int32)), (.int (3 : Int32))]) (rest := []) (lenOf own_pd__28_5bCII_29_5bB rfl) rfl (by show 2 * 0 + _ ≤ _; exact Nat.le_of_eq rfl) (hb hby D6_36) (fun _ _ => ⟨rfl, e2, (by decide : 0 + 1 ≤ _), (by decide : 0 + 3 ≤ _)⟩)
  dsimp only [Pt.U, Pt.locs, Pt.cells, Pt.slots] at X3 l3 y3 z3 st3 hQ3
  subst l3 y3 z3
  obtain ⟨b_3, kb_3, rfl, M3, K3, g3_0, r3_0⟩ := hQ3
  have N3 := Fr.app N0 M3
  refine own_by st3 ?_
  have z3 := K3.1
  have lt_g3_0 : T3.heap.size > b_3 := g3_0.lt
  refine own_by (fun _ k => XS.astore X3.here hx rfl (hb hby D6_39) rfl rfl (l' := #[.val (.ref t1), .val (.ref a1), .val (.int (0 : Int32)), .val (.int (3 : Int32)), .val .null, .val (.ref b_3)]) rfl k) ?_
  refine own_by (fun _ k => XS.aloadN X3.here hx rfl (hb hby D6_41) rfl rfl k) ?_
  show own_Go p e below (T3.setTop (mkF m 42 #[.val (.ref t1), .val (.ref a1), .val (.int (0 : Int32)), .val (.int (3 : Int32)), .val .null, .val (.ref b_3)] [(.ref t1)])) _
  refine own_by (fun _ k => XS.aload X3.here hx rfl (hb hby D6_42) rfl rfl k) ?_
  refine own_by (fun _ k => XS.iloadN X3.here hx rfl (hb hby D6_44) rfl k) ?_
  have O4 : Old Z n0 T3.heap := (O0.keep K3 all0)
  obtain ⟨_, _, ⟨T5, L5, k5, n5⟩, -, X5, ⟨Lc5, hQ5, l5, y5, z5⟩, st5⟩ := Jvm.LawKit.callS X3 hx (y := (⟨s16_, s17_, "([BI)B"⟩ : MethodName)) hown (mvT hZ (own_w hw 57 rfl)) (mvT hZ (own_w hw 58 rfl)) (mvT hZ (own_w hw 51 rfl)) (mvT hZ (own_w hw 59 rfl)) (by decide) (backOf (W := 1) (rm_cfal_3 l Z a0 hw [] b_3 kb_3 (own_b c1) (own_b c2) (own_b c3) T3.heap n0 O4 g3_0) hZ (own_w hw 59 rfl) (own_w hw 51 rfl) (by decide) (by decide)) (g := (mkF m 45 #[.val (.ref t1), .val (.ref a1), .val (.int (0 : Int32)), .val (.int (3 : Int32)), .val .null, .val (.ref b_3)] [(.int (3 : Int32)), (.ref b_3), (.ref t1)])) rfl (by rw [hml]; rfl) (argsL := [(.ref b_3), (.int (3 : Int32))]) (rest := [(.ref t1)]) (lenOf own_pd__28_5bBI_29B rfl) rfl (by show 2 * 0 + _ ≤ _; exact Nat.le_of_eq rfl) (hb hby D6_45) (fun _ _ => ⟨rfl, rfl, (by decide : 1 + 0 ≤ _), (by decide : 3 + 0 ≤ _)⟩)
  dsimp only [Pt.U, Pt.locs, Pt.cells, Pt.slots] at X5 l5 y5 z5 st5 hQ5
  subst l5 y5 z5
  obtain ⟨rfl, M5, K5⟩ := hQ5
  have N5 := Fr.app N3 M5
  refine own_by st5 ?_
  have fc6 : Fld Z T3.heap t1 s11_ "coder" "B" (.int (0 : Int32)) := (Fc.keep K3 nin0)
  have fc7 : Exa Z T3.heap t1 s11_ := (Et.keep K3)
  obtain ⟨T8, h8, X8, e8, W8, st8⟩ := putFN X5 hx hZ hown (own_w hw 60 rfl) Via.refl K5 fc6 fc7 (Or.inr ⟨(own_w hw 61 rfl), rfl, hnm⟩) (own_w hw 37 rfl) (ty := .byte) (v' := (.int (0 : Int32))) (by decide) rfl rfl (g := (mkF m 48 #[.val (.ref t1), .val (.ref a1), .val (.int (0 : Int32)), .val (.int (3 : Int32)), .val .null, .val (.ref b_3)] [(.int (0 : Int32)), (.ref t1)])) rfl rfl (hb hby D6_48)
  refine own_by st8 ?_
  have z8 := W8.size
  have N8 := Fr.snoc X8 N5 (by omega)
  have Fw8 : Fld Z h8 t1 s11_ "coder" "B" (.int (0 : Int32)) := fc6.same W8
  refine own_by (fun _ k => XS.aloadN X8.here hx rfl (hb hby D6_51) rfl rfl k) ?_
  refine own_by (fun _ k => XS.aload X8.here hx rfl (hb hby D6_52) rfl rfl k) ?_
  show own_Go p e below (T8.setTop (mkF m 54 #[.val (.ref t1), .val (.ref a1), .val (.int (0 : Int32)), .val (.int (3 : Int32)), .val .null, .val (.ref b_3)] [(.ref b_3), (.ref t1)])) _
  have fc9 : Fld Z h8 t1 s11_ "value" "[B" .null := ((Fv.keep K3 nin0).other W8 (Or.inr (slot_ne (a0 := a0) (Or.inr (own_w hw 63 rfl)) (Or.inr (own_w hw 61 rfl)) (by decide) (t := (.array .byte)) (by decide) (t' := .byte) (by decide))))
  have fc10 : Exa Z h8 t1 s11_ := (fc7.wr W8)
  obtain ⟨T11, h11, X11, e11, W11, st11⟩ := putF X8 hx hZ hown (host := "") (Or.inl (own_w hw 62 rfl)) Via.refl e8 fc9 fc10 (Or.inr ⟨(own_w hw 63 rfl), rfl, hnm⟩) (own_w hw 37 rfl) (ty := (.array .byte)) (by decide) rfl rfl (g := (mkF m 54 #[.val (.ref t1), .val (.ref a1), .val (.int (0 : Int32)), .val (.int (3 : Int32)), .val .null, .val (.ref b_3)] [(.ref b_3), (.ref t1)])) rfl rfl (hb hby D6_54)
  refine own_by st11 ?_
  have z11 := W11.size
  have N11 := Fr.snoc X11 N8 (by omega)
  have Fw11 : Fld Z h11 t1 s11_ "value" "[B" (.ref b_3) := fc9.same W11
  have fc12 : Exa Z h11 t1 s11_ := (fc10.wr W11)
  have fc13 : Fld Z h11 t1 s11_ "coder" "B" (.int (0 : Int32)) := (Fw8.other W11 (Or.inr (slot_ne (a0 := a0) (Or.inr (own_w hw 61 rfl)) (Or.inr (own_w hw 63 rfl)) (by decide) (t := .byte) (by decide) (t' := (.array .byte)) (by decide))))
  have fc14 : Arv Z h11 b_3 kb_3 .byte (3 : Int32) [(.int (own_b c1)), (.int (own_b c2)), (.int (own_b c3))] (.int (0 : Int32)) := ((g3_0.other W8 (own_ne (by omega))).other W11 (own_ne (by omega)))
  have K15 : Keep h0 h11 [t1] := ((((Keep.refl h0 [t1]).trans K3 all0).wr W8 (Or.inl (List.mem_of_getElem? (i := 0) rfl))).wr W11 (Or.inl (List.mem_of_getElem? (i := 0) rfl)))
  obtain ⟨fs, hr, hrun, hended, hW, hsame⟩ := X11.leave (v := none) (fun h => rfl)
  refine ⟨_, _, X11.returnOut hx Bd.returns (hb hby D6_57) hr, hrun, hended, _, _, rfl, ?_, ⟨_, rfl⟩, hW, hsame.mono (by decide) (by decide)⟩
  show Q_rm_sinit4_3 Z t1 a1 ka cs c1 c2 c3 h0 n0 _ T11.heap _
  rw [e11]
  exact ⟨b_3, kb_3, rfl, N11, K15, fc12, fc13, Fw11, fc14, (by first | assumption | omega)⟩
def Q_rm_sinit_3 (Z : State) (t1 : Addr) (a1 : Addr) (ka : ClassId) (cs : Int32) (c1 : Int32) (c2 : Int32) (c3 : Int32) (h0 : Heap) (n0 : Nat) (v : Option Value) (h : Heap) (L : List Loc) : Prop := ∃ (b : Addr), ∃ (kb : ClassId), v = none ∧ Fr n0 L ∧ Keep h0 h [t1] ∧ Exa Z h t1 s11_ ∧ Fld Z h t1 s11_ "coder" "B" (.int (0 : Int32)) ∧ Fld Z h t1 s11_ "value" "[B" (.ref b) ∧ Arv Z h b kb .byte (3 : Int32) [(.int (own_b c1)), (.int (own_b c2)), (.int (own_b c3))] (.int (0 : Int32)) ∧ h0.size ≤ b
theorem ef_rm_sinit_3 (m : MethodId) (t1 : Addr) (a1 : Addr) (ka : ClassId) (cs : Int32) (c1 : Int32) (c2 : Int32) (c3 : Int32) : entryFrame m #[(.ref t1), (.ref a1)] 2 = mkF m 0 #[.val (.ref t1), .val (.ref a1)] [] := by first | (simp [entryFrame, mkF, argsToLocals, Value.category]; done) | rfl
set_option maxRecDepth 65536 in
set_option maxHeartbeats 40000000 in
theorem rm_sinit_3 (l : Launch) (Z : State) (a0 : Array Value) (hw : ∀ d ∈ tables_1, d.before a0 Z = true) (ws : List Jvm.Cond) (t1 : Addr) (a1 : Addr) (ka : ClassId) (cs : Int32) (c1 : Int32) (c2 : Int32) (c3 : Int32) (h0 : Heap) (n0 : Nat) (O0 : Old Z n0 h0) (S_COMPACT : Sta Z Z.heap s11_ s15_ "Z" (.int cs)) (Et : Exa Z h0 t1 s11_) (Fv : Fld Z h0 t1 s11_ "value" "[B" .null) (Fc : Fld Z h0 t1 s11_ "coder" "B" (.int (0 : Int32))) (Va : Arv Z h0 a1 ka .char (3 : Int32) [(.int c1), (.int c2), (.int c3)] (.int (0 : Int32))) (rc1 : ¬ ((255 : Int32) < c1)) (rc2 : ¬ ((255 : Int32) < c2)) (rc3 : ¬ ((255 : Int32) < c3)) (gt : n0 ≤ t1) (hcs : ¬ (cs = (0 : Int32))) (nta : ¬ (@Eq Nat a1 t1)) :
    MetFree l (⟨s11_, "<init>", "([C)V"⟩ : MethodName) (head1 (Jvm.Cond.code (⟨s11_, "<init>", "([C)V"⟩ : MethodName) jdk_42_method_3_code 2 none :: ws) ({ frames := 3, cells := 1, slots := 3, locals := 52 } : Room)) (fun a U => a = #[(.ref t1), (.ref a1)] ∧ Z.Warmed39 U.vm ∧ U.heap = h0) (fun _ _ _ _ _ => True) (fun _ U o U' => ∃ v L, o = .returned v ∧ Q_rm_sinit_3 Z t1 a1 ka cs c1 c2 c3 h0 n0 v U'.heap L ∧ FrameEnd U o U' L ({ frames := 3, cells := 1, slots := 3, locals := 52 } : Room).cells ({ frames := 3, cells := 1, slots := 3, locals := 52 } : Room).slots) := by
  refine MetFree.of_bodySF (plainFor_of_name own_pn_java_lang_String) hisR ?_
  intro p e s m args below meth c s₁ Bd hml0 hP hK
  obtain ⟨rfl, hZ, hh⟩ := hP
  have hx := Bd.exec
  have hby := Bd.bytes
  have hml : c.maxLocals = 2 := hml0
  have hown : s.vm.findClass s11_ = some m.cls := findClass_of_methodNamed Bd.named
  have hnm := (name_of_methodNamed Bd.named Bd.method).1
  have X0 : Stand p l e ({ frames := 3, cells := 1, slots := 3, locals := 52 } : Room) s m #[(.ref t1), (.ref a1)] below meth c s₁ [] 0 0 := Stand.of_body Bd
  have e0 : s₁.heap = h0 := by rw [← hh, Bd.state]; rfl
  have N0 := Fr.nil n0
  have Z0 : n0 ≤ h0.size := by rw [← O0.1]; exact O0.2.1
  show own_Go p e below (s₁.setTop (entryFrame m #[(.ref t1), (.ref a1)] 2)) (fun t o => ∃ v L, o = .returned v ∧ Q_rm_sinit_3 Z t1 a1 ka cs c1 c2 c3 h0 n0 v t.heap L ∧ FrameEnd s o t L ({ frames := 3, cells := 1, slots := 3, locals := 52 } : Room).cells ({ frames := 3, cells := 1, slots := 3, locals := 52 } : Room).slots)
  rw [ef_rm_sinit_3 m t1 a1 ka cs c1 c2 c3]
  have lt_Et : h0.size > t1 := Et.lt
  have lt_Fv : h0.size > t1 := Fv.lt
  have lt_Fc : h0.size > t1 := Fc.lt
  have lt_Va : h0.size > a1 := Va.lt
  refine own_by (fun _ k => XS.aloadN X0.here hx rfl (hb hby D5_0) rfl rfl k) ?_
  refine own_by (fun _ k => XS.aloadN X0.here hx rfl (hb hby D5_1) rfl rfl k) ?_
  refine own_by (fun _ k => XS.iconst X0.here hx rfl (hb hby D5_2) k) ?_
  refine own_by (fun _ k => XS.aloadN X0.here hx rfl (hb hby D5_3) rfl rfl k) ?_
  obtain ⟨cl1, Ar1, q1, S1, M1, H1, G1⟩ := (id Va)
  refine own_by (X0.arraylength hx (by rw [e0]; exact Ar1.1) (State.isArrayOf_alike hZ.alike Ar1.2.1) (g := (mkF m 4 #[.val (.ref t1), .val (.ref a1)] [(.ref a1), (.int (0 : Int32)), (.ref a1), (.ref t1)])) rfl rfl (hb hby D5_4)) ?_
  rw [len_of S1 M1]
  refine own_by (fun _ k => XS.aconstNull X0.here hx rfl (hb hby D5_5) k) ?_
  show own_Go p e below (s₁.setTop (mkF m 6 #[.val (.ref t1), .val (.ref a1)] [.null, (.int (3 : Int32)), (.int (0 : Int32)), (.ref a1), (.ref t1)])) _
  obtain ⟨_, _, ⟨T2, L2, k2, n2⟩, -, X2, ⟨Lc2, hQ2, l2, y2, z2⟩, st2⟩ := X0.specialBack hx (y := (⟨s11_, "<init>", s14_⟩ : MethodName)) rfl hown (mvT hZ (own_w hw 41 rfl)) (mvT hZ (own_w hw 42 rfl)) (mvT hZ (own_w hw 44 rfl)) (by decide) (backOf (W := 0) (rm_sinit4_3 l Z a0 hw [] t1 a1 ka cs c1 c2 c3 h0 n0 O0 S_COMPACT Et Fv Fc Va rc1 rc2 rc3 gt hcs nta) hZ (own_w hw 44 rfl) (own_w hw 30 rfl) (by decide) (by decide)) (g := (mkF m 6 #[.val (.ref t1), .val (.ref a1)] [.null, (.int (3 : Int32)), (.int (0 : Int32)), (.ref a1), (.ref t1)])) rfl (by rw [hml]; rfl) (Steps.refl _) (a := t1) (argsL := [(.ref a1), (.int (0 : Int32)), (.int (3 : Int32)), .null]) (rest := []) (lenOf own_pd__28_5bCIILjava_2flang_2fVoid_3b_29V rfl) rfl (by show 2 * 0 + _ ≤ _; exact Nat.le_of_eq rfl) (hb hby D5_6) (fun _ _ => ⟨rfl, e0, (by decide : 0 + 1 ≤ _), (by decide : 0 + 3 ≤ _)⟩)
  dsimp only [Pt.U, Pt.locs, Pt.cells, Pt.slots] at X2 l2 y2 z2 st2 hQ2
  subst l2 y2 z2
  obtain ⟨b_2, kb_2, rfl, M2, K2, g2_0, g2_1, g2_2, g2_3, r2_0⟩ := hQ2
  have N2 := Fr.app N0 M2
  refine own_by (fun _ k => st2.trans k) ?_
  have z2 := K2.1
  have lt_g2_0 : T2.heap.size > t1 := g2_0.lt
  have lt_g2_1 : T2.heap.size > t1 := g2_1.lt
  have lt_g2_2 : T2.heap.size > t1 := g2_2.lt
  have lt_g2_3 : T2.heap.size > b_2 := g2_3.lt
  have K3 : Keep h0 T2.heap [t1] := ((Keep.refl h0 [t1]).trans K2 (allS (P := fun x => x ∈ [t1] ∨ h0.size ≤ x) (Or.inl (List.mem_of_getElem? (i := 0) rfl)) all0))
  obtain ⟨fs, hr, hrun, hended, hW, hsame⟩ := X2.leave (v := none) (fun h => rfl)
  refine ⟨_, _, X2.returnOut hx Bd.returns (hb hby D5_9) hr, hrun, hended, _, _, rfl, ?_, ⟨_, rfl⟩, hW, hsame.mono (by decide) (by decide)⟩
  show Q_rm_sinit_3 Z t1 a1 ka cs c1 c2 c3 h0 n0 _ T2.heap _
  exact ⟨b_2, kb_2, rfl, N2, K3, g2_0, g2_1, g2_2, g2_3, (by first | assumption | omega)⟩
def Q_rm_comp5_4 (Z : State) (a1 : Addr) (b : Addr) (ka : ClassId) (kb : ClassId) (c1 : Int32) (c2 : Int32) (c3 : Int32) (c4 : Int32) (h0 : Heap) (n0 : Nat) (v : Option Value) (h : Heap) (L : List Loc) : Prop := v = some (.int (4 : Int32)) ∧ Fr n0 L ∧ Keep h0 h [b] ∧ Arv Z h b kb .byte (4 : Int32) [(.int (own_b c1)), (.int (own_b c2)), (.int (own_b c3)), (.int (own_b c4))] (.int (0 : Int32))
theorem ef_rm_comp5_4 (m : MethodId) (a1 : Addr) (b : Addr) (ka : ClassId) (kb : ClassId) (c1 : Int32) (c2 : Int32) (c3 : Int32) (c4 : Int32) : entryFrame m #[(.ref a1), (.int (0 : Int32)), (.ref b), (.int (0 : Int32)), (.int (4 : Int32))] 7 = mkF m 0 #[.val (.ref a1), .val (.int (0 : Int32)), .val (.ref b), .val (.int (0 : Int32)), .val (.int (4 : Int32)), .unset, .unset] [] := by first | (simp [entryFrame, mkF, argsToLocals, Value.category]; done) | rfl
set_option maxRecDepth 65536 in
set_option maxHeartbeats 40000000 in
theorem rm_comp5_4 (l : Launch) (Z : State) (a0 : Array Value) (hw : ∀ d ∈ tables_1, d.before a0 Z = true) (ws : List Jvm.Cond) (a1 : Addr) (b : Addr) (ka : ClassId) (kb : ClassId) (c1 : Int32) (c2 : Int32) (c3 : Int32) (c4 : Int32) (h0 : Heap) (n0 : Nat) (O0 : Old Z n0 h0) (Va : Arv Z h0 a1 ka .char (4 : Int32) [(.int c1), (.int c2), (.int c3), (.int c4)] (.int (0 : Int32))) (Vb : Arv Z h0 b kb .byte (4 : Int32) [] (.int (0 : Int32))) (rc1 : ¬ ((255 : Int32) < c1)) (rc2 : ¬ ((255 : Int32) < c2)) (rc3 : ¬ ((255 : Int32) < c3)) (rc4 : ¬ ((255 : Int32) < c4)) (gb : n0 ≤ b) (nab : ¬ (@Eq Nat a1 b)) :
    MetFree l (⟨s16_, "compress", "([CI[BII)I"⟩ : MethodName) (head1 (Jvm.Cond.code (⟨s16_, "compress", "([CI[BII)I"⟩ : MethodName) jdk_52_method_21_code 7 (some .int) :: ws) ({ frames := 0, cells := 0, slots := 0, locals := 0 } : Room)) (fun a U => a = #[(.ref a1), (.int (0 : Int32)), (.ref b), (.int (0 : Int32)), (.int (4 : Int32))] ∧ Z.Warmed39 U.vm ∧ U.heap = h0) (fun _ _ _ _ _ => True) (fun _ U o U' => ∃ v L, o = .returned v ∧ Q_rm_comp5_4 Z a1 b ka kb c1 c2 c3 c4 h0 n0 v U'.heap L ∧ FrameEnd U o U' L ({ frames := 0, cells := 0, slots := 0, locals := 0 } : Room).cells ({ frames := 0, cells := 0, slots := 0, locals := 0 } : Room).slots) := by
  refine MetFree.of_bodySF (plainFor_of_name own_pn_java_lang_StringUTF16) hisR ?_
  intro p e s m args below meth c s₁ Bd hml0 hP hK
  obtain ⟨rfl, hZ, hh⟩ := hP
  have hx := Bd.exec
  have hby := Bd.bytes
  have hml : c.maxLocals = 7 := hml0
  have hown : s.vm.findClass s16_ = some m.cls := findClass_of_methodNamed Bd.named
  have hnm := (name_of_methodNamed Bd.named Bd.method).1
  have X0 : Stand p l e ({ frames := 0, cells := 0, slots := 0, locals := 0 } : Room) s m #[(.ref a1), (.int (0 : Int32)), (.ref b), (.int (0 : Int32)), (.int (4 : Int32))] below meth c s₁ [] 0 0 := Stand.of_body Bd
  have e0 : s₁.heap = h0 := by rw [← hh, Bd.state]; rfl
  have N0 := Fr.nil n0
  have Z0 : n0 ≤ h0.size := by rw [← O0.1]; exact O0.2.1
  show own_Go p e below (s₁.setTop (entryFrame m #[(.ref a1), (.int (0 : Int32)), (.ref b), (.int (0 : Int32)), (.int (4 : Int32))] 7)) (fun t o => ∃ v L, o = .returned v ∧ Q_rm_comp5_4 Z a1 b ka kb c1 c2 c3 c4 h0 n0 v t.heap L ∧ FrameEnd s o t L ({ frames := 0, cells := 0, slots := 0, locals := 0 } : Room).cells ({ frames := 0, cells := 0, slots := 0, locals := 0 } : Room).slots)
  rw [ef_rm_comp5_4 m a1 b ka kb c1 c2 c3 c4]
  have lt_Va : h0.size > a1 := Va.lt
  have lt_Vb : h0.size > b := Vb.lt
  refine own_by (fun _ k => XS.iconst X0.here hx rfl (hb hby D9_0) k) ?_
  refine own_by (fun _ k => XS.istore X0.here hx rfl (hb hby D9_1) rfl (l' := #[.val (.ref a1), .val (.int (0 : Int32)), .val (.ref b), .val (.int (0 : Int32)), .val (.int (4 : Int32)), .val (.int (0 : Int32)), .unset]) rfl k) ?_
  refine own_by (fun _ k => XS.iload X0.here hx rfl (hb hby D9_3) rfl k) ?_
  refine own_by (fun _ k => XS.iload X0.here hx rfl (hb hby D9_5) rfl k) ?_
  refine own_by (fun _ k => XS.icmpNo X0.here hx rfl (hb hby D9_7) rfl (tlt (by decide : (0 : Int32) < (4 : Int32))).2.1 k) ?_
  show own_Go p e below (s₁.setTop (mkF m 10 #[.val (.ref a1), .val (.int (0 : Int32)), .val (.ref b), .val (.int (0 : Int32)), .val (.int (4 : Int32)), .val (.int (0 : Int32)), .unset] [])) _
  refine own_by (fun _ k => XS.aloadN X0.here hx rfl (hb hby D9_10) rfl rfl k) ?_
  refine own_by (fun _ k => XS.iloadN X0.here hx rfl (hb hby D9_11) rfl k) ?_
  obtain ⟨cl1, Ar1, q1, S1, M1, H1, G1⟩ := (id Va)
  have hin1 : ¬ ((0 : Int32) < 0 ∨ cl1.slots.size ≤ ((0 : Int32)).toNatClampNeg) := inb_of S1 ⟨by decide, by decide⟩
  refine own_by (X0.caload hx (j := (0 : Int32)) (v := (.int c1)) (by rw [e0]; exact Ar1.1) (State.isArrayOf_alike hZ.alike Ar1.2.1) Ar1.2.2 hin1 (H1.at hin1 rfl) (g := (mkF m 12 #[.val (.ref a1), .val (.int (0 : Int32)), .val (.ref b), .val (.int (0 : Int32)), .val (.int (4 : Int32)), .val (.int (0 : Int32)), .unset] [(.int (0 : Int32)), (.ref a1)])) rfl rfl (hb hby D9_12)) ?_
  refine own_by (fun _ k => XS.istore X0.here hx rfl (hb hby D9_13) rfl (l' := #[.val (.ref a1), .val (.int (0 : Int32)), .val (.ref b), .val (.int (0 : Int32)), .val (.int (4 : Int32)), .val (.int (0 : Int32)), .val (.int c1)]) rfl k) ?_
  refine own_by (fun _ k => XS.iload X0.here hx rfl (hb hby D9_15) rfl k) ?_
  refine own_by (fun _ k => XS.sipush X0.here hx rfl (hb hby D9_17) k) ?_
  show own_Go p e below (s₁.setTop (mkF m 20 #[.val (.ref a1), .val (.int (0 : Int32)), .val (.ref b), .val (.int (0 : Int32)), .val (.int (4 : Int32)), .val (.int (0 : Int32)), .val (.int c1)] [(.int (255 : Int32)), (.int c1)])) _
  refine own_by (fun _ k => XS.icmpYes X0.here hx rfl (pc0 := 20) (pc' := 26) rfl (hb hby D9_20) rfl (flt rc1).2.2.2 (by decide) (by decide) k) ?_
  show own_Go p e below (s₁.setTop (mkF m 26 #[.val (.ref a1), .val (.int (0 : Int32)), .val (.ref b), .val (.int (0 : Int32)), .val (.int (4 : Int32)), .val (.int (0 : Int32)), .val (.int c1)] [])) _
  refine own_by (fun _ k => XS.aloadN X0.here hx rfl (hb hby D9_26) rfl rfl k) ?_
  refine own_by (fun _ k => XS.iloadN X0.here hx rfl (hb hby D9_27) rfl k) ?_
  refine own_by (fun _ k => XS.iload X0.here hx rfl (hb hby D9_28) rfl k) ?_
  refine own_by (fun _ k => XS.i2b X0.here hx rfl (hb hby D9_30) rfl k) ?_
  have Vw2 : Arv Z h0 b kb .byte (4 : Int32) [(.int (0 : Int32))] (.int (0 : Int32)) := Vb.pad (pad_rep [] (.int (0 : Int32)) 1)
  obtain ⟨cl3, Ar3, q3, S3, M3, H3, G3⟩ := (id Vw2)
  have hin3 : ¬ ((0 : Int32) < 0 ∨ cl3.slots.size ≤ ((0 : Int32)).toNatClampNeg) := inb_of S3 ⟨by decide, by decide⟩
  obtain ⟨T3, h3, X3, e3, W3, st3⟩ := stB X0 hx hZ e0 Ar3 (j := (0 : Int32)) hin3 (g := (mkF m 31 #[.val (.ref a1), .val (.int (0 : Int32)), .val (.ref b), .val (.int (0 : Int32)), .val (.int (4 : Int32)), .val (.int (0 : Int32)), .val (.int c1)] [(.int (c1.toInt8.toInt32)), (.int (0 : Int32)), (.ref b)])) rfl rfl (hb hby D9_31)
  refine own_by st3 ?_
  have z3 := W3.size
  have N3 := Fr.snoc X3 N0 (by omega)
  have Vw3 : Arv Z h3 b kb .byte (4 : Int32) [(.int (own_b c1))] (.int (0 : Int32)) := Arv.set Ar3 q3 S3 M3 H3 G3 (fits_nar_byte2 _) W3 0 rfl (Nat.le_of_ble_eq_true rfl)
  refine own_by (fun _ k => XS.iinc X3.here hx rfl (hb hby D9_32) rfl (l' := #[.val (.ref a1), .val (.int (1 : Int32)), .val (.ref b), .val (.int (0 : Int32)), .val (.int (4 : Int32)), .val (.int (0 : Int32)), .val (.int c1)]) rfl k) ?_
  show own_Go p e below (T3.setTop (mkF m 35 #[.val (.ref a1), .val (.int (1 : Int32)), .val (.ref b), .val (.int (0 : Int32)), .val (.int (4 : Int32)), .val (.int (0 : Int32)), .val (.int c1)] [])) _
  refine own_by (fun _ k => XS.iinc X3.here hx rfl (hb hby D9_35) rfl (l' := #[.val (.ref a1), .val (.int (1 : Int32)), .val (.ref b), .val (.int (1 : Int32)), .val (.int (4 : Int32)), .val (.int (0 : Int32)), .val (.int c1)]) rfl k) ?_
  refine own_by (fun _ k => XS.iinc X3.here hx rfl (hb hby D9_38) rfl (l' := #[.val (.ref a1), .val (.int (1 : Int32)), .val (.ref b), .val (.int (1 : Int32)), .val (.int (4 : Int32)), .val (.int (1 : Int32)), .val (.int c1)]) rfl k) ?_
  refine own_by (fun _ k => XS.goto X3.here hx rfl (pc0 := 41) (pc' := 3) rfl (hb hby D9_41) (by decide) (by decide) k) ?_
  refine own_by (fun _ k => XS.iload X3.here hx rfl (hb hby D9_3) rfl k) ?_
  refine own_by (fun _ k => XS.iload X3.here hx rfl (hb hby D9_5) rfl k) ?_
  refine own_by (fun _ k => XS.icmpNo X3.here hx rfl (hb hby D9_7) rfl (tlt (by decide : (1 : Int32) < (4 : Int32))).2.1 k) ?_
  show own_Go p e below (T3.setTop (mkF m 10 #[.val (.ref a1), .val (.int (1 : Int32)), .val (.ref b), .val (.int (1 : Int32)), .val (.int (4 : Int32)), .val (.int (1 : Int32)), .val (.int c1)] [])) _
  refine own_by (fun _ k => XS.aloadN X3.here hx rfl (hb hby D9_10) rfl rfl k) ?_
  refine own_by (fun _ k => XS.iloadN X3.here hx rfl (hb hby D9_11) rfl k) ?_
  have fc4 : Arv Z h3 a1 ka .char (4 : Int32) [(.int c1), (.int c2), (.int c3), (.int c4)] (.int (0 : Int32)) := (Va.other W3 (own_ne (by omega)))
  obtain ⟨cl5, Ar5, q5, S5, M5, H5, G5⟩ := (id fc4)
  have hin5 : ¬ ((1 : Int32) < 0 ∨ cl5.slots.size ≤ ((1 : Int32)).toNatClampNeg) := inb_of S5 ⟨by decide, by decide⟩
  refine own_by (X3.caload hx (j := (1 : Int32)) (v := (.int c2)) (by rw [e3]; exact Ar5.1) (State.isArrayOf_alike hZ.alike Ar5.2.1) Ar5.2.2 hin5 (H5.at hin5 rfl) (g := (mkF m 12 #[.val (.ref a1), .val (.int (1 : Int32)), .val (.ref b), .val (.int (1 : Int32)), .val (.int (4 : Int32)), .val (.int (1 : Int32)), .val (.int c1)] [(.int (1 : Int32)), (.ref a1)])) rfl rfl (hb hby D9_12)) ?_
  refine own_by (fun _ k => XS.istore X3.here hx rfl (hb hby D9_13) rfl (l' := #[.val (.ref a1), .val (.int (1 : Int32)), .val (.ref b), .val (.int (1 : Int32)), .val (.int (4 : Int32)), .val (.int (1 : Int32)), .val (.int c2)]) rfl k) ?_
  refine own_by (fun _ k => XS.iload X3.here hx rfl (hb hby D9_15) rfl k) ?_
  refine own_by (fun _ k => XS.sipush X3.here hx rfl (hb hby D9_17) k) ?_
  show own_Go p e below (T3.setTop (mkF m 20 #[.val (.ref a1), .val (.int (1 : Int32)), .val (.ref b), .val (.int (1 : Int32)), .val (.int (4 : Int32)), .val (.int (1 : Int32)), .val (.int c2)] [(.int (255 : Int32)), (.int c2)])) _
  refine own_by (fun _ k => XS.icmpYes X3.here hx rfl (pc0 := 20) (pc' := 26) rfl (hb hby D9_20) rfl (flt rc2).2.2.2 (by decide) (by decide) k) ?_
  show own_Go p e below (T3.setTop (mkF m 26 #[.val (.ref a1), .val (.int (1 : Int32)), .val (.ref b), .val (.int (1 : Int32)), .val (.int (4 : Int32)), .val (.int (1 : Int32)), .val (.int c2)] [])) _
  refine own_by (fun _ k => XS.aloadN X3.here hx rfl (hb hby D9_26) rfl rfl k) ?_
  refine own_by (fun _ k => XS.iloadN X3.here hx rfl (hb hby D9_27) rfl k) ?_
  refine own_by (fun _ k => XS.iload X3.here hx rfl (hb hby D9_28) rfl k) ?_
  refine own_by (fun _ k => XS.i2b X3.here hx rfl (hb hby D9_30) rfl k) ?_
  have Vw6 : Arv Z h3 b kb .byte (4 : Int32) [(.int (own_b c1)), (.int (0 : Int32))] (.int (0 : Int32)) := Vw3.pad (pad_rep [(.int (own_b c1))] (.int (0 : Int32)) 1)
  obtain ⟨cl7, Ar7, q7, S7, M7, H7, G7⟩ := (id Vw6)
  have hin7 : ¬ ((1 : Int32) < 0 ∨ cl7.slots.size ≤ ((1 : Int32)).toNatClampNeg) := inb_of S7 ⟨by decide, by decide⟩
  obtain ⟨T7, h7, X7, e7, W7, st7⟩ := stB X3 hx hZ e3 Ar7 (j := (1 : Int32)) hin7 (g := (mkF m 31 #[.val (.ref a1), .val (.int (1 : Int32)), .val (.ref b), .val (.int (1 : Int32)), .val (.int (4 : Int32)), .val (.int (1 : Int32)), .val (.int c2)] [(.int (c2.toInt8.toInt32)), (.int (1 : Int32)), (.ref b)])) rfl rfl (hb hby D9_31)
  refine own_by st7 ?_
  have z7 := W7.size
  have N7 := Fr.snoc X7 N3 (by omega)
  have Vw7 : Arv Z h7 b kb .byte (4 : Int32) [(.int (own_b c1)), (.int (own_b c2))] (.int (0 : Int32)) := Arv.set Ar7 q7 S7 M7 H7 G7 (fits_nar_byte2 _) W7 1 rfl (Nat.le_of_ble_eq_true rfl)
  refine own_by (fun _ k => XS.iinc X7.here hx rfl (hb hby D9_32) rfl (l' := #[.val (.ref a1), .val (.int (2 : Int32)), .val (.ref b), .val (.int (1 : Int32)), .val (.int (4 : Int32)), .val (.int (1 : Int32)), .val (.int c2)]) rfl k) ?_
  show own_Go p e below (T7.setTop (mkF m 35 #[.val (.ref a1), .val (.int (2 : Int32)), .val (.ref b), .val (.int (1 : Int32)), .val (.int (4 : Int32)), .val (.int (1 : Int32)), .val (.int c2)] [])) _
  refine own_by (fun _ k => XS.iinc X7.here hx rfl (hb hby D9_35) rfl (l' := #[.val (.ref a1), .val (.int (2 : Int32)), .val (.ref b), .val (.int (2 : Int32)), .val (.int (4 : Int32)), .val (.int (1 : Int32)), .val (.int c2)]) rfl k) ?_
  refine own_by (fun _ k => XS.iinc X7.here hx rfl (hb hby D9_38) rfl (l' := #[.val (.ref a1), .val (.int (2 : Int32)), .val (.ref b), .val (.int (2 : Int32)), .val (.int (4 : Int32)), .val (.int (2 : Int32)), .val (.int c2)]) rfl k) ?_
  refine own_by (fun _ k => XS.goto X7.here hx rfl (pc0 := 41) (pc' := 3) rfl (hb hby D9_41) (by decide) (by decide) k) ?_
  refine own_by (fun _ k => XS.iload X7.here hx rfl (hb hby D9_3) rfl k) ?_
  refine own_by (fun _ k => XS.iload X7.here hx rfl (hb hby D9_5) rfl k) ?_
  refine own_by (fun _ k => XS.icmpNo X7.here hx rfl (hb hby D9_7) rfl (tlt (by decide : (2 : Int32) < (4 : Int32))).2.1 k) ?_
  show own_Go p e below (T7.setTop (mkF m 10 #[.val (.ref a1), .val (.int (2 : Int32)), .val (.ref b), .val (.int (2 : Int32)), .val (.int (4 : Int32)), .val (.int (2 : Int32)), .val (.int c2)] [])) _
  refine own_by (fun _ k => XS.aloadN X7.here hx rfl (hb hby D9_10) rfl rfl k) ?_
  refine own_by (fun _ k => XS.iloadN X7.here hx rfl (hb hby D9_11) rfl k) ?_
  have fc8 : Arv Z h7 a1 ka .char (4 : Int32) [(.int c1), (.int c2), (.int c3), (.int c4)] (.int (0 : Int32)) := (fc4.other W7 (own_ne (by omega)))
  obtain ⟨cl9, Ar9, q9, S9, M9, H9, G9⟩ := (id fc8)
  have hin9 : ¬ ((2 : Int32) < 0 ∨ cl9.slots.size ≤ ((2 : Int32)).toNatClampNeg) := inb_of S9 ⟨by decide, by decide⟩
  refine own_by (X7.caload hx (j := (2 : Int32)) (v := (.int c3)) (by rw [e7]; exact Ar9.1) (State.isArrayOf_alike hZ.alike Ar9.2.1) Ar9.2.2 hin9 (H9.at hin9 rfl) (g := (mkF m 12 #[.val (.ref a1), .val (.int (2 : Int32)), .val (.ref b), .val (.int (2 : Int32)), .val (.int (4 : Int32)), .val (.int (2 : Int32)), .val (.int c2)] [(.int (2 : Int32)), (.ref a1)])) rfl rfl (hb hby D9_12)) ?_
  refine own_by (fun _ k => XS.istore X7.here hx rfl (hb hby D9_13) rfl (l' := #[.val (.ref a1), .val (.int (2 : Int32)), .val (.ref b), .val (.int (2 : Int32)), .val (.int (4 : Int32)), .val (.int (2 : Int32)), .val (.int c3)]) rfl k) ?_
  refine own_by (fun _ k => XS.iload X7.here hx rfl (hb hby D9_15) rfl k) ?_
  refine own_by (fun _ k => XS.sipush X7.here hx rfl (hb hby D9_17) k) ?_
  show own_Go p e below (T7.setTop (mkF m 20 #[.val (.ref a1), .val (.int (2 : Int32)), .val (.ref b), .val (.int (2 : Int32)), .val (.int (4 : Int32)), .val (.int (2 : Int32)), .val (.int c3)] [(.int (255 : Int32)), (.int c3)])) _
  refine own_by (fun _ k => XS.icmpYes X7.here hx rfl (pc0 := 20) (pc' := 26) rfl (hb hby D9_20) rfl (flt rc3).2.2.2 (by decide) (by decide) k) ?_
  show own_Go p e below (T7.setTop (mkF m 26 #[.val (.ref a1), .val (.int (2 : Int32)), .val (.ref b), .val (.int (2 : Int32)), .val (.int (4 : Int32)), .val (.int (2 : Int32)), .val (.int c3)] [])) _
  refine own_by (fun _ k => XS.aloadN X7.here hx rfl (hb hby D9_26) rfl rfl k) ?_
  refine own_by (fun _ k => XS.iloadN X7.here hx rfl (hb hby D9_27) rfl k) ?_
  refine own_by (fun _ k => XS.iload X7.here hx rfl (hb hby D9_28) rfl k) ?_
  refine own_by (fun _ k => XS.i2b X7.here hx rfl (hb hby D9_30) rfl k) ?_
  have Vw10 : Arv Z h7 b kb .byte (4 : Int32) [(.int (own_b c1)), (.int (own_b c2)), (.int (0 : Int32))] (.int (0 : Int32)) := Vw7.pad (pad_rep [(.int (own_b c1)), (.int (own_b c2))] (.int (0 : Int32)) 1)
  obtain ⟨cl11, Ar11, q11, S11, M11, H11, G11⟩ := (id Vw10)
  have hin11 : ¬ ((2 : Int32) < 0 ∨ cl11.slots.size ≤ ((2 : Int32)).toNatClampNeg) := inb_of S11 ⟨by decide, by decide⟩
  obtain ⟨T11, h11, X11, e11, W11, st11⟩ := stB X7 hx hZ e7 Ar11 (j := (2 : Int32)) hin11 (g := (mkF m 31 #[.val (.ref a1), .val (.int (2 : Int32)), .val (.ref b), .val (.int (2 : Int32)), .val (.int (4 : Int32)), .val (.int (2 : Int32)), .val (.int c3)] [(.int (c3.toInt8.toInt32)), (.int (2 : Int32)), (.ref b)])) rfl rfl (hb hby D9_31)
  refine own_by st11 ?_
  have z11 := W11.size
  have N11 := Fr.snoc X11 N7 (by omega)
  have Vw11 : Arv Z h11 b kb .byte (4 : Int32) [(.int (own_b c1)), (.int (own_b c2)), (.int (own_b c3))] (.int (0 : Int32)) := Arv.set Ar11 q11 S11 M11 H11 G11 (fits_nar_byte2 _) W11 2 rfl (Nat.le_of_ble_eq_true rfl)
  refine own_by (fun _ k => XS.iinc X11.here hx rfl (hb hby D9_32) rfl (l' := #[.val (.ref a1), .val (.int (3 : Int32)), .val (.ref b), .val (.int (2 : Int32)), .val (.int (4 : Int32)), .val (.int (2 : Int32)), .val (.int c3)]) rfl k) ?_
  show own_Go p e below (T11.setTop (mkF m 35 #[.val (.ref a1), .val (.int (3 : Int32)), .val (.ref b), .val (.int (2 : Int32)), .val (.int (4 : Int32)), .val (.int (2 : Int32)), .val (.int c3)] [])) _
  refine own_by (fun _ k => XS.iinc X11.here hx rfl (hb hby D9_35) rfl (l' := #[.val (.ref a1), .val (.int (3 : Int32)), .val (.ref b), .val (.int (3 : Int32)), .val (.int (4 : Int32)), .val (.int (2 : Int32)), .val (.int c3)]) rfl k) ?_
  refine own_by (fun _ k => XS.iinc X11.here hx rfl (hb hby D9_38) rfl (l' := #[.val (.ref a1), .val (.int (3 : Int32)), .val (.ref b), .val (.int (3 : Int32)), .val (.int (4 : Int32)), .val (.int (3 : Int32)), .val (.int c3)]) rfl k) ?_
  refine own_by (fun _ k => XS.goto X11.here hx rfl (pc0 := 41) (pc' := 3) rfl (hb hby D9_41) (by decide) (by decide) k) ?_
  refine own_by (fun _ k => XS.iload X11.here hx rfl (hb hby D9_3) rfl k) ?_
  refine own_by (fun _ k => XS.iload X11.here hx rfl (hb hby D9_5) rfl k) ?_
  refine own_by (fun _ k => XS.icmpNo X11.here hx rfl (hb hby D9_7) rfl (tlt (by decide : (3 : Int32) < (4 : Int32))).2.1 k) ?_
  show own_Go p e below (T11.setTop (mkF m 10 #[.val (.ref a1), .val (.int (3 : Int32)), .val (.ref b), .val (.int (3 : Int32)), .val (.int (4 : Int32)), .val (.int (3 : Int32)), .val (.int c3)] [])) _
  refine own_by (fun _ k => XS.aloadN X11.here hx rfl (hb hby D9_10) rfl rfl k) ?_
  refine own_by (fun _ k => XS.iloadN X11.here hx rfl (hb hby D9_11) rfl k) ?_
  have fc12 : Arv Z h11 a1 ka .char (4 : Int32) [(.int c1), (.int c2), (.int c3), (.int c4)] (.int (0 : Int32)) := (fc8.other W11 (own_ne (by omega)))
  obtain ⟨cl13, Ar13, q13, S13, M13, H13, G13⟩ := (id fc12)
  have hin13 : ¬ ((3 : Int32) < 0 ∨ cl13.slots.size ≤ ((3 : Int32)).toNatClampNeg) := inb_of S13 ⟨by decide, by decide⟩
  refine own_by (X11.caload hx (j := (3 : Int32)) (v := (.int c4)) (by rw [e11]; exact Ar13.1) (State.isArrayOf_alike hZ.alike Ar13.2.1) Ar13.2.2 hin13 (H13.at hin13 rfl) (g := (mkF m 12 #[.val (.ref a1), .val (.int (3 : Int32)), .val (.ref b), .val (.int (3 : Int32)), .val (.int (4 : Int32)), .val (.int (3 : Int32)), .val (.int c3)] [(.int (3 : Int32)), (.ref a1)])) rfl rfl (hb hby D9_12)) ?_
  refine own_by (fun _ k => XS.istore X11.here hx rfl (hb hby D9_13) rfl (l' := #[.val (.ref a1), .val (.int (3 : Int32)), .val (.ref b), .val (.int (3 : Int32)), .val (.int (4 : Int32)), .val (.int (3 : Int32)), .val (.int c4)]) rfl k) ?_
  refine own_by (fun _ k => XS.iload X11.here hx rfl (hb hby D9_15) rfl k) ?_
  refine own_by (fun _ k => XS.sipush X11.here hx rfl (hb hby D9_17) k) ?_
  show own_Go p e below (T11.setTop (mkF m 20 #[.val (.ref a1), .val (.int (3 : Int32)), .val (.ref b), .val (.int (3 : Int32)), .val (.int (4 : Int32)), .val (.int (3 : Int32)), .val (.int c4)] [(.int (255 : Int32)), (.int c4)])) _
  refine own_by (fun _ k => XS.icmpYes X11.here hx rfl (pc0 := 20) (pc' := 26) rfl (hb hby D9_20) rfl (flt rc4).2.2.2 (by decide) (by decide) k) ?_
  show own_Go p e below (T11.setTop (mkF m 26 #[.val (.ref a1), .val (.int (3 : Int32)), .val (.ref b), .val (.int (3 : Int32)), .val (.int (4 : Int32)), .val (.int (3 : Int32)), .val (.int c4)] [])) _
  refine own_by (fun _ k => XS.aloadN X11.here hx rfl (hb hby D9_26) rfl rfl k) ?_
  refine own_by (fun _ k => XS.iloadN X11.here hx rfl (hb hby D9_27) rfl k) ?_
  refine own_by (fun _ k => XS.iload X11.here hx rfl (hb hby D9_28) rfl k) ?_
  refine own_by (fun _ k => XS.i2b X11.here hx rfl (hb hby D9_30) rfl k) ?_
  have Vw14 : Arv Z h11 b kb .byte (4 : Int32) [(.int (own_b c1)), (.int (own_b c2)), (.int (own_b c3)), (.int (0 : Int32))] (.int (0 : Int32)) := Vw11.pad (pad_rep [(.int (own_b c1)), (.int (own_b c2)), (.int (own_b c3))] (.int (0 : Int32)) 1)
  obtain ⟨cl15, Ar15, q15, S15, M15, H15, G15⟩ := (id Vw14)
  have hin15 : ¬ ((3 : Int32) < 0 ∨ cl15.slots.size ≤ ((3 : Int32)).toNatClampNeg) := inb_of S15 ⟨by decide, by decide⟩
  obtain ⟨T15, h15, X15, e15, W15, st15⟩ := stB X11 hx hZ e11 Ar15 (j := (3 : Int32)) hin15 (g := (mkF m 31 #[.val (.ref a1), .val (.int (3 : Int32)), .val (.ref b), .val (.int (3 : Int32)), .val (.int (4 : Int32)), .val (.int (3 : Int32)), .val (.int c4)] [(.int (c4.toInt8.toInt32)), (.int (3 : Int32)), (.ref b)])) rfl rfl (hb hby D9_31)
  refine own_by st15 ?_
  have z15 := W15.size
  have N15 := Fr.snoc X15 N11 (by omega)
  have Vw15 : Arv Z h15 b kb .byte (4 : Int32) [(.int (own_b c1)), (.int (own_b c2)), (.int (own_b c3)), (.int (own_b c4))] (.int (0 : Int32)) := Arv.set Ar15 q15 S15 M15 H15 G15 (fits_nar_byte2 _) W15 3 rfl (Nat.le_of_ble_eq_true rfl)
  refine own_by (fun _ k => XS.iinc X15.here hx rfl (hb hby D9_32) rfl (l' := #[.val (.ref a1), .val (.int (4 : Int32)), .val (.ref b), .val (.int (3 : Int32)), .val (.int (4 : Int32)), .val (.int (3 : Int32)), .val (.int c4)]) rfl k) ?_
  show own_Go p e below (T15.setTop (mkF m 35 #[.val (.ref a1), .val (.int (4 : Int32)), .val (.ref b), .val (.int (3 : Int32)), .val (.int (4 : Int32)), .val (.int (3 : Int32)), .val (.int c4)] [])) _
  refine own_by (fun _ k => XS.iinc X15.here hx rfl (hb hby D9_35) rfl (l' := #[.val (.ref a1), .val (.int (4 : Int32)), .val (.ref b), .val (.int (4 : Int32)), .val (.int (4 : Int32)), .val (.int (3 : Int32)), .val (.int c4)]) rfl k) ?_
  refine own_by (fun _ k => XS.iinc X15.here hx rfl (hb hby D9_38) rfl (l' := #[.val (.ref a1), .val (.int (4 : Int32)), .val (.ref b), .val (.int (4 : Int32)), .val (.int (4 : Int32)), .val (.int (4 : Int32)), .val (.int c4)]) rfl k) ?_
  refine own_by (fun _ k => XS.goto X15.here hx rfl (pc0 := 41) (pc' := 3) rfl (hb hby D9_41) (by decide) (by decide) k) ?_
  refine own_by (fun _ k => XS.iload X15.here hx rfl (hb hby D9_3) rfl k) ?_
  refine own_by (fun _ k => XS.iload X15.here hx rfl (hb hby D9_5) rfl k) ?_
  refine own_by (fun _ k => XS.icmpYes X15.here hx rfl (pc0 := 7) (pc' := 44) rfl (hb hby D9_7) rfl (flt (by decide : ¬ ((4 : Int32) < (4 : Int32)))).2.1 (by decide) (by decide) k) ?_
  show own_Go p e below (T15.setTop (mkF m 44 #[.val (.ref a1), .val (.int (4 : Int32)), .val (.ref b), .val (.int (4 : Int32)), .val (.int (4 : Int32)), .val (.int (4 : Int32)), .val (.int c4)] [])) _
  refine own_by (fun _ k => XS.iload X15.here hx rfl (hb hby D9_44) rfl k) ?_
  have K16 : Keep h0 h15 [b] := (((((Keep.refl h0 [b]).wr W3 (Or.inl (List.mem_of_getElem? (i := 0) rfl))).wr W7 (Or.inl (List.mem_of_getElem? (i := 0) rfl))).wr W11 (Or.inl (List.mem_of_getElem? (i := 0) rfl))).wr W15 (Or.inl (List.mem_of_getElem? (i := 0) rfl)))
  obtain ⟨fs, hr, hrun, hended, hW, hsame⟩ := X15.leave (v := some (.int (4 : Int32))) (fun h => by rw [Bd.returns] at h; cases h)
  refine ⟨_, _, retI X15 hx Bd.returns (hb hby D9_46) hr, hrun, hended, _, _, rfl, ?_, ⟨_, rfl⟩, hW, hsame.mono (by decide) (by decide)⟩
  show Q_rm_comp5_4 Z a1 b ka kb c1 c2 c3 c4 h0 n0 _ T15.heap _
  rw [e15]
  exact ⟨rfl, N15, K16, Vw15⟩
def Q_rm_comp3_4 (Z : State) (a1 : Addr) (ka : ClassId) (c1 : Int32) (c2 : Int32) (c3 : Int32) (c4 : Int32) (h0 : Heap) (n0 : Nat) (v : Option Value) (h : Heap) (L : List Loc) : Prop := ∃ (b : Addr), ∃ (kb : ClassId), v = some (.ref b) ∧ Fr n0 L ∧ Keep h0 h [] ∧ Arv Z h b kb .byte (4 : Int32) [(.int (own_b c1)), (.int (own_b c2)), (.int (own_b c3)), (.int (own_b c4))] (.int (0 : Int32)) ∧ h0.size ≤ b
theorem ef_rm_comp3_4 (m : MethodId) (a1 : Addr) (ka : ClassId) (c1 : Int32) (c2 : Int32) (c3 : Int32) (c4 : Int32) : entryFrame m #[(.ref a1), (.int (0 : Int32)), (.int (4 : Int32))] 6 = mkF m 0 #[.val (.ref a1), .val (.int (0 : Int32)), .val (.int (4 : Int32)), .unset, .unset, .unset] [] := by first | (simp [entryFrame, mkF, argsToLocals, Value.category]; done) | rfl
set_option maxRecDepth 65536 in
set_option maxHeartbeats 40000000 in
theorem rm_comp3_4 (l : Launch) (Z : State) (a0 : Array Value) (hw : ∀ d ∈ tables_1, d.before a0 Z = true) (ws : List Jvm.Cond) (a1 : Addr) (ka : ClassId) (c1 : Int32) (c2 : Int32) (c3 : Int32) (c4 : Int32) (h0 : Heap) (n0 : Nat) (O0 : Old Z n0 h0) (Va : Arv Z h0 a1 ka .char (4 : Int32) [(.int c1), (.int c2), (.int c3), (.int c4)] (.int (0 : Int32))) (rc1 : ¬ ((255 : Int32) < c1)) (rc2 : ¬ ((255 : Int32) < c2)) (rc3 : ¬ ((255 : Int32) < c3)) (rc4 : ¬ ((255 : Int32) < c4)) :
    MetFree l (⟨s16_, "compress", "([CII)[B"⟩ : MethodName) (head1 (Jvm.Cond.code (⟨s16_, "compress", "([CII)[B"⟩ : MethodName) jdk_52_method_16_code 6 (some (.array .byte)) :: ws) ({ frames := 1, cells := 1, slots := 4, locals := 18 } : Room)) (fun a U => a = #[(.ref a1), (.int (0 : Int32)), (.int (4 : Int32))] ∧ Z.Warmed39 U.vm ∧ U.heap = h0) (fun _ _ _ _ _ => True) (fun _ U o U' => ∃ v L, o = .returned v ∧ Q_rm_comp3_4 Z a1 ka c1 c2 c3 c4 h0 n0 v U'.heap L ∧ FrameEnd U o U' L ({ frames := 1, cells := 1, slots := 4, locals := 18 } : Room).cells ({ frames := 1, cells := 1, slots := 4, locals := 18 } : Room).slots) := by
  refine MetFree.of_bodySF (plainFor_of_name own_pn_java_lang_StringUTF16) hisR ?_
  intro p e s m args below meth c s₁ Bd hml0 hP hK
  obtain ⟨rfl, hZ, hh⟩ := hP
  have hx := Bd.exec
  have hby := Bd.bytes
  have hml : c.maxLocals = 6 := hml0
  have hown : s.vm.findClass s16_ = some m.cls := findClass_of_methodNamed Bd.named
  have hnm := (name_of_methodNamed Bd.named Bd.method).1
  have X0 : Stand p l e ({ frames := 1, cells := 1, slots := 4, locals := 18 } : Room) s m #[(.ref a1), (.int (0 : Int32)), (.int (4 : Int32))] below meth c s₁ [] 0 0 := Stand.of_body Bd
  have e0 : s₁.heap = h0 := by rw [← hh, Bd.state]; rfl
  have N0 := Fr.nil n0
  have Z0 : n0 ≤ h0.size := by rw [← O0.1]; exact O0.2.1
  show own_Go p e below (s₁.setTop (entryFrame m #[(.ref a1), (.int (0 : Int32)), (.int (4 : Int32))] 6)) (fun t o => ∃ v L, o = .returned v ∧ Q_rm_comp3_4 Z a1 ka c1 c2 c3 c4 h0 n0 v t.heap L ∧ FrameEnd s o t L ({ frames := 1, cells := 1, slots := 4, locals := 18 } : Room).cells ({ frames := 1, cells := 1, slots := 4, locals := 18 } : Room).slots)
  rw [ef_rm_comp3_4 m a1 ka c1 c2 c3 c4]
  have lt_Va : h0.size > a1 := Va.lt
  refine own_by (fun _ k => XS.iloadN X0.here hx rfl (hb hby D8_0) rfl k) ?_
  obtain ⟨T1, h1, k1, X1, e1, E1, A1, st1⟩ := newP X0 hx hZ (own_w hw 53 rfl) e0 (g := (mkF m 1 #[.val (.ref a1), .val (.int (0 : Int32)), .val (.int (4 : Int32)), .unset, .unset, .unset] [(.int (4 : Int32))])) rfl (hb hby D8_1) rfl (by decide) (cap := 4) (by decide) (by decide) (by decide) (by decide)
  obtain ⟨ob1, g1⟩ : ∃ z, z = h0.size := ⟨_, rfl⟩
  rw [← g1] at A1 st1
  refine own_by st1 ?_
  have z1 := E1.1
  have Vw1 : Arv Z h1 ob1 k1 .byte (4 : Int32) [] (.int (0 : Int32)) := Arv.new A1 (by decide)
  have lt1 : h1.size > ob1 := Vw1.lt
  refine own_by (fun _ k => XS.astoreN X1.here hx rfl (hb hby D8_3) rfl rfl (l' := #[.val (.ref a1), .val (.int (0 : Int32)), .val (.int (4 : Int32)), .val (.ref ob1), .unset, .unset]) rfl k) ?_
  refine own_by (fun _ k => XS.aloadN X1.here hx rfl (hb hby D8_4) rfl rfl k) ?_
  refine own_by (fun _ k => XS.iloadN X1.here hx rfl (hb hby D8_5) rfl k) ?_
  refine own_by (fun _ k => XS.aloadN X1.here hx rfl (hb hby D8_6) rfl rfl k) ?_
  show own_Go p e below (T1.setTop (mkF m 7 #[.val (.ref a1), .val (.int (0 : Int32)), .val (.int (4 : Int32)), .val (.ref ob1), .unset, .unset] [(.ref ob1), (.int (0 : Int32)), (.ref a1)])) _
  refine own_by (fun _ k => XS.iconst X1.here hx rfl (hb hby D8_7) k) ?_
  refine own_by (fun _ k => XS.iloadN X1.here hx rfl (hb hby D8_8) rfl k) ?_
  have fc2 : Arv Z h1 a1 ka .char (4 : Int32) [(.int c1), (.int c2), (.int c3), (.int c4)] (.int (0 : Int32)) := (Va.ext E1)
  have O3 : Old Z n0 h1 := (O0.ext E1)
  obtain ⟨_, _, ⟨T4, L4, k4, n4⟩, -, X4, ⟨Lc4, hQ4, l4, y4, z4⟩, st4⟩ := Jvm.LawKit.callS X1 hx (y := (⟨s16_, "compress", "([CI[BII)I"⟩ : MethodName)) hown (mvT hZ (own_w hw 54 rfl)) (mvT hZ (own_w hw 55 rfl)) (mvT hZ (own_w hw 51 rfl)) (mvT hZ (own_w hw 56 rfl)) (by decide) (backOf (W := 0) (rm_comp5_4 l Z a0 hw [] a1 ob1 ka k1 c1 c2 c3 c4 h1 n0 O3 fc2 Vw1 rc1 rc2 rc3 rc4 (by first | assumption | omega | decide) (by first | assumption | omega | decide)) hZ (own_w hw 56 rfl) (own_w hw 51 rfl) (by decide) (by decide)) (g := (mkF m 9 #[.val (.ref a1), .val (.int (0 : Int32)), .val (.int (4 : Int32)), .val (.ref ob1), .unset, .unset] [(.int (4 : Int32)), (.int (0 : Int32)), (.ref ob1), (.int (0 : Int32)), (.ref a1)])) rfl (by rw [hml]; rfl) (argsL := [(.ref a1), (.int (0 : Int32)), (.ref ob1), (.int (0 : Int32)), (.int (4 : Int32))]) (rest := []) (lenOf own_pd__28_5bCI_5bBII_29I rfl) rfl (by show 2 * 0 + _ ≤ _; exact Nat.le_of_eq rfl) (hb hby D8_9) (fun _ _ => ⟨rfl, e1, (by decide : 1 + 0 ≤ _), (by decide : 4 + 0 ≤ _)⟩)
  dsimp only [Pt.U, Pt.locs, Pt.cells, Pt.slots] at X4 l4 y4 z4 st4 hQ4
  subst l4 y4 z4
  obtain ⟨rfl, M4, K4, g4_0⟩ := hQ4
  have N4 := Fr.app N0 M4
  refine own_by st4 ?_
  have z4 := K4.1
  have lt_g4_0 : T4.heap.size > ob1 := g4_0.lt
  refine own_by (fun _ k => XS.istore X4.here hx rfl (hb hby D8_12) rfl (l' := #[.val (.ref a1), .val (.int (0 : Int32)), .val (.int (4 : Int32)), .val (.ref ob1), .val (.int (4 : Int32)), .unset]) rfl k) ?_
  refine own_by (fun _ k => XS.iload X4.here hx rfl (hb hby D8_14) rfl k) ?_
  refine own_by (fun _ k => XS.iloadN X4.here hx rfl (hb hby D8_16) rfl k) ?_
  show own_Go p e below (T4.setTop (mkF m 17 #[.val (.ref a1), .val (.int (0 : Int32)), .val (.int (4 : Int32)), .val (.ref ob1), .val (.int (4 : Int32)), .unset] [(.int (4 : Int32)), (.int (4 : Int32))])) _
  refine own_by (fun _ k => XS.icmpYes X4.here hx rfl (pc0 := 17) (pc' := 57) rfl (hb hby D8_17) rfl (teq (by decide : (4 : Int32) = (4 : Int32))).1 (by decide) (by decide) k) ?_
  show own_Go p e below (T4.setTop (mkF m 57 #[.val (.ref a1), .val (.int (0 : Int32)), .val (.int (4 : Int32)), .val (.ref ob1), .val (.int (4 : Int32)), .unset] [])) _
  refine own_by (fun _ k => XS.aloadN X4.here hx rfl (hb hby D8_57) rfl rfl k) ?_
  have K5 : Keep h0 T4.heap [] := (((Keep.refl h0 []).ext E1).trans K4 (allS (P := fun x => x ∈ [] ∨ h0.size ≤ x) (Or.inr (by omega)) all0))
  obtain ⟨fs, hr, hrun, hended, hW, hsame⟩ := X4.leave (v := some (.ref ob1)) (fun h => by rw [Bd.returns] at h; cases h)
  refine ⟨_, _, retOut X4 hx Bd.returns (own_narrow_ref (by decide) rfl) (Or.inr (Or.inr (Or.inr (Or.inr ⟨rfl, by decide, rfl⟩)))) (hb hby D8_58) hr, hrun, hended, _, _, rfl, ?_, ⟨_, rfl⟩, hW, hsame.mono (by decide) (by decide)⟩
  show Q_rm_comp3_4 Z a1 ka c1 c2 c3 c4 h0 n0 _ T4.heap _
  exact ⟨ob1, k1, rfl, N4, K5, g4_0, (by first | assumption | omega)⟩
def Q_rm_cfal_4 (Z : State) (b : Addr) (kb : ClassId) (d1 : Int32) (d2 : Int32) (d3 : Int32) (d4 : Int32) (h0 : Heap) (n0 : Nat) (v : Option Value) (h : Heap) (L : List Loc) : Prop := v = some (.int (0 : Int32)) ∧ Fr n0 L ∧ h = h0
theorem ef_rm_cfal_4 (m : MethodId) (b : Addr) (kb : ClassId) (d1 : Int32) (d2 : Int32) (d3 : Int32) (d4 : Int32) : entryFrame m #[(.ref b), (.int (4 : Int32))] 2 = mkF m 0 #[.val (.ref b), .val (.int (4 : Int32))] [] := by first | (simp [entryFrame, mkF, argsToLocals, Value.category]; done) | rfl
set_option maxRecDepth 65536 in
set_option maxHeartbeats 40000000 in
theorem rm_cfal_4 (l : Launch) (Z : State) (a0 : Array Value) (hw : ∀ d ∈ tables_1, d.before a0 Z = true) (ws : List Jvm.Cond) (b : Addr) (kb : ClassId) (d1 : Int32) (d2 : Int32) (d3 : Int32) (d4 : Int32) (h0 : Heap) (n0 : Nat) (O0 : Old Z n0 h0) (Vb : Arv Z h0 b kb .byte (4 : Int32) [(.int d1), (.int d2), (.int d3), (.int d4)] (.int (0 : Int32))) :
    MetFree l (⟨s16_, s17_, "([BI)B"⟩ : MethodName) (head1 (Jvm.Cond.code (⟨s16_, s17_, "([BI)B"⟩ : MethodName) jdk_52_method_15_code 2 (some .byte) :: ws) ({ frames := 0, cells := 0, slots := 0, locals := 0 } : Room)) (fun a U => a = #[(.ref b), (.int (4 : Int32))] ∧ Z.Warmed39 U.vm ∧ U.heap = h0) (fun _ _ _ _ _ => True) (fun _ U o U' => ∃ v L, o = .returned v ∧ Q_rm_cfal_4 Z b kb d1 d2 d3 d4 h0 n0 v U'.heap L ∧ FrameEnd U o U' L ({ frames := 0, cells := 0, slots := 0, locals := 0 } : Room).cells ({ frames := 0, cells := 0, slots := 0, locals := 0 } : Room).slots) := by
  refine MetFree.of_bodySF (plainFor_of_name own_pn_java_lang_StringUTF16) hisR ?_
  intro p e s m args below meth c s₁ Bd hml0 hP hK
  obtain ⟨rfl, hZ, hh⟩ := hP
  have hx := Bd.exec
  have hby := Bd.bytes
  have hml : c.maxLocals = 2 := hml0
  have hown : s.vm.findClass s16_ = some m.cls := findClass_of_methodNamed Bd.named
  have hnm := (name_of_methodNamed Bd.named Bd.method).1
  have X0 : Stand p l e ({ frames := 0, cells := 0, slots := 0, locals := 0 } : Room) s m #[(.ref b), (.int (4 : Int32))] below meth c s₁ [] 0 0 := Stand.of_body Bd
  have e0 : s₁.heap = h0 := by rw [← hh, Bd.state]; rfl
  have N0 := Fr.nil n0
  have Z0 : n0 ≤ h0.size := by rw [← O0.1]; exact O0.2.1
  show own_Go p e below (s₁.setTop (entryFrame m #[(.ref b), (.int (4 : Int32))] 2)) (fun t o => ∃ v L, o = .returned v ∧ Q_rm_cfal_4 Z b kb d1 d2 d3 d4 h0 n0 v t.heap L ∧ FrameEnd s o t L ({ frames := 0, cells := 0, slots := 0, locals := 0 } : Room).cells ({ frames := 0, cells := 0, slots := 0, locals := 0 } : Room).slots)
  rw [ef_rm_cfal_4 m b kb d1 d2 d3 d4]
  have lt_Vb : h0.size > b := Vb.lt
  refine own_by (fun _ k => XS.iloadN X0.here hx rfl (hb hby D10_0) rfl k) ?_
  refine own_by (fun _ k => XS.aloadN X0.here hx rfl (hb hby D10_1) rfl rfl k) ?_
  obtain ⟨cl1, Ar1, q1, S1, M1, H1, G1⟩ := (id Vb)
  refine own_by (X0.arraylength hx (by rw [e0]; exact Ar1.1) (State.isArrayOf_alike hZ.alike Ar1.2.1) (g := (mkF m 2 #[.val (.ref b), .val (.int (4 : Int32))] [(.ref b), (.int (4 : Int32))])) rfl rfl (hb hby D10_2)) ?_
  rw [len_of S1 M1]
  refine own_by (fun _ k => XS.isub X0.here hx rfl (hb hby D10_3) rfl k) ?_
  refine own_by (fun _ k => XS.bipush X0.here hx rfl (hb hby D10_4) k) ?_
  refine own_by (fun _ k => XS.iushr X0.here hx rfl (hb hby D10_6) rfl k) ?_
  show own_Go p e below (s₁.setTop (mkF m 7 #[.val (.ref b), .val (.int (4 : Int32))] [(.int (0 : Int32))])) _
  refine own_by (fun _ k => XS.i2b X0.here hx rfl (hb hby D10_7) rfl k) ?_
  obtain ⟨fs, hr, hrun, hended, hW, hsame⟩ := X0.leave (v := some (.int (0 : Int32))) (fun h => by rw [Bd.returns] at h; cases h)
  refine ⟨_, _, retN X0 hx (t := .byte) Bd.returns (by simp) (hb hby D10_8) hr, hrun, hended, _, _, rfl, ?_, ⟨_, rfl⟩, hW, hsame.mono (by decide) (by decide)⟩
  show Q_rm_cfal_4 Z b kb d1 d2 d3 d4 h0 n0 _ s₁.heap _
  rw [e0]
  exact ⟨rfl, N0, rfl⟩
def Q_rm_sinit4_4 (Z : State) (t1 : Addr) (a1 : Addr) (ka : ClassId) (cs : Int32) (c1 : Int32) (c2 : Int32) (c3 : Int32) (c4 : Int32) (h0 : Heap) (n0 : Nat) (v : Option Value) (h : Heap) (L : List Loc) : Prop := ∃ (b : Addr), ∃ (kb : ClassId), v = none ∧ Fr n0 L ∧ Keep h0 h [t1] ∧ Exa Z h t1 s11_ ∧ Fld Z h t1 s11_ "coder" "B" (.int (0 : Int32)) ∧ Fld Z h t1 s11_ "value" "[B" (.ref b) ∧ Arv Z h b kb .byte (4 : Int32) [(.int (own_b c1)), (.int (own_b c2)), (.int (own_b c3)), (.int (own_b c4))] (.int (0 : Int32)) ∧ h0.size ≤ b
theorem ef_rm_sinit4_4 (m : MethodId) (t1 : Addr) (a1 : Addr) (ka : ClassId) (cs : Int32) (c1 : Int32) (c2 : Int32) (c3 : Int32) (c4 : Int32) : entryFrame m #[(.ref t1), (.ref a1), (.int (0 : Int32)), (.int (4 : Int32)), .null] 6 = mkF m 0 #[.val (.ref t1), .val (.ref a1), .val (.int (0 : Int32)), .val (.int (4 : Int32)), .val .null, .unset] [] := by first | (simp [entryFrame, mkF, argsToLocals, Value.category]; done) | rfl
set_option maxRecDepth 65536 in
set_option maxHeartbeats 40000000 in
theorem rm_sinit4_4 (l : Launch) (Z : State) (a0 : Array Value) (hw : ∀ d ∈ tables_1, d.before a0 Z = true) (ws : List Jvm.Cond) (t1 : Addr) (a1 : Addr) (ka : ClassId) (cs : Int32) (c1 : Int32) (c2 : Int32) (c3 : Int32) (c4 : Int32) (h0 : Heap) (n0 : Nat) (O0 : Old Z n0 h0) (S_COMPACT : Sta Z Z.heap s11_ s15_ "Z" (.int cs)) (Et : Exa Z h0 t1 s11_) (Fv : Fld Z h0 t1 s11_ "value" "[B" .null) (Fc : Fld Z h0 t1 s11_ "coder" "B" (.int (0 : Int32))) (Va : Arv Z h0 a1 ka .char (4 : Int32) [(.int c1), (.int c2), (.int c3), (.int c4)] (.int (0 : Int32))) (rc1 : ¬ ((255 : Int32) < c1)) (rc2 : ¬ ((255 : Int32) < c2)) (rc3 : ¬ ((255 : Int32) < c3)) (rc4 : ¬ ((255 : Int32) < c4)) (gt : n0 ≤ t1) (hcs : ¬ (cs = (0 : Int32))) (nta : ¬ (@Eq Nat a1 t1)) :
    MetFree l (⟨s11_, "<init>", s14_⟩ : MethodName) (head1 (Jvm.Cond.code (⟨s11_, "<init>", s14_⟩ : MethodName) jdk_42_method_149_code 6 none :: ws) ({ frames := 2, cells := 1, slots := 4, locals := 35 } : Room)) (fun a U => a = #[(.ref t1), (.ref a1), (.int (0 : Int32)), (.int (4 : Int32)), .null] ∧ Z.Warmed39 U.vm ∧ U.heap = h0) (fun _ _ _ _ _ => True) (fun _ U o U' => ∃ v L, o = .returned v ∧ Q_rm_sinit4_4 Z t1 a1 ka cs c1 c2 c3 c4 h0 n0 v U'.heap L ∧ FrameEnd U o U' L ({ frames := 2, cells := 1, slots := 4, locals := 35 } : Room).cells ({ frames := 2, cells := 1, slots := 4, locals := 35 } : Room).slots) := by
  refine MetFree.of_bodySF (plainFor_of_name own_pn_java_lang_String) hisR ?_
  intro p e s m args below meth c s₁ Bd hml0 hP hK
  obtain ⟨rfl, hZ, hh⟩ := hP
  have hx := Bd.exec
  have hby := Bd.bytes
  have hml : c.maxLocals = 6 := hml0
  have hown : s.vm.findClass s11_ = some m.cls := findClass_of_methodNamed Bd.named
  have hnm := (name_of_methodNamed Bd.named Bd.method).1
  have X0 : Stand p l e ({ frames := 2, cells := 1, slots := 4, locals := 35 } : Room) s m #[(.ref t1), (.ref a1), (.int (0 : Int32)), (.int (4 : Int32)), .null] below meth c s₁ [] 0 0 := Stand.of_body Bd
  have e0 : s₁.heap = h0 := by rw [← hh, Bd.state]; rfl
  have N0 := Fr.nil n0
  have Z0 : n0 ≤ h0.size := by rw [← O0.1]; exact O0.2.1
  show own_Go p e below (s₁.setTop (entryFrame m #[(.ref t1), (.ref a1), (.int (0 : Int32)), (.int (4 : Int32)), .null] 6)) (fun t o => ∃ v L, o = .returned v ∧ Q_rm_sinit4_4 Z t1 a1 ka cs c1 c2 c3 c4 h0 n0 v t.heap L ∧ FrameEnd s o t L ({ frames := 2, cells := 1, slots := 4, locals := 35 } : Room).cells ({ frames := 2, cells := 1, slots := 4, locals := 35 } : Room).slots)
  rw [ef_rm_sinit4_4 m t1 a1 ka cs c1 c2 c3 c4]
  have lt_Et : h0.size > t1 := Et.lt
  have lt_Fv : h0.size > t1 := Fv.lt
  have lt_Fc : h0.size > t1 := Fc.lt
  have lt_Va : h0.size > a1 := Va.lt
  refine own_by (fun _ k => XS.aloadN X0.here hx rfl (hb hby D6_0) rfl rfl k) ?_
  obtain ⟨T1, X1, e1, st1⟩ := initO X0 hx hZ hown (own_w hw 45 rfl) (own_w hw 46 rfl) (own_w hw 47 rfl) e0 (g := (mkF m 1 #[.val (.ref t1), .val (.ref a1), .val (.int (0 : Int32)), .val (.int (4 : Int32)), .val .null, .unset] [(.ref t1)])) rfl (by rw [hml]; rfl) rfl (hb hby D6_1) (by decide) (W := 0) (by show 2 * 0 + _ ≤ _; exact Nat.le_of_eq rfl) (by decide)
  refine own_by st1 ?_
  refine own_by (fun _ k => XS.iloadN X1.here hx rfl (hb hby D6_4) rfl k) ?_
  refine own_by (fun _ k => XS.ifYes X1.here hx rfl (pc0 := 5) (pc' := 27) rfl (hb hby D6_5) rfl ((if0 _ _).trans (feq (by decide : ¬ ((4 : Int32) = (0 : Int32)))).2) (by decide) (by decide) k) ?_
  show own_Go p e below (T1.setTop (mkF m 27 #[.val (.ref t1), .val (.ref a1), .val (.int (0 : Int32)), .val (.int (4 : Int32)), .val .null, .unset] [])) _
  obtain ⟨T2, X2, e2, st2⟩ := getS2 X1 hx hZ hown (host := "") (Or.inl (own_w hw 48 rfl)) Via.refl e1 (S_COMPACT.ext O0.2) (g := (mkF m 27 #[.val (.ref t1), .val (.ref a1), .val (.int (0 : Int32)), .val (.int (4 : Int32)), .val .null, .unset] [])) rfl (hb hby D6_27)
  refine own_by st2 ?_
  refine own_by (fun _ k => XS.ifNo X2.here hx rfl (hb hby D6_30) rfl ((if0 _ _).trans (feq hcs).1) k) ?_
  show own_Go p e below (T2.setTop (mkF m 33 #[.val (.ref t1), .val (.ref a1), .val (.int (0 : Int32)), .val (.int (4 : Int32)), .val .null, .unset] [])) _
  refine own_by (fun _ k => XS.aloadN X2.here hx rfl (hb hby D6_33) rfl rfl k) ?_
  refine own_by (fun _ k => XS.iloadN X2.here hx rfl (hb hby D6_34) rfl k) ?_
  refine own_by (fun _ k => XS.iloadN X2.here hx rfl (hb hby D6_35) rfl k) ?_
  obtain ⟨_, _, ⟨T3, L3, k3, n3⟩, -, X3, ⟨Lc3, hQ3, l3, y3, z3⟩, st3⟩ := Jvm.LawKit.callS X2 hx (y := (⟨s16_, "compress", "([CII)[B"⟩ : MethodName)) hown (mvT hZ (own_w hw 49 rfl)) (mvT hZ (own_w hw 50 rfl)) (mvT hZ (own_w hw 51 rfl)) (mvT hZ (own_w hw 52 rfl)) (by decide) (backOf (W := 0) (rm_comp3_4 l Z a0 hw [] a1 ka c1 c2 c3 c4 h0 n0 O0 Va rc1 rc2 rc3 rc4) hZ (own_w hw 52 rfl) (own_w hw 51 rfl) (by decide) (by decide)) (g := (mkF m 36 #[.val (.ref t1), .val (.ref a1), .val (.int (0 : Int32)), .val (.int (4 : Int32)), .val .null, .unset] [(.int (4 : Int32)), (.int (0 : Int32)), (.ref a1)])) rfl (by rw [hml]; rfl) (argsL := [(.ref a1), (.int (0 : Int32)), (.int (4 : Int32))]) (rest := []) (lenOf own_pd__28_5bCII_29_5bB rfl) rfl (by show 2 * 0 + _ ≤ _; exact Nat.le_of_eq rfl) (hb hby D6_36) (fun _ _ => ⟨rfl, e2, (by decide : 0 + 1 ≤ _), (by decide : 0 + 4 ≤ _)⟩)
  dsimp only [Pt.U, Pt.locs, Pt.cells, Pt.slots] at X3 l3 y3 z3 st3 hQ3
  subst l3 y3 z3
  obtain ⟨b_3, kb_3, rfl, M3, K3, g3_0, r3_0⟩ := hQ3
  have N3 := Fr.app N0 M3
  refine own_by st3 ?_
  have z3 := K3.1
  have lt_g3_0 : T3.heap.size > b_3 := g3_0.lt
  refine own_by (fun _ k => XS.astore X3.here hx rfl (hb hby D6_39) rfl rfl (l' := #[.val (.ref t1), .val (.ref a1), .val (.int (0 : Int32)), .val (.int (4 : Int32)), .val .null, .val (.ref b_3)]) rfl k) ?_
  refine own_by (fun _ k => XS.aloadN X3.here hx rfl (hb hby D6_41) rfl rfl k) ?_
  show own_Go p e below (T3.setTop (mkF m 42 #[.val (.ref t1), .val (.ref a1), .val (.int (0 : Int32)), .val (.int (4 : Int32)), .val .null, .val (.ref b_3)] [(.ref t1)])) _
  refine own_by (fun _ k => XS.aload X3.here hx rfl (hb hby D6_42) rfl rfl k) ?_
  refine own_by (fun _ k => XS.iloadN X3.here hx rfl (hb hby D6_44) rfl k) ?_
  have O4 : Old Z n0 T3.heap := (O0.keep K3 all0)
  obtain ⟨_, _, ⟨T5, L5, k5, n5⟩, -, X5, ⟨Lc5, hQ5, l5, y5, z5⟩, st5⟩ := Jvm.LawKit.callS X3 hx (y := (⟨s16_, s17_, "([BI)B"⟩ : MethodName)) hown (mvT hZ (own_w hw 57 rfl)) (mvT hZ (own_w hw 58 rfl)) (mvT hZ (own_w hw 51 rfl)) (mvT hZ (own_w hw 59 rfl)) (by decide) (backOf (W := 1) (rm_cfal_4 l Z a0 hw [] b_3 kb_3 (own_b c1) (own_b c2) (own_b c3) (own_b c4) T3.heap n0 O4 g3_0) hZ (own_w hw 59 rfl) (own_w hw 51 rfl) (by decide) (by decide)) (g := (mkF m 45 #[.val (.ref t1), .val (.ref a1), .val (.int (0 : Int32)), .val (.int (4 : Int32)), .val .null, .val (.ref b_3)] [(.int (4 : Int32)), (.ref b_3), (.ref t1)])) rfl (by rw [hml]; rfl) (argsL := [(.ref b_3), (.int (4 : Int32))]) (rest := [(.ref t1)]) (lenOf own_pd__28_5bBI_29B rfl) rfl (by show 2 * 0 + _ ≤ _; exact Nat.le_of_eq rfl) (hb hby D6_45) (fun _ _ => ⟨rfl, rfl, (by decide : 1 + 0 ≤ _), (by decide : 4 + 0 ≤ _)⟩)
  dsimp only [Pt.U, Pt.locs, Pt.cells, Pt.slots] at X5 l5 y5 z5 st5 hQ5
  subst l5 y5 z5
  obtain ⟨rfl, M5, K5⟩ := hQ5
  have N5 := Fr.app N3 M5
  refine own_by st5 ?_
  have fc6 : Fld Z T3.heap t1 s11_ "coder" "B" (.int (0 : Int32)) := (Fc.keep K3 nin0)
  have fc7 : Exa Z T3.heap t1 s11_ := (Et.keep K3)
  obtain ⟨T8, h8, X8, e8, W8, st8⟩ := putFN X5 hx hZ hown (own_w hw 60 rfl) Via.refl K5 fc6 fc7 (Or.inr ⟨(own_w hw 61 rfl), rfl, hnm⟩) (own_w hw 37 rfl) (ty := .byte) (v' := (.int (0 : Int32))) (by decide) rfl rfl (g := (mkF m 48 #[.val (.ref t1), .val (.ref a1), .val (.int (0 : Int32)), .val (.int (4 : Int32)), .val .null, .val (.ref b_3)] [(.int (0 : Int32)), (.ref t1)])) rfl rfl (hb hby D6_48)
  refine own_by st8 ?_
  have z8 := W8.size
  have N8 := Fr.snoc X8 N5 (by omega)
  have Fw8 : Fld Z h8 t1 s11_ "coder" "B" (.int (0 : Int32)) := fc6.same W8
  refine own_by (fun _ k => XS.aloadN X8.here hx rfl (hb hby D6_51) rfl rfl k) ?_
  refine own_by (fun _ k => XS.aload X8.here hx rfl (hb hby D6_52) rfl rfl k) ?_
  show own_Go p e below (T8.setTop (mkF m 54 #[.val (.ref t1), .val (.ref a1), .val (.int (0 : Int32)), .val (.int (4 : Int32)), .val .null, .val (.ref b_3)] [(.ref b_3), (.ref t1)])) _
  have fc9 : Fld Z h8 t1 s11_ "value" "[B" .null := ((Fv.keep K3 nin0).other W8 (Or.inr (slot_ne (a0 := a0) (Or.inr (own_w hw 63 rfl)) (Or.inr (own_w hw 61 rfl)) (by decide) (t := (.array .byte)) (by decide) (t' := .byte) (by decide))))
  have fc10 : Exa Z h8 t1 s11_ := (fc7.wr W8)
  obtain ⟨T11, h11, X11, e11, W11, st11⟩ := putF X8 hx hZ hown (host := "") (Or.inl (own_w hw 62 rfl)) Via.refl e8 fc9 fc10 (Or.inr ⟨(own_w hw 63 rfl), rfl, hnm⟩) (own_w hw 37 rfl) (ty := (.array .byte)) (by decide) rfl rfl (g := (mkF m 54 #[.val (.ref t1), .val (.ref a1), .val (.int (0 : Int32)), .val (.int (4 : Int32)), .val .null, .val (.ref b_3)] [(.ref b_3), (.ref t1)])) rfl rfl (hb hby D6_54)
  refine own_by st11 ?_
  have z11 := W11.size
  have N11 := Fr.snoc X11 N8 (by omega)
  have Fw11 : Fld Z h11 t1 s11_ "value" "[B" (.ref b_3) := fc9.same W11
  have fc12 : Exa Z h11 t1 s11_ := (fc10.wr W11)
  have fc13 : Fld Z h11 t1 s11_ "coder" "B" (.int (0 : Int32)) := (Fw8.other W11 (Or.inr (slot_ne (a0 := a0) (Or.inr (own_w hw 61 rfl)) (Or.inr (own_w hw 63 rfl)) (by decide) (t := .byte) (by decide) (t' := (.array .byte)) (by decide))))
  have fc14 : Arv Z h11 b_3 kb_3 .byte (4 : Int32) [(.int (own_b c1)), (.int (own_b c2)), (.int (own_b c3)), (.int (own_b c4))] (.int (0 : Int32)) := ((g3_0.other W8 (own_ne (by omega))).other W11 (own_ne (by omega)))
  have K15 : Keep h0 h11 [t1] := ((((Keep.refl h0 [t1]).trans K3 all0).wr W8 (Or.inl (List.mem_of_getElem? (i := 0) rfl))).wr W11 (Or.inl (List.mem_of_getElem? (i := 0) rfl)))
  obtain ⟨fs, hr, hrun, hended, hW, hsame⟩ := X11.leave (v := none) (fun h => rfl)
  refine ⟨_, _, X11.returnOut hx Bd.returns (hb hby D6_57) hr, hrun, hended, _, _, rfl, ?_, ⟨_, rfl⟩, hW, hsame.mono (by decide) (by decide)⟩
  show Q_rm_sinit4_4 Z t1 a1 ka cs c1 c2 c3 c4 h0 n0 _ T11.heap _
  rw [e11]
  exact ⟨b_3, kb_3, rfl, N11, K15, fc12, fc13, Fw11, fc14, (by first | assumption | omega)⟩
def Q_rm_sinit_4 (Z : State) (t1 : Addr) (a1 : Addr) (ka : ClassId) (cs : Int32) (c1 : Int32) (c2 : Int32) (c3 : Int32) (c4 : Int32) (h0 : Heap) (n0 : Nat) (v : Option Value) (h : Heap) (L : List Loc) : Prop := ∃ (b : Addr), ∃ (kb : ClassId), v = none ∧ Fr n0 L ∧ Keep h0 h [t1] ∧ Exa Z h t1 s11_ ∧ Fld Z h t1 s11_ "coder" "B" (.int (0 : Int32)) ∧ Fld Z h t1 s11_ "value" "[B" (.ref b) ∧ Arv Z h b kb .byte (4 : Int32) [(.int (own_b c1)), (.int (own_b c2)), (.int (own_b c3)), (.int (own_b c4))] (.int (0 : Int32)) ∧ h0.size ≤ b
theorem ef_rm_sinit_4 (m : MethodId) (t1 : Addr) (a1 : Addr) (ka : ClassId) (cs : Int32) (c1 : Int32) (c2 : Int32) (c3 : Int32) (c4 : Int32) : entryFrame m #[(.ref t1), (.ref a1)] 2 = mkF m 0 #[.val (.ref t1), .val (.ref a1)] [] := by first | (simp [entryFrame, mkF, argsToLocals, Value.category]; done) | rfl
set_option maxRecDepth 65536 in
set_option maxHeartbeats 40000000 in
theorem rm_sinit_4 (l : Launch) (Z : State) (a0 : Array Value) (hw : ∀ d ∈ tables_1, d.before a0 Z = true) (ws : List Jvm.Cond) (t1 : Addr) (a1 : Addr) (ka : ClassId) (cs : Int32) (c1 : Int32) (c2 : Int32) (c3 : Int32) (c4 : Int32) (h0 : Heap) (n0 : Nat) (O0 : Old Z n0 h0) (S_COMPACT : Sta Z Z.heap s11_ s15_ "Z" (.int cs)) (Et : Exa Z h0 t1 s11_) (Fv : Fld Z h0 t1 s11_ "value" "[B" .null) (Fc : Fld Z h0 t1 s11_ "coder" "B" (.int (0 : Int32))) (Va : Arv Z h0 a1 ka .char (4 : Int32) [(.int c1), (.int c2), (.int c3), (.int c4)] (.int (0 : Int32))) (rc1 : ¬ ((255 : Int32) < c1)) (rc2 : ¬ ((255 : Int32) < c2)) (rc3 : ¬ ((255 : Int32) < c3)) (rc4 : ¬ ((255 : Int32) < c4)) (gt : n0 ≤ t1) (hcs : ¬ (cs = (0 : Int32))) (nta : ¬ (@Eq Nat a1 t1)) :
    MetFree l (⟨s11_, "<init>", "([C)V"⟩ : MethodName) (head1 (Jvm.Cond.code (⟨s11_, "<init>", "([C)V"⟩ : MethodName) jdk_42_method_3_code 2 none :: ws) ({ frames := 3, cells := 1, slots := 4, locals := 52 } : Room)) (fun a U => a = #[(.ref t1), (.ref a1)] ∧ Z.Warmed39 U.vm ∧ U.heap = h0) (fun _ _ _ _ _ => True) (fun _ U o U' => ∃ v L, o = .returned v ∧ Q_rm_sinit_4 Z t1 a1 ka cs c1 c2 c3 c4 h0 n0 v U'.heap L ∧ FrameEnd U o U' L ({ frames := 3, cells := 1, slots := 4, locals := 52 } : Room).cells ({ frames := 3, cells := 1, slots := 4, locals := 52 } : Room).slots) := by
  refine MetFree.of_bodySF (plainFor_of_name own_pn_java_lang_String) hisR ?_
  intro p e s m args below meth c s₁ Bd hml0 hP hK
  obtain ⟨rfl, hZ, hh⟩ := hP
  have hx := Bd.exec
  have hby := Bd.bytes
  have hml : c.maxLocals = 2 := hml0
  have hown : s.vm.findClass s11_ = some m.cls := findClass_of_methodNamed Bd.named
  have hnm := (name_of_methodNamed Bd.named Bd.method).1
  have X0 : Stand p l e ({ frames := 3, cells := 1, slots := 4, locals := 52 } : Room) s m #[(.ref t1), (.ref a1)] below meth c s₁ [] 0 0 := Stand.of_body Bd
  have e0 : s₁.heap = h0 := by rw [← hh, Bd.state]; rfl
  have N0 := Fr.nil n0
  have Z0 : n0 ≤ h0.size := by rw [← O0.1]; exact O0.2.1
  show own_Go p e below (s₁.setTop (entryFrame m #[(.ref t1), (.ref a1)] 2)) (fun t o => ∃ v L, o = .returned v ∧ Q_rm_sinit_4 Z t1 a1 ka cs c1 c2 c3 c4 h0 n0 v t.heap L ∧ FrameEnd s o t L ({ frames := 3, cells := 1, slots := 4, locals := 52 } : Room).cells ({ frames := 3, cells := 1, slots := 4, locals := 52 } : Room).slots)
  rw [ef_rm_sinit_4 m t1 a1 ka cs c1 c2 c3 c4]
  have lt_Et : h0.size > t1 := Et.lt
  have lt_Fv : h0.size > t1 := Fv.lt
  have lt_Fc : h0.size > t1 := Fc.lt
  have lt_Va : h0.size > a1 := Va.lt
  refine own_by (fun _ k => XS.aloadN X0.here hx rfl (hb hby D5_0) rfl rfl k) ?_
  refine own_by (fun _ k => XS.aloadN X0.here hx rfl (hb hby D5_1) rfl rfl k) ?_
  refine own_by (fun _ k => XS.iconst X0.here hx rfl (hb hby D5_2) k) ?_
  refine own_by (fun _ k => XS.aloadN X0.here hx rfl (hb hby D5_3) rfl rfl k) ?_
  obtain ⟨cl1, Ar1, q1, S1, M1, H1, G1⟩ := (id Va)
  refine own_by (X0.arraylength hx (by rw [e0]; exact Ar1.1) (State.isArrayOf_alike hZ.alike Ar1.2.1) (g := (mkF m 4 #[.val (.ref t1), .val (.ref a1)] [(.ref a1), (.int (0 : Int32)), (.ref a1), (.ref t1)])) rfl rfl (hb hby D5_4)) ?_
  rw [len_of S1 M1]
  refine own_by (fun _ k => XS.aconstNull X0.here hx rfl (hb hby D5_5) k) ?_
  show own_Go p e below (s₁.setTop (mkF m 6 #[.val (.ref t1), .val (.ref a1)] [.null, (.int (4 : Int32)), (.int (0 : Int32)), (.ref a1), (.ref t1)])) _
  obtain ⟨_, _, ⟨T2, L2, k2, n2⟩, -, X2, ⟨Lc2, hQ2, l2, y2, z2⟩, st2⟩ := X0.specialBack hx (y := (⟨s11_, "<init>", s14_⟩ : MethodName)) rfl hown (mvT hZ (own_w hw 41 rfl)) (mvT hZ (own_w hw 42 rfl)) (mvT hZ (own_w hw 44 rfl)) (by decide) (backOf (W := 0) (rm_sinit4_4 l Z a0 hw [] t1 a1 ka cs c1 c2 c3 c4 h0 n0 O0 S_COMPACT Et Fv Fc Va rc1 rc2 rc3 rc4 gt hcs nta) hZ (own_w hw 44 rfl) (own_w hw 30 rfl) (by decide) (by decide)) (g := (mkF m 6 #[.val (.ref t1), .val (.ref a1)] [.null, (.int (4 : Int32)), (.int (0 : Int32)), (.ref a1), (.ref t1)])) rfl (by rw [hml]; rfl) (Steps.refl _) (a := t1) (argsL := [(.ref a1), (.int (0 : Int32)), (.int (4 : Int32)), .null]) (rest := []) (lenOf own_pd__28_5bCIILjava_2flang_2fVoid_3b_29V rfl) rfl (by show 2 * 0 + _ ≤ _; exact Nat.le_of_eq rfl) (hb hby D5_6) (fun _ _ => ⟨rfl, e0, (by decide : 0 + 1 ≤ _), (by decide : 0 + 4 ≤ _)⟩)
  dsimp only [Pt.U, Pt.locs, Pt.cells, Pt.slots] at X2 l2 y2 z2 st2 hQ2
  subst l2 y2 z2
  obtain ⟨b_2, kb_2, rfl, M2, K2, g2_0, g2_1, g2_2, g2_3, r2_0⟩ := hQ2
  have N2 := Fr.app N0 M2
  refine own_by (fun _ k => st2.trans k) ?_
  have z2 := K2.1
  have lt_g2_0 : T2.heap.size > t1 := g2_0.lt
  have lt_g2_1 : T2.heap.size > t1 := g2_1.lt
  have lt_g2_2 : T2.heap.size > t1 := g2_2.lt
  have lt_g2_3 : T2.heap.size > b_2 := g2_3.lt
  have K3 : Keep h0 T2.heap [t1] := ((Keep.refl h0 [t1]).trans K2 (allS (P := fun x => x ∈ [t1] ∨ h0.size ≤ x) (Or.inl (List.mem_of_getElem? (i := 0) rfl)) all0))
  obtain ⟨fs, hr, hrun, hended, hW, hsame⟩ := X2.leave (v := none) (fun h => rfl)
  refine ⟨_, _, X2.returnOut hx Bd.returns (hb hby D5_9) hr, hrun, hended, _, _, rfl, ?_, ⟨_, rfl⟩, hW, hsame.mono (by decide) (by decide)⟩
  show Q_rm_sinit_4 Z t1 a1 ka cs c1 c2 c3 c4 h0 n0 _ T2.heap _
  exact ⟨b_2, kb_2, rfl, N2, K3, g2_0, g2_1, g2_2, g2_3, (by first | assumption | omega)⟩
def Q_rm_comp5_5 (Z : State) (a1 : Addr) (b : Addr) (ka : ClassId) (kb : ClassId) (c1 : Int32) (c2 : Int32) (c3 : Int32) (c4 : Int32) (c5 : Int32) (h0 : Heap) (n0 : Nat) (v : Option Value) (h : Heap) (L : List Loc) : Prop := v = some (.int (5 : Int32)) ∧ Fr n0 L ∧ Keep h0 h [b] ∧ Arv Z h b kb .byte (5 : Int32) [(.int (own_b c1)), (.int (own_b c2)), (.int (own_b c3)), (.int (own_b c4)), (.int (own_b c5))] (.int (0 : Int32))
theorem ef_rm_comp5_5 (m : MethodId) (a1 : Addr) (b : Addr) (ka : ClassId) (kb : ClassId) (c1 : Int32) (c2 : Int32) (c3 : Int32) (c4 : Int32) (c5 : Int32) : entryFrame m #[(.ref a1), (.int (0 : Int32)), (.ref b), (.int (0 : Int32)), (.int (5 : Int32))] 7 = mkF m 0 #[.val (.ref a1), .val (.int (0 : Int32)), .val (.ref b), .val (.int (0 : Int32)), .val (.int (5 : Int32)), .unset, .unset] [] := by first | (simp [entryFrame, mkF, argsToLocals, Value.category]; done) | rfl
set_option maxRecDepth 65536 in
set_option maxHeartbeats 40000000 in
theorem rm_comp5_5 (l : Launch) (Z : State) (a0 : Array Value) (hw : ∀ d ∈ tables_1, d.before a0 Z = true) (ws : List Jvm.Cond) (a1 : Addr) (b : Addr) (ka : ClassId) (kb : ClassId) (c1 : Int32) (c2 : Int32) (c3 : Int32) (c4 : Int32) (c5 : Int32) (h0 : Heap) (n0 : Nat) (O0 : Old Z n0 h0) (Va : Arv Z h0 a1 ka .char (5 : Int32) [(.int c1), (.int c2), (.int c3), (.int c4), (.int c5)] (.int (0 : Int32))) (Vb : Arv Z h0 b kb .byte (5 : Int32) [] (.int (0 : Int32))) (rc1 : ¬ ((255 : Int32) < c1)) (rc2 : ¬ ((255 : Int32) < c2)) (rc3 : ¬ ((255 : Int32) < c3)) (rc4 : ¬ ((255 : Int32) < c4)) (rc5 : ¬ ((255 : Int32) < c5)) (gb : n0 ≤ b) (nab : ¬ (@Eq Nat a1 b)) :
    MetFree l (⟨s16_, "compress", "([CI[BII)I"⟩ : MethodName) (head1 (Jvm.Cond.code (⟨s16_, "compress", "([CI[BII)I"⟩ : MethodName) jdk_52_method_21_code 7 (some .int) :: ws) ({ frames := 0, cells := 0, slots := 0, locals := 0 } : Room)) (fun a U => a = #[(.ref a1), (.int (0 : Int32)), (.ref b), (.int (0 : Int32)), (.int (5 : Int32))] ∧ Z.Warmed39 U.vm ∧ U.heap = h0) (fun _ _ _ _ _ => True) (fun _ U o U' => ∃ v L, o = .returned v ∧ Q_rm_comp5_5 Z a1 b ka kb c1 c2 c3 c4 c5 h0 n0 v U'.heap L ∧ FrameEnd U o U' L ({ frames := 0, cells := 0, slots := 0, locals := 0 } : Room).cells ({ frames := 0, cells := 0, slots := 0, locals := 0 } : Room).slots) := by
  refine MetFree.of_bodySF (plainFor_of_name own_pn_java_lang_StringUTF16) hisR ?_
  intro p e s m args below meth c s₁ Bd hml0 hP hK
  obtain ⟨rfl, hZ, hh⟩ := hP
  have hx := Bd.exec
  have hby := Bd.bytes
  have hml : c.maxLocals = 7 := hml0
  have hown : s.vm.findClass s16_ = some m.cls := findClass_of_methodNamed Bd.named
  have hnm := (name_of_methodNamed Bd.named Bd.method).1
  have X0 : Stand p l e ({ frames := 0, cells := 0, slots := 0, locals := 0 } : Room) s m #[(.ref a1), (.int (0 : Int32)), (.ref b), (.int (0 : Int32)), (.int (5 : Int32))] below meth c s₁ [] 0 0 := Stand.of_body Bd
  have e0 : s₁.heap = h0 := by rw [← hh, Bd.state]; rfl
  have N0 := Fr.nil n0
  have Z0 : n0 ≤ h0.size := by rw [← O0.1]; exact O0.2.1
  show own_Go p e below (s₁.setTop (entryFrame m #[(.ref a1), (.int (0 : Int32)), (.ref b), (.int (0 : Int32)), (.int (5 : Int32))] 7)) (fun t o => ∃ v L, o = .returned v ∧ Q_rm_comp5_5 Z a1 b ka kb c1 c2 c3 c4 c5 h0 n0 v t.heap L ∧ FrameEnd s o t L ({ frames := 0, cells := 0, slots := 0, locals := 0 } : Room).cells ({ frames := 0, cells := 0, slots := 0, locals := 0 } : Room).slots)
  rw [ef_rm_comp5_5 m a1 b ka kb c1 c2 c3 c4 c5]
  have lt_Va : h0.size > a1 := Va.lt
  have lt_Vb : h0.size > b := Vb.lt
  refine own_by (fun _ k => XS.iconst X0.here hx rfl (hb hby D9_0) k) ?_
  refine own_by (fun _ k => XS.istore X0.here hx rfl (hb hby D9_1) rfl (l' := #[.val (.ref a1), .val (.int (0 : Int32)), .val (.ref b), .val (.int (0 : Int32)), .val (.int (5 : Int32)), .val (.int (0 : Int32)), .unset]) rfl k) ?_
  refine own_by (fun _ k => XS.iload X0.here hx rfl (hb hby D9_3) rfl k) ?_
  refine own_by (fun _ k => XS.iload X0.here hx rfl (hb hby D9_5) rfl k) ?_
  refine own_by (fun _ k => XS.icmpNo X0.here hx rfl (hb hby D9_7) rfl (tlt (by decide : (0 : Int32) < (5 : Int32))).2.1 k) ?_
  show own_Go p e below (s₁.setTop (mkF m 10 #[.val (.ref a1), .val (.int (0 : Int32)), .val (.ref b), .val (.int (0 : Int32)), .val (.int (5 : Int32)), .val (.int (0 : Int32)), .unset] [])) _
  refine own_by (fun _ k => XS.aloadN X0.here hx rfl (hb hby D9_10) rfl rfl k) ?_
  refine own_by (fun _ k => XS.iloadN X0.here hx rfl (hb hby D9_11) rfl k) ?_
  obtain ⟨cl1, Ar1, q1, S1, M1, H1, G1⟩ := (id Va)
  have hin1 : ¬ ((0 : Int32) < 0 ∨ cl1.slots.size ≤ ((0 : Int32)).toNatClampNeg) := inb_of S1 ⟨by decide, by decide⟩
  refine own_by (X0.caload hx (j := (0 : Int32)) (v := (.int c1)) (by rw [e0]; exact Ar1.1) (State.isArrayOf_alike hZ.alike Ar1.2.1) Ar1.2.2 hin1 (H1.at hin1 rfl) (g := (mkF m 12 #[.val (.ref a1), .val (.int (0 : Int32)), .val (.ref b), .val (.int (0 : Int32)), .val (.int (5 : Int32)), .val (.int (0 : Int32)), .unset] [(.int (0 : Int32)), (.ref a1)])) rfl rfl (hb hby D9_12)) ?_
  refine own_by (fun _ k => XS.istore X0.here hx rfl (hb hby D9_13) rfl (l' := #[.val (.ref a1), .val (.int (0 : Int32)), .val (.ref b), .val (.int (0 : Int32)), .val (.int (5 : Int32)), .val (.int (0 : Int32)), .val (.int c1)]) rfl k) ?_
  refine own_by (fun _ k => XS.iload X0.here hx rfl (hb hby D9_15) rfl k) ?_
  refine own_by (fun _ k => XS.sipush X0.here hx rfl (hb hby D9_17) k) ?_
  show own_Go p e below (s₁.setTop (mkF m 20 #[.val (.ref a1), .val (.int (0 : Int32)), .val (.ref b), .val (.int (0 : Int32)), .val (.int (5 : Int32)), .val (.int (0 : Int32)), .val (.int c1)] [(.int (255 : Int32)), (.int c1)])) _
  refine own_by (fun _ k => XS.icmpYes X0.here hx rfl (pc0 := 20) (pc' := 26) rfl (hb hby D9_20) rfl (flt rc1).2.2.2 (by decide) (by decide) k) ?_
  show own_Go p e below (s₁.setTop (mkF m 26 #[.val (.ref a1), .val (.int (0 : Int32)), .val (.ref b), .val (.int (0 : Int32)), .val (.int (5 : Int32)), .val (.int (0 : Int32)), .val (.int c1)] [])) _
  refine own_by (fun _ k => XS.aloadN X0.here hx rfl (hb hby D9_26) rfl rfl k) ?_
  refine own_by (fun _ k => XS.iloadN X0.here hx rfl (hb hby D9_27) rfl k) ?_
  refine own_by (fun _ k => XS.iload X0.here hx rfl (hb hby D9_28) rfl k) ?_
  refine own_by (fun _ k => XS.i2b X0.here hx rfl (hb hby D9_30) rfl k) ?_
  have Vw2 : Arv Z h0 b kb .byte (5 : Int32) [(.int (0 : Int32))] (.int (0 : Int32)) := Vb.pad (pad_rep [] (.int (0 : Int32)) 1)
  obtain ⟨cl3, Ar3, q3, S3, M3, H3, G3⟩ := (id Vw2)
  have hin3 : ¬ ((0 : Int32) < 0 ∨ cl3.slots.size ≤ ((0 : Int32)).toNatClampNeg) := inb_of S3 ⟨by decide, by decide⟩
  obtain ⟨T3, h3, X3, e3, W3, st3⟩ := stB X0 hx hZ e0 Ar3 (j := (0 : Int32)) hin3 (g := (mkF m 31 #[.val (.ref a1), .val (.int (0 : Int32)), .val (.ref b), .val (.int (0 : Int32)), .val (.int (5 : Int32)), .val (.int (0 : Int32)), .val (.int c1)] [(.int (c1.toInt8.toInt32)), (.int (0 : Int32)), (.ref b)])) rfl rfl (hb hby D9_31)
  refine own_by st3 ?_
  have z3 := W3.size
  have N3 := Fr.snoc X3 N0 (by omega)
  have Vw3 : Arv Z h3 b kb .byte (5 : Int32) [(.int (own_b c1))] (.int (0 : Int32)) := Arv.set Ar3 q3 S3 M3 H3 G3 (fits_nar_byte2 _) W3 0 rfl (Nat.le_of_ble_eq_true rfl)
  refine own_by (fun _ k => XS.iinc X3.here hx rfl (hb hby D9_32) rfl (l' := #[.val (.ref a1), .val (.int (1 : Int32)), .val (.ref b), .val (.int (0 : Int32)), .val (.int (5 : Int32)), .val (.int (0 : Int32)), .val (.int c1)]) rfl k) ?_
  show own_Go p e below (T3.setTop (mkF m 35 #[.val (.ref a1), .val (.int (1 : Int32)), .val (.ref b), .val (.int (0 : Int32)), .val (.int (5 : Int32)), .val (.int (0 : Int32)), .val (.int c1)] [])) _
  refine own_by (fun _ k => XS.iinc X3.here hx rfl (hb hby D9_35) rfl (l' := #[.val (.ref a1), .val (.int (1 : Int32)), .val (.ref b), .val (.int (1 : Int32)), .val (.int (5 : Int32)), .val (.int (0 : Int32)), .val (.int c1)]) rfl k) ?_
  refine own_by (fun _ k => XS.iinc X3.here hx rfl (hb hby D9_38) rfl (l' := #[.val (.ref a1), .val (.int (1 : Int32)), .val (.ref b), .val (.int (1 : Int32)), .val (.int (5 : Int32)), .val (.int (1 : Int32)), .val (.int c1)]) rfl k) ?_
  refine own_by (fun _ k => XS.goto X3.here hx rfl (pc0 := 41) (pc' := 3) rfl (hb hby D9_41) (by decide) (by decide) k) ?_
  refine own_by (fun _ k => XS.iload X3.here hx rfl (hb hby D9_3) rfl k) ?_
  refine own_by (fun _ k => XS.iload X3.here hx rfl (hb hby D9_5) rfl k) ?_
  refine own_by (fun _ k => XS.icmpNo X3.here hx rfl (hb hby D9_7) rfl (tlt (by decide : (1 : Int32) < (5 : Int32))).2.1 k) ?_
  show own_Go p e below (T3.setTop (mkF m 10 #[.val (.ref a1), .val (.int (1 : Int32)), .val (.ref b), .val (.int (1 : Int32)), .val (.int (5 : Int32)), .val (.int (1 : Int32)), .val (.int c1)] [])) _
  refine own_by (fun _ k => XS.aloadN X3.here hx rfl (hb hby D9_10) rfl rfl k) ?_
  refine own_by (fun _ k => XS.iloadN X3.here hx rfl (hb hby D9_11) rfl k) ?_
  have fc4 : Arv Z h3 a1 ka .char (5 : Int32) [(.int c1), (.int c2), (.int c3), (.int c4), (.int c5)] (.int (0 : Int32)) := (Va.other W3 (own_ne (by omega)))
  obtain ⟨cl5, Ar5, q5, S5, M5, H5, G5⟩ := (id fc4)
  have hin5 : ¬ ((1 : Int32) < 0 ∨ cl5.slots.size ≤ ((1 : Int32)).toNatClampNeg) := inb_of S5 ⟨by decide, by decide⟩
  refine own_by (X3.caload hx (j := (1 : Int32)) (v := (.int c2)) (by rw [e3]; exact Ar5.1) (State.isArrayOf_alike hZ.alike Ar5.2.1) Ar5.2.2 hin5 (H5.at hin5 rfl) (g := (mkF m 12 #[.val (.ref a1), .val (.int (1 : Int32)), .val (.ref b), .val (.int (1 : Int32)), .val (.int (5 : Int32)), .val (.int (1 : Int32)), .val (.int c1)] [(.int (1 : Int32)), (.ref a1)])) rfl rfl (hb hby D9_12)) ?_
  refine own_by (fun _ k => XS.istore X3.here hx rfl (hb hby D9_13) rfl (l' := #[.val (.ref a1), .val (.int (1 : Int32)), .val (.ref b), .val (.int (1 : Int32)), .val (.int (5 : Int32)), .val (.int (1 : Int32)), .val (.int c2)]) rfl k) ?_
  refine own_by (fun _ k => XS.iload X3.here hx rfl (hb hby D9_15) rfl k) ?_
  refine own_by (fun _ k => XS.sipush X3.here hx rfl (hb hby D9_17) k) ?_
  show own_Go p e below (T3.setTop (mkF m 20 #[.val (.ref a1), .val (.int (1 : Int32)), .val (.ref b), .val (.int (1 : Int32)), .val (.int (5 : Int32)), .val (.int (1 : Int32)), .val (.int c2)] [(.int (255 : Int32)), (.int c2)])) _
  refine own_by (fun _ k => XS.icmpYes X3.here hx rfl (pc0 := 20) (pc' := 26) rfl (hb hby D9_20) rfl (flt rc2).2.2.2 (by decide) (by decide) k) ?_
  show own_Go p e below (T3.setTop (mkF m 26 #[.val (.ref a1), .val (.int (1 : Int32)), .val (.ref b), .val (.int (1 : Int32)), .val (.int (5 : Int32)), .val (.int (1 : Int32)), .val (.int c2)] [])) _
  refine own_by (fun _ k => XS.aloadN X3.here hx rfl (hb hby D9_26) rfl rfl k) ?_
  refine own_by (fun _ k => XS.iloadN X3.here hx rfl (hb hby D9_27) rfl k) ?_
  refine own_by (fun _ k => XS.iload X3.here hx rfl (hb hby D9_28) rfl k) ?_
  refine own_by (fun _ k => XS.i2b X3.here hx rfl (hb hby D9_30) rfl k) ?_
  have Vw6 : Arv Z h3 b kb .byte (5 : Int32) [(.int (own_b c1)), (.int (0 : Int32))] (.int (0 : Int32)) := Vw3.pad (pad_rep [(.int (own_b c1))] (.int (0 : Int32)) 1)
  obtain ⟨cl7, Ar7, q7, S7, M7, H7, G7⟩ := (id Vw6)
  have hin7 : ¬ ((1 : Int32) < 0 ∨ cl7.slots.size ≤ ((1 : Int32)).toNatClampNeg) := inb_of S7 ⟨by decide, by decide⟩
  obtain ⟨T7, h7, X7, e7, W7, st7⟩ := stB X3 hx hZ e3 Ar7 (j := (1 : Int32)) hin7 (g := (mkF m 31 #[.val (.ref a1), .val (.int (1 : Int32)), .val (.ref b), .val (.int (1 : Int32)), .val (.int (5 : Int32)), .val (.int (1 : Int32)), .val (.int c2)] [(.int (c2.toInt8.toInt32)), (.int (1 : Int32)), (.ref b)])) rfl rfl (hb hby D9_31)
  refine own_by st7 ?_
  have z7 := W7.size
  have N7 := Fr.snoc X7 N3 (by omega)
  have Vw7 : Arv Z h7 b kb .byte (5 : Int32) [(.int (own_b c1)), (.int (own_b c2))] (.int (0 : Int32)) := Arv.set Ar7 q7 S7 M7 H7 G7 (fits_nar_byte2 _) W7 1 rfl (Nat.le_of_ble_eq_true rfl)
  refine own_by (fun _ k => XS.iinc X7.here hx rfl (hb hby D9_32) rfl (l' := #[.val (.ref a1), .val (.int (2 : Int32)), .val (.ref b), .val (.int (1 : Int32)), .val (.int (5 : Int32)), .val (.int (1 : Int32)), .val (.int c2)]) rfl k) ?_
  show own_Go p e below (T7.setTop (mkF m 35 #[.val (.ref a1), .val (.int (2 : Int32)), .val (.ref b), .val (.int (1 : Int32)), .val (.int (5 : Int32)), .val (.int (1 : Int32)), .val (.int c2)] [])) _
  refine own_by (fun _ k => XS.iinc X7.here hx rfl (hb hby D9_35) rfl (l' := #[.val (.ref a1), .val (.int (2 : Int32)), .val (.ref b), .val (.int (2 : Int32)), .val (.int (5 : Int32)), .val (.int (1 : Int32)), .val (.int c2)]) rfl k) ?_
  refine own_by (fun _ k => XS.iinc X7.here hx rfl (hb hby D9_38) rfl (l' := #[.val (.ref a1), .val (.int (2 : Int32)), .val (.ref b), .val (.int (2 : Int32)), .val (.int (5 : Int32)), .val (.int (2 : Int32)), .val (.int c2)]) rfl k) ?_
  refine own_by (fun _ k => XS.goto X7.here hx rfl (pc0 := 41) (pc' := 3) rfl (hb hby D9_41) (by decide) (by decide) k) ?_
  refine own_by (fun _ k => XS.iload X7.here hx rfl (hb hby D9_3) rfl k) ?_
  refine own_by (fun _ k => XS.iload X7.here hx rfl (hb hby D9_5) rfl k) ?_
  refine own_by (fun _ k => XS.icmpNo X7.here hx rfl (hb hby D9_7) rfl (tlt (by decide : (2 : Int32) < (5 : Int32))).2.1 k) ?_
  show own_Go p e below (T7.setTop (mkF m 10 #[.val (.ref a1), .val (.int (2 : Int32)), .val (.ref b), .val (.int (2 : Int32)), .val (.int (5 : Int32)), .val (.int (2 : Int32)), .val (.int c2)] [])) _
  refine own_by (fun _ k => XS.aloadN X7.here hx rfl (hb hby D9_10) rfl rfl k) ?_
  refine own_by (fun _ k => XS.iloadN X7.here hx rfl (hb hby D9_11) rfl k) ?_
  have fc8 : Arv Z h7 a1 ka .char (5 : Int32) [(.int c1), (.int c2), (.int c3), (.int c4), (.int c5)] (.int (0 : Int32)) := (fc4.other W7 (own_ne (by omega)))
  obtain ⟨cl9, Ar9, q9, S9, M9, H9, G9⟩ := (id fc8)
  have hin9 : ¬ ((2 : Int32) < 0 ∨ cl9.slots.size ≤ ((2 : Int32)).toNatClampNeg) := inb_of S9 ⟨by decide, by decide⟩
  refine own_by (X7.caload hx (j := (2 : Int32)) (v := (.int c3)) (by rw [e7]; exact Ar9.1) (State.isArrayOf_alike hZ.alike Ar9.2.1) Ar9.2.2 hin9 (H9.at hin9 rfl) (g := (mkF m 12 #[.val (.ref a1), .val (.int (2 : Int32)), .val (.ref b), .val (.int (2 : Int32)), .val (.int (5 : Int32)), .val (.int (2 : Int32)), .val (.int c2)] [(.int (2 : Int32)), (.ref a1)])) rfl rfl (hb hby D9_12)) ?_
  refine own_by (fun _ k => XS.istore X7.here hx rfl (hb hby D9_13) rfl (l' := #[.val (.ref a1), .val (.int (2 : Int32)), .val (.ref b), .val (.int (2 : Int32)), .val (.int (5 : Int32)), .val (.int (2 : Int32)), .val (.int c3)]) rfl k) ?_
  refine own_by (fun _ k => XS.iload X7.here hx rfl (hb hby D9_15) rfl k) ?_
  refine own_by (fun _ k => XS.sipush X7.here hx rfl (hb hby D9_17) k) ?_
  show own_Go p e below (T7.setTop (mkF m 20 #[.val (.ref a1), .val (.int (2 : Int32)), .val (.ref b), .val (.int (2 : Int32)), .val (.int (5 : Int32)), .val (.int (2 : Int32)), .val (.int c3)] [(.int (255 : Int32)), (.int c3)])) _
  refine own_by (fun _ k => XS.icmpYes X7.here hx rfl (pc0 := 20) (pc' := 26) rfl (hb hby D9_20) rfl (flt rc3).2.2.2 (by decide) (by decide) k) ?_
  show own_Go p e below (T7.setTop (mkF m 26 #[.val (.ref a1), .val (.int (2 : Int32)), .val (.ref b), .val (.int (2 : Int32)), .val (.int (5 : Int32)), .val (.int (2 : Int32)), .val (.int c3)] [])) _
  refine own_by (fun _ k => XS.aloadN X7.here hx rfl (hb hby D9_26) rfl rfl k) ?_
  refine own_by (fun _ k => XS.iloadN X7.here hx rfl (hb hby D9_27) rfl k) ?_
  refine own_by (fun _ k => XS.iload X7.here hx rfl (hb hby D9_28) rfl k) ?_
  refine own_by (fun _ k => XS.i2b X7.here hx rfl (hb hby D9_30) rfl k) ?_
  have Vw10 : Arv Z h7 b kb .byte (5 : Int32) [(.int (own_b c1)), (.int (own_b c2)), (.int (0 : Int32))] (.int (0 : Int32)) := Vw7.pad (pad_rep [(.int (own_b c1)), (.int (own_b c2))] (.int (0 : Int32)) 1)
  obtain ⟨cl11, Ar11, q11, S11, M11, H11, G11⟩ := (id Vw10)
  have hin11 : ¬ ((2 : Int32) < 0 ∨ cl11.slots.size ≤ ((2 : Int32)).toNatClampNeg) := inb_of S11 ⟨by decide, by decide⟩
  obtain ⟨T11, h11, X11, e11, W11, st11⟩ := stB X7 hx hZ e7 Ar11 (j := (2 : Int32)) hin11 (g := (mkF m 31 #[.val (.ref a1), .val (.int (2 : Int32)), .val (.ref b), .val (.int (2 : Int32)), .val (.int (5 : Int32)), .val (.int (2 : Int32)), .val (.int c3)] [(.int (c3.toInt8.toInt32)), (.int (2 : Int32)), (.ref b)])) rfl rfl (hb hby D9_31)
  refine own_by st11 ?_
  have z11 := W11.size
  have N11 := Fr.snoc X11 N7 (by omega)
  have Vw11 : Arv Z h11 b kb .byte (5 : Int32) [(.int (own_b c1)), (.int (own_b c2)), (.int (own_b c3))] (.int (0 : Int32)) := Arv.set Ar11 q11 S11 M11 H11 G11 (fits_nar_byte2 _) W11 2 rfl (Nat.le_of_ble_eq_true rfl)
  refine own_by (fun _ k => XS.iinc X11.here hx rfl (hb hby D9_32) rfl (l' := #[.val (.ref a1), .val (.int (3 : Int32)), .val (.ref b), .val (.int (2 : Int32)), .val (.int (5 : Int32)), .val (.int (2 : Int32)), .val (.int c3)]) rfl k) ?_
  show own_Go p e below (T11.setTop (mkF m 35 #[.val (.ref a1), .val (.int (3 : Int32)), .val (.ref b), .val (.int (2 : Int32)), .val (.int (5 : Int32)), .val (.int (2 : Int32)), .val (.int c3)] [])) _
  refine own_by (fun _ k => XS.iinc X11.here hx rfl (hb hby D9_35) rfl (l' := #[.val (.ref a1), .val (.int (3 : Int32)), .val (.ref b), .val (.int (3 : Int32)), .val (.int (5 : Int32)), .val (.int (2 : Int32)), .val (.int c3)]) rfl k) ?_
  refine own_by (fun _ k => XS.iinc X11.here hx rfl (hb hby D9_38) rfl (l' := #[.val (.ref a1), .val (.int (3 : Int32)), .val (.ref b), .val (.int (3 : Int32)), .val (.int (5 : Int32)), .val (.int (3 : Int32)), .val (.int c3)]) rfl k) ?_
  refine own_by (fun _ k => XS.goto X11.here hx rfl (pc0 := 41) (pc' := 3) rfl (hb hby D9_41) (by decide) (by decide) k) ?_
  refine own_by (fun _ k => XS.iload X11.here hx rfl (hb hby D9_3) rfl k) ?_
  refine own_by (fun _ k => XS.iload X11.here hx rfl (hb hby D9_5) rfl k) ?_
  refine own_by (fun _ k => XS.icmpNo X11.here hx rfl (hb hby D9_7) rfl (tlt (by decide : (3 : Int32) < (5 : Int32))).2.1 k) ?_
  show own_Go p e below (T11.setTop (mkF m 10 #[.val (.ref a1), .val (.int (3 : Int32)), .val (.ref b), .val (.int (3 : Int32)), .val (.int (5 : Int32)), .val (.int (3 : Int32)), .val (.int c3)] [])) _
  refine own_by (fun _ k => XS.aloadN X11.here hx rfl (hb hby D9_10) rfl rfl k) ?_
  refine own_by (fun _ k => XS.iloadN X11.here hx rfl (hb hby D9_11) rfl k) ?_
  have fc12 : Arv Z h11 a1 ka .char (5 : Int32) [(.int c1), (.int c2), (.int c3), (.int c4), (.int c5)] (.int (0 : Int32)) := (fc8.other W11 (own_ne (by omega)))
  obtain ⟨cl13, Ar13, q13, S13, M13, H13, G13⟩ := (id fc12)
  have hin13 : ¬ ((3 : Int32) < 0 ∨ cl13.slots.size ≤ ((3 : Int32)).toNatClampNeg) := inb_of S13 ⟨by decide, by decide⟩
  refine own_by (X11.caload hx (j := (3 : Int32)) (v := (.int c4)) (by rw [e11]; exact Ar13.1) (State.isArrayOf_alike hZ.alike Ar13.2.1) Ar13.2.2 hin13 (H13.at hin13 rfl) (g := (mkF m 12 #[.val (.ref a1), .val (.int (3 : Int32)), .val (.ref b), .val (.int (3 : Int32)), .val (.int (5 : Int32)), .val (.int (3 : Int32)), .val (.int c3)] [(.int (3 : Int32)), (.ref a1)])) rfl rfl (hb hby D9_12)) ?_
  refine own_by (fun _ k => XS.istore X11.here hx rfl (hb hby D9_13) rfl (l' := #[.val (.ref a1), .val (.int (3 : Int32)), .val (.ref b), .val (.int (3 : Int32)), .val (.int (5 : Int32)), .val (.int (3 : Int32)), .val (.int c4)]) rfl k) ?_
  refine own_by (fun _ k => XS.iload X11.here hx rfl (hb hby D9_15) rfl k) ?_
  refine own_by (fun _ k => XS.sipush X11.here hx rfl (hb hby D9_17) k) ?_
  show own_Go p e below (T11.setTop (mkF m 20 #[.val (.ref a1), .val (.int (3 : Int32)), .val (.ref b), .val (.int (3 : Int32)), .val (.int (5 : Int32)), .val (.int (3 : Int32)), .val (.int c4)] [(.int (255 : Int32)), (.int c4)])) _
  refine own_by (fun _ k => XS.icmpYes X11.here hx rfl (pc0 := 20) (pc' := 26) rfl (hb hby D9_20) rfl (flt rc4).2.2.2 (by decide) (by decide) k) ?_
  show own_Go p e below (T11.setTop (mkF m 26 #[.val (.ref a1), .val (.int (3 : Int32)), .val (.ref b), .val (.int (3 : Int32)), .val (.int (5 : Int32)), .val (.int (3 : Int32)), .val (.int c4)] [])) _
  refine own_by (fun _ k => XS.aloadN X11.here hx rfl (hb hby D9_26) rfl rfl k) ?_
  refine own_by (fun _ k => XS.iloadN X11.here hx rfl (hb hby D9_27) rfl k) ?_
  refine own_by (fun _ k => XS.iload X11.here hx rfl (hb hby D9_28) rfl k) ?_
  refine own_by (fun _ k => XS.i2b X11.here hx rfl (hb hby D9_30) rfl k) ?_
  have Vw14 : Arv Z h11 b kb .byte (5 : Int32) [(.int (own_b c1)), (.int (own_b c2)), (.int (own_b c3)), (.int (0 : Int32))] (.int (0 : Int32)) := Vw11.pad (pad_rep [(.int (own_b c1)), (.int (own_b c2)), (.int (own_b c3))] (.int (0 : Int32)) 1)
  obtain ⟨cl15, Ar15, q15, S15, M15, H15, G15⟩ := (id Vw14)
  have hin15 : ¬ ((3 : Int32) < 0 ∨ cl15.slots.size ≤ ((3 : Int32)).toNatClampNeg) := inb_of S15 ⟨by decide, by decide⟩
  obtain ⟨T15, h15, X15, e15, W15, st15⟩ := stB X11 hx hZ e11 Ar15 (j := (3 : Int32)) hin15 (g := (mkF m 31 #[.val (.ref a1), .val (.int (3 : Int32)), .val (.ref b), .val (.int (3 : Int32)), .val (.int (5 : Int32)), .val (.int (3 : Int32)), .val (.int c4)] [(.int (c4.toInt8.toInt32)), (.int (3 : Int32)), (.ref b)])) rfl rfl (hb hby D9_31)
  refine own_by st15 ?_
  have z15 := W15.size
  have N15 := Fr.snoc X15 N11 (by omega)
  have Vw15 : Arv Z h15 b kb .byte (5 : Int32) [(.int (own_b c1)), (.int (own_b c2)), (.int (own_b c3)), (.int (own_b c4))] (.int (0 : Int32)) := Arv.set Ar15 q15 S15 M15 H15 G15 (fits_nar_byte2 _) W15 3 rfl (Nat.le_of_ble_eq_true rfl)
  refine own_by (fun _ k => XS.iinc X15.here hx rfl (hb hby D9_32) rfl (l' := #[.val (.ref a1), .val (.int (4 : Int32)), .val (.ref b), .val (.int (3 : Int32)), .val (.int (5 : Int32)), .val (.int (3 : Int32)), .val (.int c4)]) rfl k) ?_
  show own_Go p e below (T15.setTop (mkF m 35 #[.val (.ref a1), .val (.int (4 : Int32)), .val (.ref b), .val (.int (3 : Int32)), .val (.int (5 : Int32)), .val (.int (3 : Int32)), .val (.int c4)] [])) _
  refine own_by (fun _ k => XS.iinc X15.here hx rfl (hb hby D9_35) rfl (l' := #[.val (.ref a1), .val (.int (4 : Int32)), .val (.ref b), .val (.int (4 : Int32)), .val (.int (5 : Int32)), .val (.int (3 : Int32)), .val (.int c4)]) rfl k) ?_
  refine own_by (fun _ k => XS.iinc X15.here hx rfl (hb hby D9_38) rfl (l' := #[.val (.ref a1), .val (.int (4 : Int32)), .val (.ref b), .val (.int (4 : Int32)), .val (.int (5 : Int32)), .val (.int (4 : Int32)), .val (.int c4)]) rfl k) ?_
  refine own_by (fun _ k => XS.goto X15.here hx rfl (pc0 := 41) (pc' := 3) rfl (hb hby D9_41) (by decide) (by decide) k) ?_
  refine own_by (fun _ k => XS.iload X15.here hx rfl (hb hby D9_3) rfl k) ?_
  refine own_by (fun _ k => XS.iload X15.here hx rfl (hb hby D9_5) rfl k) ?_
  refine own_by (fun _ k => XS.icmpNo X15.here hx rfl (hb hby D9_7) rfl (tlt (by decide : (4 : Int32) < (5 : Int32))).2.1 k) ?_
  show own_Go p e below (T15.setTop (mkF m 10 #[.val (.ref a1), .val (.int (4 : Int32)), .val (.ref b), .val (.int (4 : Int32)), .val (.int (5 : Int32)), .val (.int (4 : Int32)), .val (.int c4)] [])) _
  refine own_by (fun _ k => XS.aloadN X15.here hx rfl (hb hby D9_10) rfl rfl k) ?_
  refine own_by (fun _ k => XS.iloadN X15.here hx rfl (hb hby D9_11) rfl k) ?_
  have fc16 : Arv Z h15 a1 ka .char (5 : Int32) [(.int c1), (.int c2), (.int c3), (.int c4), (.int c5)] (.int (0 : Int32)) := (fc12.other W15 (own_ne (by omega)))
  obtain ⟨cl17, Ar17, q17, S17, M17, H17, G17⟩ := (id fc16)
  have hin17 : ¬ ((4 : Int32) < 0 ∨ cl17.slots.size ≤ ((4 : Int32)).toNatClampNeg) := inb_of S17 ⟨by decide, by decide⟩
  refine own_by (X15.caload hx (j := (4 : Int32)) (v := (.int c5)) (by rw [e15]; exact Ar17.1) (State.isArrayOf_alike hZ.alike Ar17.2.1) Ar17.2.2 hin17 (H17.at hin17 rfl) (g := (mkF m 12 #[.val (.ref a1), .val (.int (4 : Int32)), .val (.ref b), .val (.int (4 : Int32)), .val (.int (5 : Int32)), .val (.int (4 : Int32)), .val (.int c4)] [(.int (4 : Int32)), (.ref a1)])) rfl rfl (hb hby D9_12)) ?_
  refine own_by (fun _ k => XS.istore X15.here hx rfl (hb hby D9_13) rfl (l' := #[.val (.ref a1), .val (.int (4 : Int32)), .val (.ref b), .val (.int (4 : Int32)), .val (.int (5 : Int32)), .val (.int (4 : Int32)), .val (.int c5)]) rfl k) ?_
  refine own_by (fun _ k => XS.iload X15.here hx rfl (hb hby D9_15) rfl k) ?_
  refine own_by (fun _ k => XS.sipush X15.here hx rfl (hb hby D9_17) k) ?_
  show own_Go p e below (T15.setTop (mkF m 20 #[.val (.ref a1), .val (.int (4 : Int32)), .val (.ref b), .val (.int (4 : Int32)), .val (.int (5 : Int32)), .val (.int (4 : Int32)), .val (.int c5)] [(.int (255 : Int32)), (.int c5)])) _
  refine own_by (fun _ k => XS.icmpYes X15.here hx rfl (pc0 := 20) (pc' := 26) rfl (hb hby D9_20) rfl (flt rc5).2.2.2 (by decide) (by decide) k) ?_
  show own_Go p e below (T15.setTop (mkF m 26 #[.val (.ref a1), .val (.int (4 : Int32)), .val (.ref b), .val (.int (4 : Int32)), .val (.int (5 : Int32)), .val (.int (4 : Int32)), .val (.int c5)] [])) _
  refine own_by (fun _ k => XS.aloadN X15.here hx rfl (hb hby D9_26) rfl rfl k) ?_
  refine own_by (fun _ k => XS.iloadN X15.here hx rfl (hb hby D9_27) rfl k) ?_
  refine own_by (fun _ k => XS.iload X15.here hx rfl (hb hby D9_28) rfl k) ?_
  refine own_by (fun _ k => XS.i2b X15.here hx rfl (hb hby D9_30) rfl k) ?_
  have Vw18 : Arv Z h15 b kb .byte (5 : Int32) [(.int (own_b c1)), (.int (own_b c2)), (.int (own_b c3)), (.int (own_b c4)), (.int (0 : Int32))] (.int (0 : Int32)) := Vw15.pad (pad_rep [(.int (own_b c1)), (.int (own_b c2)), (.int (own_b c3)), (.int (own_b c4))] (.int (0 : Int32)) 1)
  obtain ⟨cl19, Ar19, q19, S19, M19, H19, G19⟩ := (id Vw18)
  have hin19 : ¬ ((4 : Int32) < 0 ∨ cl19.slots.size ≤ ((4 : Int32)).toNatClampNeg) := inb_of S19 ⟨by decide, by decide⟩
  obtain ⟨T19, h19, X19, e19, W19, st19⟩ := stB X15 hx hZ e15 Ar19 (j := (4 : Int32)) hin19 (g := (mkF m 31 #[.val (.ref a1), .val (.int (4 : Int32)), .val (.ref b), .val (.int (4 : Int32)), .val (.int (5 : Int32)), .val (.int (4 : Int32)), .val (.int c5)] [(.int (c5.toInt8.toInt32)), (.int (4 : Int32)), (.ref b)])) rfl rfl (hb hby D9_31)
  refine own_by st19 ?_
  have z19 := W19.size
  have N19 := Fr.snoc X19 N15 (by omega)
  have Vw19 : Arv Z h19 b kb .byte (5 : Int32) [(.int (own_b c1)), (.int (own_b c2)), (.int (own_b c3)), (.int (own_b c4)), (.int (own_b c5))] (.int (0 : Int32)) := Arv.set Ar19 q19 S19 M19 H19 G19 (fits_nar_byte2 _) W19 4 rfl (Nat.le_of_ble_eq_true rfl)
  refine own_by (fun _ k => XS.iinc X19.here hx rfl (hb hby D9_32) rfl (l' := #[.val (.ref a1), .val (.int (5 : Int32)), .val (.ref b), .val (.int (4 : Int32)), .val (.int (5 : Int32)), .val (.int (4 : Int32)), .val (.int c5)]) rfl k) ?_
  show own_Go p e below (T19.setTop (mkF m 35 #[.val (.ref a1), .val (.int (5 : Int32)), .val (.ref b), .val (.int (4 : Int32)), .val (.int (5 : Int32)), .val (.int (4 : Int32)), .val (.int c5)] [])) _
  refine own_by (fun _ k => XS.iinc X19.here hx rfl (hb hby D9_35) rfl (l' := #[.val (.ref a1), .val (.int (5 : Int32)), .val (.ref b), .val (.int (5 : Int32)), .val (.int (5 : Int32)), .val (.int (4 : Int32)), .val (.int c5)]) rfl k) ?_
  refine own_by (fun _ k => XS.iinc X19.here hx rfl (hb hby D9_38) rfl (l' := #[.val (.ref a1), .val (.int (5 : Int32)), .val (.ref b), .val (.int (5 : Int32)), .val (.int (5 : Int32)), .val (.int (5 : Int32)), .val (.int c5)]) rfl k) ?_
  refine own_by (fun _ k => XS.goto X19.here hx rfl (pc0 := 41) (pc' := 3) rfl (hb hby D9_41) (by decide) (by decide) k) ?_
  refine own_by (fun _ k => XS.iload X19.here hx rfl (hb hby D9_3) rfl k) ?_
  refine own_by (fun _ k => XS.iload X19.here hx rfl (hb hby D9_5) rfl k) ?_
  refine own_by (fun _ k => XS.icmpYes X19.here hx rfl (pc0 := 7) (pc' := 44) rfl (hb hby D9_7) rfl (flt (by decide : ¬ ((5 : Int32) < (5 : Int32)))).2.1 (by decide) (by decide) k) ?_
  show own_Go p e below (T19.setTop (mkF m 44 #[.val (.ref a1), .val (.int (5 : Int32)), .val (.ref b), .val (.int (5 : Int32)), .val (.int (5 : Int32)), .val (.int (5 : Int32)), .val (.int c5)] [])) _
  refine own_by (fun _ k => XS.iload X19.here hx rfl (hb hby D9_44) rfl k) ?_
  have K20 : Keep h0 h19 [b] := ((((((Keep.refl h0 [b]).wr W3 (Or.inl (List.mem_of_getElem? (i := 0) rfl))).wr W7 (Or.inl (List.mem_of_getElem? (i := 0) rfl))).wr W11 (Or.inl (List.mem_of_getElem? (i := 0) rfl))).wr W15 (Or.inl (List.mem_of_getElem? (i := 0) rfl))).wr W19 (Or.inl (List.mem_of_getElem? (i := 0) rfl)))
  obtain ⟨fs, hr, hrun, hended, hW, hsame⟩ := X19.leave (v := some (.int (5 : Int32))) (fun h => by rw [Bd.returns] at h; cases h)
  refine ⟨_, _, retI X19 hx Bd.returns (hb hby D9_46) hr, hrun, hended, _, _, rfl, ?_, ⟨_, rfl⟩, hW, hsame.mono (by decide) (by decide)⟩
  show Q_rm_comp5_5 Z a1 b ka kb c1 c2 c3 c4 c5 h0 n0 _ T19.heap _
  rw [e19]
  exact ⟨rfl, N19, K20, Vw19⟩
def Q_rm_comp3_5 (Z : State) (a1 : Addr) (ka : ClassId) (c1 : Int32) (c2 : Int32) (c3 : Int32) (c4 : Int32) (c5 : Int32) (h0 : Heap) (n0 : Nat) (v : Option Value) (h : Heap) (L : List Loc) : Prop := ∃ (b : Addr), ∃ (kb : ClassId), v = some (.ref b) ∧ Fr n0 L ∧ Keep h0 h [] ∧ Arv Z h b kb .byte (5 : Int32) [(.int (own_b c1)), (.int (own_b c2)), (.int (own_b c3)), (.int (own_b c4)), (.int (own_b c5))] (.int (0 : Int32)) ∧ h0.size ≤ b
theorem ef_rm_comp3_5 (m : MethodId) (a1 : Addr) (ka : ClassId) (c1 : Int32) (c2 : Int32) (c3 : Int32) (c4 : Int32) (c5 : Int32) : entryFrame m #[(.ref a1), (.int (0 : Int32)), (.int (5 : Int32))] 6 = mkF m 0 #[.val (.ref a1), .val (.int (0 : Int32)), .val (.int (5 : Int32)), .unset, .unset, .unset] [] := by first | (simp [entryFrame, mkF, argsToLocals, Value.category]; done) | rfl
set_option maxRecDepth 65536 in
set_option maxHeartbeats 40000000 in
theorem rm_comp3_5 (l : Launch) (Z : State) (a0 : Array Value) (hw : ∀ d ∈ tables_1, d.before a0 Z = true) (ws : List Jvm.Cond) (a1 : Addr) (ka : ClassId) (c1 : Int32) (c2 : Int32) (c3 : Int32) (c4 : Int32) (c5 : Int32) (h0 : Heap) (n0 : Nat) (O0 : Old Z n0 h0) (Va : Arv Z h0 a1 ka .char (5 : Int32) [(.int c1), (.int c2), (.int c3), (.int c4), (.int c5)] (.int (0 : Int32))) (rc1 : ¬ ((255 : Int32) < c1)) (rc2 : ¬ ((255 : Int32) < c2)) (rc3 : ¬ ((255 : Int32) < c3)) (rc4 : ¬ ((255 : Int32) < c4)) (rc5 : ¬ ((255 : Int32) < c5)) :
    MetFree l (⟨s16_, "compress", "([CII)[B"⟩ : MethodName) (head1 (Jvm.Cond.code (⟨s16_, "compress", "([CII)[B"⟩ : MethodName) jdk_52_method_16_code 6 (some (.array .byte)) :: ws) ({ frames := 1, cells := 1, slots := 5, locals := 18 } : Room)) (fun a U => a = #[(.ref a1), (.int (0 : Int32)), (.int (5 : Int32))] ∧ Z.Warmed39 U.vm ∧ U.heap = h0) (fun _ _ _ _ _ => True) (fun _ U o U' => ∃ v L, o = .returned v ∧ Q_rm_comp3_5 Z a1 ka c1 c2 c3 c4 c5 h0 n0 v U'.heap L ∧ FrameEnd U o U' L ({ frames := 1, cells := 1, slots := 5, locals := 18 } : Room).cells ({ frames := 1, cells := 1, slots := 5, locals := 18 } : Room).slots) := by
  refine MetFree.of_bodySF (plainFor_of_name own_pn_java_lang_StringUTF16) hisR ?_
  intro p e s m args below meth c s₁ Bd hml0 hP hK
  obtain ⟨rfl, hZ, hh⟩ := hP
  have hx := Bd.exec
  have hby := Bd.bytes
  have hml : c.maxLocals = 6 := hml0
  have hown : s.vm.findClass s16_ = some m.cls := findClass_of_methodNamed Bd.named
  have hnm := (name_of_methodNamed Bd.named Bd.method).1
  have X0 : Stand p l e ({ frames := 1, cells := 1, slots := 5, locals := 18 } : Room) s m #[(.ref a1), (.int (0 : Int32)), (.int (5 : Int32))] below meth c s₁ [] 0 0 := Stand.of_body Bd
  have e0 : s₁.heap = h0 := by rw [← hh, Bd.state]; rfl
  have N0 := Fr.nil n0
  have Z0 : n0 ≤ h0.size := by rw [← O0.1]; exact O0.2.1
  show own_Go p e below (s₁.setTop (entryFrame m #[(.ref a1), (.int (0 : Int32)), (.int (5 : Int32))] 6)) (fun t o => ∃ v L, o = .returned v ∧ Q_rm_comp3_5 Z a1 ka c1 c2 c3 c4 c5 h0 n0 v t.heap L ∧ FrameEnd s o t L ({ frames := 1, cells := 1, slots := 5, locals := 18 } : Room).cells ({ frames := 1, cells := 1, slots := 5, locals := 18 } : Room).slots)
  rw [ef_rm_comp3_5 m a1 ka c1 c2 c3 c4 c5]
  have lt_Va : h0.size > a1 := Va.lt
  refine own_by (fun _ k => XS.iloadN X0.here hx rfl (hb hby D8_0) rfl k) ?_
  obtain ⟨T1, h1, k1, X1, e1, E1, A1, st1⟩ := newP X0 hx hZ (own_w hw 53 rfl) e0 (g := (mkF m 1 #[.val (.ref a1), .val (.int (0 : Int32)), .val (.int (5 : Int32)), .unset, .unset, .unset] [(.int (5 : Int32))])) rfl (hb hby D8_1) rfl (by decide) (cap := 5) (by decide) (by decide) (by decide) (by decide)
  obtain ⟨ob1, g1⟩ : ∃ z, z = h0.size := ⟨_, rfl⟩
  rw [← g1] at A1 st1
  refine own_by st1 ?_
  have z1 := E1.1
  have Vw1 : Arv Z h1 ob1 k1 .byte (5 : Int32) [] (.int (0 : Int32)) := Arv.new A1 (by decide)
  have lt1 : h1.size > ob1 := Vw1.lt
  refine own_by (fun _ k => XS.astoreN X1.here hx rfl (hb hby D8_3) rfl rfl (l' := #[.val (.ref a1), .val (.int (0 : Int32)), .val (.int (5 : Int32)), .val (.ref ob1), .unset, .unset]) rfl k) ?_
  refine own_by (fun _ k => XS.aloadN X1.here hx rfl (hb hby D8_4) rfl rfl k) ?_
  refine own_by (fun _ k => XS.iloadN X1.here hx rfl (hb hby D8_5) rfl k) ?_
  refine own_by (fun _ k => XS.aloadN X1.here hx rfl (hb hby D8_6) rfl rfl k) ?_
  show own_Go p e below (T1.setTop (mkF m 7 #[.val (.ref a1), .val (.int (0 : Int32)), .val (.int (5 : Int32)), .val (.ref ob1), .unset, .unset] [(.ref ob1), (.int (0 : Int32)), (.ref a1)])) _
  refine own_by (fun _ k => XS.iconst X1.here hx rfl (hb hby D8_7) k) ?_
  refine own_by (fun _ k => XS.iloadN X1.here hx rfl (hb hby D8_8) rfl k) ?_
  have fc2 : Arv Z h1 a1 ka .char (5 : Int32) [(.int c1), (.int c2), (.int c3), (.int c4), (.int c5)] (.int (0 : Int32)) := (Va.ext E1)
  have O3 : Old Z n0 h1 := (O0.ext E1)
  obtain ⟨_, _, ⟨T4, L4, k4, n4⟩, -, X4, ⟨Lc4, hQ4, l4, y4, z4⟩, st4⟩ := Jvm.LawKit.callS X1 hx (y := (⟨s16_, "compress", "([CI[BII)I"⟩ : MethodName)) hown (mvT hZ (own_w hw 54 rfl)) (mvT hZ (own_w hw 55 rfl)) (mvT hZ (own_w hw 51 rfl)) (mvT hZ (own_w hw 56 rfl)) (by decide) (backOf (W := 0) (rm_comp5_5 l Z a0 hw [] a1 ob1 ka k1 c1 c2 c3 c4 c5 h1 n0 O3 fc2 Vw1 rc1 rc2 rc3 rc4 rc5 (by first | assumption | omega | decide) (by first | assumption | omega | decide)) hZ (own_w hw 56 rfl) (own_w hw 51 rfl) (by decide) (by decide)) (g := (mkF m 9 #[.val (.ref a1), .val (.int (0 : Int32)), .val (.int (5 : Int32)), .val (.ref ob1), .unset, .unset] [(.int (5 : Int32)), (.int (0 : Int32)), (.ref ob1), (.int (0 : Int32)), (.ref a1)])) rfl (by rw [hml]; rfl) (argsL := [(.ref a1), (.int (0 : Int32)), (.ref ob1), (.int (0 : Int32)), (.int (5 : Int32))]) (rest := []) (lenOf own_pd__28_5bCI_5bBII_29I rfl) rfl (by show 2 * 0 + _ ≤ _; exact Nat.le_of_eq rfl) (hb hby D8_9) (fun _ _ => ⟨rfl, e1, (by decide : 1 + 0 ≤ _), (by decide : 5 + 0 ≤ _)⟩)
  dsimp only [Pt.U, Pt.locs, Pt.cells, Pt.slots] at X4 l4 y4 z4 st4 hQ4
  subst l4 y4 z4
  obtain ⟨rfl, M4, K4, g4_0⟩ := hQ4
  have N4 := Fr.app N0 M4
  refine own_by st4 ?_
  have z4 := K4.1
  have lt_g4_0 : T4.heap.size > ob1 := g4_0.lt
  refine own_by (fun _ k => XS.istore X4.here hx rfl (hb hby D8_12) rfl (l' := #[.val (.ref a1), .val (.int (0 : Int32)), .val (.int (5 : Int32)), .val (.ref ob1), .val (.int (5 : Int32)), .unset]) rfl k) ?_
  refine own_by (fun _ k => XS.iload X4.here hx rfl (hb hby D8_14) rfl k) ?_
  refine own_by (fun _ k => XS.iloadN X4.here hx rfl (hb hby D8_16) rfl k) ?_
  show own_Go p e below (T4.setTop (mkF m 17 #[.val (.ref a1), .val (.int (0 : Int32)), .val (.int (5 : Int32)), .val (.ref ob1), .val (.int (5 : Int32)), .unset] [(.int (5 : Int32)), (.int (5 : Int32))])) _
  refine own_by (fun _ k => XS.icmpYes X4.here hx rfl (pc0 := 17) (pc' := 57) rfl (hb hby D8_17) rfl (teq (by decide : (5 : Int32) = (5 : Int32))).1 (by decide) (by decide) k) ?_
  show own_Go p e below (T4.setTop (mkF m 57 #[.val (.ref a1), .val (.int (0 : Int32)), .val (.int (5 : Int32)), .val (.ref ob1), .val (.int (5 : Int32)), .unset] [])) _
  refine own_by (fun _ k => XS.aloadN X4.here hx rfl (hb hby D8_57) rfl rfl k) ?_
  have K5 : Keep h0 T4.heap [] := (((Keep.refl h0 []).ext E1).trans K4 (allS (P := fun x => x ∈ [] ∨ h0.size ≤ x) (Or.inr (by omega)) all0))
  obtain ⟨fs, hr, hrun, hended, hW, hsame⟩ := X4.leave (v := some (.ref ob1)) (fun h => by rw [Bd.returns] at h; cases h)
  refine ⟨_, _, retOut X4 hx Bd.returns (own_narrow_ref (by decide) rfl) (Or.inr (Or.inr (Or.inr (Or.inr ⟨rfl, by decide, rfl⟩)))) (hb hby D8_58) hr, hrun, hended, _, _, rfl, ?_, ⟨_, rfl⟩, hW, hsame.mono (by decide) (by decide)⟩
  show Q_rm_comp3_5 Z a1 ka c1 c2 c3 c4 c5 h0 n0 _ T4.heap _
  exact ⟨ob1, k1, rfl, N4, K5, g4_0, (by first | assumption | omega)⟩
def Q_rm_cfal_5 (Z : State) (b : Addr) (kb : ClassId) (d1 : Int32) (d2 : Int32) (d3 : Int32) (d4 : Int32) (d5 : Int32) (h0 : Heap) (n0 : Nat) (v : Option Value) (h : Heap) (L : List Loc) : Prop := v = some (.int (0 : Int32)) ∧ Fr n0 L ∧ h = h0
theorem ef_rm_cfal_5 (m : MethodId) (b : Addr) (kb : ClassId) (d1 : Int32) (d2 : Int32) (d3 : Int32) (d4 : Int32) (d5 : Int32) : entryFrame m #[(.ref b), (.int (5 : Int32))] 2 = mkF m 0 #[.val (.ref b), .val (.int (5 : Int32))] [] := by first | (simp [entryFrame, mkF, argsToLocals, Value.category]; done) | rfl
set_option maxRecDepth 65536 in
set_option maxHeartbeats 40000000 in
theorem rm_cfal_5 (l : Launch) (Z : State) (a0 : Array Value) (hw : ∀ d ∈ tables_1, d.before a0 Z = true) (ws : List Jvm.Cond) (b : Addr) (kb : ClassId) (d1 : Int32) (d2 : Int32) (d3 : Int32) (d4 : Int32) (d5 : Int32) (h0 : Heap) (n0 : Nat) (O0 : Old Z n0 h0) (Vb : Arv Z h0 b kb .byte (5 : Int32) [(.int d1), (.int d2), (.int d3), (.int d4), (.int d5)] (.int (0 : Int32))) :
    MetFree l (⟨s16_, s17_, "([BI)B"⟩ : MethodName) (head1 (Jvm.Cond.code (⟨s16_, s17_, "([BI)B"⟩ : MethodName) jdk_52_method_15_code 2 (some .byte) :: ws) ({ frames := 0, cells := 0, slots := 0, locals := 0 } : Room)) (fun a U => a = #[(.ref b), (.int (5 : Int32))] ∧ Z.Warmed39 U.vm ∧ U.heap = h0) (fun _ _ _ _ _ => True) (fun _ U o U' => ∃ v L, o = .returned v ∧ Q_rm_cfal_5 Z b kb d1 d2 d3 d4 d5 h0 n0 v U'.heap L ∧ FrameEnd U o U' L ({ frames := 0, cells := 0, slots := 0, locals := 0 } : Room).cells ({ frames := 0, cells := 0, slots := 0, locals := 0 } : Room).slots) := by
  refine MetFree.of_bodySF (plainFor_of_name own_pn_java_lang_StringUTF16) hisR ?_
  intro p e s m args below meth c s₁ Bd hml0 hP hK
  obtain ⟨rfl, hZ, hh⟩ := hP
  have hx := Bd.exec
  have hby := Bd.bytes
  have hml : c.maxLocals = 2 := hml0
  have hown : s.vm.findClass s16_ = some m.cls := findClass_of_methodNamed Bd.named
  have hnm := (name_of_methodNamed Bd.named Bd.method).1
  have X0 : Stand p l e ({ frames := 0, cells := 0, slots := 0, locals := 0 } : Room) s m #[(.ref b), (.int (5 : Int32))] below meth c s₁ [] 0 0 := Stand.of_body Bd
  have e0 : s₁.heap = h0 := by rw [← hh, Bd.state]; rfl
  have N0 := Fr.nil n0
  have Z0 : n0 ≤ h0.size := by rw [← O0.1]; exact O0.2.1
  show own_Go p e below (s₁.setTop (entryFrame m #[(.ref b), (.int (5 : Int32))] 2)) (fun t o => ∃ v L, o = .returned v ∧ Q_rm_cfal_5 Z b kb d1 d2 d3 d4 d5 h0 n0 v t.heap L ∧ FrameEnd s o t L ({ frames := 0, cells := 0, slots := 0, locals := 0 } : Room).cells ({ frames := 0, cells := 0, slots := 0, locals := 0 } : Room).slots)
  rw [ef_rm_cfal_5 m b kb d1 d2 d3 d4 d5]
  have lt_Vb : h0.size > b := Vb.lt
  refine own_by (fun _ k => XS.iloadN X0.here hx rfl (hb hby D10_0) rfl k) ?_
  refine own_by (fun _ k => XS.aloadN X0.here hx rfl (hb hby D10_1) rfl rfl k) ?_
  obtain ⟨cl1, Ar1, q1, S1, M1, H1, G1⟩ := (id Vb)
  refine own_by (X0.arraylength hx (by rw [e0]; exact Ar1.1) (State.isArrayOf_alike hZ.alike Ar1.2.1) (g := (mkF m 2 #[.val (.ref b), .val (.int (5 : Int32))] [(.ref b), (.int (5 : Int32))])) rfl rfl (hb hby D10_2)) ?_
  rw [len_of S1 M1]
  refine own_by (fun _ k => XS.isub X0.here hx rfl (hb hby D10_3) rfl k) ?_
  refine own_by (fun _ k => XS.bipush X0.here hx rfl (hb hby D10_4) k) ?_
  refine own_by (fun _ k => XS.iushr X0.here hx rfl (hb hby D10_6) rfl k) ?_
  show own_Go p e below (s₁.setTop (mkF m 7 #[.val (.ref b), .val (.int (5 : Int32))] [(.int (0 : Int32))])) _
  refine own_by (fun _ k => XS.i2b X0.here hx rfl (hb hby D10_7) rfl k) ?_
  obtain ⟨fs, hr, hrun, hended, hW, hsame⟩ := X0.leave (v := some (.int (0 : Int32))) (fun h => by rw [Bd.returns] at h; cases h)
  refine ⟨_, _, retN X0 hx (t := .byte) Bd.returns (by simp) (hb hby D10_8) hr, hrun, hended, _, _, rfl, ?_, ⟨_, rfl⟩, hW, hsame.mono (by decide) (by decide)⟩
  show Q_rm_cfal_5 Z b kb d1 d2 d3 d4 d5 h0 n0 _ s₁.heap _
  rw [e0]
  exact ⟨rfl, N0, rfl⟩
def Q_rm_sinit4_5 (Z : State) (t1 : Addr) (a1 : Addr) (ka : ClassId) (cs : Int32) (c1 : Int32) (c2 : Int32) (c3 : Int32) (c4 : Int32) (c5 : Int32) (h0 : Heap) (n0 : Nat) (v : Option Value) (h : Heap) (L : List Loc) : Prop := ∃ (b : Addr), ∃ (kb : ClassId), v = none ∧ Fr n0 L ∧ Keep h0 h [t1] ∧ Exa Z h t1 s11_ ∧ Fld Z h t1 s11_ "coder" "B" (.int (0 : Int32)) ∧ Fld Z h t1 s11_ "value" "[B" (.ref b) ∧ Arv Z h b kb .byte (5 : Int32) [(.int (own_b c1)), (.int (own_b c2)), (.int (own_b c3)), (.int (own_b c4)), (.int (own_b c5))] (.int (0 : Int32)) ∧ h0.size ≤ b
theorem ef_rm_sinit4_5 (m : MethodId) (t1 : Addr) (a1 : Addr) (ka : ClassId) (cs : Int32) (c1 : Int32) (c2 : Int32) (c3 : Int32) (c4 : Int32) (c5 : Int32) : entryFrame m #[(.ref t1), (.ref a1), (.int (0 : Int32)), (.int (5 : Int32)), .null] 6 = mkF m 0 #[.val (.ref t1), .val (.ref a1), .val (.int (0 : Int32)), .val (.int (5 : Int32)), .val .null, .unset] [] := by first | (simp [entryFrame, mkF, argsToLocals, Value.category]; done) | rfl
set_option maxRecDepth 65536 in
set_option maxHeartbeats 40000000 in
theorem rm_sinit4_5 (l : Launch) (Z : State) (a0 : Array Value) (hw : ∀ d ∈ tables_1, d.before a0 Z = true) (ws : List Jvm.Cond) (t1 : Addr) (a1 : Addr) (ka : ClassId) (cs : Int32) (c1 : Int32) (c2 : Int32) (c3 : Int32) (c4 : Int32) (c5 : Int32) (h0 : Heap) (n0 : Nat) (O0 : Old Z n0 h0) (S_COMPACT : Sta Z Z.heap s11_ s15_ "Z" (.int cs)) (Et : Exa Z h0 t1 s11_) (Fv : Fld Z h0 t1 s11_ "value" "[B" .null) (Fc : Fld Z h0 t1 s11_ "coder" "B" (.int (0 : Int32))) (Va : Arv Z h0 a1 ka .char (5 : Int32) [(.int c1), (.int c2), (.int c3), (.int c4), (.int c5)] (.int (0 : Int32))) (rc1 : ¬ ((255 : Int32) < c1)) (rc2 : ¬ ((255 : Int32) < c2)) (rc3 : ¬ ((255 : Int32) < c3)) (rc4 : ¬ ((255 : Int32) < c4)) (rc5 : ¬ ((255 : Int32) < c5)) (gt : n0 ≤ t1) (hcs : ¬ (cs = (0 : Int32))) (nta : ¬ (@Eq Nat a1 t1)) :
    MetFree l (⟨s11_, "<init>", s14_⟩ : MethodName) (head1 (Jvm.Cond.code (⟨s11_, "<init>", s14_⟩ : MethodName) jdk_42_method_149_code 6 none :: ws) ({ frames := 2, cells := 1, slots := 5, locals := 35 } : Room)) (fun a U => a = #[(.ref t1), (.ref a1), (.int (0 : Int32)), (.int (5 : Int32)), .null] ∧ Z.Warmed39 U.vm ∧ U.heap = h0) (fun _ _ _ _ _ => True) (fun _ U o U' => ∃ v L, o = .returned v ∧ Q_rm_sinit4_5 Z t1 a1 ka cs c1 c2 c3 c4 c5 h0 n0 v U'.heap L ∧ FrameEnd U o U' L ({ frames := 2, cells := 1, slots := 5, locals := 35 } : Room).cells ({ frames := 2, cells := 1, slots := 5, locals := 35 } : Room).slots) := by
  refine MetFree.of_bodySF (plainFor_of_name own_pn_java_lang_String) hisR ?_
  intro p e s m args below meth c s₁ Bd hml0 hP hK
  obtain ⟨rfl, hZ, hh⟩ := hP
  have hx := Bd.exec
  have hby := Bd.bytes
  have hml : c.maxLocals = 6 := hml0
  have hown : s.vm.findClass s11_ = some m.cls := findClass_of_methodNamed Bd.named
  have hnm := (name_of_methodNamed Bd.named Bd.method).1
  have X0 : Stand p l e ({ frames := 2, cells := 1, slots := 5, locals := 35 } : Room) s m #[(.ref t1), (.ref a1), (.int (0 : Int32)), (.int (5 : Int32)), .null] below meth c s₁ [] 0 0 := Stand.of_body Bd
  have e0 : s₁.heap = h0 := by rw [← hh, Bd.state]; rfl
  have N0 := Fr.nil n0
  have Z0 : n0 ≤ h0.size := by rw [← O0.1]; exact O0.2.1
  show own_Go p e below (s₁.setTop (entryFrame m #[(.ref t1), (.ref a1), (.int (0 : Int32)), (.int (5 : Int32)), .null] 6)) (fun t o => ∃ v L, o = .returned v ∧ Q_rm_sinit4_5 Z t1 a1 ka cs c1 c2 c3 c4 c5 h0 n0 v t.heap L ∧ FrameEnd s o t L ({ frames := 2, cells := 1, slots := 5, locals := 35 } : Room).cells ({ frames := 2, cells := 1, slots := 5, locals := 35 } : Room).slots)
  rw [ef_rm_sinit4_5 m t1 a1 ka cs c1 c2 c3 c4 c5]
  have lt_Et : h0.size > t1 := Et.lt
  have lt_Fv : h0.size > t1 := Fv.lt
  have lt_Fc : h0.size > t1 := Fc.lt
  have lt_Va : h0.size > a1 := Va.lt
  refine own_by (fun _ k => XS.aloadN X0.here hx rfl (hb hby D6_0) rfl rfl k) ?_
  obtain ⟨T1, X1, e1, st1⟩ := initO X0 hx hZ hown (own_w hw 45 rfl) (own_w hw 46 rfl) (own_w hw 47 rfl) e0 (g := (mkF m 1 #[.val (.ref t1), .val (.ref a1), .val (.int (0 : Int32)), .val (.int (5 : Int32)), .val .null, .unset] [(.ref t1)])) rfl (by rw [hml]; rfl) rfl (hb hby D6_1) (by decide) (W := 0) (by show 2 * 0 + _ ≤ _; exact Nat.le_of_eq rfl) (by decide)
  refine own_by st1 ?_
  refine own_by (fun _ k => XS.iloadN X1.here hx rfl (hb hby D6_4) rfl k) ?_
  refine own_by (fun _ k => XS.ifYes X1.here hx rfl (pc0 := 5) (pc' := 27) rfl (hb hby D6_5) rfl ((if0 _ _).trans (feq (by decide : ¬ ((5 : Int32) = (0 : Int32)))).2) (by decide) (by decide) k) ?_
  show own_Go p e below (T1.setTop (mkF m 27 #[.val (.ref t1), .val (.ref a1), .val (.int (0 : Int32)), .val (.int (5 : Int32)), .val .null, .unset] [])) _
  obtain ⟨T2, X2, e2, st2⟩ := getS2 X1 hx hZ hown (host := "") (Or.inl (own_w hw 48 rfl)) Via.refl e1 (S_COMPACT.ext O0.2) (g := (mkF m 27 #[.val (.ref t1), .val (.ref a1), .val (.int (0 : Int32)), .val (.int (5 : Int32)), .val .null, .unset] [])) rfl (hb hby D6_27)
  refine own_by st2 ?_
  refine own_by (fun _ k => XS.ifNo X2.here hx rfl (hb hby D6_30) rfl ((if0 _ _).trans (feq hcs).1) k) ?_
  show own_Go p e below (T2.setTop (mkF m 33 #[.val (.ref t1), .val (.ref a1), .val (.int (0 : Int32)), .val (.int (5 : Int32)), .val .null, .unset] [])) _
  refine own_by (fun _ k => XS.aloadN X2.here hx rfl (hb hby D6_33) rfl rfl k) ?_
  refine own_by (fun _ k => XS.iloadN X2.here hx rfl (hb hby D6_34) rfl k) ?_
  refine own_by (fun _ k => XS.iloadN X2.here hx rfl (hb hby D6_35) rfl k) ?_
  obtain ⟨_, _, ⟨T3, L3, k3, n3⟩, -, X3, ⟨Lc3, hQ3, l3, y3, z3⟩, st3⟩ := Jvm.LawKit.callS X2 hx (y := (⟨s16_, "compress", "([CII)[B"⟩ : MethodName)) hown (mvT hZ (own_w hw 49 rfl)) (mvT hZ (own_w hw 50 rfl)) (mvT hZ (own_w hw 51 rfl)) (mvT hZ (own_w hw 52 rfl)) (by decide) (backOf (W := 0) (rm_comp3_5 l Z a0 hw [] a1 ka c1 c2 c3 c4 c5 h0 n0 O0 Va rc1 rc2 rc3 rc4 rc5) hZ (own_w hw 52 rfl) (own_w hw 51 rfl) (by decide) (by decide)) (g := (mkF m 36 #[.val (.ref t1), .val (.ref a1), .val (.int (0 : Int32)), .val (.int (5 : Int32)), .val .null, .unset] [(.int (5 : Int32)), (.int (0 : Int32)), (.ref a1)])) rfl (by rw [hml]; rfl) (argsL := [(.ref a1), (.int (0 : Int32)), (.int (5 : Int32))]) (rest := []) (lenOf own_pd__28_5bCII_29_5bB rfl) rfl (by show 2 * 0 + _ ≤ _; exact Nat.le_of_eq rfl) (hb hby D6_36) (fun _ _ => ⟨rfl, e2, (by decide : 0 + 1 ≤ _), (by decide : 0 + 5 ≤ _)⟩)
  dsimp only [Pt.U, Pt.locs, Pt.cells, Pt.slots] at X3 l3 y3 z3 st3 hQ3
  subst l3 y3 z3
  obtain ⟨b_3, kb_3, rfl, M3, K3, g3_0, r3_0⟩ := hQ3
  have N3 := Fr.app N0 M3
  refine own_by st3 ?_
  have z3 := K3.1
  have lt_g3_0 : T3.heap.size > b_3 := g3_0.lt
  refine own_by (fun _ k => XS.astore X3.here hx rfl (hb hby D6_39) rfl rfl (l' := #[.val (.ref t1), .val (.ref a1), .val (.int (0 : Int32)), .val (.int (5 : Int32)), .val .null, .val (.ref b_3)]) rfl k) ?_
  refine own_by (fun _ k => XS.aloadN X3.here hx rfl (hb hby D6_41) rfl rfl k) ?_
  show own_Go p e below (T3.setTop (mkF m 42 #[.val (.ref t1), .val (.ref a1), .val (.int (0 : Int32)), .val (.int (5 : Int32)), .val .null, .val (.ref b_3)] [(.ref t1)])) _
  refine own_by (fun _ k => XS.aload X3.here hx rfl (hb hby D6_42) rfl rfl k) ?_
  refine own_by (fun _ k => XS.iloadN X3.here hx rfl (hb hby D6_44) rfl k) ?_
  have O4 : Old Z n0 T3.heap := (O0.keep K3 all0)
  obtain ⟨_, _, ⟨T5, L5, k5, n5⟩, -, X5, ⟨Lc5, hQ5, l5, y5, z5⟩, st5⟩ := Jvm.LawKit.callS X3 hx (y := (⟨s16_, s17_, "([BI)B"⟩ : MethodName)) hown (mvT hZ (own_w hw 57 rfl)) (mvT hZ (own_w hw 58 rfl)) (mvT hZ (own_w hw 51 rfl)) (mvT hZ (own_w hw 59 rfl)) (by decide) (backOf (W := 1) (rm_cfal_5 l Z a0 hw [] b_3 kb_3 (own_b c1) (own_b c2) (own_b c3) (own_b c4) (own_b c5) T3.heap n0 O4 g3_0) hZ (own_w hw 59 rfl) (own_w hw 51 rfl) (by decide) (by decide)) (g := (mkF m 45 #[.val (.ref t1), .val (.ref a1), .val (.int (0 : Int32)), .val (.int (5 : Int32)), .val .null, .val (.ref b_3)] [(.int (5 : Int32)), (.ref b_3), (.ref t1)])) rfl (by rw [hml]; rfl) (argsL := [(.ref b_3), (.int (5 : Int32))]) (rest := [(.ref t1)]) (lenOf own_pd__28_5bBI_29B rfl) rfl (by show 2 * 0 + _ ≤ _; exact Nat.le_of_eq rfl) (hb hby D6_45) (fun _ _ => ⟨rfl, rfl, (by decide : 1 + 0 ≤ _), (by decide : 5 + 0 ≤ _)⟩)
  dsimp only [Pt.U, Pt.locs, Pt.cells, Pt.slots] at X5 l5 y5 z5 st5 hQ5
  subst l5 y5 z5
  obtain ⟨rfl, M5, K5⟩ := hQ5
  have N5 := Fr.app N3 M5
  refine own_by st5 ?_
  have fc6 : Fld Z T3.heap t1 s11_ "coder" "B" (.int (0 : Int32)) := (Fc.keep K3 nin0)
  have fc7 : Exa Z T3.heap t1 s11_ := (Et.keep K3)
  obtain ⟨T8, h8, X8, e8, W8, st8⟩ := putFN X5 hx hZ hown (own_w hw 60 rfl) Via.refl K5 fc6 fc7 (Or.inr ⟨(own_w hw 61 rfl), rfl, hnm⟩) (own_w hw 37 rfl) (ty := .byte) (v' := (.int (0 : Int32))) (by decide) rfl rfl (g := (mkF m 48 #[.val (.ref t1), .val (.ref a1), .val (.int (0 : Int32)), .val (.int (5 : Int32)), .val .null, .val (.ref b_3)] [(.int (0 : Int32)), (.ref t1)])) rfl rfl (hb hby D6_48)
  refine own_by st8 ?_
  have z8 := W8.size
  have N8 := Fr.snoc X8 N5 (by omega)
  have Fw8 : Fld Z h8 t1 s11_ "coder" "B" (.int (0 : Int32)) := fc6.same W8
  refine own_by (fun _ k => XS.aloadN X8.here hx rfl (hb hby D6_51) rfl rfl k) ?_
  refine own_by (fun _ k => XS.aload X8.here hx rfl (hb hby D6_52) rfl rfl k) ?_
  show own_Go p e below (T8.setTop (mkF m 54 #[.val (.ref t1), .val (.ref a1), .val (.int (0 : Int32)), .val (.int (5 : Int32)), .val .null, .val (.ref b_3)] [(.ref b_3), (.ref t1)])) _
  have fc9 : Fld Z h8 t1 s11_ "value" "[B" .null := ((Fv.keep K3 nin0).other W8 (Or.inr (slot_ne (a0 := a0) (Or.inr (own_w hw 63 rfl)) (Or.inr (own_w hw 61 rfl)) (by decide) (t := (.array .byte)) (by decide) (t' := .byte) (by decide))))
  have fc10 : Exa Z h8 t1 s11_ := (fc7.wr W8)
  obtain ⟨T11, h11, X11, e11, W11, st11⟩ := putF X8 hx hZ hown (host := "") (Or.inl (own_w hw 62 rfl)) Via.refl e8 fc9 fc10 (Or.inr ⟨(own_w hw 63 rfl), rfl, hnm⟩) (own_w hw 37 rfl) (ty := (.array .byte)) (by decide) rfl rfl (g := (mkF m 54 #[.val (.ref t1), .val (.ref a1), .val (.int (0 : Int32)), .val (.int (5 : Int32)), .val .null, .val (.ref b_3)] [(.ref b_3), (.ref t1)])) rfl rfl (hb hby D6_54)
  refine own_by st11 ?_
  have z11 := W11.size
  have N11 := Fr.snoc X11 N8 (by omega)
  have Fw11 : Fld Z h11 t1 s11_ "value" "[B" (.ref b_3) := fc9.same W11
  have fc12 : Exa Z h11 t1 s11_ := (fc10.wr W11)
  have fc13 : Fld Z h11 t1 s11_ "coder" "B" (.int (0 : Int32)) := (Fw8.other W11 (Or.inr (slot_ne (a0 := a0) (Or.inr (own_w hw 61 rfl)) (Or.inr (own_w hw 63 rfl)) (by decide) (t := .byte) (by decide) (t' := (.array .byte)) (by decide))))
  have fc14 : Arv Z h11 b_3 kb_3 .byte (5 : Int32) [(.int (own_b c1)), (.int (own_b c2)), (.int (own_b c3)), (.int (own_b c4)), (.int (own_b c5))] (.int (0 : Int32)) := ((g3_0.other W8 (own_ne (by omega))).other W11 (own_ne (by omega)))
  have K15 : Keep h0 h11 [t1] := ((((Keep.refl h0 [t1]).trans K3 all0).wr W8 (Or.inl (List.mem_of_getElem? (i := 0) rfl))).wr W11 (Or.inl (List.mem_of_getElem? (i := 0) rfl)))
  obtain ⟨fs, hr, hrun, hended, hW, hsame⟩ := X11.leave (v := none) (fun h => rfl)
  refine ⟨_, _, X11.returnOut hx Bd.returns (hb hby D6_57) hr, hrun, hended, _, _, rfl, ?_, ⟨_, rfl⟩, hW, hsame.mono (by decide) (by decide)⟩
  show Q_rm_sinit4_5 Z t1 a1 ka cs c1 c2 c3 c4 c5 h0 n0 _ T11.heap _
  rw [e11]
  exact ⟨b_3, kb_3, rfl, N11, K15, fc12, fc13, Fw11, fc14, (by first | assumption | omega)⟩
def Q_rm_sinit_5 (Z : State) (t1 : Addr) (a1 : Addr) (ka : ClassId) (cs : Int32) (c1 : Int32) (c2 : Int32) (c3 : Int32) (c4 : Int32) (c5 : Int32) (h0 : Heap) (n0 : Nat) (v : Option Value) (h : Heap) (L : List Loc) : Prop := ∃ (b : Addr), ∃ (kb : ClassId), v = none ∧ Fr n0 L ∧ Keep h0 h [t1] ∧ Exa Z h t1 s11_ ∧ Fld Z h t1 s11_ "coder" "B" (.int (0 : Int32)) ∧ Fld Z h t1 s11_ "value" "[B" (.ref b) ∧ Arv Z h b kb .byte (5 : Int32) [(.int (own_b c1)), (.int (own_b c2)), (.int (own_b c3)), (.int (own_b c4)), (.int (own_b c5))] (.int (0 : Int32)) ∧ h0.size ≤ b
theorem ef_rm_sinit_5 (m : MethodId) (t1 : Addr) (a1 : Addr) (ka : ClassId) (cs : Int32) (c1 : Int32) (c2 : Int32) (c3 : Int32) (c4 : Int32) (c5 : Int32) : entryFrame m #[(.ref t1), (.ref a1)] 2 = mkF m 0 #[.val (.ref t1), .val (.ref a1)] [] := by first | (simp [entryFrame, mkF, argsToLocals, Value.category]; done) | rfl
set_option maxRecDepth 65536 in
set_option maxHeartbeats 40000000 in
theorem rm_sinit_5 (l : Launch) (Z : State) (a0 : Array Value) (hw : ∀ d ∈ tables_1, d.before a0 Z = true) (ws : List Jvm.Cond) (t1 : Addr) (a1 : Addr) (ka : ClassId) (cs : Int32) (c1 : Int32) (c2 : Int32) (c3 : Int32) (c4 : Int32) (c5 : Int32) (h0 : Heap) (n0 : Nat) (O0 : Old Z n0 h0) (S_COMPACT : Sta Z Z.heap s11_ s15_ "Z" (.int cs)) (Et : Exa Z h0 t1 s11_) (Fv : Fld Z h0 t1 s11_ "value" "[B" .null) (Fc : Fld Z h0 t1 s11_ "coder" "B" (.int (0 : Int32))) (Va : Arv Z h0 a1 ka .char (5 : Int32) [(.int c1), (.int c2), (.int c3), (.int c4), (.int c5)] (.int (0 : Int32))) (rc1 : ¬ ((255 : Int32) < c1)) (rc2 : ¬ ((255 : Int32) < c2)) (rc3 : ¬ ((255 : Int32) < c3)) (rc4 : ¬ ((255 : Int32) < c4)) (rc5 : ¬ ((255 : Int32) < c5)) (gt : n0 ≤ t1) (hcs : ¬ (cs = (0 : Int32))) (nta : ¬ (@Eq Nat a1 t1)) :
    MetFree l (⟨s11_, "<init>", "([C)V"⟩ : MethodName) (head1 (Jvm.Cond.code (⟨s11_, "<init>", "([C)V"⟩ : MethodName) jdk_42_method_3_code 2 none :: ws) ({ frames := 3, cells := 1, slots := 5, locals := 52 } : Room)) (fun a U => a = #[(.ref t1), (.ref a1)] ∧ Z.Warmed39 U.vm ∧ U.heap = h0) (fun _ _ _ _ _ => True) (fun _ U o U' => ∃ v L, o = .returned v ∧ Q_rm_sinit_5 Z t1 a1 ka cs c1 c2 c3 c4 c5 h0 n0 v U'.heap L ∧ FrameEnd U o U' L ({ frames := 3, cells := 1, slots := 5, locals := 52 } : Room).cells ({ frames := 3, cells := 1, slots := 5, locals := 52 } : Room).slots) := by
  refine MetFree.of_bodySF (plainFor_of_name own_pn_java_lang_String) hisR ?_
  intro p e s m args below meth c s₁ Bd hml0 hP hK
  obtain ⟨rfl, hZ, hh⟩ := hP
  have hx := Bd.exec
  have hby := Bd.bytes
  have hml : c.maxLocals = 2 := hml0
  have hown : s.vm.findClass s11_ = some m.cls := findClass_of_methodNamed Bd.named
  have hnm := (name_of_methodNamed Bd.named Bd.method).1
  have X0 : Stand p l e ({ frames := 3, cells := 1, slots := 5, locals := 52 } : Room) s m #[(.ref t1), (.ref a1)] below meth c s₁ [] 0 0 := Stand.of_body Bd
  have e0 : s₁.heap = h0 := by rw [← hh, Bd.state]; rfl
  have N0 := Fr.nil n0
  have Z0 : n0 ≤ h0.size := by rw [← O0.1]; exact O0.2.1
  show own_Go p e below (s₁.setTop (entryFrame m #[(.ref t1), (.ref a1)] 2)) (fun t o => ∃ v L, o = .returned v ∧ Q_rm_sinit_5 Z t1 a1 ka cs c1 c2 c3 c4 c5 h0 n0 v t.heap L ∧ FrameEnd s o t L ({ frames := 3, cells := 1, slots := 5, locals := 52 } : Room).cells ({ frames := 3, cells := 1, slots := 5, locals := 52 } : Room).slots)
  rw [ef_rm_sinit_5 m t1 a1 ka cs c1 c2 c3 c4 c5]
  have lt_Et : h0.size > t1 := Et.lt
  have lt_Fv : h0.size > t1 := Fv.lt
  have lt_Fc : h0.size > t1 := Fc.lt
  have lt_Va : h0.size > a1 := Va.lt
  refine own_by (fun _ k => XS.aloadN X0.here hx rfl (hb hby D5_0) rfl rfl k) ?_
  refine own_by (fun _ k => XS.aloadN X0.here hx rfl (hb hby D5_1) rfl rfl k) ?_
  refine own_by (fun _ k => XS.iconst X0.here hx rfl (hb hby D5_2) k) ?_
  refine own_by (fun _ k => XS.aloadN X0.here hx rfl (hb hby D5_3) rfl rfl k) ?_
  obtain ⟨cl1, Ar1, q1, S1, M1, H1, G1⟩ := (id Va)
  refine own_by (X0.arraylength hx (by rw [e0]; exact Ar1.1) (State.isArrayOf_alike hZ.alike Ar1.2.1) (g := (mkF m 4 #[.val (.ref t1), .val (.ref a1)] [(.ref a1), (.int (0 : Int32)), (.ref a1), (.ref t1)])) rfl rfl (hb hby D5_4)) ?_
  rw [len_of S1 M1]
  refine own_by (fun _ k => XS.aconstNull X0.here hx rfl (hb hby D5_5) k) ?_
  show own_Go p e below (s₁.setTop (mkF m 6 #[.val (.ref t1), .val (.ref a1)] [.null, (.int (5 : Int32)), (.int (0 : Int32)), (.ref a1), (.ref t1)])) _
  obtain ⟨_, _, ⟨T2, L2, k2, n2⟩, -, X2, ⟨Lc2, hQ2, l2, y2, z2⟩, st2⟩ := X0.specialBack hx (y := (⟨s11_, "<init>", s14_⟩ : MethodName)) rfl hown (mvT hZ (own_w hw 41 rfl)) (mvT hZ (own_w hw 42 rfl)) (mvT hZ (own_w hw 44 rfl)) (by decide) (backOf (W := 0) (rm_sinit4_5 l Z a0 hw [] t1 a1 ka cs c1 c2 c3 c4 c5 h0 n0 O0 S_COMPACT Et Fv Fc Va rc1 rc2 rc3 rc4 rc5 gt hcs nta) hZ (own_w hw 44 rfl) (own_w hw 30 rfl) (by decide) (by decide)) (g := (mkF m 6 #[.val (.ref t1), .val (.ref a1)] [.null, (.int (5 : Int32)), (.int (0 : Int32)), (.ref a1), (.ref t1)])) rfl (by rw [hml]; rfl) (Steps.refl _) (a := t1) (argsL := [(.ref a1), (.int (0 : Int32)), (.int (5 : Int32)), .null]) (rest := []) (lenOf own_pd__28_5bCIILjava_2flang_2fVoid_3b_29V rfl) rfl (by show 2 * 0 + _ ≤ _; exact Nat.le_of_eq rfl) (hb hby D5_6) (fun _ _ => ⟨rfl, e0, (by decide : 0 + 1 ≤ _), (by decide : 0 + 5 ≤ _)⟩)
  dsimp only [Pt.U, Pt.locs, Pt.cells, Pt.slots] at X2 l2 y2 z2 st2 hQ2
  subst l2 y2 z2
  obtain ⟨b_2, kb_2, rfl, M2, K2, g2_0, g2_1, g2_2, g2_3, r2_0⟩ := hQ2
  have N2 := Fr.app N0 M2
  refine own_by (fun _ k => st2.trans k) ?_
  have z2 := K2.1
  have lt_g2_0 : T2.heap.size > t1 := g2_0.lt
  have lt_g2_1 : T2.heap.size > t1 := g2_1.lt
  have lt_g2_2 : T2.heap.size > t1 := g2_2.lt
  have lt_g2_3 : T2.heap.size > b_2 := g2_3.lt
  have K3 : Keep h0 T2.heap [t1] := ((Keep.refl h0 [t1]).trans K2 (allS (P := fun x => x ∈ [t1] ∨ h0.size ≤ x) (Or.inl (List.mem_of_getElem? (i := 0) rfl)) all0))
  obtain ⟨fs, hr, hrun, hended, hW, hsame⟩ := X2.leave (v := none) (fun h => rfl)
  refine ⟨_, _, X2.returnOut hx Bd.returns (hb hby D5_9) hr, hrun, hended, _, _, rfl, ?_, ⟨_, rfl⟩, hW, hsame.mono (by decide) (by decide)⟩
  show Q_rm_sinit_5 Z t1 a1 ka cs c1 c2 c3 c4 c5 h0 n0 _ T2.heap _
  exact ⟨b_2, kb_2, rfl, N2, K3, g2_0, g2_1, g2_2, g2_3, (by first | assumption | omega)⟩
def Q_rm_eqnull (Z : State) (t1 : Addr) (h0 : Heap) (n0 : Nat) (v : Option Value) (h : Heap) (L : List Loc) : Prop := v = some (.int (0 : Int32)) ∧ Fr n0 L ∧ h = h0
theorem ef_rm_eqnull (m : MethodId) (t1 : Addr) : entryFrame m #[(.ref t1), .null] 3 = mkF m 0 #[.val (.ref t1), .val .null, .unset] [] := by first | (simp [entryFrame, mkF, argsToLocals, Value.category]; done) | rfl
set_option maxRecDepth 65536 in
set_option maxHeartbeats 40000000 in
theorem rm_eqnull (l : Launch) (Z : State) (a0 : Array Value) (hw : ∀ d ∈ tables_1, d.before a0 Z = true) (ws : List Jvm.Cond) (t1 : Addr) (h0 : Heap) (n0 : Nat) (O0 : Old Z n0 h0) :
    MetFree l (⟨s11_, "equals", s12_⟩ : MethodName) (head1 (Jvm.Cond.code (⟨s11_, "equals", s12_⟩ : MethodName) jdk_42_method_66_code 3 (some .boolean) :: ws) ({ frames := 0, cells := 0, slots := 0, locals := 0 } : Room)) (fun a U => a = #[(.ref t1), .null] ∧ Z.Warmed39 U.vm ∧ U.heap = h0) (fun _ _ _ _ _ => True) (fun _ U o U' => ∃ v L, o = .returned v ∧ Q_rm_eqnull Z t1 h0 n0 v U'.heap L ∧ FrameEnd U o U' L ({ frames := 0, cells := 0, slots := 0, locals := 0 } : Room).cells ({ frames := 0, cells := 0, slots := 0, locals := 0 } : Room).slots) := by
  refine MetFree.of_bodySF (plainFor_of_name own_pn_java_lang_String) hisR ?_
  intro p e s m args below meth c s₁ Bd hml0 hP hK
  obtain ⟨rfl, hZ, hh⟩ := hP
  have hx := Bd.exec
  have hby := Bd.bytes
  have hml : c.maxLocals = 3 := hml0
  have hown : s.vm.findClass s11_ = some m.cls := findClass_of_methodNamed Bd.named
  have hnm := (name_of_methodNamed Bd.named Bd.method).1
  have X0 : Stand p l e ({ frames := 0, cells := 0, slots := 0, locals := 0 } : Room) s m #[(.ref t1), .null] below meth c s₁ [] 0 0 := Stand.of_body Bd
  have e0 : s₁.heap = h0 := by rw [← hh, Bd.state]; rfl
  have N0 := Fr.nil n0
  have Z0 : n0 ≤ h0.size := by rw [← O0.1]; exact O0.2.1
  show own_Go p e below (s₁.setTop (entryFrame m #[(.ref t1), .null] 3)) (fun t o => ∃ v L, o = .returned v ∧ Q_rm_eqnull Z t1 h0 n0 v t.heap L ∧ FrameEnd s o t L ({ frames := 0, cells := 0, slots := 0, locals := 0 } : Room).cells ({ frames := 0, cells := 0, slots := 0, locals := 0 } : Room).slots)
  rw [ef_rm_eqnull m t1]
  refine own_by (fun _ k => XS.aloadN X0.here hx rfl (hb hby D3_0) rfl rfl k) ?_
  refine own_by (fun _ k => XS.aloadN X0.here hx rfl (hb hby D3_1) rfl rfl k) ?_
  refine own_by (fun _ k => Jvm.RoadKit.acmp (g := (mkF m 2 #[.val (.ref t1), .val .null, .unset] [.null, (.ref t1)])) X0 hx rfl rfl rfl (pc0 := 2) (pc' := 7) (same := false) rfl (hb hby D3_2) rfl (decide_eq_false nofun) (by decide) (by decide) k) ?_
  show own_Go p e below (s₁.setTop (mkF m 7 #[.val (.ref t1), .val .null, .unset] [])) _
  refine own_by (fun _ k => XS.aloadN X0.here hx rfl (hb hby D3_7) rfl rfl k) ?_
  refine own_by (X0.instanceofNull hx (g := (mkF m 8 #[.val (.ref t1), .val .null, .unset] [.null])) rfl rfl (hb hby D3_8)) ?_
  refine own_by (fun _ k => XS.ifYes X0.here hx rfl (pc0 := 11) (pc' := 54) rfl (hb hby D3_11) rfl ((if0 _ _).trans (teq (by decide : (0 : Int32) = (0 : Int32))).1) (by decide) (by decide) k) ?_
  show own_Go p e below (s₁.setTop (mkF m 54 #[.val (.ref t1), .val .null, .unset] [])) _
  refine own_by (fun _ k => XS.iconst X0.here hx rfl (hb hby D3_54) k) ?_
  obtain ⟨fs, hr, hrun, hended, hW, hsame⟩ := X0.leave (v := some (.int (0 : Int32))) (fun h => by rw [Bd.returns] at h; cases h)
  refine ⟨_, _, retN X0 hx (t := .boolean) Bd.returns (by simp) (hb hby D3_55) hr, hrun, hended, _, _, rfl, ?_, ⟨_, rfl⟩, hW, hsame.mono (by decide) (by decide)⟩
  show Q_rm_eqnull Z t1 h0 n0 _ s₁.heap _
  rw [e0]
  exact ⟨rfl, N0, rfl⟩
theorem D1_0 : decode prog_6_method_6_code 0 = .ok (.invokestatic 36, 3) := by decide +kernel
theorem D1_3 : decode prog_6_method_6_code 3 = .ok (.astore_n 1, 1) := by decide +kernel
theorem D1_4 : decode prog_6_method_6_code 4 = .ok (.aload_n 1, 1) := by decide +kernel
theorem D1_5 : decode prog_6_method_6_code 5 = .ok (.arraylength, 1) := by decide +kernel
theorem D1_6 : decode prog_6_method_6_code 6 = .ok (.istore_n 2, 1) := by decide +kernel
theorem D1_7 : decode prog_6_method_6_code 7 = .ok (.iconst 0, 1) := by decide +kernel
theorem D1_8 : decode prog_6_method_6_code 8 = .ok (.istore_n 3, 1) := by decide +kernel
theorem D1_9 : decode prog_6_method_6_code 9 = .ok (.iload_n 3, 1) := by decide +kernel
theorem D1_10 : decode prog_6_method_6_code 10 = .ok (.iload_n 2, 1) := by decide +kernel
theorem D1_11 : decode prog_6_method_6_code 11 = .ok (.if_icmp .ge 29, 3) := by decide +kernel
theorem D1_14 : decode prog_6_method_6_code 14 = .ok (.aload_n 1, 1) := by decide +kernel
theorem D1_15 : decode prog_6_method_6_code 15 = .ok (.iload_n 3, 1) := by decide +kernel
theorem D1_16 : decode prog_6_method_6_code 16 = .ok (.aaload, 1) := by decide +kernel
theorem D1_17 : decode prog_6_method_6_code 17 = .ok (.astore 4, 2) := by decide +kernel
theorem D1_19 : decode prog_6_method_6_code 19 = .ok (.aload 4, 2) := by decide +kernel
theorem D1_21 : decode prog_6_method_6_code 21 = .ok (.getfield 32, 3) := by decide +kernel
theorem D1_24 : decode prog_6_method_6_code 24 = .ok (.aload_n 0, 1) := by decide +kernel
theorem D1_25 : decode prog_6_method_6_code 25 = .ok (.invokevirtual 40, 3) := by decide +kernel
theorem D1_28 : decode prog_6_method_6_code 28 = .ok (.ifCond .eq 6, 3) := by decide +kernel
theorem D1_34 : decode prog_6_method_6_code 34 = .ok (.iinc 3 1, 3) := by decide +kernel
theorem D1_37 : decode prog_6_method_6_code 37 = .ok (.goto (-28), 3) := by decide +kernel
theorem D1_40 : decode prog_6_method_6_code 40 = .ok (.aconst_null, 1) := by decide +kernel
theorem D1_41 : decode prog_6_method_6_code 41 = .ok (.areturn, 1) := by decide +kernel
def Q_rm_olnull (Z : State) (va : Addr) (kva : ClassId) (a_LIVE : Addr) (a_TEST : Addr) (a_MANAGEMENT : Addr) (l_LIVE : Addr) (b_LIVE : Addr) (kb_LIVE : ClassId) (l_TEST : Addr) (b_TEST : Addr) (kb_TEST : ClassId) (l_MANAGEMENT : Addr) (b_MANAGEMENT : Addr) (kb_MANAGEMENT : ClassId) (h0 : Heap) (n0 : Nat) (v : Option Value) (h : Heap) (L : List Loc) : Prop := v = some .null ∧ Fr n0 L ∧ Keep h0 h []
theorem ef_rm_olnull (m : MethodId) (va : Addr) (kva : ClassId) (a_LIVE : Addr) (a_TEST : Addr) (a_MANAGEMENT : Addr) (l_LIVE : Addr) (b_LIVE : Addr) (kb_LIVE : ClassId) (l_TEST : Addr) (b_TEST : Addr) (kb_TEST : ClassId) (l_MANAGEMENT : Addr) (b_MANAGEMENT : Addr) (kb_MANAGEMENT : ClassId) : entryFrame m #[.null] 5 = mkF m 0 #[.val .null, .unset, .unset, .unset, .unset] [] := by first | (simp [entryFrame, mkF, argsToLocals, Value.category]; done) | rfl
set_option maxRecDepth 65536 in
set_option maxHeartbeats 40000000 in
theorem rm_olnull (l : Launch) (Z : State) (a0 : Array Value) (hw : ∀ d ∈ tables_1, d.before a0 Z = true) (ws : List Jvm.Cond) (va : Addr) (kva : ClassId) (a_LIVE : Addr) (a_TEST : Addr) (a_MANAGEMENT : Addr) (l_LIVE : Addr) (b_LIVE : Addr) (kb_LIVE : ClassId) (l_TEST : Addr) (b_TEST : Addr) (kb_TEST : ClassId) (l_MANAGEMENT : Addr) (b_MANAGEMENT : Addr) (kb_MANAGEMENT : ClassId) (h0 : Heap) (n0 : Nat) (O0 : Old Z n0 h0) (S_VALUES : Sta Z Z.heap s2_ "$VALUES" s5_ (.ref va)) (E_va : Exa Z Z.heap va s5_) (V_va : Arv Z Z.heap va kva (.object s2_) (3 : Int32) [(.ref a_LIVE), (.ref a_TEST), (.ref a_MANAGEMENT)] .null) (E_LIVE : Exa Z Z.heap a_LIVE s2_) (F_LIVE : Fld Z Z.heap a_LIVE s2_ "label" s10_ (.ref l_LIVE)) (Es_LIVE : Exa Z Z.heap l_LIVE s11_) (Fc_LIVE : Fld Z Z.heap l_LIVE s11_ "coder" "B" (.int (0 : Int32))) (Fv_LIVE : Fld Z Z.heap l_LIVE s11_ "value" "[B" (.ref b_LIVE)) (V_LIVE : Arv Z Z.heap b_LIVE kb_LIVE .byte (4 : Int32) [(.int (108 : Int32)), (.int (105 : Int32)), (.int (118 : Int32)), (.int (101 : Int32))] (.int (0 : Int32))) (E_TEST : Exa Z Z.heap a_TEST s2_) (F_TEST : Fld Z Z.heap a_TEST s2_ "label" s10_ (.ref l_TEST)) (Es_TEST : Exa Z Z.heap l_TEST s11_) (Fc_TEST : Fld Z Z.heap l_TEST s11_ "coder" "B" (.int (0 : Int32))) (Fv_TEST : Fld Z Z.heap l_TEST s11_ "value" "[B" (.ref b_TEST)) (V_TEST : Arv Z Z.heap b_TEST kb_TEST .byte (4 : Int32) [(.int (116 : Int32)), (.int (101 : Int32)), (.int (115 : Int32)), (.int (116 : Int32))] (.int (0 : Int32))) (E_MANAGEMENT : Exa Z Z.heap a_MANAGEMENT s2_) (F_MANAGEMENT : Fld Z Z.heap a_MANAGEMENT s2_ "label" s10_ (.ref l_MANAGEMENT)) (Es_MANAGEMENT : Exa Z Z.heap l_MANAGEMENT s11_) (Fc_MANAGEMENT : Fld Z Z.heap l_MANAGEMENT s11_ "coder" "B" (.int (0 : Int32))) (Fv_MANAGEMENT : Fld Z Z.heap l_MANAGEMENT s11_ "value" "[B" (.ref b_MANAGEMENT)) (V_MANAGEMENT : Arv Z Z.heap b_MANAGEMENT kb_MANAGEMENT .byte (4 : Int32) [(.int (109 : Int32)), (.int (103 : Int32)), (.int (109 : Int32)), (.int (116 : Int32))] (.int (0 : Int32))) :
    MetFree l (⟨s2_, "ofLabel", s3_⟩ : MethodName) (head1 (Jvm.Cond.code (⟨s2_, "ofLabel", s3_⟩ : MethodName) prog_6_method_6_code 5 (some (.object s2_)) :: ws) ({ frames := 2, cells := 1, slots := 3, locals := 25 } : Room)) (fun a U => a = #[.null] ∧ Z.Warmed39 U.vm ∧ U.heap = h0) (fun _ _ _ _ _ => True) (fun _ U o U' => ∃ v L, o = .returned v ∧ Q_rm_olnull Z va kva a_LIVE a_TEST a_MANAGEMENT l_LIVE b_LIVE kb_LIVE l_TEST b_TEST kb_TEST l_MANAGEMENT b_MANAGEMENT kb_MANAGEMENT h0 n0 v U'.heap L ∧ FrameEnd U o U' L ({ frames := 2, cells := 1, slots := 3, locals := 25 } : Room).cells ({ frames := 2, cells := 1, slots := 3, locals := 25 } : Room).slots) := by
  refine MetFree.of_bodySF (plainFor_of_name own_pn_com_example_ostiarius_ostiarius_key_KeyKind) hisR ?_
  intro p e s m args below meth c s₁ Bd hml0 hP hK
  obtain ⟨rfl, hZ, hh⟩ := hP
  have hx := Bd.exec
  have hby := Bd.bytes
  have hml : c.maxLocals = 5 := hml0
  have hown : s.vm.findClass s2_ = some m.cls := findClass_of_methodNamed Bd.named
  have hnm := (name_of_methodNamed Bd.named Bd.method).1
  have X0 : Stand p l e ({ frames := 2, cells := 1, slots := 3, locals := 25 } : Room) s m #[.null] below meth c s₁ [] 0 0 := Stand.of_body Bd
  have e0 : s₁.heap = h0 := by rw [← hh, Bd.state]; rfl
  have N0 := Fr.nil n0
  have Z0 : n0 ≤ h0.size := by rw [← O0.1]; exact O0.2.1
  show own_Go p e below (s₁.setTop (entryFrame m #[.null] 5)) (fun t o => ∃ v L, o = .returned v ∧ Q_rm_olnull Z va kva a_LIVE a_TEST a_MANAGEMENT l_LIVE b_LIVE kb_LIVE l_TEST b_TEST kb_TEST l_MANAGEMENT b_MANAGEMENT kb_MANAGEMENT h0 n0 v t.heap L ∧ FrameEnd s o t L ({ frames := 2, cells := 1, slots := 3, locals := 25 } : Room).cells ({ frames := 2, cells := 1, slots := 3, locals := 25 } : Room).slots)
  rw [ef_rm_olnull m va kva a_LIVE a_TEST a_MANAGEMENT l_LIVE b_LIVE kb_LIVE l_TEST b_TEST kb_TEST l_MANAGEMENT b_MANAGEMENT kb_MANAGEMENT]
  obtain ⟨_, _, ⟨T1, L1, k1, n1⟩, -, X1, ⟨Lc1, hQ1, l1, y1, z1⟩, st1⟩ := Jvm.LawKit.callS X0 hx (y := (⟨s2_, "values", s4_⟩ : MethodName)) hown (mvT hZ (own_w hw 6 rfl)) (mvT hZ (own_w hw 7 rfl)) (mvT hZ (own_w hw 4 rfl)) (mvT hZ (own_w hw 8 rfl)) (by decide) (backOf (W := 0) (rm_values l Z a0 hw [] va kva a_LIVE a_TEST a_MANAGEMENT h0 n0 O0 S_VALUES E_va V_va) hZ (own_w hw 8 rfl) (own_w hw 4 rfl) (by decide) (by decide)) (g := (mkF m 0 #[.val .null, .unset, .unset, .unset, .unset] [])) rfl (by rw [hml]; rfl) (argsL := []) (rest := []) (lenOf own_pd__28_29_5bLcom_2fexample_2fostiarius_2fostiarius_2fkey_2fKeyKind_3b rfl) rfl (by show 2 * 0 + _ ≤ _; exact Nat.le_of_eq rfl) (hb hby D1_0) (fun _ _ => ⟨rfl, e0, (by decide : 0 + 1 ≤ _), (by decide : 0 + 3 ≤ _)⟩)
  dsimp only [Pt.U, Pt.locs, Pt.cells, Pt.slots] at X1 l1 y1 z1 st1 hQ1
  subst l1 y1 z1
  obtain ⟨r1_1, kr_1, rfl, M1, K1, g1_0⟩ := hQ1
  have N1 := Fr.app N0 M1
  refine own_by st1 ?_
  have z1 := K1.1
  have lt_g1_0 : T1.heap.size > r1_1 := g1_0.lt
  refine own_by (fun _ k => XS.astoreN X1.here hx rfl (hb hby D1_3) rfl rfl (l' := #[.val .null, .val (.ref r1_1), .unset, .unset, .unset]) rfl k) ?_
  refine own_by (fun _ k => XS.aloadN X1.here hx rfl (hb hby D1_4) rfl rfl k) ?_
  obtain ⟨cl2, Ar2, q2, S2, M2, H2, G2⟩ := (id g1_0)
  refine own_by (X1.arraylength hx Ar2.1 (State.isArrayOf_alike hZ.alike Ar2.2.1) (g := (mkF m 5 #[.val .null, .val (.ref r1_1), .unset, .unset, .unset] [(.ref r1_1)])) rfl rfl (hb hby D1_5)) ?_
  rw [len_of S2 M2]
  refine own_by (fun _ k => XS.istoreN X1.here hx rfl (hb hby D1_6) rfl (l' := #[.val .null, .val (.ref r1_1), .val (.int (3 : Int32)), .unset, .unset]) rfl k) ?_
  refine own_by (fun _ k => XS.iconst X1.here hx rfl (hb hby D1_7) k) ?_
  show own_Go p e below (T1.setTop (mkF m 8 #[.val .null, .val (.ref r1_1), .val (.int (3 : Int32)), .unset, .unset] [(.int (0 : Int32))])) _
  refine own_by (fun _ k => XS.istoreN X1.here hx rfl (hb hby D1_8) rfl (l' := #[.val .null, .val (.ref r1_1), .val (.int (3 : Int32)), .val (.int (0 : Int32)), .unset]) rfl k) ?_
  refine own_by (fun _ k => XS.iloadN X1.here hx rfl (hb hby D1_9) rfl k) ?_
  refine own_by (fun _ k => XS.iloadN X1.here hx rfl (hb hby D1_10) rfl k) ?_
  refine own_by (fun _ k => XS.icmpNo X1.here hx rfl (hb hby D1_11) rfl (tlt (by decide : (0 : Int32) < (3 : Int32))).2.1 k) ?_
  show own_Go p e below (T1.setTop (mkF m 14 #[.val .null, .val (.ref r1_1), .val (.int (3 : Int32)), .val (.int (0 : Int32)), .unset] [])) _
  refine own_by (fun _ k => XS.aloadN X1.here hx rfl (hb hby D1_14) rfl rfl k) ?_
  refine own_by (fun _ k => XS.iloadN X1.here hx rfl (hb hby D1_15) rfl k) ?_
  obtain ⟨cl3, Ar3, q3, S3, M3, H3, G3⟩ := (id g1_0)
  have hin3 : ¬ ((0 : Int32) < 0 ∨ cl3.slots.size ≤ ((0 : Int32)).toNatClampNeg) := inb_of S3 ⟨by decide, by decide⟩
  refine own_by (X1.aaload hx (j := (0 : Int32)) (v := (.ref a_LIVE)) Ar3.1 (State.isArrayOf_alike hZ.alike Ar3.2.1) rfl Ar3.2.2 hin3 (H3.at hin3 rfl) (g := (mkF m 16 #[.val .null, .val (.ref r1_1), .val (.int (3 : Int32)), .val (.int (0 : Int32)), .unset] [(.int (0 : Int32)), (.ref r1_1)])) rfl rfl (hb hby D1_16)) ?_
  refine own_by (fun _ k => XS.astore X1.here hx rfl (hb hby D1_17) rfl rfl (l' := #[.val .null, .val (.ref r1_1), .val (.int (3 : Int32)), .val (.int (0 : Int32)), .val (.ref a_LIVE)]) rfl k) ?_
  refine own_by (fun _ k => XS.aload X1.here hx rfl (hb hby D1_19) rfl rfl k) ?_
  have O4 : Old Z n0 T1.heap := (O0.keep K1 all0)
  have fc5 : Fld Z T1.heap a_LIVE s2_ "label" s10_ (.ref l_LIVE) := F_LIVE.ext O4.2
  obtain ⟨T6, X6, e6, st6⟩ := getF X1 hx hZ hown (host := "") (Or.inl (own_w hw 24 rfl)) Via.refl rfl fc5 (g := (mkF m 21 #[.val .null, .val (.ref r1_1), .val (.int (3 : Int32)), .val (.int (0 : Int32)), .val (.ref a_LIVE)] [(.ref a_LIVE)])) rfl rfl (hb hby D1_21)
  refine own_by st6 ?_
  show own_Go p e below (T6.setTop (mkF m 24 #[.val .null, .val (.ref r1_1), .val (.int (3 : Int32)), .val (.int (0 : Int32)), .val (.ref a_LIVE)] [(.ref l_LIVE)])) _
  refine own_by (fun _ k => XS.aloadN X6.here hx rfl (hb hby D1_24) rfl rfl k) ?_
  have fc8 : Exa Z T1.heap l_LIVE s11_ := Es_LIVE.ext O4.2
  obtain ⟨cq7, kq7, q7a, q7b, q7c⟩ := isOf hZ e6 fc8
  obtain ⟨_, _, ⟨T7, L7, k7, n7⟩, -, X7, ⟨Lc7, hQ7, l7, y7, z7⟩, st7⟩ := X6.virtualBack hx (y := (⟨s11_, "equals", s12_⟩ : MethodName)) (z := (⟨s11_, "equals", s12_⟩ : MethodName)) hown (mvT hZ (own_w hw 26 rfl)) (mvT hZ (own_w hw 27 rfl)) (notFace_of_selects (args := #[]) (mvT hZ (own_w hw 29 rfl))) (mvT hZ (own_w hw 29 rfl)) (mvT hZ (own_w hw 28 rfl)) (by decide) (backOf (W := 0) (rm_eqnull l Z a0 hw [] l_LIVE T1.heap n0 O4) hZ (own_w hw 31 rfl) (own_w hw 30 rfl) (by decide) (by decide)) q7a q7c (g := (mkF m 25 #[.val .null, .val (.ref r1_1), .val (.int (3 : Int32)), .val (.int (0 : Int32)), .val (.ref a_LIVE)] [.null, (.ref l_LIVE)])) rfl (by rw [hml]; rfl) (Steps.refl _) (argsL := [.null]) (rest := []) (lenOf own_pd__28Ljava_2flang_2fObject_3b_29Z rfl) rfl (by show 2 * 0 + _ ≤ _; exact Nat.le_of_eq rfl) (hb hby D1_25) (fun _ _ => ⟨rfl, e6, (by decide : 1 + 0 ≤ _), (by decide : 3 + 0 ≤ _)⟩)
  dsimp only [Pt.U, Pt.locs, Pt.cells, Pt.slots] at X7 l7 y7 z7 st7 hQ7
  subst l7 y7 z7
  obtain ⟨rfl, M7, K7⟩ := hQ7
  have N7 := Fr.app N1 M7
  refine own_by (fun _ k => st7.trans k) ?_
  refine own_by (fun _ k => XS.ifYes X7.here hx rfl (pc0 := 28) (pc' := 34) rfl (hb hby D1_28) rfl ((if0 _ _).trans (teq (by decide : (0 : Int32) = (0 : Int32))).1) (by decide) (by decide) k) ?_
  show own_Go p e below (T7.setTop (mkF m 34 #[.val .null, .val (.ref r1_1), .val (.int (3 : Int32)), .val (.int (0 : Int32)), .val (.ref a_LIVE)] [])) _
  refine own_by (fun _ k => XS.iinc X7.here hx rfl (hb hby D1_34) rfl (l' := #[.val .null, .val (.ref r1_1), .val (.int (3 : Int32)), .val (.int (1 : Int32)), .val (.ref a_LIVE)]) rfl k) ?_
  refine own_by (fun _ k => XS.goto X7.here hx rfl (pc0 := 37) (pc' := 9) rfl (hb hby D1_37) (by decide) (by decide) k) ?_
  refine own_by (fun _ k => XS.iloadN X7.here hx rfl (hb hby D1_9) rfl k) ?_
  refine own_by (fun _ k => XS.iloadN X7.here hx rfl (hb hby D1_10) rfl k) ?_
  refine own_by (fun _ k => XS.icmpNo X7.here hx rfl (hb hby D1_11) rfl (tlt (by decide : (1 : Int32) < (3 : Int32))).2.1 k) ?_
  show own_Go p e below (T7.setTop (mkF m 14 #[.val .null, .val (.ref r1_1), .val (.int (3 : Int32)), .val (.int (1 : Int32)), .val (.ref a_LIVE)] [])) _
  refine own_by (fun _ k => XS.aloadN X7.here hx rfl (hb hby D1_14) rfl rfl k) ?_
  refine own_by (fun _ k => XS.iloadN X7.here hx rfl (hb hby D1_15) rfl k) ?_
  obtain ⟨cl9, Ar9, q9, S9, M9, H9, G9⟩ := (id g1_0)
  have hin9 : ¬ ((1 : Int32) < 0 ∨ cl9.slots.size ≤ ((1 : Int32)).toNatClampNeg) := inb_of S9 ⟨by decide, by decide⟩
  refine own_by (X7.aaload hx (j := (1 : Int32)) (v := (.ref a_TEST)) (by rw [K7]; exact Ar9.1) (State.isArrayOf_alike hZ.alike Ar9.2.1) rfl Ar9.2.2 hin9 (H9.at hin9 rfl) (g := (mkF m 16 #[.val .null, .val (.ref r1_1), .val (.int (3 : Int32)), .val (.int (1 : Int32)), .val (.ref a_LIVE)] [(.int (1 : Int32)), (.ref r1_1)])) rfl rfl (hb hby D1_16)) ?_
  refine own_by (fun _ k => XS.astore X7.here hx rfl (hb hby D1_17) rfl rfl (l' := #[.val .null, .val (.ref r1_1), .val (.int (3 : Int32)), .val (.int (1 : Int32)), .val (.ref a_TEST)]) rfl k) ?_
  refine own_by (fun _ k => XS.aload X7.here hx rfl (hb hby D1_19) rfl rfl k) ?_
  have fc10 : Fld Z T1.heap a_TEST s2_ "label" s10_ (.ref l_TEST) := F_TEST.ext O4.2
  obtain ⟨T11, X11, e11, st11⟩ := getF X7 hx hZ hown (host := "") (Or.inl (own_w hw 24 rfl)) Via.refl K7 fc10 (g := (mkF m 21 #[.val .null, .val (.ref r1_1), .val (.int (3 : Int32)), .val (.int (1 : Int32)), .val (.ref a_TEST)] [(.ref a_TEST)])) rfl rfl (hb hby D1_21)
  refine own_by st11 ?_
  show own_Go p e below (T11.setTop (mkF m 24 #[.val .null, .val (.ref r1_1), .val (.int (3 : Int32)), .val (.int (1 : Int32)), .val (.ref a_TEST)] [(.ref l_TEST)])) _
  refine own_by (fun _ k => XS.aloadN X11.here hx rfl (hb hby D1_24) rfl rfl k) ?_
  have fc13 : Exa Z T1.heap l_TEST s11_ := Es_TEST.ext O4.2
  obtain ⟨cq12, kq12, q12a, q12b, q12c⟩ := isOf hZ e11 fc13
  obtain ⟨_, _, ⟨T12, L12, k12, n12⟩, -, X12, ⟨Lc12, hQ12, l12, y12, z12⟩, st12⟩ := X11.virtualBack hx (y := (⟨s11_, "equals", s12_⟩ : MethodName)) (z := (⟨s11_, "equals", s12_⟩ : MethodName)) hown (mvT hZ (own_w hw 26 rfl)) (mvT hZ (own_w hw 27 rfl)) (notFace_of_selects (args := #[]) (mvT hZ (own_w hw 29 rfl))) (mvT hZ (own_w hw 29 rfl)) (mvT hZ (own_w hw 28 rfl)) (by decide) (backOf (W := 0) (rm_eqnull l Z a0 hw [] l_TEST T1.heap n0 O4) hZ (own_w hw 31 rfl) (own_w hw 30 rfl) (by decide) (by decide)) q12a q12c (g := (mkF m 25 #[.val .null, .val (.ref r1_1), .val (.int (3 : Int32)), .val (.int (1 : Int32)), .val (.ref a_TEST)] [.null, (.ref l_TEST)])) rfl (by rw [hml]; rfl) (Steps.refl _) (argsL := [.null]) (rest := []) (lenOf own_pd__28Ljava_2flang_2fObject_3b_29Z rfl) rfl (by show 2 * 0 + _ ≤ _; exact Nat.le_of_eq rfl) (hb hby D1_25) (fun _ _ => ⟨rfl, e11, (by decide : 1 + 0 ≤ _), (by decide : 3 + 0 ≤ _)⟩)
  dsimp only [Pt.U, Pt.locs, Pt.cells, Pt.slots] at X12 l12 y12 z12 st12 hQ12
  subst l12 y12 z12
  obtain ⟨rfl, M12, K12⟩ := hQ12
  have N12 := Fr.app N7 M12
  refine own_by (fun _ k => st12.trans k) ?_
  refine own_by (fun _ k => XS.ifYes X12.here hx rfl (pc0 := 28) (pc' := 34) rfl (hb hby D1_28) rfl ((if0 _ _).trans (teq (by decide : (0 : Int32) = (0 : Int32))).1) (by decide) (by decide) k) ?_
  show own_Go p e below (T12.setTop (mkF m 34 #[.val .null, .val (.ref r1_1), .val (.int (3 : Int32)), .val (.int (1 : Int32)), .val (.ref a_TEST)] [])) _
  refine own_by (fun _ k => XS.iinc X12.here hx rfl (hb hby D1_34) rfl (l' := #[.val .null, .val (.ref r1_1), .val (.int (3 : Int32)), .val (.int (2 : Int32)), .val (.ref a_TEST)]) rfl k) ?_
  refine own_by (fun _ k => XS.goto X12.here hx rfl (pc0 := 37) (pc' := 9) rfl (hb hby D1_37) (by decide) (by decide) k) ?_
  refine own_by (fun _ k => XS.iloadN X12.here hx rfl (hb hby D1_9) rfl k) ?_
  refine own_by (fun _ k => XS.iloadN X12.here hx rfl (hb hby D1_10) rfl k) ?_
  refine own_by (fun _ k => XS.icmpNo X12.here hx rfl (hb hby D1_11) rfl (tlt (by decide : (2 : Int32) < (3 : Int32))).2.1 k) ?_
  show own_Go p e below (T12.setTop (mkF m 14 #[.val .null, .val (.ref r1_1), .val (.int (3 : Int32)), .val (.int (2 : Int32)), .val (.ref a_TEST)] [])) _
  refine own_by (fun _ k => XS.aloadN X12.here hx rfl (hb hby D1_14) rfl rfl k) ?_
  refine own_by (fun _ k => XS.iloadN X12.here hx rfl (hb hby D1_15) rfl k) ?_
  obtain ⟨cl14, Ar14, q14, S14, M14, H14, G14⟩ := (id g1_0)
  have hin14 : ¬ ((2 : Int32) < 0 ∨ cl14.slots.size ≤ ((2 : Int32)).toNatClampNeg) := inb_of S14 ⟨by decide, by decide⟩
  refine own_by (X12.aaload hx (j := (2 : Int32)) (v := (.ref a_MANAGEMENT)) (by rw [K12]; exact Ar14.1) (State.isArrayOf_alike hZ.alike Ar14.2.1) rfl Ar14.2.2 hin14 (H14.at hin14 rfl) (g := (mkF m 16 #[.val .null, .val (.ref r1_1), .val (.int (3 : Int32)), .val (.int (2 : Int32)), .val (.ref a_TEST)] [(.int (2 : Int32)), (.ref r1_1)])) rfl rfl (hb hby D1_16)) ?_
  refine own_by (fun _ k => XS.astore X12.here hx rfl (hb hby D1_17) rfl rfl (l' := #[.val .null, .val (.ref r1_1), .val (.int (3 : Int32)), .val (.int (2 : Int32)), .val (.ref a_MANAGEMENT)]) rfl k) ?_
  refine own_by (fun _ k => XS.aload X12.here hx rfl (hb hby D1_19) rfl rfl k) ?_
  have fc15 : Fld Z T1.heap a_MANAGEMENT s2_ "label" s10_ (.ref l_MANAGEMENT) := F_MANAGEMENT.ext O4.2
  obtain ⟨T16, X16, e16, st16⟩ := getF X12 hx hZ hown (host := "") (Or.inl (own_w hw 24 rfl)) Via.refl K12 fc15 (g := (mkF m 21 #[.val .null, .val (.ref r1_1), .val (.int (3 : Int32)), .val (.int (2 : Int32)), .val (.ref a_MANAGEMENT)] [(.ref a_MANAGEMENT)])) rfl rfl (hb hby D1_21)
  refine own_by st16 ?_
  show own_Go p e below (T16.setTop (mkF m 24 #[.val .null, .val (.ref r1_1), .val (.int (3 : Int32)), .val (.int (2 : Int32)), .val (.ref a_MANAGEMENT)] [(.ref l_MANAGEMENT)])) _
  refine own_by (fun _ k => XS.aloadN X16.here hx rfl (hb hby D1_24) rfl rfl k) ?_
  have fc18 : Exa Z T1.heap l_MANAGEMENT s11_ := Es_MANAGEMENT.ext O4.2
  obtain ⟨cq17, kq17, q17a, q17b, q17c⟩ := isOf hZ e16 fc18
  obtain ⟨_, _, ⟨T17, L17, k17, n17⟩, -, X17, ⟨Lc17, hQ17, l17, y17, z17⟩, st17⟩ := X16.virtualBack hx (y := (⟨s11_, "equals", s12_⟩ : MethodName)) (z := (⟨s11_, "equals", s12_⟩ : MethodName)) hown (mvT hZ (own_w hw 26 rfl)) (mvT hZ (own_w hw 27 rfl)) (notFace_of_selects (args := #[]) (mvT hZ (own_w hw 29 rfl))) (mvT hZ (own_w hw 29 rfl)) (mvT hZ (own_w hw 28 rfl)) (by decide) (backOf (W := 0) (rm_eqnull l Z a0 hw [] l_MANAGEMENT T1.heap n0 O4) hZ (own_w hw 31 rfl) (own_w hw 30 rfl) (by decide) (by decide)) q17a q17c (g := (mkF m 25 #[.val .null, .val (.ref r1_1), .val (.int (3 : Int32)), .val (.int (2 : Int32)), .val (.ref a_MANAGEMENT)] [.null, (.ref l_MANAGEMENT)])) rfl (by rw [hml]; rfl) (Steps.refl _) (argsL := [.null]) (rest := []) (lenOf own_pd__28Ljava_2flang_2fObject_3b_29Z rfl) rfl (by show 2 * 0 + _ ≤ _; exact Nat.le_of_eq rfl) (hb hby D1_25) (fun _ _ => ⟨rfl, e16, (by decide : 1 + 0 ≤ _), (by decide : 3 + 0 ≤ _)⟩)
  dsimp only [Pt.U, Pt.locs, Pt.cells, Pt.slots] at X17 l17 y17 z17 st17 hQ17
  subst l17 y17 z17
  obtain ⟨rfl, M17, K17⟩ := hQ17
  have N17 := Fr.app N12 M17
  refine own_by (fun _ k => st17.trans k) ?_
  refine own_by (fun _ k => XS.ifYes X17.here hx rfl (pc0 := 28) (pc' := 34) rfl (hb hby D1_28) rfl ((if0 _ _).trans (teq (by decide : (0 : Int32) = (0 : Int32))).1) (by decide) (by decide) k) ?_
  show own_Go p e below (T17.setTop (mkF m 34 #[.val .null, .val (.ref r1_1), .val (.int (3 : Int32)), .val (.int (2 : Int32)), .val (.ref a_MANAGEMENT)] [])) _
  refine own_by (fun _ k => XS.iinc X17.here hx rfl (hb hby D1_34) rfl (l' := #[.val .null, .val (.ref r1_1), .val (.int (3 : Int32)), .val (.int (3 : Int32)), .val (.ref a_MANAGEMENT)]) rfl k) ?_
  refine own_by (fun _ k => XS.goto X17.here hx rfl (pc0 := 37) (pc' := 9) rfl (hb hby D1_37) (by decide) (by decide) k) ?_
  refine own_by (fun _ k => XS.iloadN X17.here hx rfl (hb hby D1_9) rfl k) ?_
  refine own_by (fun _ k => XS.iloadN X17.here hx rfl (hb hby D1_10) rfl k) ?_
  refine own_by (fun _ k => XS.icmpYes X17.here hx rfl (pc0 := 11) (pc' := 40) rfl (hb hby D1_11) rfl (flt (by decide : ¬ ((3 : Int32) < (3 : Int32)))).2.1 (by decide) (by decide) k) ?_
  show own_Go p e below (T17.setTop (mkF m 40 #[.val .null, .val (.ref r1_1), .val (.int (3 : Int32)), .val (.int (3 : Int32)), .val (.ref a_MANAGEMENT)] [])) _
  refine own_by (fun _ k => XS.aconstNull X17.here hx rfl (hb hby D1_40) k) ?_
  have K19 : Keep h0 T1.heap [] := ((Keep.refl h0 []).trans K1 all0)
  obtain ⟨fs, hr, hrun, hended, hW, hsame⟩ := X17.leave (v := some .null) (fun h => by rw [Bd.returns] at h; cases h)
  refine ⟨_, _, retOut X17 hx Bd.returns (own_narrow_ref (by decide) rfl) (Or.inr (Or.inr (Or.inr (Or.inr ⟨rfl, by decide, rfl⟩)))) (hb hby D1_41) hr, hrun, hended, _, _, rfl, ?_, ⟨_, rfl⟩, hW, hsame.mono (by decide) (by decide)⟩
  show Q_rm_olnull Z va kva a_LIVE a_TEST a_MANAGEMENT l_LIVE b_LIVE kb_LIVE l_TEST b_TEST kb_TEST l_MANAGEMENT b_MANAGEMENT kb_MANAGEMENT h0 n0 _ T17.heap _
  rw [K17]
  exact ⟨rfl, N17, K19⟩
def Q_rm_olNone_none (Z : State) (r1 : Addr) (b : Addr) (kb : ClassId) (cs : Int32) (nx : Int32) (lv : List Value) (va : Addr) (kva : ClassId) (a_LIVE : Addr) (a_TEST : Addr) (a_MANAGEMENT : Addr) (l_LIVE : Addr) (b_LIVE : Addr) (kb_LIVE : ClassId) (l_TEST : Addr) (b_TEST : Addr) (kb_TEST : ClassId) (l_MANAGEMENT : Addr) (b_MANAGEMENT : Addr) (kb_MANAGEMENT : ClassId) (h0 : Heap) (n0 : Nat) (v : Option Value) (h : Heap) (L : List Loc) : Prop := v = some .null ∧ Fr n0 L ∧ Keep h0 h []
theorem ef_rm_olNone_none (m : MethodId) (r1 : Addr) (b : Addr) (kb : ClassId) (cs : Int32) (nx : Int32) (lv : List Value) (va : Addr) (kva : ClassId) (a_LIVE : Addr) (a_TEST : Addr) (a_MANAGEMENT : Addr) (l_LIVE : Addr) (b_LIVE : Addr) (kb_LIVE : ClassId) (l_TEST : Addr) (b_TEST : Addr) (kb_TEST : ClassId) (l_MANAGEMENT : Addr) (b_MANAGEMENT : Addr) (kb_MANAGEMENT : ClassId) : entryFrame m #[(.ref r1)] 5 = mkF m 0 #[.val (.ref r1), .unset, .unset, .unset, .unset] [] := by first | (simp [entryFrame, mkF, argsToLocals, Value.category]; done) | rfl
set_option maxRecDepth 65536 in
set_option maxHeartbeats 40000000 in
theorem rm_olNone_none (l : Launch) (Z : State) (a0 : Array Value) (hw : ∀ d ∈ tables_1, d.before a0 Z = true) (ws : List Jvm.Cond) (r1 : Addr) (b : Addr) (kb : ClassId) (cs : Int32) (nx : Int32) (lv : List Value) (va : Addr) (kva : ClassId) (a_LIVE : Addr) (a_TEST : Addr) (a_MANAGEMENT : Addr) (l_LIVE : Addr) (b_LIVE : Addr) (kb_LIVE : ClassId) (l_TEST : Addr) (b_TEST : Addr) (kb_TEST : ClassId) (l_MANAGEMENT : Addr) (b_MANAGEMENT : Addr) (kb_MANAGEMENT : ClassId) (h0 : Heap) (n0 : Nat) (O0 : Old Z n0 h0) (S_VALUES : Sta Z Z.heap s2_ "$VALUES" s5_ (.ref va)) (E_va : Exa Z Z.heap va s5_) (V_va : Arv Z Z.heap va kva (.object s2_) (3 : Int32) [(.ref a_LIVE), (.ref a_TEST), (.ref a_MANAGEMENT)] .null) (E_LIVE : Exa Z Z.heap a_LIVE s2_) (F_LIVE : Fld Z Z.heap a_LIVE s2_ "label" s10_ (.ref l_LIVE)) (Es_LIVE : Exa Z Z.heap l_LIVE s11_) (Fc_LIVE : Fld Z Z.heap l_LIVE s11_ "coder" "B" (.int (0 : Int32))) (Fv_LIVE : Fld Z Z.heap l_LIVE s11_ "value" "[B" (.ref b_LIVE)) (V_LIVE : Arv Z Z.heap b_LIVE kb_LIVE .byte (4 : Int32) [(.int (108 : Int32)), (.int (105 : Int32)), (.int (118 : Int32)), (.int (101 : Int32))] (.int (0 : Int32))) (E_TEST : Exa Z Z.heap a_TEST s2_) (F_TEST : Fld Z Z.heap a_TEST s2_ "label" s10_ (.ref l_TEST)) (Es_TEST : Exa Z Z.heap l_TEST s11_) (Fc_TEST : Fld Z Z.heap l_TEST s11_ "coder" "B" (.int (0 : Int32))) (Fv_TEST : Fld Z Z.heap l_TEST s11_ "value" "[B" (.ref b_TEST)) (V_TEST : Arv Z Z.heap b_TEST kb_TEST .byte (4 : Int32) [(.int (116 : Int32)), (.int (101 : Int32)), (.int (115 : Int32)), (.int (116 : Int32))] (.int (0 : Int32))) (E_MANAGEMENT : Exa Z Z.heap a_MANAGEMENT s2_) (F_MANAGEMENT : Fld Z Z.heap a_MANAGEMENT s2_ "label" s10_ (.ref l_MANAGEMENT)) (Es_MANAGEMENT : Exa Z Z.heap l_MANAGEMENT s11_) (Fc_MANAGEMENT : Fld Z Z.heap l_MANAGEMENT s11_ "coder" "B" (.int (0 : Int32))) (Fv_MANAGEMENT : Fld Z Z.heap l_MANAGEMENT s11_ "value" "[B" (.ref b_MANAGEMENT)) (V_MANAGEMENT : Arv Z Z.heap b_MANAGEMENT kb_MANAGEMENT .byte (4 : Int32) [(.int (109 : Int32)), (.int (103 : Int32)), (.int (109 : Int32)), (.int (116 : Int32))] (.int (0 : Int32))) (S_COMPACT : Sta Z Z.heap s11_ s15_ "Z" (.int cs)) (Er : Exa Z h0 r1 s11_) (Fc : Fld Z h0 r1 s11_ "coder" "B" (.int (0 : Int32))) (Fv : Fld Z h0 r1 s11_ "value" "[B" (.ref b)) (Vb : Arv Z h0 b kb .byte nx lv (.int (0 : Int32))) (hcs : ¬ (cs = (0 : Int32))) (gr : n0 ≤ r1) (hne : ¬ ((4 : Int32) = nx)) :
    MetFree l (⟨s2_, "ofLabel", s3_⟩ : MethodName) (head1 (Jvm.Cond.code (⟨s2_, "ofLabel", s3_⟩ : MethodName) prog_6_method_6_code 5 (some (.object s2_)) :: ws) ({ frames := 2, cells := 1, slots := 3, locals := 28 } : Room)) (fun a U => a = #[(.ref r1)] ∧ Z.Warmed39 U.vm ∧ U.heap = h0) (fun _ _ _ _ _ => True) (fun _ U o U' => ∃ v L, o = .returned v ∧ Q_rm_olNone_none Z r1 b kb cs nx lv va kva a_LIVE a_TEST a_MANAGEMENT l_LIVE b_LIVE kb_LIVE l_TEST b_TEST kb_TEST l_MANAGEMENT b_MANAGEMENT kb_MANAGEMENT h0 n0 v U'.heap L ∧ FrameEnd U o U' L ({ frames := 2, cells := 1, slots := 3, locals := 28 } : Room).cells ({ frames := 2, cells := 1, slots := 3, locals := 28 } : Room).slots) := by
  refine MetFree.of_bodySF (plainFor_of_name own_pn_com_example_ostiarius_ostiarius_key_KeyKind) hisR ?_
  intro p e s m args below meth c s₁ Bd hml0 hP hK
  obtain ⟨rfl, hZ, hh⟩ := hP
  have hx := Bd.exec
  have hby := Bd.bytes
  have hml : c.maxLocals = 5 := hml0
  have hown : s.vm.findClass s2_ = some m.cls := findClass_of_methodNamed Bd.named
  have hnm := (name_of_methodNamed Bd.named Bd.method).1
  have X0 : Stand p l e ({ frames := 2, cells := 1, slots := 3, locals := 28 } : Room) s m #[(.ref r1)] below meth c s₁ [] 0 0 := Stand.of_body Bd
  have e0 : s₁.heap = h0 := by rw [← hh, Bd.state]; rfl
  have N0 := Fr.nil n0
  have Z0 : n0 ≤ h0.size := by rw [← O0.1]; exact O0.2.1
  show own_Go p e below (s₁.setTop (entryFrame m #[(.ref r1)] 5)) (fun t o => ∃ v L, o = .returned v ∧ Q_rm_olNone_none Z r1 b kb cs nx lv va kva a_LIVE a_TEST a_MANAGEMENT l_LIVE b_LIVE kb_LIVE l_TEST b_TEST kb_TEST l_MANAGEMENT b_MANAGEMENT kb_MANAGEMENT h0 n0 v t.heap L ∧ FrameEnd s o t L ({ frames := 2, cells := 1, slots := 3, locals := 28 } : Room).cells ({ frames := 2, cells := 1, slots := 3, locals := 28 } : Room).slots)
  rw [ef_rm_olNone_none m r1 b kb cs nx lv va kva a_LIVE a_TEST a_MANAGEMENT l_LIVE b_LIVE kb_LIVE l_TEST b_TEST kb_TEST l_MANAGEMENT b_MANAGEMENT kb_MANAGEMENT]
  have lt_Er : h0.size > r1 := Er.lt
  have lt_Fc : h0.size > r1 := Fc.lt
  have lt_Fv : h0.size > r1 := Fv.lt
  have lt_Vb : h0.size > b := Vb.lt
  obtain ⟨_, _, ⟨T1, L1, k1, n1⟩, -, X1, ⟨Lc1, hQ1, l1, y1, z1⟩, st1⟩ := Jvm.LawKit.callS X0 hx (y := (⟨s2_, "values", s4_⟩ : MethodName)) hown (mvT hZ (own_w hw 6 rfl)) (mvT hZ (own_w hw 7 rfl)) (mvT hZ (own_w hw 4 rfl)) (mvT hZ (own_w hw 8 rfl)) (by decide) (backOf (W := 0) (rm_values l Z a0 hw [] va kva a_LIVE a_TEST a_MANAGEMENT h0 n0 O0 S_VALUES E_va V_va) hZ (own_w hw 8 rfl) (own_w hw 4 rfl) (by decide) (by decide)) (g := (mkF m 0 #[.val (.ref r1), .unset, .unset, .unset, .unset] [])) rfl (by rw [hml]; rfl) (argsL := []) (rest := []) (lenOf own_pd__28_29_5bLcom_2fexample_2fostiarius_2fostiarius_2fkey_2fKeyKind_3b rfl) rfl (by show 2 * 0 + _ ≤ _; exact Nat.le_of_eq rfl) (hb hby D1_0) (fun _ _ => ⟨rfl, e0, (by decide : 0 + 1 ≤ _), (by decide : 0 + 3 ≤ _)⟩)
  dsimp only [Pt.U, Pt.locs, Pt.cells, Pt.slots] at X1 l1 y1 z1 st1 hQ1
  subst l1 y1 z1
  obtain ⟨r1_1, kr_1, rfl, M1, K1, g1_0⟩ := hQ1
  have N1 := Fr.app N0 M1
  refine own_by st1 ?_
  have z1 := K1.1
  have lt_g1_0 : T1.heap.size > r1_1 := g1_0.lt
  refine own_by (fun _ k => XS.astoreN X1.here hx rfl (hb hby D1_3) rfl rfl (l' := #[.val (.ref r1), .val (.ref r1_1), .unset, .unset, .unset]) rfl k) ?_
  refine own_by (fun _ k => XS.aloadN X1.here hx rfl (hb hby D1_4) rfl rfl k) ?_
  obtain ⟨cl2, Ar2, q2, S2, M2, H2, G2⟩ := (id g1_0)
  refine own_by (X1.arraylength hx Ar2.1 (State.isArrayOf_alike hZ.alike Ar2.2.1) (g := (mkF m 5 #[.val (.ref r1), .val (.ref r1_1), .unset, .unset, .unset] [(.ref r1_1)])) rfl rfl (hb hby D1_5)) ?_
  rw [len_of S2 M2]
  refine own_by (fun _ k => XS.istoreN X1.here hx rfl (hb hby D1_6) rfl (l' := #[.val (.ref r1), .val (.ref r1_1), .val (.int (3 : Int32)), .unset, .unset]) rfl k) ?_
  refine own_by (fun _ k => XS.iconst X1.here hx rfl (hb hby D1_7) k) ?_
  show own_Go p e below (T1.setTop (mkF m 8 #[.val (.ref r1), .val (.ref r1_1), .val (.int (3 : Int32)), .unset, .unset] [(.int (0 : Int32))])) _
  refine own_by (fun _ k => XS.istoreN X1.here hx rfl (hb hby D1_8) rfl (l' := #[.val (.ref r1), .val (.ref r1_1), .val (.int (3 : Int32)), .val (.int (0 : Int32)), .unset]) rfl k) ?_
  refine own_by (fun _ k => XS.iloadN X1.here hx rfl (hb hby D1_9) rfl k) ?_
  refine own_by (fun _ k => XS.iloadN X1.here hx rfl (hb hby D1_10) rfl k) ?_
  refine own_by (fun _ k => XS.icmpNo X1.here hx rfl (hb hby D1_11) rfl (tlt (by decide : (0 : Int32) < (3 : Int32))).2.1 k) ?_
  show own_Go p e below (T1.setTop (mkF m 14 #[.val (.ref r1), .val (.ref r1_1), .val (.int (3 : Int32)), .val (.int (0 : Int32)), .unset] [])) _
  refine own_by (fun _ k => XS.aloadN X1.here hx rfl (hb hby D1_14) rfl rfl k) ?_
  refine own_by (fun _ k => XS.iloadN X1.here hx rfl (hb hby D1_15) rfl k) ?_
  obtain ⟨cl3, Ar3, q3, S3, M3, H3, G3⟩ := (id g1_0)
  have hin3 : ¬ ((0 : Int32) < 0 ∨ cl3.slots.size ≤ ((0 : Int32)).toNatClampNeg) := inb_of S3 ⟨by decide, by decide⟩
  refine own_by (X1.aaload hx (j := (0 : Int32)) (v := (.ref a_LIVE)) Ar3.1 (State.isArrayOf_alike hZ.alike Ar3.2.1) rfl Ar3.2.2 hin3 (H3.at hin3 rfl) (g := (mkF m 16 #[.val (.ref r1), .val (.ref r1_1), .val (.int (3 : Int32)), .val (.int (0 : Int32)), .unset] [(.int (0 : Int32)), (.ref r1_1)])) rfl rfl (hb hby D1_16)) ?_
  refine own_by (fun _ k => XS.astore X1.here hx rfl (hb hby D1_17) rfl rfl (l' := #[.val (.ref r1), .val (.ref r1_1), .val (.int (3 : Int32)), .val (.int (0 : Int32)), .val (.ref a_LIVE)]) rfl k) ?_
  refine own_by (fun _ k => XS.aload X1.here hx rfl (hb hby D1_19) rfl rfl k) ?_
  have O4 : Old Z n0 T1.heap := (O0.keep K1 all0)
  have fc5 : Fld Z T1.heap a_LIVE s2_ "label" s10_ (.ref l_LIVE) := F_LIVE.ext O4.2
  obtain ⟨T6, X6, e6, st6⟩ := getF X1 hx hZ hown (host := "") (Or.inl (own_w hw 24 rfl)) Via.refl rfl fc5 (g := (mkF m 21 #[.val (.ref r1), .val (.ref r1_1), .val (.int (3 : Int32)), .val (.int (0 : Int32)), .val (.ref a_LIVE)] [(.ref a_LIVE)])) rfl rfl (hb hby D1_21)
  refine own_by st6 ?_
  show own_Go p e below (T6.setTop (mkF m 24 #[.val (.ref r1), .val (.ref r1_1), .val (.int (3 : Int32)), .val (.int (0 : Int32)), .val (.ref a_LIVE)] [(.ref l_LIVE)])) _
  refine own_by (fun _ k => XS.aloadN X6.here hx rfl (hb hby D1_24) rfl rfl k) ?_
  have fc7 : Exa Z T1.heap l_LIVE s11_ := Es_LIVE.ext O4.2
  have fc8 : Fld Z T1.heap l_LIVE s11_ "coder" "B" (.int (0 : Int32)) := Fc_LIVE.ext O4.2
  have fc9 : Fld Z T1.heap l_LIVE s11_ "value" "[B" (.ref b_LIVE) := Fv_LIVE.ext O4.2
  have fc10 : Arv Z T1.heap b_LIVE kb_LIVE .byte (4 : Int32) [(.int (108 : Int32)), (.int (105 : Int32)), (.int (118 : Int32)), (.int (101 : Int32))] (.int (0 : Int32)) := V_LIVE.ext O4.2
  have fc11 : Exa Z T1.heap r1 s11_ := (Er.keep K1)
  have fc12 : Fld Z T1.heap r1 s11_ "coder" "B" (.int (0 : Int32)) := (Fc.keep K1 nin0)
  have fc13 : Fld Z T1.heap r1 s11_ "value" "[B" (.ref b) := (Fv.keep K1 nin0)
  have fc14 : Arv Z T1.heap b kb .byte nx lv (.int (0 : Int32)) := (Vb.keep K1 nin0)
  obtain ⟨cq15, kq15, q15a, q15b, q15c⟩ := isOf hZ e6 fc7
  obtain ⟨_, _, ⟨T15, L15, k15, n15⟩, -, X15, ⟨Lc15, hQ15, l15, y15, z15⟩, st15⟩ := X6.virtualBack hx (y := (⟨s11_, "equals", s12_⟩ : MethodName)) (z := (⟨s11_, "equals", s12_⟩ : MethodName)) hown (mvT hZ (own_w hw 26 rfl)) (mvT hZ (own_w hw 27 rfl)) (notFace_of_selects (args := #[]) (mvT hZ (own_w hw 29 rfl))) (mvT hZ (own_w hw 29 rfl)) (mvT hZ (own_w hw 28 rfl)) (by decide) (backOf (W := 0) (rm_eqne_4 l Z a0 hw [] l_LIVE r1 b_LIVE b kb_LIVE kb nx lv cs (108 : Int32) (105 : Int32) (118 : Int32) (101 : Int32) T1.heap n0 O4 S_COMPACT fc7 fc8 fc9 fc10 fc11 fc12 fc13 fc14 hcs (own_old_ne Es_LIVE O0 gr) hne) hZ (own_w hw 31 rfl) (own_w hw 30 rfl) (by decide) (by decide)) q15a q15c (g := (mkF m 25 #[.val (.ref r1), .val (.ref r1_1), .val (.int (3 : Int32)), .val (.int (0 : Int32)), .val (.ref a_LIVE)] [(.ref r1), (.ref l_LIVE)])) rfl (by rw [hml]; rfl) (Steps.refl _) (argsL := [(.ref r1)]) (rest := []) (lenOf own_pd__28Ljava_2flang_2fObject_3b_29Z rfl) rfl (by show 2 * 0 + _ ≤ _; exact Nat.le_of_eq rfl) (hb hby D1_25) (fun _ _ => ⟨rfl, e6, (by decide : 1 + 0 ≤ _), (by decide : 3 + 0 ≤ _)⟩)
  dsimp only [Pt.U, Pt.locs, Pt.cells, Pt.slots] at X15 l15 y15 z15 st15 hQ15
  subst l15 y15 z15
  obtain ⟨rfl, M15, K15⟩ := hQ15
  have N15 := Fr.app N1 M15
  refine own_by (fun _ k => st15.trans k) ?_
  refine own_by (fun _ k => XS.ifYes X15.here hx rfl (pc0 := 28) (pc' := 34) rfl (hb hby D1_28) rfl ((if0 _ _).trans (teq (by decide : (0 : Int32) = (0 : Int32))).1) (by decide) (by decide) k) ?_
  show own_Go p e below (T15.setTop (mkF m 34 #[.val (.ref r1), .val (.ref r1_1), .val (.int (3 : Int32)), .val (.int (0 : Int32)), .val (.ref a_LIVE)] [])) _
  refine own_by (fun _ k => XS.iinc X15.here hx rfl (hb hby D1_34) rfl (l' := #[.val (.ref r1), .val (.ref r1_1), .val (.int (3 : Int32)), .val (.int (1 : Int32)), .val (.ref a_LIVE)]) rfl k) ?_
  refine own_by (fun _ k => XS.goto X15.here hx rfl (pc0 := 37) (pc' := 9) rfl (hb hby D1_37) (by decide) (by decide) k) ?_
  refine own_by (fun _ k => XS.iloadN X15.here hx rfl (hb hby D1_9) rfl k) ?_
  refine own_by (fun _ k => XS.iloadN X15.here hx rfl (hb hby D1_10) rfl k) ?_
  refine own_by (fun _ k => XS.icmpNo X15.here hx rfl (hb hby D1_11) rfl (tlt (by decide : (1 : Int32) < (3 : Int32))).2.1 k) ?_
  show own_Go p e below (T15.setTop (mkF m 14 #[.val (.ref r1), .val (.ref r1_1), .val (.int (3 : Int32)), .val (.int (1 : Int32)), .val (.ref a_LIVE)] [])) _
  refine own_by (fun _ k => XS.aloadN X15.here hx rfl (hb hby D1_14) rfl rfl k) ?_
  refine own_by (fun _ k => XS.iloadN X15.here hx rfl (hb hby D1_15) rfl k) ?_
  obtain ⟨cl16, Ar16, q16, S16, M16, H16, G16⟩ := (id g1_0)
  have hin16 : ¬ ((1 : Int32) < 0 ∨ cl16.slots.size ≤ ((1 : Int32)).toNatClampNeg) := inb_of S16 ⟨by decide, by decide⟩
  refine own_by (X15.aaload hx (j := (1 : Int32)) (v := (.ref a_TEST)) (by rw [K15]; exact Ar16.1) (State.isArrayOf_alike hZ.alike Ar16.2.1) rfl Ar16.2.2 hin16 (H16.at hin16 rfl) (g := (mkF m 16 #[.val (.ref r1), .val (.ref r1_1), .val (.int (3 : Int32)), .val (.int (1 : Int32)), .val (.ref a_LIVE)] [(.int (1 : Int32)), (.ref r1_1)])) rfl rfl (hb hby D1_16)) ?_
  refine own_by (fun _ k => XS.astore X15.here hx rfl (hb hby D1_17) rfl rfl (l' := #[.val (.ref r1), .val (.ref r1_1), .val (.int (3 : Int32)), .val (.int (1 : Int32)), .val (.ref a_TEST)]) rfl k) ?_
  refine own_by (fun _ k => XS.aload X15.here hx rfl (hb hby D1_19) rfl rfl k) ?_
  have fc17 : Fld Z T1.heap a_TEST s2_ "label" s10_ (.ref l_TEST) := F_TEST.ext O4.2
  obtain ⟨T18, X18, e18, st18⟩ := getF X15 hx hZ hown (host := "") (Or.inl (own_w hw 24 rfl)) Via.refl K15 fc17 (g := (mkF m 21 #[.val (.ref r1), .val (.ref r1_1), .val (.int (3 : Int32)), .val (.int (1 : Int32)), .val (.ref a_TEST)] [(.ref a_TEST)])) rfl rfl (hb hby D1_21)
  refine own_by st18 ?_
  show own_Go p e below (T18.setTop (mkF m 24 #[.val (.ref r1), .val (.ref r1_1), .val (.int (3 : Int32)), .val (.int (1 : Int32)), .val (.ref a_TEST)] [(.ref l_TEST)])) _
  refine own_by (fun _ k => XS.aloadN X18.here hx rfl (hb hby D1_24) rfl rfl k) ?_
  have fc19 : Exa Z T1.heap l_TEST s11_ := Es_TEST.ext O4.2
  have fc20 : Fld Z T1.heap l_TEST s11_ "coder" "B" (.int (0 : Int32)) := Fc_TEST.ext O4.2
  have fc21 : Fld Z T1.heap l_TEST s11_ "value" "[B" (.ref b_TEST) := Fv_TEST.ext O4.2
  have fc22 : Arv Z T1.heap b_TEST kb_TEST .byte (4 : Int32) [(.int (116 : Int32)), (.int (101 : Int32)), (.int (115 : Int32)), (.int (116 : Int32))] (.int (0 : Int32)) := V_TEST.ext O4.2
  obtain ⟨cq23, kq23, q23a, q23b, q23c⟩ := isOf hZ e18 fc19
  obtain ⟨_, _, ⟨T23, L23, k23, n23⟩, -, X23, ⟨Lc23, hQ23, l23, y23, z23⟩, st23⟩ := X18.virtualBack hx (y := (⟨s11_, "equals", s12_⟩ : MethodName)) (z := (⟨s11_, "equals", s12_⟩ : MethodName)) hown (mvT hZ (own_w hw 26 rfl)) (mvT hZ (own_w hw 27 rfl)) (notFace_of_selects (args := #[]) (mvT hZ (own_w hw 29 rfl))) (mvT hZ (own_w hw 29 rfl)) (mvT hZ (own_w hw 28 rfl)) (by decide) (backOf (W := 0) (rm_eqne_4 l Z a0 hw [] l_TEST r1 b_TEST b kb_TEST kb nx lv cs (116 : Int32) (101 : Int32) (115 : Int32) (116 : Int32) T1.heap n0 O4 S_COMPACT fc19 fc20 fc21 fc22 fc11 fc12 fc13 fc14 hcs (own_old_ne Es_TEST O0 gr) hne) hZ (own_w hw 31 rfl) (own_w hw 30 rfl) (by decide) (by decide)) q23a q23c (g := (mkF m 25 #[.val (.ref r1), .val (.ref r1_1), .val (.int (3 : Int32)), .val (.int (1 : Int32)), .val (.ref a_TEST)] [(.ref r1), (.ref l_TEST)])) rfl (by rw [hml]; rfl) (Steps.refl _) (argsL := [(.ref r1)]) (rest := []) (lenOf own_pd__28Ljava_2flang_2fObject_3b_29Z rfl) rfl (by show 2 * 0 + _ ≤ _; exact Nat.le_of_eq rfl) (hb hby D1_25) (fun _ _ => ⟨rfl, e18, (by decide : 1 + 0 ≤ _), (by decide : 3 + 0 ≤ _)⟩)
  dsimp only [Pt.U, Pt.locs, Pt.cells, Pt.slots] at X23 l23 y23 z23 st23 hQ23
  subst l23 y23 z23
  obtain ⟨rfl, M23, K23⟩ := hQ23
  have N23 := Fr.app N15 M23
  refine own_by (fun _ k => st23.trans k) ?_
  refine own_by (fun _ k => XS.ifYes X23.here hx rfl (pc0 := 28) (pc' := 34) rfl (hb hby D1_28) rfl ((if0 _ _).trans (teq (by decide : (0 : Int32) = (0 : Int32))).1) (by decide) (by decide) k) ?_
  show own_Go p e below (T23.setTop (mkF m 34 #[.val (.ref r1), .val (.ref r1_1), .val (.int (3 : Int32)), .val (.int (1 : Int32)), .val (.ref a_TEST)] [])) _
  refine own_by (fun _ k => XS.iinc X23.here hx rfl (hb hby D1_34) rfl (l' := #[.val (.ref r1), .val (.ref r1_1), .val (.int (3 : Int32)), .val (.int (2 : Int32)), .val (.ref a_TEST)]) rfl k) ?_
  refine own_by (fun _ k => XS.goto X23.here hx rfl (pc0 := 37) (pc' := 9) rfl (hb hby D1_37) (by decide) (by decide) k) ?_
  refine own_by (fun _ k => XS.iloadN X23.here hx rfl (hb hby D1_9) rfl k) ?_
  refine own_by (fun _ k => XS.iloadN X23.here hx rfl (hb hby D1_10) rfl k) ?_
  refine own_by (fun _ k => XS.icmpNo X23.here hx rfl (hb hby D1_11) rfl (tlt (by decide : (2 : Int32) < (3 : Int32))).2.1 k) ?_
  show own_Go p e below (T23.setTop (mkF m 14 #[.val (.ref r1), .val (.ref r1_1), .val (.int (3 : Int32)), .val (.int (2 : Int32)), .val (.ref a_TEST)] [])) _
  refine own_by (fun _ k => XS.aloadN X23.here hx rfl (hb hby D1_14) rfl rfl k) ?_
  refine own_by (fun _ k => XS.iloadN X23.here hx rfl (hb hby D1_15) rfl k) ?_
  obtain ⟨cl24, Ar24, q24, S24, M24, H24, G24⟩ := (id g1_0)
  have hin24 : ¬ ((2 : Int32) < 0 ∨ cl24.slots.size ≤ ((2 : Int32)).toNatClampNeg) := inb_of S24 ⟨by decide, by decide⟩
  refine own_by (X23.aaload hx (j := (2 : Int32)) (v := (.ref a_MANAGEMENT)) (by rw [K23]; exact Ar24.1) (State.isArrayOf_alike hZ.alike Ar24.2.1) rfl Ar24.2.2 hin24 (H24.at hin24 rfl) (g := (mkF m 16 #[.val (.ref r1), .val (.ref r1_1), .val (.int (3 : Int32)), .val (.int (2 : Int32)), .val (.ref a_TEST)] [(.int (2 : Int32)), (.ref r1_1)])) rfl rfl (hb hby D1_16)) ?_
  refine own_by (fun _ k => XS.astore X23.here hx rfl (hb hby D1_17) rfl rfl (l' := #[.val (.ref r1), .val (.ref r1_1), .val (.int (3 : Int32)), .val (.int (2 : Int32)), .val (.ref a_MANAGEMENT)]) rfl k) ?_
  refine own_by (fun _ k => XS.aload X23.here hx rfl (hb hby D1_19) rfl rfl k) ?_
  have fc25 : Fld Z T1.heap a_MANAGEMENT s2_ "label" s10_ (.ref l_MANAGEMENT) := F_MANAGEMENT.ext O4.2
  obtain ⟨T26, X26, e26, st26⟩ := getF X23 hx hZ hown (host := "") (Or.inl (own_w hw 24 rfl)) Via.refl K23 fc25 (g := (mkF m 21 #[.val (.ref r1), .val (.ref r1_1), .val (.int (3 : Int32)), .val (.int (2 : Int32)), .val (.ref a_MANAGEMENT)] [(.ref a_MANAGEMENT)])) rfl rfl (hb hby D1_21)
  refine own_by st26 ?_
  show own_Go p e below (T26.setTop (mkF m 24 #[.val (.ref r1), .val (.ref r1_1), .val (.int (3 : Int32)), .val (.int (2 : Int32)), .val (.ref a_MANAGEMENT)] [(.ref l_MANAGEMENT)])) _
  refine own_by (fun _ k => XS.aloadN X26.here hx rfl (hb hby D1_24) rfl rfl k) ?_
  have fc27 : Exa Z T1.heap l_MANAGEMENT s11_ := Es_MANAGEMENT.ext O4.2
  have fc28 : Fld Z T1.heap l_MANAGEMENT s11_ "coder" "B" (.int (0 : Int32)) := Fc_MANAGEMENT.ext O4.2
  have fc29 : Fld Z T1.heap l_MANAGEMENT s11_ "value" "[B" (.ref b_MANAGEMENT) := Fv_MANAGEMENT.ext O4.2
  have fc30 : Arv Z T1.heap b_MANAGEMENT kb_MANAGEMENT .byte (4 : Int32) [(.int (109 : Int32)), (.int (103 : Int32)), (.int (109 : Int32)), (.int (116 : Int32))] (.int (0 : Int32)) := V_MANAGEMENT.ext O4.2
  obtain ⟨cq31, kq31, q31a, q31b, q31c⟩ := isOf hZ e26 fc27
  obtain ⟨_, _, ⟨T31, L31, k31, n31⟩, -, X31, ⟨Lc31, hQ31, l31, y31, z31⟩, st31⟩ := X26.virtualBack hx (y := (⟨s11_, "equals", s12_⟩ : MethodName)) (z := (⟨s11_, "equals", s12_⟩ : MethodName)) hown (mvT hZ (own_w hw 26 rfl)) (mvT hZ (own_w hw 27 rfl)) (notFace_of_selects (args := #[]) (mvT hZ (own_w hw 29 rfl))) (mvT hZ (own_w hw 29 rfl)) (mvT hZ (own_w hw 28 rfl)) (by decide) (backOf (W := 0) (rm_eqne_4 l Z a0 hw [] l_MANAGEMENT r1 b_MANAGEMENT b kb_MANAGEMENT kb nx lv cs (109 : Int32) (103 : Int32) (109 : Int32) (116 : Int32) T1.heap n0 O4 S_COMPACT fc27 fc28 fc29 fc30 fc11 fc12 fc13 fc14 hcs (own_old_ne Es_MANAGEMENT O0 gr) hne) hZ (own_w hw 31 rfl) (own_w hw 30 rfl) (by decide) (by decide)) q31a q31c (g := (mkF m 25 #[.val (.ref r1), .val (.ref r1_1), .val (.int (3 : Int32)), .val (.int (2 : Int32)), .val (.ref a_MANAGEMENT)] [(.ref r1), (.ref l_MANAGEMENT)])) rfl (by rw [hml]; rfl) (Steps.refl _) (argsL := [(.ref r1)]) (rest := []) (lenOf own_pd__28Ljava_2flang_2fObject_3b_29Z rfl) rfl (by show 2 * 0 + _ ≤ _; exact Nat.le_of_eq rfl) (hb hby D1_25) (fun _ _ => ⟨rfl, e26, (by decide : 1 + 0 ≤ _), (by decide : 3 + 0 ≤ _)⟩)
  dsimp only [Pt.U, Pt.locs, Pt.cells, Pt.slots] at X31 l31 y31 z31 st31 hQ31
  subst l31 y31 z31
  obtain ⟨rfl, M31, K31⟩ := hQ31
  have N31 := Fr.app N23 M31
  refine own_by (fun _ k => st31.trans k) ?_
  refine own_by (fun _ k => XS.ifYes X31.here hx rfl (pc0 := 28) (pc' := 34) rfl (hb hby D1_28) rfl ((if0 _ _).trans (teq (by decide : (0 : Int32) = (0 : Int32))).1) (by decide) (by decide) k) ?_
  show own_Go p e below (T31.setTop (mkF m 34 #[.val (.ref r1), .val (.ref r1_1), .val (.int (3 : Int32)), .val (.int (2 : Int32)), .val (.ref a_MANAGEMENT)] [])) _
  refine own_by (fun _ k => XS.iinc X31.here hx rfl (hb hby D1_34) rfl (l' := #[.val (.ref r1), .val (.ref r1_1), .val (.int (3 : Int32)), .val (.int (3 : Int32)), .val (.ref a_MANAGEMENT)]) rfl k) ?_
  refine own_by (fun _ k => XS.goto X31.here hx rfl (pc0 := 37) (pc' := 9) rfl (hb hby D1_37) (by decide) (by decide) k) ?_
  refine own_by (fun _ k => XS.iloadN X31.here hx rfl (hb hby D1_9) rfl k) ?_
  refine own_by (fun _ k => XS.iloadN X31.here hx rfl (hb hby D1_10) rfl k) ?_
  refine own_by (fun _ k => XS.icmpYes X31.here hx rfl (pc0 := 11) (pc' := 40) rfl (hb hby D1_11) rfl (flt (by decide : ¬ ((3 : Int32) < (3 : Int32)))).2.1 (by decide) (by decide) k) ?_
  show own_Go p e below (T31.setTop (mkF m 40 #[.val (.ref r1), .val (.ref r1_1), .val (.int (3 : Int32)), .val (.int (3 : Int32)), .val (.ref a_MANAGEMENT)] [])) _
  refine own_by (fun _ k => XS.aconstNull X31.here hx rfl (hb hby D1_40) k) ?_
  have K32 : Keep h0 T1.heap [] := ((Keep.refl h0 []).trans K1 all0)
  obtain ⟨fs, hr, hrun, hended, hW, hsame⟩ := X31.leave (v := some .null) (fun h => by rw [Bd.returns] at h; cases h)
  refine ⟨_, _, retOut X31 hx Bd.returns (own_narrow_ref (by decide) rfl) (Or.inr (Or.inr (Or.inr (Or.inr ⟨rfl, by decide, rfl⟩)))) (hb hby D1_41) hr, hrun, hended, _, _, rfl, ?_, ⟨_, rfl⟩, hW, hsame.mono (by decide) (by decide)⟩
  show Q_rm_olNone_none Z r1 b kb cs nx lv va kva a_LIVE a_TEST a_MANAGEMENT l_LIVE b_LIVE kb_LIVE l_TEST b_TEST kb_TEST l_MANAGEMENT b_MANAGEMENT kb_MANAGEMENT h0 n0 _ T31.heap _
  rw [K31]
  exact ⟨rfl, N31, K32⟩
def Q_rm_ol4_none (Z : State) (r1 : Addr) (b : Addr) (kb : ClassId) (cs : Int32) (d1 : Int32) (d2 : Int32) (d3 : Int32) (d4 : Int32) (va : Addr) (kva : ClassId) (a_LIVE : Addr) (a_TEST : Addr) (a_MANAGEMENT : Addr) (l_LIVE : Addr) (b_LIVE : Addr) (kb_LIVE : ClassId) (l_TEST : Addr) (b_TEST : Addr) (kb_TEST : ClassId) (l_MANAGEMENT : Addr) (b_MANAGEMENT : Addr) (kb_MANAGEMENT : ClassId) (h0 : Heap) (n0 : Nat) (v : Option Value) (h : Heap) (L : List Loc) : Prop := v = some .null ∧ Fr n0 L ∧ Keep h0 h []
theorem ef_rm_ol4_none (m : MethodId) (r1 : Addr) (b : Addr) (kb : ClassId) (cs : Int32) (d1 : Int32) (d2 : Int32) (d3 : Int32) (d4 : Int32) (va : Addr) (kva : ClassId) (a_LIVE : Addr) (a_TEST : Addr) (a_MANAGEMENT : Addr) (l_LIVE : Addr) (b_LIVE : Addr) (kb_LIVE : ClassId) (l_TEST : Addr) (b_TEST : Addr) (kb_TEST : ClassId) (l_MANAGEMENT : Addr) (b_MANAGEMENT : Addr) (kb_MANAGEMENT : ClassId) : entryFrame m #[(.ref r1)] 5 = mkF m 0 #[.val (.ref r1), .unset, .unset, .unset, .unset] [] := by first | (simp [entryFrame, mkF, argsToLocals, Value.category]; done) | rfl
set_option maxRecDepth 65536 in
set_option maxHeartbeats 40000000 in
theorem rm_ol4_none (l : Launch) (Z : State) (a0 : Array Value) (hw : ∀ d ∈ tables_1, d.before a0 Z = true) (ws : List Jvm.Cond) (r1 : Addr) (b : Addr) (kb : ClassId) (cs : Int32) (d1 : Int32) (d2 : Int32) (d3 : Int32) (d4 : Int32) (va : Addr) (kva : ClassId) (a_LIVE : Addr) (a_TEST : Addr) (a_MANAGEMENT : Addr) (l_LIVE : Addr) (b_LIVE : Addr) (kb_LIVE : ClassId) (l_TEST : Addr) (b_TEST : Addr) (kb_TEST : ClassId) (l_MANAGEMENT : Addr) (b_MANAGEMENT : Addr) (kb_MANAGEMENT : ClassId) (h0 : Heap) (n0 : Nat) (O0 : Old Z n0 h0) (S_VALUES : Sta Z Z.heap s2_ "$VALUES" s5_ (.ref va)) (E_va : Exa Z Z.heap va s5_) (V_va : Arv Z Z.heap va kva (.object s2_) (3 : Int32) [(.ref a_LIVE), (.ref a_TEST), (.ref a_MANAGEMENT)] .null) (E_LIVE : Exa Z Z.heap a_LIVE s2_) (F_LIVE : Fld Z Z.heap a_LIVE s2_ "label" s10_ (.ref l_LIVE)) (Es_LIVE : Exa Z Z.heap l_LIVE s11_) (Fc_LIVE : Fld Z Z.heap l_LIVE s11_ "coder" "B" (.int (0 : Int32))) (Fv_LIVE : Fld Z Z.heap l_LIVE s11_ "value" "[B" (.ref b_LIVE)) (V_LIVE : Arv Z Z.heap b_LIVE kb_LIVE .byte (4 : Int32) [(.int (108 : Int32)), (.int (105 : Int32)), (.int (118 : Int32)), (.int (101 : Int32))] (.int (0 : Int32))) (E_TEST : Exa Z Z.heap a_TEST s2_) (F_TEST : Fld Z Z.heap a_TEST s2_ "label" s10_ (.ref l_TEST)) (Es_TEST : Exa Z Z.heap l_TEST s11_) (Fc_TEST : Fld Z Z.heap l_TEST s11_ "coder" "B" (.int (0 : Int32))) (Fv_TEST : Fld Z Z.heap l_TEST s11_ "value" "[B" (.ref b_TEST)) (V_TEST : Arv Z Z.heap b_TEST kb_TEST .byte (4 : Int32) [(.int (116 : Int32)), (.int (101 : Int32)), (.int (115 : Int32)), (.int (116 : Int32))] (.int (0 : Int32))) (E_MANAGEMENT : Exa Z Z.heap a_MANAGEMENT s2_) (F_MANAGEMENT : Fld Z Z.heap a_MANAGEMENT s2_ "label" s10_ (.ref l_MANAGEMENT)) (Es_MANAGEMENT : Exa Z Z.heap l_MANAGEMENT s11_) (Fc_MANAGEMENT : Fld Z Z.heap l_MANAGEMENT s11_ "coder" "B" (.int (0 : Int32))) (Fv_MANAGEMENT : Fld Z Z.heap l_MANAGEMENT s11_ "value" "[B" (.ref b_MANAGEMENT)) (V_MANAGEMENT : Arv Z Z.heap b_MANAGEMENT kb_MANAGEMENT .byte (4 : Int32) [(.int (109 : Int32)), (.int (103 : Int32)), (.int (109 : Int32)), (.int (116 : Int32))] (.int (0 : Int32))) (S_COMPACT : Sta Z Z.heap s11_ s15_ "Z" (.int cs)) (Er : Exa Z h0 r1 s11_) (Fc : Fld Z h0 r1 s11_ "coder" "B" (.int (0 : Int32))) (Fv : Fld Z h0 r1 s11_ "value" "[B" (.ref b)) (Vb : Arv Z h0 b kb .byte (4 : Int32) [(.int d1), (.int d2), (.int d3), (.int d4)] (.int (0 : Int32))) (hcs : ¬ (cs = (0 : Int32))) (gr : n0 ≤ r1) (hl_LIVE : (own_all [((108 : Int32), d1), ((105 : Int32), d2), ((118 : Int32), d3), ((101 : Int32), d4)]) = (0 : Int32)) (hl_TEST : (own_all [((116 : Int32), d1), ((101 : Int32), d2), ((115 : Int32), d3), ((116 : Int32), d4)]) = (0 : Int32)) (hl_MANAGEMENT : (own_all [((109 : Int32), d1), ((103 : Int32), d2), ((109 : Int32), d3), ((116 : Int32), d4)]) = (0 : Int32)) :
    MetFree l (⟨s2_, "ofLabel", s3_⟩ : MethodName) (head1 (Jvm.Cond.code (⟨s2_, "ofLabel", s3_⟩ : MethodName) prog_6_method_6_code 5 (some (.object s2_)) :: ws) ({ frames := 2, cells := 1, slots := 3, locals := 28 } : Room)) (fun a U => a = #[(.ref r1)] ∧ Z.Warmed39 U.vm ∧ U.heap = h0) (fun _ _ _ _ _ => True) (fun _ U o U' => ∃ v L, o = .returned v ∧ Q_rm_ol4_none Z r1 b kb cs d1 d2 d3 d4 va kva a_LIVE a_TEST a_MANAGEMENT l_LIVE b_LIVE kb_LIVE l_TEST b_TEST kb_TEST l_MANAGEMENT b_MANAGEMENT kb_MANAGEMENT h0 n0 v U'.heap L ∧ FrameEnd U o U' L ({ frames := 2, cells := 1, slots := 3, locals := 28 } : Room).cells ({ frames := 2, cells := 1, slots := 3, locals := 28 } : Room).slots) := by
  refine MetFree.of_bodySF (plainFor_of_name own_pn_com_example_ostiarius_ostiarius_key_KeyKind) hisR ?_
  intro p e s m args below meth c s₁ Bd hml0 hP hK
  obtain ⟨rfl, hZ, hh⟩ := hP
  have hx := Bd.exec
  have hby := Bd.bytes
  have hml : c.maxLocals = 5 := hml0
  have hown : s.vm.findClass s2_ = some m.cls := findClass_of_methodNamed Bd.named
  have hnm := (name_of_methodNamed Bd.named Bd.method).1
  have X0 : Stand p l e ({ frames := 2, cells := 1, slots := 3, locals := 28 } : Room) s m #[(.ref r1)] below meth c s₁ [] 0 0 := Stand.of_body Bd
  have e0 : s₁.heap = h0 := by rw [← hh, Bd.state]; rfl
  have N0 := Fr.nil n0
  have Z0 : n0 ≤ h0.size := by rw [← O0.1]; exact O0.2.1
  show own_Go p e below (s₁.setTop (entryFrame m #[(.ref r1)] 5)) (fun t o => ∃ v L, o = .returned v ∧ Q_rm_ol4_none Z r1 b kb cs d1 d2 d3 d4 va kva a_LIVE a_TEST a_MANAGEMENT l_LIVE b_LIVE kb_LIVE l_TEST b_TEST kb_TEST l_MANAGEMENT b_MANAGEMENT kb_MANAGEMENT h0 n0 v t.heap L ∧ FrameEnd s o t L ({ frames := 2, cells := 1, slots := 3, locals := 28 } : Room).cells ({ frames := 2, cells := 1, slots := 3, locals := 28 } : Room).slots)
  rw [ef_rm_ol4_none m r1 b kb cs d1 d2 d3 d4 va kva a_LIVE a_TEST a_MANAGEMENT l_LIVE b_LIVE kb_LIVE l_TEST b_TEST kb_TEST l_MANAGEMENT b_MANAGEMENT kb_MANAGEMENT]
  have lt_Er : h0.size > r1 := Er.lt
  have lt_Fc : h0.size > r1 := Fc.lt
  have lt_Fv : h0.size > r1 := Fv.lt
  have lt_Vb : h0.size > b := Vb.lt
  obtain ⟨_, _, ⟨T1, L1, k1, n1⟩, -, X1, ⟨Lc1, hQ1, l1, y1, z1⟩, st1⟩ := Jvm.LawKit.callS X0 hx (y := (⟨s2_, "values", s4_⟩ : MethodName)) hown (mvT hZ (own_w hw 6 rfl)) (mvT hZ (own_w hw 7 rfl)) (mvT hZ (own_w hw 4 rfl)) (mvT hZ (own_w hw 8 rfl)) (by decide) (backOf (W := 0) (rm_values l Z a0 hw [] va kva a_LIVE a_TEST a_MANAGEMENT h0 n0 O0 S_VALUES E_va V_va) hZ (own_w hw 8 rfl) (own_w hw 4 rfl) (by decide) (by decide)) (g := (mkF m 0 #[.val (.ref r1), .unset, .unset, .unset, .unset] [])) rfl (by rw [hml]; rfl) (argsL := []) (rest := []) (lenOf own_pd__28_29_5bLcom_2fexample_2fostiarius_2fostiarius_2fkey_2fKeyKind_3b rfl) rfl (by show 2 * 0 + _ ≤ _; exact Nat.le_of_eq rfl) (hb hby D1_0) (fun _ _ => ⟨rfl, e0, (by decide : 0 + 1 ≤ _), (by decide : 0 + 3 ≤ _)⟩)
  dsimp only [Pt.U, Pt.locs, Pt.cells, Pt.slots] at X1 l1 y1 z1 st1 hQ1
  subst l1 y1 z1
  obtain ⟨r1_1, kr_1, rfl, M1, K1, g1_0⟩ := hQ1
  have N1 := Fr.app N0 M1
  refine own_by st1 ?_
  have z1 := K1.1
  have lt_g1_0 : T1.heap.size > r1_1 := g1_0.lt
  refine own_by (fun _ k => XS.astoreN X1.here hx rfl (hb hby D1_3) rfl rfl (l' := #[.val (.ref r1), .val (.ref r1_1), .unset, .unset, .unset]) rfl k) ?_
  refine own_by (fun _ k => XS.aloadN X1.here hx rfl (hb hby D1_4) rfl rfl k) ?_
  obtain ⟨cl2, Ar2, q2, S2, M2, H2, G2⟩ := (id g1_0)
  refine own_by (X1.arraylength hx Ar2.1 (State.isArrayOf_alike hZ.alike Ar2.2.1) (g := (mkF m 5 #[.val (.ref r1), .val (.ref r1_1), .unset, .unset, .unset] [(.ref r1_1)])) rfl rfl (hb hby D1_5)) ?_
  rw [len_of S2 M2]
  refine own_by (fun _ k => XS.istoreN X1.here hx rfl (hb hby D1_6) rfl (l' := #[.val (.ref r1), .val (.ref r1_1), .val (.int (3 : Int32)), .unset, .unset]) rfl k) ?_
  refine own_by (fun _ k => XS.iconst X1.here hx rfl (hb hby D1_7) k) ?_
  show own_Go p e below (T1.setTop (mkF m 8 #[.val (.ref r1), .val (.ref r1_1), .val (.int (3 : Int32)), .unset, .unset] [(.int (0 : Int32))])) _
  refine own_by (fun _ k => XS.istoreN X1.here hx rfl (hb hby D1_8) rfl (l' := #[.val (.ref r1), .val (.ref r1_1), .val (.int (3 : Int32)), .val (.int (0 : Int32)), .unset]) rfl k) ?_
  refine own_by (fun _ k => XS.iloadN X1.here hx rfl (hb hby D1_9) rfl k) ?_
  refine own_by (fun _ k => XS.iloadN X1.here hx rfl (hb hby D1_10) rfl k) ?_
  refine own_by (fun _ k => XS.icmpNo X1.here hx rfl (hb hby D1_11) rfl (tlt (by decide : (0 : Int32) < (3 : Int32))).2.1 k) ?_
  show own_Go p e below (T1.setTop (mkF m 14 #[.val (.ref r1), .val (.ref r1_1), .val (.int (3 : Int32)), .val (.int (0 : Int32)), .unset] [])) _
  refine own_by (fun _ k => XS.aloadN X1.here hx rfl (hb hby D1_14) rfl rfl k) ?_
  refine own_by (fun _ k => XS.iloadN X1.here hx rfl (hb hby D1_15) rfl k) ?_
  obtain ⟨cl3, Ar3, q3, S3, M3, H3, G3⟩ := (id g1_0)
  have hin3 : ¬ ((0 : Int32) < 0 ∨ cl3.slots.size ≤ ((0 : Int32)).toNatClampNeg) := inb_of S3 ⟨by decide, by decide⟩
  refine own_by (X1.aaload hx (j := (0 : Int32)) (v := (.ref a_LIVE)) Ar3.1 (State.isArrayOf_alike hZ.alike Ar3.2.1) rfl Ar3.2.2 hin3 (H3.at hin3 rfl) (g := (mkF m 16 #[.val (.ref r1), .val (.ref r1_1), .val (.int (3 : Int32)), .val (.int (0 : Int32)), .unset] [(.int (0 : Int32)), (.ref r1_1)])) rfl rfl (hb hby D1_16)) ?_
  refine own_by (fun _ k => XS.astore X1.here hx rfl (hb hby D1_17) rfl rfl (l' := #[.val (.ref r1), .val (.ref r1_1), .val (.int (3 : Int32)), .val (.int (0 : Int32)), .val (.ref a_LIVE)]) rfl k) ?_
  refine own_by (fun _ k => XS.aload X1.here hx rfl (hb hby D1_19) rfl rfl k) ?_
  have O4 : Old Z n0 T1.heap := (O0.keep K1 all0)
  have fc5 : Fld Z T1.heap a_LIVE s2_ "label" s10_ (.ref l_LIVE) := F_LIVE.ext O4.2
  obtain ⟨T6, X6, e6, st6⟩ := getF X1 hx hZ hown (host := "") (Or.inl (own_w hw 24 rfl)) Via.refl rfl fc5 (g := (mkF m 21 #[.val (.ref r1), .val (.ref r1_1), .val (.int (3 : Int32)), .val (.int (0 : Int32)), .val (.ref a_LIVE)] [(.ref a_LIVE)])) rfl rfl (hb hby D1_21)
  refine own_by st6 ?_
  show own_Go p e below (T6.setTop (mkF m 24 #[.val (.ref r1), .val (.ref r1_1), .val (.int (3 : Int32)), .val (.int (0 : Int32)), .val (.ref a_LIVE)] [(.ref l_LIVE)])) _
  refine own_by (fun _ k => XS.aloadN X6.here hx rfl (hb hby D1_24) rfl rfl k) ?_
  have fc7 : Exa Z T1.heap l_LIVE s11_ := Es_LIVE.ext O4.2
  have fc8 : Fld Z T1.heap l_LIVE s11_ "coder" "B" (.int (0 : Int32)) := Fc_LIVE.ext O4.2
  have fc9 : Fld Z T1.heap l_LIVE s11_ "value" "[B" (.ref b_LIVE) := Fv_LIVE.ext O4.2
  have fc10 : Arv Z T1.heap b_LIVE kb_LIVE .byte (4 : Int32) [(.int (108 : Int32)), (.int (105 : Int32)), (.int (118 : Int32)), (.int (101 : Int32))] (.int (0 : Int32)) := V_LIVE.ext O4.2
  have fc11 : Exa Z T1.heap r1 s11_ := (Er.keep K1)
  have fc12 : Fld Z T1.heap r1 s11_ "coder" "B" (.int (0 : Int32)) := (Fc.keep K1 nin0)
  have fc13 : Fld Z T1.heap r1 s11_ "value" "[B" (.ref b) := (Fv.keep K1 nin0)
  have fc14 : Arv Z T1.heap b kb .byte (4 : Int32) [(.int d1), (.int d2), (.int d3), (.int d4)] (.int (0 : Int32)) := (Vb.keep K1 nin0)
  obtain ⟨cq15, kq15, q15a, q15b, q15c⟩ := isOf hZ e6 fc7
  obtain ⟨_, _, ⟨T15, L15, k15, n15⟩, -, X15, ⟨Lc15, hQ15, l15, y15, z15⟩, st15⟩ := X6.virtualBack hx (y := (⟨s11_, "equals", s12_⟩ : MethodName)) (z := (⟨s11_, "equals", s12_⟩ : MethodName)) hown (mvT hZ (own_w hw 26 rfl)) (mvT hZ (own_w hw 27 rfl)) (notFace_of_selects (args := #[]) (mvT hZ (own_w hw 29 rfl))) (mvT hZ (own_w hw 29 rfl)) (mvT hZ (own_w hw 28 rfl)) (by decide) (backOf (W := 0) (rm_eq_4_4 l Z a0 hw [] l_LIVE r1 b_LIVE b kb_LIVE kb cs (108 : Int32) (105 : Int32) (118 : Int32) (101 : Int32) d1 d2 d3 d4 T1.heap n0 O4 S_COMPACT fc7 fc8 fc9 fc10 fc11 fc12 fc13 fc14 hcs (own_old_ne Es_LIVE O0 gr)) hZ (own_w hw 31 rfl) (own_w hw 30 rfl) (by decide) (by decide)) q15a q15c (g := (mkF m 25 #[.val (.ref r1), .val (.ref r1_1), .val (.int (3 : Int32)), .val (.int (0 : Int32)), .val (.ref a_LIVE)] [(.ref r1), (.ref l_LIVE)])) rfl (by rw [hml]; rfl) (Steps.refl _) (argsL := [(.ref r1)]) (rest := []) (lenOf own_pd__28Ljava_2flang_2fObject_3b_29Z rfl) rfl (by show 2 * 0 + _ ≤ _; exact Nat.le_of_eq rfl) (hb hby D1_25) (fun _ _ => ⟨rfl, e6, (by decide : 1 + 0 ≤ _), (by decide : 3 + 0 ≤ _)⟩)
  dsimp only [Pt.U, Pt.locs, Pt.cells, Pt.slots] at X15 l15 y15 z15 st15 hQ15
  subst l15 y15 z15
  obtain ⟨rfl, M15, K15⟩ := hQ15
  have N15 := Fr.app N1 M15
  refine own_by (fun _ k => st15.trans k) ?_
  refine own_by (fun _ k => XS.ifYes X15.here hx rfl (pc0 := 28) (pc' := 34) rfl (hb hby D1_28) rfl ((if0 _ _).trans (teq hl_LIVE).1) (by decide) (by decide) k) ?_
  show own_Go p e below (T15.setTop (mkF m 34 #[.val (.ref r1), .val (.ref r1_1), .val (.int (3 : Int32)), .val (.int (0 : Int32)), .val (.ref a_LIVE)] [])) _
  refine own_by (fun _ k => XS.iinc X15.here hx rfl (hb hby D1_34) rfl (l' := #[.val (.ref r1), .val (.ref r1_1), .val (.int (3 : Int32)), .val (.int (1 : Int32)), .val (.ref a_LIVE)]) rfl k) ?_
  refine own_by (fun _ k => XS.goto X15.here hx rfl (pc0 := 37) (pc' := 9) rfl (hb hby D1_37) (by decide) (by decide) k) ?_
  refine own_by (fun _ k => XS.iloadN X15.here hx rfl (hb hby D1_9) rfl k) ?_
  refine own_by (fun _ k => XS.iloadN X15.here hx rfl (hb hby D1_10) rfl k) ?_
  refine own_by (fun _ k => XS.icmpNo X15.here hx rfl (hb hby D1_11) rfl (tlt (by decide : (1 : Int32) < (3 : Int32))).2.1 k) ?_
  show own_Go p e below (T15.setTop (mkF m 14 #[.val (.ref r1), .val (.ref r1_1), .val (.int (3 : Int32)), .val (.int (1 : Int32)), .val (.ref a_LIVE)] [])) _
  refine own_by (fun _ k => XS.aloadN X15.here hx rfl (hb hby D1_14) rfl rfl k) ?_
  refine own_by (fun _ k => XS.iloadN X15.here hx rfl (hb hby D1_15) rfl k) ?_
  obtain ⟨cl16, Ar16, q16, S16, M16, H16, G16⟩ := (id g1_0)
  have hin16 : ¬ ((1 : Int32) < 0 ∨ cl16.slots.size ≤ ((1 : Int32)).toNatClampNeg) := inb_of S16 ⟨by decide, by decide⟩
  refine own_by (X15.aaload hx (j := (1 : Int32)) (v := (.ref a_TEST)) (by rw [K15]; exact Ar16.1) (State.isArrayOf_alike hZ.alike Ar16.2.1) rfl Ar16.2.2 hin16 (H16.at hin16 rfl) (g := (mkF m 16 #[.val (.ref r1), .val (.ref r1_1), .val (.int (3 : Int32)), .val (.int (1 : Int32)), .val (.ref a_LIVE)] [(.int (1 : Int32)), (.ref r1_1)])) rfl rfl (hb hby D1_16)) ?_
  refine own_by (fun _ k => XS.astore X15.here hx rfl (hb hby D1_17) rfl rfl (l' := #[.val (.ref r1), .val (.ref r1_1), .val (.int (3 : Int32)), .val (.int (1 : Int32)), .val (.ref a_TEST)]) rfl k) ?_
  refine own_by (fun _ k => XS.aload X15.here hx rfl (hb hby D1_19) rfl rfl k) ?_
  have fc17 : Fld Z T1.heap a_TEST s2_ "label" s10_ (.ref l_TEST) := F_TEST.ext O4.2
  obtain ⟨T18, X18, e18, st18⟩ := getF X15 hx hZ hown (host := "") (Or.inl (own_w hw 24 rfl)) Via.refl K15 fc17 (g := (mkF m 21 #[.val (.ref r1), .val (.ref r1_1), .val (.int (3 : Int32)), .val (.int (1 : Int32)), .val (.ref a_TEST)] [(.ref a_TEST)])) rfl rfl (hb hby D1_21)
  refine own_by st18 ?_
  show own_Go p e below (T18.setTop (mkF m 24 #[.val (.ref r1), .val (.ref r1_1), .val (.int (3 : Int32)), .val (.int (1 : Int32)), .val (.ref a_TEST)] [(.ref l_TEST)])) _
  refine own_by (fun _ k => XS.aloadN X18.here hx rfl (hb hby D1_24) rfl rfl k) ?_
  have fc19 : Exa Z T1.heap l_TEST s11_ := Es_TEST.ext O4.2
  have fc20 : Fld Z T1.heap l_TEST s11_ "coder" "B" (.int (0 : Int32)) := Fc_TEST.ext O4.2
  have fc21 : Fld Z T1.heap l_TEST s11_ "value" "[B" (.ref b_TEST) := Fv_TEST.ext O4.2
  have fc22 : Arv Z T1.heap b_TEST kb_TEST .byte (4 : Int32) [(.int (116 : Int32)), (.int (101 : Int32)), (.int (115 : Int32)), (.int (116 : Int32))] (.int (0 : Int32)) := V_TEST.ext O4.2
  obtain ⟨cq23, kq23, q23a, q23b, q23c⟩ := isOf hZ e18 fc19
  obtain ⟨_, _, ⟨T23, L23, k23, n23⟩, -, X23, ⟨Lc23, hQ23, l23, y23, z23⟩, st23⟩ := X18.virtualBack hx (y := (⟨s11_, "equals", s12_⟩ : MethodName)) (z := (⟨s11_, "equals", s12_⟩ : MethodName)) hown (mvT hZ (own_w hw 26 rfl)) (mvT hZ (own_w hw 27 rfl)) (notFace_of_selects (args := #[]) (mvT hZ (own_w hw 29 rfl))) (mvT hZ (own_w hw 29 rfl)) (mvT hZ (own_w hw 28 rfl)) (by decide) (backOf (W := 0) (rm_eq_4_4 l Z a0 hw [] l_TEST r1 b_TEST b kb_TEST kb cs (116 : Int32) (101 : Int32) (115 : Int32) (116 : Int32) d1 d2 d3 d4 T1.heap n0 O4 S_COMPACT fc19 fc20 fc21 fc22 fc11 fc12 fc13 fc14 hcs (own_old_ne Es_TEST O0 gr)) hZ (own_w hw 31 rfl) (own_w hw 30 rfl) (by decide) (by decide)) q23a q23c (g := (mkF m 25 #[.val (.ref r1), .val (.ref r1_1), .val (.int (3 : Int32)), .val (.int (1 : Int32)), .val (.ref a_TEST)] [(.ref r1), (.ref l_TEST)])) rfl (by rw [hml]; rfl) (Steps.refl _) (argsL := [(.ref r1)]) (rest := []) (lenOf own_pd__28Ljava_2flang_2fObject_3b_29Z rfl) rfl (by show 2 * 0 + _ ≤ _; exact Nat.le_of_eq rfl) (hb hby D1_25) (fun _ _ => ⟨rfl, e18, (by decide : 1 + 0 ≤ _), (by decide : 3 + 0 ≤ _)⟩)
  dsimp only [Pt.U, Pt.locs, Pt.cells, Pt.slots] at X23 l23 y23 z23 st23 hQ23
  subst l23 y23 z23
  obtain ⟨rfl, M23, K23⟩ := hQ23
  have N23 := Fr.app N15 M23
  refine own_by (fun _ k => st23.trans k) ?_
  refine own_by (fun _ k => XS.ifYes X23.here hx rfl (pc0 := 28) (pc' := 34) rfl (hb hby D1_28) rfl ((if0 _ _).trans (teq hl_TEST).1) (by decide) (by decide) k) ?_
  show own_Go p e below (T23.setTop (mkF m 34 #[.val (.ref r1), .val (.ref r1_1), .val (.int (3 : Int32)), .val (.int (1 : Int32)), .val (.ref a_TEST)] [])) _
  refine own_by (fun _ k => XS.iinc X23.here hx rfl (hb hby D1_34) rfl (l' := #[.val (.ref r1), .val (.ref r1_1), .val (.int (3 : Int32)), .val (.int (2 : Int32)), .val (.ref a_TEST)]) rfl k) ?_
  refine own_by (fun _ k => XS.goto X23.here hx rfl (pc0 := 37) (pc' := 9) rfl (hb hby D1_37) (by decide) (by decide) k) ?_
  refine own_by (fun _ k => XS.iloadN X23.here hx rfl (hb hby D1_9) rfl k) ?_
  refine own_by (fun _ k => XS.iloadN X23.here hx rfl (hb hby D1_10) rfl k) ?_
  refine own_by (fun _ k => XS.icmpNo X23.here hx rfl (hb hby D1_11) rfl (tlt (by decide : (2 : Int32) < (3 : Int32))).2.1 k) ?_
  show own_Go p e below (T23.setTop (mkF m 14 #[.val (.ref r1), .val (.ref r1_1), .val (.int (3 : Int32)), .val (.int (2 : Int32)), .val (.ref a_TEST)] [])) _
  refine own_by (fun _ k => XS.aloadN X23.here hx rfl (hb hby D1_14) rfl rfl k) ?_
  refine own_by (fun _ k => XS.iloadN X23.here hx rfl (hb hby D1_15) rfl k) ?_
  obtain ⟨cl24, Ar24, q24, S24, M24, H24, G24⟩ := (id g1_0)
  have hin24 : ¬ ((2 : Int32) < 0 ∨ cl24.slots.size ≤ ((2 : Int32)).toNatClampNeg) := inb_of S24 ⟨by decide, by decide⟩
  refine own_by (X23.aaload hx (j := (2 : Int32)) (v := (.ref a_MANAGEMENT)) (by rw [K23]; exact Ar24.1) (State.isArrayOf_alike hZ.alike Ar24.2.1) rfl Ar24.2.2 hin24 (H24.at hin24 rfl) (g := (mkF m 16 #[.val (.ref r1), .val (.ref r1_1), .val (.int (3 : Int32)), .val (.int (2 : Int32)), .val (.ref a_TEST)] [(.int (2 : Int32)), (.ref r1_1)])) rfl rfl (hb hby D1_16)) ?_
  refine own_by (fun _ k => XS.astore X23.here hx rfl (hb hby D1_17) rfl rfl (l' := #[.val (.ref r1), .val (.ref r1_1), .val (.int (3 : Int32)), .val (.int (2 : Int32)), .val (.ref a_MANAGEMENT)]) rfl k) ?_
  refine own_by (fun _ k => XS.aload X23.here hx rfl (hb hby D1_19) rfl rfl k) ?_
  have fc25 : Fld Z T1.heap a_MANAGEMENT s2_ "label" s10_ (.ref l_MANAGEMENT) := F_MANAGEMENT.ext O4.2
  obtain ⟨T26, X26, e26, st26⟩ := getF X23 hx hZ hown (host := "") (Or.inl (own_w hw 24 rfl)) Via.refl K23 fc25 (g := (mkF m 21 #[.val (.ref r1), .val (.ref r1_1), .val (.int (3 : Int32)), .val (.int (2 : Int32)), .val (.ref a_MANAGEMENT)] [(.ref a_MANAGEMENT)])) rfl rfl (hb hby D1_21)
  refine own_by st26 ?_
  show own_Go p e below (T26.setTop (mkF m 24 #[.val (.ref r1), .val (.ref r1_1), .val (.int (3 : Int32)), .val (.int (2 : Int32)), .val (.ref a_MANAGEMENT)] [(.ref l_MANAGEMENT)])) _
  refine own_by (fun _ k => XS.aloadN X26.here hx rfl (hb hby D1_24) rfl rfl k) ?_
  have fc27 : Exa Z T1.heap l_MANAGEMENT s11_ := Es_MANAGEMENT.ext O4.2
  have fc28 : Fld Z T1.heap l_MANAGEMENT s11_ "coder" "B" (.int (0 : Int32)) := Fc_MANAGEMENT.ext O4.2
  have fc29 : Fld Z T1.heap l_MANAGEMENT s11_ "value" "[B" (.ref b_MANAGEMENT) := Fv_MANAGEMENT.ext O4.2
  have fc30 : Arv Z T1.heap b_MANAGEMENT kb_MANAGEMENT .byte (4 : Int32) [(.int (109 : Int32)), (.int (103 : Int32)), (.int (109 : Int32)), (.int (116 : Int32))] (.int (0 : Int32)) := V_MANAGEMENT.ext O4.2
  obtain ⟨cq31, kq31, q31a, q31b, q31c⟩ := isOf hZ e26 fc27
  obtain ⟨_, _, ⟨T31, L31, k31, n31⟩, -, X31, ⟨Lc31, hQ31, l31, y31, z31⟩, st31⟩ := X26.virtualBack hx (y := (⟨s11_, "equals", s12_⟩ : MethodName)) (z := (⟨s11_, "equals", s12_⟩ : MethodName)) hown (mvT hZ (own_w hw 26 rfl)) (mvT hZ (own_w hw 27 rfl)) (notFace_of_selects (args := #[]) (mvT hZ (own_w hw 29 rfl))) (mvT hZ (own_w hw 29 rfl)) (mvT hZ (own_w hw 28 rfl)) (by decide) (backOf (W := 0) (rm_eq_4_4 l Z a0 hw [] l_MANAGEMENT r1 b_MANAGEMENT b kb_MANAGEMENT kb cs (109 : Int32) (103 : Int32) (109 : Int32) (116 : Int32) d1 d2 d3 d4 T1.heap n0 O4 S_COMPACT fc27 fc28 fc29 fc30 fc11 fc12 fc13 fc14 hcs (own_old_ne Es_MANAGEMENT O0 gr)) hZ (own_w hw 31 rfl) (own_w hw 30 rfl) (by decide) (by decide)) q31a q31c (g := (mkF m 25 #[.val (.ref r1), .val (.ref r1_1), .val (.int (3 : Int32)), .val (.int (2 : Int32)), .val (.ref a_MANAGEMENT)] [(.ref r1), (.ref l_MANAGEMENT)])) rfl (by rw [hml]; rfl) (Steps.refl _) (argsL := [(.ref r1)]) (rest := []) (lenOf own_pd__28Ljava_2flang_2fObject_3b_29Z rfl) rfl (by show 2 * 0 + _ ≤ _; exact Nat.le_of_eq rfl) (hb hby D1_25) (fun _ _ => ⟨rfl, e26, (by decide : 1 + 0 ≤ _), (by decide : 3 + 0 ≤ _)⟩)
  dsimp only [Pt.U, Pt.locs, Pt.cells, Pt.slots] at X31 l31 y31 z31 st31 hQ31
  subst l31 y31 z31
  obtain ⟨rfl, M31, K31⟩ := hQ31
  have N31 := Fr.app N23 M31
  refine own_by (fun _ k => st31.trans k) ?_
  refine own_by (fun _ k => XS.ifYes X31.here hx rfl (pc0 := 28) (pc' := 34) rfl (hb hby D1_28) rfl ((if0 _ _).trans (teq hl_MANAGEMENT).1) (by decide) (by decide) k) ?_
  show own_Go p e below (T31.setTop (mkF m 34 #[.val (.ref r1), .val (.ref r1_1), .val (.int (3 : Int32)), .val (.int (2 : Int32)), .val (.ref a_MANAGEMENT)] [])) _
  refine own_by (fun _ k => XS.iinc X31.here hx rfl (hb hby D1_34) rfl (l' := #[.val (.ref r1), .val (.ref r1_1), .val (.int (3 : Int32)), .val (.int (3 : Int32)), .val (.ref a_MANAGEMENT)]) rfl k) ?_
  refine own_by (fun _ k => XS.goto X31.here hx rfl (pc0 := 37) (pc' := 9) rfl (hb hby D1_37) (by decide) (by decide) k) ?_
  refine own_by (fun _ k => XS.iloadN X31.here hx rfl (hb hby D1_9) rfl k) ?_
  refine own_by (fun _ k => XS.iloadN X31.here hx rfl (hb hby D1_10) rfl k) ?_
  refine own_by (fun _ k => XS.icmpYes X31.here hx rfl (pc0 := 11) (pc' := 40) rfl (hb hby D1_11) rfl (flt (by decide : ¬ ((3 : Int32) < (3 : Int32)))).2.1 (by decide) (by decide) k) ?_
  show own_Go p e below (T31.setTop (mkF m 40 #[.val (.ref r1), .val (.ref r1_1), .val (.int (3 : Int32)), .val (.int (3 : Int32)), .val (.ref a_MANAGEMENT)] [])) _
  refine own_by (fun _ k => XS.aconstNull X31.here hx rfl (hb hby D1_40) k) ?_
  have K32 : Keep h0 T1.heap [] := ((Keep.refl h0 []).trans K1 all0)
  obtain ⟨fs, hr, hrun, hended, hW, hsame⟩ := X31.leave (v := some .null) (fun h => by rw [Bd.returns] at h; cases h)
  refine ⟨_, _, retOut X31 hx Bd.returns (own_narrow_ref (by decide) rfl) (Or.inr (Or.inr (Or.inr (Or.inr ⟨rfl, by decide, rfl⟩)))) (hb hby D1_41) hr, hrun, hended, _, _, rfl, ?_, ⟨_, rfl⟩, hW, hsame.mono (by decide) (by decide)⟩
  show Q_rm_ol4_none Z r1 b kb cs d1 d2 d3 d4 va kva a_LIVE a_TEST a_MANAGEMENT l_LIVE b_LIVE kb_LIVE l_TEST b_TEST kb_TEST l_MANAGEMENT b_MANAGEMENT kb_MANAGEMENT h0 n0 _ T31.heap _
  rw [K31]
  exact ⟨rfl, N31, K32⟩
theorem D1_31 : decode prog_6_method_6_code 31 = .ok (.aload 4, 2) := by decide +kernel
theorem D1_33 : decode prog_6_method_6_code 33 = .ok (.areturn, 1) := by decide +kernel
def Q_rm_ol4_LIVE (Z : State) (r1 : Addr) (b : Addr) (kb : ClassId) (cs : Int32) (d1 : Int32) (d2 : Int32) (d3 : Int32) (d4 : Int32) (va : Addr) (kva : ClassId) (a_LIVE : Addr) (a_TEST : Addr) (a_MANAGEMENT : Addr) (l_LIVE : Addr) (b_LIVE : Addr) (kb_LIVE : ClassId) (l_TEST : Addr) (b_TEST : Addr) (kb_TEST : ClassId) (l_MANAGEMENT : Addr) (b_MANAGEMENT : Addr) (kb_MANAGEMENT : ClassId) (h0 : Heap) (n0 : Nat) (v : Option Value) (h : Heap) (L : List Loc) : Prop := v = some (.ref a_LIVE) ∧ Fr n0 L ∧ Keep h0 h []
theorem ef_rm_ol4_LIVE (m : MethodId) (r1 : Addr) (b : Addr) (kb : ClassId) (cs : Int32) (d1 : Int32) (d2 : Int32) (d3 : Int32) (d4 : Int32) (va : Addr) (kva : ClassId) (a_LIVE : Addr) (a_TEST : Addr) (a_MANAGEMENT : Addr) (l_LIVE : Addr) (b_LIVE : Addr) (kb_LIVE : ClassId) (l_TEST : Addr) (b_TEST : Addr) (kb_TEST : ClassId) (l_MANAGEMENT : Addr) (b_MANAGEMENT : Addr) (kb_MANAGEMENT : ClassId) : entryFrame m #[(.ref r1)] 5 = mkF m 0 #[.val (.ref r1), .unset, .unset, .unset, .unset] [] := by first | (simp [entryFrame, mkF, argsToLocals, Value.category]; done) | rfl
set_option maxRecDepth 65536 in
set_option maxHeartbeats 40000000 in
theorem rm_ol4_LIVE (l : Launch) (Z : State) (a0 : Array Value) (hw : ∀ d ∈ tables_1, d.before a0 Z = true) (ws : List Jvm.Cond) (r1 : Addr) (b : Addr) (kb : ClassId) (cs : Int32) (d1 : Int32) (d2 : Int32) (d3 : Int32) (d4 : Int32) (va : Addr) (kva : ClassId) (a_LIVE : Addr) (a_TEST : Addr) (a_MANAGEMENT : Addr) (l_LIVE : Addr) (b_LIVE : Addr) (kb_LIVE : ClassId) (l_TEST : Addr) (b_TEST : Addr) (kb_TEST : ClassId) (l_MANAGEMENT : Addr) (b_MANAGEMENT : Addr) (kb_MANAGEMENT : ClassId) (h0 : Heap) (n0 : Nat) (O0 : Old Z n0 h0) (S_VALUES : Sta Z Z.heap s2_ "$VALUES" s5_ (.ref va)) (E_va : Exa Z Z.heap va s5_) (V_va : Arv Z Z.heap va kva (.object s2_) (3 : Int32) [(.ref a_LIVE), (.ref a_TEST), (.ref a_MANAGEMENT)] .null) (E_LIVE : Exa Z Z.heap a_LIVE s2_) (F_LIVE : Fld Z Z.heap a_LIVE s2_ "label" s10_ (.ref l_LIVE)) (Es_LIVE : Exa Z Z.heap l_LIVE s11_) (Fc_LIVE : Fld Z Z.heap l_LIVE s11_ "coder" "B" (.int (0 : Int32))) (Fv_LIVE : Fld Z Z.heap l_LIVE s11_ "value" "[B" (.ref b_LIVE)) (V_LIVE : Arv Z Z.heap b_LIVE kb_LIVE .byte (4 : Int32) [(.int (108 : Int32)), (.int (105 : Int32)), (.int (118 : Int32)), (.int (101 : Int32))] (.int (0 : Int32))) (E_TEST : Exa Z Z.heap a_TEST s2_) (F_TEST : Fld Z Z.heap a_TEST s2_ "label" s10_ (.ref l_TEST)) (Es_TEST : Exa Z Z.heap l_TEST s11_) (Fc_TEST : Fld Z Z.heap l_TEST s11_ "coder" "B" (.int (0 : Int32))) (Fv_TEST : Fld Z Z.heap l_TEST s11_ "value" "[B" (.ref b_TEST)) (V_TEST : Arv Z Z.heap b_TEST kb_TEST .byte (4 : Int32) [(.int (116 : Int32)), (.int (101 : Int32)), (.int (115 : Int32)), (.int (116 : Int32))] (.int (0 : Int32))) (E_MANAGEMENT : Exa Z Z.heap a_MANAGEMENT s2_) (F_MANAGEMENT : Fld Z Z.heap a_MANAGEMENT s2_ "label" s10_ (.ref l_MANAGEMENT)) (Es_MANAGEMENT : Exa Z Z.heap l_MANAGEMENT s11_) (Fc_MANAGEMENT : Fld Z Z.heap l_MANAGEMENT s11_ "coder" "B" (.int (0 : Int32))) (Fv_MANAGEMENT : Fld Z Z.heap l_MANAGEMENT s11_ "value" "[B" (.ref b_MANAGEMENT)) (V_MANAGEMENT : Arv Z Z.heap b_MANAGEMENT kb_MANAGEMENT .byte (4 : Int32) [(.int (109 : Int32)), (.int (103 : Int32)), (.int (109 : Int32)), (.int (116 : Int32))] (.int (0 : Int32))) (S_COMPACT : Sta Z Z.heap s11_ s15_ "Z" (.int cs)) (Er : Exa Z h0 r1 s11_) (Fc : Fld Z h0 r1 s11_ "coder" "B" (.int (0 : Int32))) (Fv : Fld Z h0 r1 s11_ "value" "[B" (.ref b)) (Vb : Arv Z h0 b kb .byte (4 : Int32) [(.int d1), (.int d2), (.int d3), (.int d4)] (.int (0 : Int32))) (hcs : ¬ (cs = (0 : Int32))) (gr : n0 ≤ r1) (hl_LIVE : ¬ ((own_all [((108 : Int32), d1), ((105 : Int32), d2), ((118 : Int32), d3), ((101 : Int32), d4)]) = (0 : Int32))) :
    MetFree l (⟨s2_, "ofLabel", s3_⟩ : MethodName) (head1 (Jvm.Cond.code (⟨s2_, "ofLabel", s3_⟩ : MethodName) prog_6_method_6_code 5 (some (.object s2_)) :: ws) ({ frames := 2, cells := 1, slots := 3, locals := 28 } : Room)) (fun a U => a = #[(.ref r1)] ∧ Z.Warmed39 U.vm ∧ U.heap = h0) (fun _ _ _ _ _ => True) (fun _ U o U' => ∃ v L, o = .returned v ∧ Q_rm_ol4_LIVE Z r1 b kb cs d1 d2 d3 d4 va kva a_LIVE a_TEST a_MANAGEMENT l_LIVE b_LIVE kb_LIVE l_TEST b_TEST kb_TEST l_MANAGEMENT b_MANAGEMENT kb_MANAGEMENT h0 n0 v U'.heap L ∧ FrameEnd U o U' L ({ frames := 2, cells := 1, slots := 3, locals := 28 } : Room).cells ({ frames := 2, cells := 1, slots := 3, locals := 28 } : Room).slots) := by
  refine MetFree.of_bodySF (plainFor_of_name own_pn_com_example_ostiarius_ostiarius_key_KeyKind) hisR ?_
  intro p e s m args below meth c s₁ Bd hml0 hP hK
  obtain ⟨rfl, hZ, hh⟩ := hP
  have hx := Bd.exec
  have hby := Bd.bytes
  have hml : c.maxLocals = 5 := hml0
  have hown : s.vm.findClass s2_ = some m.cls := findClass_of_methodNamed Bd.named
  have hnm := (name_of_methodNamed Bd.named Bd.method).1
  have X0 : Stand p l e ({ frames := 2, cells := 1, slots := 3, locals := 28 } : Room) s m #[(.ref r1)] below meth c s₁ [] 0 0 := Stand.of_body Bd
  have e0 : s₁.heap = h0 := by rw [← hh, Bd.state]; rfl
  have N0 := Fr.nil n0
  have Z0 : n0 ≤ h0.size := by rw [← O0.1]; exact O0.2.1
  show own_Go p e below (s₁.setTop (entryFrame m #[(.ref r1)] 5)) (fun t o => ∃ v L, o = .returned v ∧ Q_rm_ol4_LIVE Z r1 b kb cs d1 d2 d3 d4 va kva a_LIVE a_TEST a_MANAGEMENT l_LIVE b_LIVE kb_LIVE l_TEST b_TEST kb_TEST l_MANAGEMENT b_MANAGEMENT kb_MANAGEMENT h0 n0 v t.heap L ∧ FrameEnd s o t L ({ frames := 2, cells := 1, slots := 3, locals := 28 } : Room).cells ({ frames := 2, cells := 1, slots := 3, locals := 28 } : Room).slots)
  rw [ef_rm_ol4_LIVE m r1 b kb cs d1 d2 d3 d4 va kva a_LIVE a_TEST a_MANAGEMENT l_LIVE b_LIVE kb_LIVE l_TEST b_TEST kb_TEST l_MANAGEMENT b_MANAGEMENT kb_MANAGEMENT]
  have lt_Er : h0.size > r1 := Er.lt
  have lt_Fc : h0.size > r1 := Fc.lt
  have lt_Fv : h0.size > r1 := Fv.lt
  have lt_Vb : h0.size > b := Vb.lt
  obtain ⟨_, _, ⟨T1, L1, k1, n1⟩, -, X1, ⟨Lc1, hQ1, l1, y1, z1⟩, st1⟩ := Jvm.LawKit.callS X0 hx (y := (⟨s2_, "values", s4_⟩ : MethodName)) hown (mvT hZ (own_w hw 6 rfl)) (mvT hZ (own_w hw 7 rfl)) (mvT hZ (own_w hw 4 rfl)) (mvT hZ (own_w hw 8 rfl)) (by decide) (backOf (W := 0) (rm_values l Z a0 hw [] va kva a_LIVE a_TEST a_MANAGEMENT h0 n0 O0 S_VALUES E_va V_va) hZ (own_w hw 8 rfl) (own_w hw 4 rfl) (by decide) (by decide)) (g := (mkF m 0 #[.val (.ref r1), .unset, .unset, .unset, .unset] [])) rfl (by rw [hml]; rfl) (argsL := []) (rest := []) (lenOf own_pd__28_29_5bLcom_2fexample_2fostiarius_2fostiarius_2fkey_2fKeyKind_3b rfl) rfl (by show 2 * 0 + _ ≤ _; exact Nat.le_of_eq rfl) (hb hby D1_0) (fun _ _ => ⟨rfl, e0, (by decide : 0 + 1 ≤ _), (by decide : 0 + 3 ≤ _)⟩)
  dsimp only [Pt.U, Pt.locs, Pt.cells, Pt.slots] at X1 l1 y1 z1 st1 hQ1
  subst l1 y1 z1
  obtain ⟨r1_1, kr_1, rfl, M1, K1, g1_0⟩ := hQ1
  have N1 := Fr.app N0 M1
  refine own_by st1 ?_
  have z1 := K1.1
  have lt_g1_0 : T1.heap.size > r1_1 := g1_0.lt
  refine own_by (fun _ k => XS.astoreN X1.here hx rfl (hb hby D1_3) rfl rfl (l' := #[.val (.ref r1), .val (.ref r1_1), .unset, .unset, .unset]) rfl k) ?_
  refine own_by (fun _ k => XS.aloadN X1.here hx rfl (hb hby D1_4) rfl rfl k) ?_
  obtain ⟨cl2, Ar2, q2, S2, M2, H2, G2⟩ := (id g1_0)
  refine own_by (X1.arraylength hx Ar2.1 (State.isArrayOf_alike hZ.alike Ar2.2.1) (g := (mkF m 5 #[.val (.ref r1), .val (.ref r1_1), .unset, .unset, .unset] [(.ref r1_1)])) rfl rfl (hb hby D1_5)) ?_
  rw [len_of S2 M2]
  refine own_by (fun _ k => XS.istoreN X1.here hx rfl (hb hby D1_6) rfl (l' := #[.val (.ref r1), .val (.ref r1_1), .val (.int (3 : Int32)), .unset, .unset]) rfl k) ?_
  refine own_by (fun _ k => XS.iconst X1.here hx rfl (hb hby D1_7) k) ?_
  show own_Go p e below (T1.setTop (mkF m 8 #[.val (.ref r1), .val (.ref r1_1), .val (.int (3 : Int32)), .unset, .unset] [(.int (0 : Int32))])) _
  refine own_by (fun _ k => XS.istoreN X1.here hx rfl (hb hby D1_8) rfl (l' := #[.val (.ref r1), .val (.ref r1_1), .val (.int (3 : Int32)), .val (.int (0 : Int32)), .unset]) rfl k) ?_
  refine own_by (fun _ k => XS.iloadN X1.here hx rfl (hb hby D1_9) rfl k) ?_
  refine own_by (fun _ k => XS.iloadN X1.here hx rfl (hb hby D1_10) rfl k) ?_
  refine own_by (fun _ k => XS.icmpNo X1.here hx rfl (hb hby D1_11) rfl (tlt (by decide : (0 : Int32) < (3 : Int32))).2.1 k) ?_
  show own_Go p e below (T1.setTop (mkF m 14 #[.val (.ref r1), .val (.ref r1_1), .val (.int (3 : Int32)), .val (.int (0 : Int32)), .unset] [])) _
  refine own_by (fun _ k => XS.aloadN X1.here hx rfl (hb hby D1_14) rfl rfl k) ?_
  refine own_by (fun _ k => XS.iloadN X1.here hx rfl (hb hby D1_15) rfl k) ?_
  obtain ⟨cl3, Ar3, q3, S3, M3, H3, G3⟩ := (id g1_0)
  have hin3 : ¬ ((0 : Int32) < 0 ∨ cl3.slots.size ≤ ((0 : Int32)).toNatClampNeg) := inb_of S3 ⟨by decide, by decide⟩
  refine own_by (X1.aaload hx (j := (0 : Int32)) (v := (.ref a_LIVE)) Ar3.1 (State.isArrayOf_alike hZ.alike Ar3.2.1) rfl Ar3.2.2 hin3 (H3.at hin3 rfl) (g := (mkF m 16 #[.val (.ref r1), .val (.ref r1_1), .val (.int (3 : Int32)), .val (.int (0 : Int32)), .unset] [(.int (0 : Int32)), (.ref r1_1)])) rfl rfl (hb hby D1_16)) ?_
  refine own_by (fun _ k => XS.astore X1.here hx rfl (hb hby D1_17) rfl rfl (l' := #[.val (.ref r1), .val (.ref r1_1), .val (.int (3 : Int32)), .val (.int (0 : Int32)), .val (.ref a_LIVE)]) rfl k) ?_
  refine own_by (fun _ k => XS.aload X1.here hx rfl (hb hby D1_19) rfl rfl k) ?_
  have O4 : Old Z n0 T1.heap := (O0.keep K1 all0)
  have fc5 : Fld Z T1.heap a_LIVE s2_ "label" s10_ (.ref l_LIVE) := F_LIVE.ext O4.2
  obtain ⟨T6, X6, e6, st6⟩ := getF X1 hx hZ hown (host := "") (Or.inl (own_w hw 24 rfl)) Via.refl rfl fc5 (g := (mkF m 21 #[.val (.ref r1), .val (.ref r1_1), .val (.int (3 : Int32)), .val (.int (0 : Int32)), .val (.ref a_LIVE)] [(.ref a_LIVE)])) rfl rfl (hb hby D1_21)
  refine own_by st6 ?_
  show own_Go p e below (T6.setTop (mkF m 24 #[.val (.ref r1), .val (.ref r1_1), .val (.int (3 : Int32)), .val (.int (0 : Int32)), .val (.ref a_LIVE)] [(.ref l_LIVE)])) _
  refine own_by (fun _ k => XS.aloadN X6.here hx rfl (hb hby D1_24) rfl rfl k) ?_
  have fc7 : Exa Z T1.heap l_LIVE s11_ := Es_LIVE.ext O4.2
  have fc8 : Fld Z T1.heap l_LIVE s11_ "coder" "B" (.int (0 : Int32)) := Fc_LIVE.ext O4.2
  have fc9 : Fld Z T1.heap l_LIVE s11_ "value" "[B" (.ref b_LIVE) := Fv_LIVE.ext O4.2
  have fc10 : Arv Z T1.heap b_LIVE kb_LIVE .byte (4 : Int32) [(.int (108 : Int32)), (.int (105 : Int32)), (.int (118 : Int32)), (.int (101 : Int32))] (.int (0 : Int32)) := V_LIVE.ext O4.2
  have fc11 : Exa Z T1.heap r1 s11_ := (Er.keep K1)
  have fc12 : Fld Z T1.heap r1 s11_ "coder" "B" (.int (0 : Int32)) := (Fc.keep K1 nin0)
  have fc13 : Fld Z T1.heap r1 s11_ "value" "[B" (.ref b) := (Fv.keep K1 nin0)
  have fc14 : Arv Z T1.heap b kb .byte (4 : Int32) [(.int d1), (.int d2), (.int d3), (.int d4)] (.int (0 : Int32)) := (Vb.keep K1 nin0)
  obtain ⟨cq15, kq15, q15a, q15b, q15c⟩ := isOf hZ e6 fc7
  obtain ⟨_, _, ⟨T15, L15, k15, n15⟩, -, X15, ⟨Lc15, hQ15, l15, y15, z15⟩, st15⟩ := X6.virtualBack hx (y := (⟨s11_, "equals", s12_⟩ : MethodName)) (z := (⟨s11_, "equals", s12_⟩ : MethodName)) hown (mvT hZ (own_w hw 26 rfl)) (mvT hZ (own_w hw 27 rfl)) (notFace_of_selects (args := #[]) (mvT hZ (own_w hw 29 rfl))) (mvT hZ (own_w hw 29 rfl)) (mvT hZ (own_w hw 28 rfl)) (by decide) (backOf (W := 0) (rm_eq_4_4 l Z a0 hw [] l_LIVE r1 b_LIVE b kb_LIVE kb cs (108 : Int32) (105 : Int32) (118 : Int32) (101 : Int32) d1 d2 d3 d4 T1.heap n0 O4 S_COMPACT fc7 fc8 fc9 fc10 fc11 fc12 fc13 fc14 hcs (own_old_ne Es_LIVE O0 gr)) hZ (own_w hw 31 rfl) (own_w hw 30 rfl) (by decide) (by decide)) q15a q15c (g := (mkF m 25 #[.val (.ref r1), .val (.ref r1_1), .val (.int (3 : Int32)), .val (.int (0 : Int32)), .val (.ref a_LIVE)] [(.ref r1), (.ref l_LIVE)])) rfl (by rw [hml]; rfl) (Steps.refl _) (argsL := [(.ref r1)]) (rest := []) (lenOf own_pd__28Ljava_2flang_2fObject_3b_29Z rfl) rfl (by show 2 * 0 + _ ≤ _; exact Nat.le_of_eq rfl) (hb hby D1_25) (fun _ _ => ⟨rfl, e6, (by decide : 1 + 0 ≤ _), (by decide : 3 + 0 ≤ _)⟩)
  dsimp only [Pt.U, Pt.locs, Pt.cells, Pt.slots] at X15 l15 y15 z15 st15 hQ15
  subst l15 y15 z15
  obtain ⟨rfl, M15, K15⟩ := hQ15
  have N15 := Fr.app N1 M15
  refine own_by (fun _ k => st15.trans k) ?_
  refine own_by (fun _ k => XS.ifNo X15.here hx rfl (hb hby D1_28) rfl ((if0 _ _).trans (feq hl_LIVE).1) k) ?_
  show own_Go p e below (T15.setTop (mkF m 31 #[.val (.ref r1), .val (.ref r1_1), .val (.int (3 : Int32)), .val (.int (0 : Int32)), .val (.ref a_LIVE)] [])) _
  refine own_by (fun _ k => XS.aload X15.here hx rfl (hb hby D1_31) rfl rfl k) ?_
  have K16 : Keep h0 T1.heap [] := ((Keep.refl h0 []).trans K1 all0)
  obtain ⟨fs, hr, hrun, hended, hW, hsame⟩ := X15.leave (v := some (.ref a_LIVE)) (fun h => by rw [Bd.returns] at h; cases h)
  refine ⟨_, _, retOut X15 hx Bd.returns (own_narrow_ref (by decide) rfl) (Or.inr (Or.inr (Or.inr (Or.inr ⟨rfl, by decide, rfl⟩)))) (hb hby D1_33) hr, hrun, hended, _, _, rfl, ?_, ⟨_, rfl⟩, hW, hsame.mono (by decide) (by decide)⟩
  show Q_rm_ol4_LIVE Z r1 b kb cs d1 d2 d3 d4 va kva a_LIVE a_TEST a_MANAGEMENT l_LIVE b_LIVE kb_LIVE l_TEST b_TEST kb_TEST l_MANAGEMENT b_MANAGEMENT kb_MANAGEMENT h0 n0 _ T15.heap _
  rw [K15]
  exact ⟨rfl, N15, K16⟩
def Q_rm_ol4_TEST (Z : State) (r1 : Addr) (b : Addr) (kb : ClassId) (cs : Int32) (d1 : Int32) (d2 : Int32) (d3 : Int32) (d4 : Int32) (va : Addr) (kva : ClassId) (a_LIVE : Addr) (a_TEST : Addr) (a_MANAGEMENT : Addr) (l_LIVE : Addr) (b_LIVE : Addr) (kb_LIVE : ClassId) (l_TEST : Addr) (b_TEST : Addr) (kb_TEST : ClassId) (l_MANAGEMENT : Addr) (b_MANAGEMENT : Addr) (kb_MANAGEMENT : ClassId) (h0 : Heap) (n0 : Nat) (v : Option Value) (h : Heap) (L : List Loc) : Prop := v = some (.ref a_TEST) ∧ Fr n0 L ∧ Keep h0 h []
theorem ef_rm_ol4_TEST (m : MethodId) (r1 : Addr) (b : Addr) (kb : ClassId) (cs : Int32) (d1 : Int32) (d2 : Int32) (d3 : Int32) (d4 : Int32) (va : Addr) (kva : ClassId) (a_LIVE : Addr) (a_TEST : Addr) (a_MANAGEMENT : Addr) (l_LIVE : Addr) (b_LIVE : Addr) (kb_LIVE : ClassId) (l_TEST : Addr) (b_TEST : Addr) (kb_TEST : ClassId) (l_MANAGEMENT : Addr) (b_MANAGEMENT : Addr) (kb_MANAGEMENT : ClassId) : entryFrame m #[(.ref r1)] 5 = mkF m 0 #[.val (.ref r1), .unset, .unset, .unset, .unset] [] := by first | (simp [entryFrame, mkF, argsToLocals, Value.category]; done) | rfl
set_option maxRecDepth 65536 in
set_option maxHeartbeats 40000000 in
theorem rm_ol4_TEST (l : Launch) (Z : State) (a0 : Array Value) (hw : ∀ d ∈ tables_1, d.before a0 Z = true) (ws : List Jvm.Cond) (r1 : Addr) (b : Addr) (kb : ClassId) (cs : Int32) (d1 : Int32) (d2 : Int32) (d3 : Int32) (d4 : Int32) (va : Addr) (kva : ClassId) (a_LIVE : Addr) (a_TEST : Addr) (a_MANAGEMENT : Addr) (l_LIVE : Addr) (b_LIVE : Addr) (kb_LIVE : ClassId) (l_TEST : Addr) (b_TEST : Addr) (kb_TEST : ClassId) (l_MANAGEMENT : Addr) (b_MANAGEMENT : Addr) (kb_MANAGEMENT : ClassId) (h0 : Heap) (n0 : Nat) (O0 : Old Z n0 h0) (S_VALUES : Sta Z Z.heap s2_ "$VALUES" s5_ (.ref va)) (E_va : Exa Z Z.heap va s5_) (V_va : Arv Z Z.heap va kva (.object s2_) (3 : Int32) [(.ref a_LIVE), (.ref a_TEST), (.ref a_MANAGEMENT)] .null) (E_LIVE : Exa Z Z.heap a_LIVE s2_) (F_LIVE : Fld Z Z.heap a_LIVE s2_ "label" s10_ (.ref l_LIVE)) (Es_LIVE : Exa Z Z.heap l_LIVE s11_) (Fc_LIVE : Fld Z Z.heap l_LIVE s11_ "coder" "B" (.int (0 : Int32))) (Fv_LIVE : Fld Z Z.heap l_LIVE s11_ "value" "[B" (.ref b_LIVE)) (V_LIVE : Arv Z Z.heap b_LIVE kb_LIVE .byte (4 : Int32) [(.int (108 : Int32)), (.int (105 : Int32)), (.int (118 : Int32)), (.int (101 : Int32))] (.int (0 : Int32))) (E_TEST : Exa Z Z.heap a_TEST s2_) (F_TEST : Fld Z Z.heap a_TEST s2_ "label" s10_ (.ref l_TEST)) (Es_TEST : Exa Z Z.heap l_TEST s11_) (Fc_TEST : Fld Z Z.heap l_TEST s11_ "coder" "B" (.int (0 : Int32))) (Fv_TEST : Fld Z Z.heap l_TEST s11_ "value" "[B" (.ref b_TEST)) (V_TEST : Arv Z Z.heap b_TEST kb_TEST .byte (4 : Int32) [(.int (116 : Int32)), (.int (101 : Int32)), (.int (115 : Int32)), (.int (116 : Int32))] (.int (0 : Int32))) (E_MANAGEMENT : Exa Z Z.heap a_MANAGEMENT s2_) (F_MANAGEMENT : Fld Z Z.heap a_MANAGEMENT s2_ "label" s10_ (.ref l_MANAGEMENT)) (Es_MANAGEMENT : Exa Z Z.heap l_MANAGEMENT s11_) (Fc_MANAGEMENT : Fld Z Z.heap l_MANAGEMENT s11_ "coder" "B" (.int (0 : Int32))) (Fv_MANAGEMENT : Fld Z Z.heap l_MANAGEMENT s11_ "value" "[B" (.ref b_MANAGEMENT)) (V_MANAGEMENT : Arv Z Z.heap b_MANAGEMENT kb_MANAGEMENT .byte (4 : Int32) [(.int (109 : Int32)), (.int (103 : Int32)), (.int (109 : Int32)), (.int (116 : Int32))] (.int (0 : Int32))) (S_COMPACT : Sta Z Z.heap s11_ s15_ "Z" (.int cs)) (Er : Exa Z h0 r1 s11_) (Fc : Fld Z h0 r1 s11_ "coder" "B" (.int (0 : Int32))) (Fv : Fld Z h0 r1 s11_ "value" "[B" (.ref b)) (Vb : Arv Z h0 b kb .byte (4 : Int32) [(.int d1), (.int d2), (.int d3), (.int d4)] (.int (0 : Int32))) (hcs : ¬ (cs = (0 : Int32))) (gr : n0 ≤ r1) (hl_LIVE : (own_all [((108 : Int32), d1), ((105 : Int32), d2), ((118 : Int32), d3), ((101 : Int32), d4)]) = (0 : Int32)) (hl_TEST : ¬ ((own_all [((116 : Int32), d1), ((101 : Int32), d2), ((115 : Int32), d3), ((116 : Int32), d4)]) = (0 : Int32))) :
    MetFree l (⟨s2_, "ofLabel", s3_⟩ : MethodName) (head1 (Jvm.Cond.code (⟨s2_, "ofLabel", s3_⟩ : MethodName) prog_6_method_6_code 5 (some (.object s2_)) :: ws) ({ frames := 2, cells := 1, slots := 3, locals := 28 } : Room)) (fun a U => a = #[(.ref r1)] ∧ Z.Warmed39 U.vm ∧ U.heap = h0) (fun _ _ _ _ _ => True) (fun _ U o U' => ∃ v L, o = .returned v ∧ Q_rm_ol4_TEST Z r1 b kb cs d1 d2 d3 d4 va kva a_LIVE a_TEST a_MANAGEMENT l_LIVE b_LIVE kb_LIVE l_TEST b_TEST kb_TEST l_MANAGEMENT b_MANAGEMENT kb_MANAGEMENT h0 n0 v U'.heap L ∧ FrameEnd U o U' L ({ frames := 2, cells := 1, slots := 3, locals := 28 } : Room).cells ({ frames := 2, cells := 1, slots := 3, locals := 28 } : Room).slots) := by
  refine MetFree.of_bodySF (plainFor_of_name own_pn_com_example_ostiarius_ostiarius_key_KeyKind) hisR ?_
  intro p e s m args below meth c s₁ Bd hml0 hP hK
  obtain ⟨rfl, hZ, hh⟩ := hP
  have hx := Bd.exec
  have hby := Bd.bytes
  have hml : c.maxLocals = 5 := hml0
  have hown : s.vm.findClass s2_ = some m.cls := findClass_of_methodNamed Bd.named
  have hnm := (name_of_methodNamed Bd.named Bd.method).1
  have X0 : Stand p l e ({ frames := 2, cells := 1, slots := 3, locals := 28 } : Room) s m #[(.ref r1)] below meth c s₁ [] 0 0 := Stand.of_body Bd
  have e0 : s₁.heap = h0 := by rw [← hh, Bd.state]; rfl
  have N0 := Fr.nil n0
  have Z0 : n0 ≤ h0.size := by rw [← O0.1]; exact O0.2.1
  show own_Go p e below (s₁.setTop (entryFrame m #[(.ref r1)] 5)) (fun t o => ∃ v L, o = .returned v ∧ Q_rm_ol4_TEST Z r1 b kb cs d1 d2 d3 d4 va kva a_LIVE a_TEST a_MANAGEMENT l_LIVE b_LIVE kb_LIVE l_TEST b_TEST kb_TEST l_MANAGEMENT b_MANAGEMENT kb_MANAGEMENT h0 n0 v t.heap L ∧ FrameEnd s o t L ({ frames := 2, cells := 1, slots := 3, locals := 28 } : Room).cells ({ frames := 2, cells := 1, slots := 3, locals := 28 } : Room).slots)
  rw [ef_rm_ol4_TEST m r1 b kb cs d1 d2 d3 d4 va kva a_LIVE a_TEST a_MANAGEMENT l_LIVE b_LIVE kb_LIVE l_TEST b_TEST kb_TEST l_MANAGEMENT b_MANAGEMENT kb_MANAGEMENT]
  have lt_Er : h0.size > r1 := Er.lt
  have lt_Fc : h0.size > r1 := Fc.lt
  have lt_Fv : h0.size > r1 := Fv.lt
  have lt_Vb : h0.size > b := Vb.lt
  obtain ⟨_, _, ⟨T1, L1, k1, n1⟩, -, X1, ⟨Lc1, hQ1, l1, y1, z1⟩, st1⟩ := Jvm.LawKit.callS X0 hx (y := (⟨s2_, "values", s4_⟩ : MethodName)) hown (mvT hZ (own_w hw 6 rfl)) (mvT hZ (own_w hw 7 rfl)) (mvT hZ (own_w hw 4 rfl)) (mvT hZ (own_w hw 8 rfl)) (by decide) (backOf (W := 0) (rm_values l Z a0 hw [] va kva a_LIVE a_TEST a_MANAGEMENT h0 n0 O0 S_VALUES E_va V_va) hZ (own_w hw 8 rfl) (own_w hw 4 rfl) (by decide) (by decide)) (g := (mkF m 0 #[.val (.ref r1), .unset, .unset, .unset, .unset] [])) rfl (by rw [hml]; rfl) (argsL := []) (rest := []) (lenOf own_pd__28_29_5bLcom_2fexample_2fostiarius_2fostiarius_2fkey_2fKeyKind_3b rfl) rfl (by show 2 * 0 + _ ≤ _; exact Nat.le_of_eq rfl) (hb hby D1_0) (fun _ _ => ⟨rfl, e0, (by decide : 0 + 1 ≤ _), (by decide : 0 + 3 ≤ _)⟩)
  dsimp only [Pt.U, Pt.locs, Pt.cells, Pt.slots] at X1 l1 y1 z1 st1 hQ1
  subst l1 y1 z1
  obtain ⟨r1_1, kr_1, rfl, M1, K1, g1_0⟩ := hQ1
  have N1 := Fr.app N0 M1
  refine own_by st1 ?_
  have z1 := K1.1
  have lt_g1_0 : T1.heap.size > r1_1 := g1_0.lt
  refine own_by (fun _ k => XS.astoreN X1.here hx rfl (hb hby D1_3) rfl rfl (l' := #[.val (.ref r1), .val (.ref r1_1), .unset, .unset, .unset]) rfl k) ?_
  refine own_by (fun _ k => XS.aloadN X1.here hx rfl (hb hby D1_4) rfl rfl k) ?_
  obtain ⟨cl2, Ar2, q2, S2, M2, H2, G2⟩ := (id g1_0)
  refine own_by (X1.arraylength hx Ar2.1 (State.isArrayOf_alike hZ.alike Ar2.2.1) (g := (mkF m 5 #[.val (.ref r1), .val (.ref r1_1), .unset, .unset, .unset] [(.ref r1_1)])) rfl rfl (hb hby D1_5)) ?_
  rw [len_of S2 M2]
  refine own_by (fun _ k => XS.istoreN X1.here hx rfl (hb hby D1_6) rfl (l' := #[.val (.ref r1), .val (.ref r1_1), .val (.int (3 : Int32)), .unset, .unset]) rfl k) ?_
  refine own_by (fun _ k => XS.iconst X1.here hx rfl (hb hby D1_7) k) ?_
  show own_Go p e below (T1.setTop (mkF m 8 #[.val (.ref r1), .val (.ref r1_1), .val (.int (3 : Int32)), .unset, .unset] [(.int (0 : Int32))])) _
  refine own_by (fun _ k => XS.istoreN X1.here hx rfl (hb hby D1_8) rfl (l' := #[.val (.ref r1), .val (.ref r1_1), .val (.int (3 : Int32)), .val (.int (0 : Int32)), .unset]) rfl k) ?_
  refine own_by (fun _ k => XS.iloadN X1.here hx rfl (hb hby D1_9) rfl k) ?_
  refine own_by (fun _ k => XS.iloadN X1.here hx rfl (hb hby D1_10) rfl k) ?_
  refine own_by (fun _ k => XS.icmpNo X1.here hx rfl (hb hby D1_11) rfl (tlt (by decide : (0 : Int32) < (3 : Int32))).2.1 k) ?_
  show own_Go p e below (T1.setTop (mkF m 14 #[.val (.ref r1), .val (.ref r1_1), .val (.int (3 : Int32)), .val (.int (0 : Int32)), .unset] [])) _
  refine own_by (fun _ k => XS.aloadN X1.here hx rfl (hb hby D1_14) rfl rfl k) ?_
  refine own_by (fun _ k => XS.iloadN X1.here hx rfl (hb hby D1_15) rfl k) ?_
  obtain ⟨cl3, Ar3, q3, S3, M3, H3, G3⟩ := (id g1_0)
  have hin3 : ¬ ((0 : Int32) < 0 ∨ cl3.slots.size ≤ ((0 : Int32)).toNatClampNeg) := inb_of S3 ⟨by decide, by decide⟩
  refine own_by (X1.aaload hx (j := (0 : Int32)) (v := (.ref a_LIVE)) Ar3.1 (State.isArrayOf_alike hZ.alike Ar3.2.1) rfl Ar3.2.2 hin3 (H3.at hin3 rfl) (g := (mkF m 16 #[.val (.ref r1), .val (.ref r1_1), .val (.int (3 : Int32)), .val (.int (0 : Int32)), .unset] [(.int (0 : Int32)), (.ref r1_1)])) rfl rfl (hb hby D1_16)) ?_
  refine own_by (fun _ k => XS.astore X1.here hx rfl (hb hby D1_17) rfl rfl (l' := #[.val (.ref r1), .val (.ref r1_1), .val (.int (3 : Int32)), .val (.int (0 : Int32)), .val (.ref a_LIVE)]) rfl k) ?_
  refine own_by (fun _ k => XS.aload X1.here hx rfl (hb hby D1_19) rfl rfl k) ?_
  have O4 : Old Z n0 T1.heap := (O0.keep K1 all0)
  have fc5 : Fld Z T1.heap a_LIVE s2_ "label" s10_ (.ref l_LIVE) := F_LIVE.ext O4.2
  obtain ⟨T6, X6, e6, st6⟩ := getF X1 hx hZ hown (host := "") (Or.inl (own_w hw 24 rfl)) Via.refl rfl fc5 (g := (mkF m 21 #[.val (.ref r1), .val (.ref r1_1), .val (.int (3 : Int32)), .val (.int (0 : Int32)), .val (.ref a_LIVE)] [(.ref a_LIVE)])) rfl rfl (hb hby D1_21)
  refine own_by st6 ?_
  show own_Go p e below (T6.setTop (mkF m 24 #[.val (.ref r1), .val (.ref r1_1), .val (.int (3 : Int32)), .val (.int (0 : Int32)), .val (.ref a_LIVE)] [(.ref l_LIVE)])) _
  refine own_by (fun _ k => XS.aloadN X6.here hx rfl (hb hby D1_24) rfl rfl k) ?_
  have fc7 : Exa Z T1.heap l_LIVE s11_ := Es_LIVE.ext O4.2
  have fc8 : Fld Z T1.heap l_LIVE s11_ "coder" "B" (.int (0 : Int32)) := Fc_LIVE.ext O4.2
  have fc9 : Fld Z T1.heap l_LIVE s11_ "value" "[B" (.ref b_LIVE) := Fv_LIVE.ext O4.2
  have fc10 : Arv Z T1.heap b_LIVE kb_LIVE .byte (4 : Int32) [(.int (108 : Int32)), (.int (105 : Int32)), (.int (118 : Int32)), (.int (101 : Int32))] (.int (0 : Int32)) := V_LIVE.ext O4.2
  have fc11 : Exa Z T1.heap r1 s11_ := (Er.keep K1)
  have fc12 : Fld Z T1.heap r1 s11_ "coder" "B" (.int (0 : Int32)) := (Fc.keep K1 nin0)
  have fc13 : Fld Z T1.heap r1 s11_ "value" "[B" (.ref b) := (Fv.keep K1 nin0)
  have fc14 : Arv Z T1.heap b kb .byte (4 : Int32) [(.int d1), (.int d2), (.int d3), (.int d4)] (.int (0 : Int32)) := (Vb.keep K1 nin0)
  obtain ⟨cq15, kq15, q15a, q15b, q15c⟩ := isOf hZ e6 fc7
  obtain ⟨_, _, ⟨T15, L15, k15, n15⟩, -, X15, ⟨Lc15, hQ15, l15, y15, z15⟩, st15⟩ := X6.virtualBack hx (y := (⟨s11_, "equals", s12_⟩ : MethodName)) (z := (⟨s11_, "equals", s12_⟩ : MethodName)) hown (mvT hZ (own_w hw 26 rfl)) (mvT hZ (own_w hw 27 rfl)) (notFace_of_selects (args := #[]) (mvT hZ (own_w hw 29 rfl))) (mvT hZ (own_w hw 29 rfl)) (mvT hZ (own_w hw 28 rfl)) (by decide) (backOf (W := 0) (rm_eq_4_4 l Z a0 hw [] l_LIVE r1 b_LIVE b kb_LIVE kb cs (108 : Int32) (105 : Int32) (118 : Int32) (101 : Int32) d1 d2 d3 d4 T1.heap n0 O4 S_COMPACT fc7 fc8 fc9 fc10 fc11 fc12 fc13 fc14 hcs (own_old_ne Es_LIVE O0 gr)) hZ (own_w hw 31 rfl) (own_w hw 30 rfl) (by decide) (by decide)) q15a q15c (g := (mkF m 25 #[.val (.ref r1), .val (.ref r1_1), .val (.int (3 : Int32)), .val (.int (0 : Int32)), .val (.ref a_LIVE)] [(.ref r1), (.ref l_LIVE)])) rfl (by rw [hml]; rfl) (Steps.refl _) (argsL := [(.ref r1)]) (rest := []) (lenOf own_pd__28Ljava_2flang_2fObject_3b_29Z rfl) rfl (by show 2 * 0 + _ ≤ _; exact Nat.le_of_eq rfl) (hb hby D1_25) (fun _ _ => ⟨rfl, e6, (by decide : 1 + 0 ≤ _), (by decide : 3 + 0 ≤ _)⟩)
  dsimp only [Pt.U, Pt.locs, Pt.cells, Pt.slots] at X15 l15 y15 z15 st15 hQ15
  subst l15 y15 z15
  obtain ⟨rfl, M15, K15⟩ := hQ15
  have N15 := Fr.app N1 M15
  refine own_by (fun _ k => st15.trans k) ?_
  refine own_by (fun _ k => XS.ifYes X15.here hx rfl (pc0 := 28) (pc' := 34) rfl (hb hby D1_28) rfl ((if0 _ _).trans (teq hl_LIVE).1) (by decide) (by decide) k) ?_
  show own_Go p e below (T15.setTop (mkF m 34 #[.val (.ref r1), .val (.ref r1_1), .val (.int (3 : Int32)), .val (.int (0 : Int32)), .val (.ref a_LIVE)] [])) _
  refine own_by (fun _ k => XS.iinc X15.here hx rfl (hb hby D1_34) rfl (l' := #[.val (.ref r1), .val (.ref r1_1), .val (.int (3 : Int32)), .val (.int (1 : Int32)), .val (.ref a_LIVE)]) rfl k) ?_
  refine own_by (fun _ k => XS.goto X15.here hx rfl (pc0 := 37) (pc' := 9) rfl (hb hby D1_37) (by decide) (by decide) k) ?_
  refine own_by (fun _ k => XS.iloadN X15.here hx rfl (hb hby D1_9) rfl k) ?_
  refine own_by (fun _ k => XS.iloadN X15.here hx rfl (hb hby D1_10) rfl k) ?_
  refine own_by (fun _ k => XS.icmpNo X15.here hx rfl (hb hby D1_11) rfl (tlt (by decide : (1 : Int32) < (3 : Int32))).2.1 k) ?_
  show own_Go p e below (T15.setTop (mkF m 14 #[.val (.ref r1), .val (.ref r1_1), .val (.int (3 : Int32)), .val (.int (1 : Int32)), .val (.ref a_LIVE)] [])) _
  refine own_by (fun _ k => XS.aloadN X15.here hx rfl (hb hby D1_14) rfl rfl k) ?_
  refine own_by (fun _ k => XS.iloadN X15.here hx rfl (hb hby D1_15) rfl k) ?_
  obtain ⟨cl16, Ar16, q16, S16, M16, H16, G16⟩ := (id g1_0)
  have hin16 : ¬ ((1 : Int32) < 0 ∨ cl16.slots.size ≤ ((1 : Int32)).toNatClampNeg) := inb_of S16 ⟨by decide, by decide⟩
  refine own_by (X15.aaload hx (j := (1 : Int32)) (v := (.ref a_TEST)) (by rw [K15]; exact Ar16.1) (State.isArrayOf_alike hZ.alike Ar16.2.1) rfl Ar16.2.2 hin16 (H16.at hin16 rfl) (g := (mkF m 16 #[.val (.ref r1), .val (.ref r1_1), .val (.int (3 : Int32)), .val (.int (1 : Int32)), .val (.ref a_LIVE)] [(.int (1 : Int32)), (.ref r1_1)])) rfl rfl (hb hby D1_16)) ?_
  refine own_by (fun _ k => XS.astore X15.here hx rfl (hb hby D1_17) rfl rfl (l' := #[.val (.ref r1), .val (.ref r1_1), .val (.int (3 : Int32)), .val (.int (1 : Int32)), .val (.ref a_TEST)]) rfl k) ?_
  refine own_by (fun _ k => XS.aload X15.here hx rfl (hb hby D1_19) rfl rfl k) ?_
  have fc17 : Fld Z T1.heap a_TEST s2_ "label" s10_ (.ref l_TEST) := F_TEST.ext O4.2
  obtain ⟨T18, X18, e18, st18⟩ := getF X15 hx hZ hown (host := "") (Or.inl (own_w hw 24 rfl)) Via.refl K15 fc17 (g := (mkF m 21 #[.val (.ref r1), .val (.ref r1_1), .val (.int (3 : Int32)), .val (.int (1 : Int32)), .val (.ref a_TEST)] [(.ref a_TEST)])) rfl rfl (hb hby D1_21)
  refine own_by st18 ?_
  show own_Go p e below (T18.setTop (mkF m 24 #[.val (.ref r1), .val (.ref r1_1), .val (.int (3 : Int32)), .val (.int (1 : Int32)), .val (.ref a_TEST)] [(.ref l_TEST)])) _
  refine own_by (fun _ k => XS.aloadN X18.here hx rfl (hb hby D1_24) rfl rfl k) ?_
  have fc19 : Exa Z T1.heap l_TEST s11_ := Es_TEST.ext O4.2
  have fc20 : Fld Z T1.heap l_TEST s11_ "coder" "B" (.int (0 : Int32)) := Fc_TEST.ext O4.2
  have fc21 : Fld Z T1.heap l_TEST s11_ "value" "[B" (.ref b_TEST) := Fv_TEST.ext O4.2
  have fc22 : Arv Z T1.heap b_TEST kb_TEST .byte (4 : Int32) [(.int (116 : Int32)), (.int (101 : Int32)), (.int (115 : Int32)), (.int (116 : Int32))] (.int (0 : Int32)) := V_TEST.ext O4.2
  obtain ⟨cq23, kq23, q23a, q23b, q23c⟩ := isOf hZ e18 fc19
  obtain ⟨_, _, ⟨T23, L23, k23, n23⟩, -, X23, ⟨Lc23, hQ23, l23, y23, z23⟩, st23⟩ := X18.virtualBack hx (y := (⟨s11_, "equals", s12_⟩ : MethodName)) (z := (⟨s11_, "equals", s12_⟩ : MethodName)) hown (mvT hZ (own_w hw 26 rfl)) (mvT hZ (own_w hw 27 rfl)) (notFace_of_selects (args := #[]) (mvT hZ (own_w hw 29 rfl))) (mvT hZ (own_w hw 29 rfl)) (mvT hZ (own_w hw 28 rfl)) (by decide) (backOf (W := 0) (rm_eq_4_4 l Z a0 hw [] l_TEST r1 b_TEST b kb_TEST kb cs (116 : Int32) (101 : Int32) (115 : Int32) (116 : Int32) d1 d2 d3 d4 T1.heap n0 O4 S_COMPACT fc19 fc20 fc21 fc22 fc11 fc12 fc13 fc14 hcs (own_old_ne Es_TEST O0 gr)) hZ (own_w hw 31 rfl) (own_w hw 30 rfl) (by decide) (by decide)) q23a q23c (g := (mkF m 25 #[.val (.ref r1), .val (.ref r1_1), .val (.int (3 : Int32)), .val (.int (1 : Int32)), .val (.ref a_TEST)] [(.ref r1), (.ref l_TEST)])) rfl (by rw [hml]; rfl) (Steps.refl _) (argsL := [(.ref r1)]) (rest := []) (lenOf own_pd__28Ljava_2flang_2fObject_3b_29Z rfl) rfl (by show 2 * 0 + _ ≤ _; exact Nat.le_of_eq rfl) (hb hby D1_25) (fun _ _ => ⟨rfl, e18, (by decide : 1 + 0 ≤ _), (by decide : 3 + 0 ≤ _)⟩)
  dsimp only [Pt.U, Pt.locs, Pt.cells, Pt.slots] at X23 l23 y23 z23 st23 hQ23
  subst l23 y23 z23
  obtain ⟨rfl, M23, K23⟩ := hQ23
  have N23 := Fr.app N15 M23
  refine own_by (fun _ k => st23.trans k) ?_
  refine own_by (fun _ k => XS.ifNo X23.here hx rfl (hb hby D1_28) rfl ((if0 _ _).trans (feq hl_TEST).1) k) ?_
  show own_Go p e below (T23.setTop (mkF m 31 #[.val (.ref r1), .val (.ref r1_1), .val (.int (3 : Int32)), .val (.int (1 : Int32)), .val (.ref a_TEST)] [])) _
  refine own_by (fun _ k => XS.aload X23.here hx rfl (hb hby D1_31) rfl rfl k) ?_
  have K24 : Keep h0 T1.heap [] := ((Keep.refl h0 []).trans K1 all0)
  obtain ⟨fs, hr, hrun, hended, hW, hsame⟩ := X23.leave (v := some (.ref a_TEST)) (fun h => by rw [Bd.returns] at h; cases h)
  refine ⟨_, _, retOut X23 hx Bd.returns (own_narrow_ref (by decide) rfl) (Or.inr (Or.inr (Or.inr (Or.inr ⟨rfl, by decide, rfl⟩)))) (hb hby D1_33) hr, hrun, hended, _, _, rfl, ?_, ⟨_, rfl⟩, hW, hsame.mono (by decide) (by decide)⟩
  show Q_rm_ol4_TEST Z r1 b kb cs d1 d2 d3 d4 va kva a_LIVE a_TEST a_MANAGEMENT l_LIVE b_LIVE kb_LIVE l_TEST b_TEST kb_TEST l_MANAGEMENT b_MANAGEMENT kb_MANAGEMENT h0 n0 _ T23.heap _
  rw [K23]
  exact ⟨rfl, N23, K24⟩
def Q_rm_ol4_MANAGEMENT (Z : State) (r1 : Addr) (b : Addr) (kb : ClassId) (cs : Int32) (d1 : Int32) (d2 : Int32) (d3 : Int32) (d4 : Int32) (va : Addr) (kva : ClassId) (a_LIVE : Addr) (a_TEST : Addr) (a_MANAGEMENT : Addr) (l_LIVE : Addr) (b_LIVE : Addr) (kb_LIVE : ClassId) (l_TEST : Addr) (b_TEST : Addr) (kb_TEST : ClassId) (l_MANAGEMENT : Addr) (b_MANAGEMENT : Addr) (kb_MANAGEMENT : ClassId) (h0 : Heap) (n0 : Nat) (v : Option Value) (h : Heap) (L : List Loc) : Prop := v = some (.ref a_MANAGEMENT) ∧ Fr n0 L ∧ Keep h0 h []
theorem ef_rm_ol4_MANAGEMENT (m : MethodId) (r1 : Addr) (b : Addr) (kb : ClassId) (cs : Int32) (d1 : Int32) (d2 : Int32) (d3 : Int32) (d4 : Int32) (va : Addr) (kva : ClassId) (a_LIVE : Addr) (a_TEST : Addr) (a_MANAGEMENT : Addr) (l_LIVE : Addr) (b_LIVE : Addr) (kb_LIVE : ClassId) (l_TEST : Addr) (b_TEST : Addr) (kb_TEST : ClassId) (l_MANAGEMENT : Addr) (b_MANAGEMENT : Addr) (kb_MANAGEMENT : ClassId) : entryFrame m #[(.ref r1)] 5 = mkF m 0 #[.val (.ref r1), .unset, .unset, .unset, .unset] [] := by first | (simp [entryFrame, mkF, argsToLocals, Value.category]; done) | rfl
set_option maxRecDepth 65536 in
set_option maxHeartbeats 40000000 in
theorem rm_ol4_MANAGEMENT (l : Launch) (Z : State) (a0 : Array Value) (hw : ∀ d ∈ tables_1, d.before a0 Z = true) (ws : List Jvm.Cond) (r1 : Addr) (b : Addr) (kb : ClassId) (cs : Int32) (d1 : Int32) (d2 : Int32) (d3 : Int32) (d4 : Int32) (va : Addr) (kva : ClassId) (a_LIVE : Addr) (a_TEST : Addr) (a_MANAGEMENT : Addr) (l_LIVE : Addr) (b_LIVE : Addr) (kb_LIVE : ClassId) (l_TEST : Addr) (b_TEST : Addr) (kb_TEST : ClassId) (l_MANAGEMENT : Addr) (b_MANAGEMENT : Addr) (kb_MANAGEMENT : ClassId) (h0 : Heap) (n0 : Nat) (O0 : Old Z n0 h0) (S_VALUES : Sta Z Z.heap s2_ "$VALUES" s5_ (.ref va)) (E_va : Exa Z Z.heap va s5_) (V_va : Arv Z Z.heap va kva (.object s2_) (3 : Int32) [(.ref a_LIVE), (.ref a_TEST), (.ref a_MANAGEMENT)] .null) (E_LIVE : Exa Z Z.heap a_LIVE s2_) (F_LIVE : Fld Z Z.heap a_LIVE s2_ "label" s10_ (.ref l_LIVE)) (Es_LIVE : Exa Z Z.heap l_LIVE s11_) (Fc_LIVE : Fld Z Z.heap l_LIVE s11_ "coder" "B" (.int (0 : Int32))) (Fv_LIVE : Fld Z Z.heap l_LIVE s11_ "value" "[B" (.ref b_LIVE)) (V_LIVE : Arv Z Z.heap b_LIVE kb_LIVE .byte (4 : Int32) [(.int (108 : Int32)), (.int (105 : Int32)), (.int (118 : Int32)), (.int (101 : Int32))] (.int (0 : Int32))) (E_TEST : Exa Z Z.heap a_TEST s2_) (F_TEST : Fld Z Z.heap a_TEST s2_ "label" s10_ (.ref l_TEST)) (Es_TEST : Exa Z Z.heap l_TEST s11_) (Fc_TEST : Fld Z Z.heap l_TEST s11_ "coder" "B" (.int (0 : Int32))) (Fv_TEST : Fld Z Z.heap l_TEST s11_ "value" "[B" (.ref b_TEST)) (V_TEST : Arv Z Z.heap b_TEST kb_TEST .byte (4 : Int32) [(.int (116 : Int32)), (.int (101 : Int32)), (.int (115 : Int32)), (.int (116 : Int32))] (.int (0 : Int32))) (E_MANAGEMENT : Exa Z Z.heap a_MANAGEMENT s2_) (F_MANAGEMENT : Fld Z Z.heap a_MANAGEMENT s2_ "label" s10_ (.ref l_MANAGEMENT)) (Es_MANAGEMENT : Exa Z Z.heap l_MANAGEMENT s11_) (Fc_MANAGEMENT : Fld Z Z.heap l_MANAGEMENT s11_ "coder" "B" (.int (0 : Int32))) (Fv_MANAGEMENT : Fld Z Z.heap l_MANAGEMENT s11_ "value" "[B" (.ref b_MANAGEMENT)) (V_MANAGEMENT : Arv Z Z.heap b_MANAGEMENT kb_MANAGEMENT .byte (4 : Int32) [(.int (109 : Int32)), (.int (103 : Int32)), (.int (109 : Int32)), (.int (116 : Int32))] (.int (0 : Int32))) (S_COMPACT : Sta Z Z.heap s11_ s15_ "Z" (.int cs)) (Er : Exa Z h0 r1 s11_) (Fc : Fld Z h0 r1 s11_ "coder" "B" (.int (0 : Int32))) (Fv : Fld Z h0 r1 s11_ "value" "[B" (.ref b)) (Vb : Arv Z h0 b kb .byte (4 : Int32) [(.int d1), (.int d2), (.int d3), (.int d4)] (.int (0 : Int32))) (hcs : ¬ (cs = (0 : Int32))) (gr : n0 ≤ r1) (hl_LIVE : (own_all [((108 : Int32), d1), ((105 : Int32), d2), ((118 : Int32), d3), ((101 : Int32), d4)]) = (0 : Int32)) (hl_TEST : (own_all [((116 : Int32), d1), ((101 : Int32), d2), ((115 : Int32), d3), ((116 : Int32), d4)]) = (0 : Int32)) (hl_MANAGEMENT : ¬ ((own_all [((109 : Int32), d1), ((103 : Int32), d2), ((109 : Int32), d3), ((116 : Int32), d4)]) = (0 : Int32))) :
    MetFree l (⟨s2_, "ofLabel", s3_⟩ : MethodName) (head1 (Jvm.Cond.code (⟨s2_, "ofLabel", s3_⟩ : MethodName) prog_6_method_6_code 5 (some (.object s2_)) :: ws) ({ frames := 2, cells := 1, slots := 3, locals := 28 } : Room)) (fun a U => a = #[(.ref r1)] ∧ Z.Warmed39 U.vm ∧ U.heap = h0) (fun _ _ _ _ _ => True) (fun _ U o U' => ∃ v L, o = .returned v ∧ Q_rm_ol4_MANAGEMENT Z r1 b kb cs d1 d2 d3 d4 va kva a_LIVE a_TEST a_MANAGEMENT l_LIVE b_LIVE kb_LIVE l_TEST b_TEST kb_TEST l_MANAGEMENT b_MANAGEMENT kb_MANAGEMENT h0 n0 v U'.heap L ∧ FrameEnd U o U' L ({ frames := 2, cells := 1, slots := 3, locals := 28 } : Room).cells ({ frames := 2, cells := 1, slots := 3, locals := 28 } : Room).slots) := by
  refine MetFree.of_bodySF (plainFor_of_name own_pn_com_example_ostiarius_ostiarius_key_KeyKind) hisR ?_
  intro p e s m args below meth c s₁ Bd hml0 hP hK
  obtain ⟨rfl, hZ, hh⟩ := hP
  have hx := Bd.exec
  have hby := Bd.bytes
  have hml : c.maxLocals = 5 := hml0
  have hown : s.vm.findClass s2_ = some m.cls := findClass_of_methodNamed Bd.named
  have hnm := (name_of_methodNamed Bd.named Bd.method).1
  have X0 : Stand p l e ({ frames := 2, cells := 1, slots := 3, locals := 28 } : Room) s m #[(.ref r1)] below meth c s₁ [] 0 0 := Stand.of_body Bd
  have e0 : s₁.heap = h0 := by rw [← hh, Bd.state]; rfl
  have N0 := Fr.nil n0
  have Z0 : n0 ≤ h0.size := by rw [← O0.1]; exact O0.2.1
  show own_Go p e below (s₁.setTop (entryFrame m #[(.ref r1)] 5)) (fun t o => ∃ v L, o = .returned v ∧ Q_rm_ol4_MANAGEMENT Z r1 b kb cs d1 d2 d3 d4 va kva a_LIVE a_TEST a_MANAGEMENT l_LIVE b_LIVE kb_LIVE l_TEST b_TEST kb_TEST l_MANAGEMENT b_MANAGEMENT kb_MANAGEMENT h0 n0 v t.heap L ∧ FrameEnd s o t L ({ frames := 2, cells := 1, slots := 3, locals := 28 } : Room).cells ({ frames := 2, cells := 1, slots := 3, locals := 28 } : Room).slots)
  rw [ef_rm_ol4_MANAGEMENT m r1 b kb cs d1 d2 d3 d4 va kva a_LIVE a_TEST a_MANAGEMENT l_LIVE b_LIVE kb_LIVE l_TEST b_TEST kb_TEST l_MANAGEMENT b_MANAGEMENT kb_MANAGEMENT]
  have lt_Er : h0.size > r1 := Er.lt
  have lt_Fc : h0.size > r1 := Fc.lt
  have lt_Fv : h0.size > r1 := Fv.lt
  have lt_Vb : h0.size > b := Vb.lt
  obtain ⟨_, _, ⟨T1, L1, k1, n1⟩, -, X1, ⟨Lc1, hQ1, l1, y1, z1⟩, st1⟩ := Jvm.LawKit.callS X0 hx (y := (⟨s2_, "values", s4_⟩ : MethodName)) hown (mvT hZ (own_w hw 6 rfl)) (mvT hZ (own_w hw 7 rfl)) (mvT hZ (own_w hw 4 rfl)) (mvT hZ (own_w hw 8 rfl)) (by decide) (backOf (W := 0) (rm_values l Z a0 hw [] va kva a_LIVE a_TEST a_MANAGEMENT h0 n0 O0 S_VALUES E_va V_va) hZ (own_w hw 8 rfl) (own_w hw 4 rfl) (by decide) (by decide)) (g := (mkF m 0 #[.val (.ref r1), .unset, .unset, .unset, .unset] [])) rfl (by rw [hml]; rfl) (argsL := []) (rest := []) (lenOf own_pd__28_29_5bLcom_2fexample_2fostiarius_2fostiarius_2fkey_2fKeyKind_3b rfl) rfl (by show 2 * 0 + _ ≤ _; exact Nat.le_of_eq rfl) (hb hby D1_0) (fun _ _ => ⟨rfl, e0, (by decide : 0 + 1 ≤ _), (by decide : 0 + 3 ≤ _)⟩)
  dsimp only [Pt.U, Pt.locs, Pt.cells, Pt.slots] at X1 l1 y1 z1 st1 hQ1
  subst l1 y1 z1
  obtain ⟨r1_1, kr_1, rfl, M1, K1, g1_0⟩ := hQ1
  have N1 := Fr.app N0 M1
  refine own_by st1 ?_
  have z1 := K1.1
  have lt_g1_0 : T1.heap.size > r1_1 := g1_0.lt
  refine own_by (fun _ k => XS.astoreN X1.here hx rfl (hb hby D1_3) rfl rfl (l' := #[.val (.ref r1), .val (.ref r1_1), .unset, .unset, .unset]) rfl k) ?_
  refine own_by (fun _ k => XS.aloadN X1.here hx rfl (hb hby D1_4) rfl rfl k) ?_
  obtain ⟨cl2, Ar2, q2, S2, M2, H2, G2⟩ := (id g1_0)
  refine own_by (X1.arraylength hx Ar2.1 (State.isArrayOf_alike hZ.alike Ar2.2.1) (g := (mkF m 5 #[.val (.ref r1), .val (.ref r1_1), .unset, .unset, .unset] [(.ref r1_1)])) rfl rfl (hb hby D1_5)) ?_
  rw [len_of S2 M2]
  refine own_by (fun _ k => XS.istoreN X1.here hx rfl (hb hby D1_6) rfl (l' := #[.val (.ref r1), .val (.ref r1_1), .val (.int (3 : Int32)), .unset, .unset]) rfl k) ?_
  refine own_by (fun _ k => XS.iconst X1.here hx rfl (hb hby D1_7) k) ?_
  show own_Go p e below (T1.setTop (mkF m 8 #[.val (.ref r1), .val (.ref r1_1), .val (.int (3 : Int32)), .unset, .unset] [(.int (0 : Int32))])) _
  refine own_by (fun _ k => XS.istoreN X1.here hx rfl (hb hby D1_8) rfl (l' := #[.val (.ref r1), .val (.ref r1_1), .val (.int (3 : Int32)), .val (.int (0 : Int32)), .unset]) rfl k) ?_
  refine own_by (fun _ k => XS.iloadN X1.here hx rfl (hb hby D1_9) rfl k) ?_
  refine own_by (fun _ k => XS.iloadN X1.here hx rfl (hb hby D1_10) rfl k) ?_
  refine own_by (fun _ k => XS.icmpNo X1.here hx rfl (hb hby D1_11) rfl (tlt (by decide : (0 : Int32) < (3 : Int32))).2.1 k) ?_
  show own_Go p e below (T1.setTop (mkF m 14 #[.val (.ref r1), .val (.ref r1_1), .val (.int (3 : Int32)), .val (.int (0 : Int32)), .unset] [])) _
  refine own_by (fun _ k => XS.aloadN X1.here hx rfl (hb hby D1_14) rfl rfl k) ?_
  refine own_by (fun _ k => XS.iloadN X1.here hx rfl (hb hby D1_15) rfl k) ?_
  obtain ⟨cl3, Ar3, q3, S3, M3, H3, G3⟩ := (id g1_0)
  have hin3 : ¬ ((0 : Int32) < 0 ∨ cl3.slots.size ≤ ((0 : Int32)).toNatClampNeg) := inb_of S3 ⟨by decide, by decide⟩
  refine own_by (X1.aaload hx (j := (0 : Int32)) (v := (.ref a_LIVE)) Ar3.1 (State.isArrayOf_alike hZ.alike Ar3.2.1) rfl Ar3.2.2 hin3 (H3.at hin3 rfl) (g := (mkF m 16 #[.val (.ref r1), .val (.ref r1_1), .val (.int (3 : Int32)), .val (.int (0 : Int32)), .unset] [(.int (0 : Int32)), (.ref r1_1)])) rfl rfl (hb hby D1_16)) ?_
  refine own_by (fun _ k => XS.astore X1.here hx rfl (hb hby D1_17) rfl rfl (l' := #[.val (.ref r1), .val (.ref r1_1), .val (.int (3 : Int32)), .val (.int (0 : Int32)), .val (.ref a_LIVE)]) rfl k) ?_
  refine own_by (fun _ k => XS.aload X1.here hx rfl (hb hby D1_19) rfl rfl k) ?_
  have O4 : Old Z n0 T1.heap := (O0.keep K1 all0)
  have fc5 : Fld Z T1.heap a_LIVE s2_ "label" s10_ (.ref l_LIVE) := F_LIVE.ext O4.2
  obtain ⟨T6, X6, e6, st6⟩ := getF X1 hx hZ hown (host := "") (Or.inl (own_w hw 24 rfl)) Via.refl rfl fc5 (g := (mkF m 21 #[.val (.ref r1), .val (.ref r1_1), .val (.int (3 : Int32)), .val (.int (0 : Int32)), .val (.ref a_LIVE)] [(.ref a_LIVE)])) rfl rfl (hb hby D1_21)
  refine own_by st6 ?_
  show own_Go p e below (T6.setTop (mkF m 24 #[.val (.ref r1), .val (.ref r1_1), .val (.int (3 : Int32)), .val (.int (0 : Int32)), .val (.ref a_LIVE)] [(.ref l_LIVE)])) _
  refine own_by (fun _ k => XS.aloadN X6.here hx rfl (hb hby D1_24) rfl rfl k) ?_
  have fc7 : Exa Z T1.heap l_LIVE s11_ := Es_LIVE.ext O4.2
  have fc8 : Fld Z T1.heap l_LIVE s11_ "coder" "B" (.int (0 : Int32)) := Fc_LIVE.ext O4.2
  have fc9 : Fld Z T1.heap l_LIVE s11_ "value" "[B" (.ref b_LIVE) := Fv_LIVE.ext O4.2
  have fc10 : Arv Z T1.heap b_LIVE kb_LIVE .byte (4 : Int32) [(.int (108 : Int32)), (.int (105 : Int32)), (.int (118 : Int32)), (.int (101 : Int32))] (.int (0 : Int32)) := V_LIVE.ext O4.2
  have fc11 : Exa Z T1.heap r1 s11_ := (Er.keep K1)
  have fc12 : Fld Z T1.heap r1 s11_ "coder" "B" (.int (0 : Int32)) := (Fc.keep K1 nin0)
  have fc13 : Fld Z T1.heap r1 s11_ "value" "[B" (.ref b) := (Fv.keep K1 nin0)
  have fc14 : Arv Z T1.heap b kb .byte (4 : Int32) [(.int d1), (.int d2), (.int d3), (.int d4)] (.int (0 : Int32)) := (Vb.keep K1 nin0)
  obtain ⟨cq15, kq15, q15a, q15b, q15c⟩ := isOf hZ e6 fc7
  obtain ⟨_, _, ⟨T15, L15, k15, n15⟩, -, X15, ⟨Lc15, hQ15, l15, y15, z15⟩, st15⟩ := X6.virtualBack hx (y := (⟨s11_, "equals", s12_⟩ : MethodName)) (z := (⟨s11_, "equals", s12_⟩ : MethodName)) hown (mvT hZ (own_w hw 26 rfl)) (mvT hZ (own_w hw 27 rfl)) (notFace_of_selects (args := #[]) (mvT hZ (own_w hw 29 rfl))) (mvT hZ (own_w hw 29 rfl)) (mvT hZ (own_w hw 28 rfl)) (by decide) (backOf (W := 0) (rm_eq_4_4 l Z a0 hw [] l_LIVE r1 b_LIVE b kb_LIVE kb cs (108 : Int32) (105 : Int32) (118 : Int32) (101 : Int32) d1 d2 d3 d4 T1.heap n0 O4 S_COMPACT fc7 fc8 fc9 fc10 fc11 fc12 fc13 fc14 hcs (own_old_ne Es_LIVE O0 gr)) hZ (own_w hw 31 rfl) (own_w hw 30 rfl) (by decide) (by decide)) q15a q15c (g := (mkF m 25 #[.val (.ref r1), .val (.ref r1_1), .val (.int (3 : Int32)), .val (.int (0 : Int32)), .val (.ref a_LIVE)] [(.ref r1), (.ref l_LIVE)])) rfl (by rw [hml]; rfl) (Steps.refl _) (argsL := [(.ref r1)]) (rest := []) (lenOf own_pd__28Ljava_2flang_2fObject_3b_29Z rfl) rfl (by show 2 * 0 + _ ≤ _; exact Nat.le_of_eq rfl) (hb hby D1_25) (fun _ _ => ⟨rfl, e6, (by decide : 1 + 0 ≤ _), (by decide : 3 + 0 ≤ _)⟩)
  dsimp only [Pt.U, Pt.locs, Pt.cells, Pt.slots] at X15 l15 y15 z15 st15 hQ15
  subst l15 y15 z15
  obtain ⟨rfl, M15, K15⟩ := hQ15
  have N15 := Fr.app N1 M15
  refine own_by (fun _ k => st15.trans k) ?_
  refine own_by (fun _ k => XS.ifYes X15.here hx rfl (pc0 := 28) (pc' := 34) rfl (hb hby D1_28) rfl ((if0 _ _).trans (teq hl_LIVE).1) (by decide) (by decide) k) ?_
  show own_Go p e below (T15.setTop (mkF m 34 #[.val (.ref r1), .val (.ref r1_1), .val (.int (3 : Int32)), .val (.int (0 : Int32)), .val (.ref a_LIVE)] [])) _
  refine own_by (fun _ k => XS.iinc X15.here hx rfl (hb hby D1_34) rfl (l' := #[.val (.ref r1), .val (.ref r1_1), .val (.int (3 : Int32)), .val (.int (1 : Int32)), .val (.ref a_LIVE)]) rfl k) ?_
  refine own_by (fun _ k => XS.goto X15.here hx rfl (pc0 := 37) (pc' := 9) rfl (hb hby D1_37) (by decide) (by decide) k) ?_
  refine own_by (fun _ k => XS.iloadN X15.here hx rfl (hb hby D1_9) rfl k) ?_
  refine own_by (fun _ k => XS.iloadN X15.here hx rfl (hb hby D1_10) rfl k) ?_
  refine own_by (fun _ k => XS.icmpNo X15.here hx rfl (hb hby D1_11) rfl (tlt (by decide : (1 : Int32) < (3 : Int32))).2.1 k) ?_
  show own_Go p e below (T15.setTop (mkF m 14 #[.val (.ref r1), .val (.ref r1_1), .val (.int (3 : Int32)), .val (.int (1 : Int32)), .val (.ref a_LIVE)] [])) _
  refine own_by (fun _ k => XS.aloadN X15.here hx rfl (hb hby D1_14) rfl rfl k) ?_
  refine own_by (fun _ k => XS.iloadN X15.here hx rfl (hb hby D1_15) rfl k) ?_
  obtain ⟨cl16, Ar16, q16, S16, M16, H16, G16⟩ := (id g1_0)
  have hin16 : ¬ ((1 : Int32) < 0 ∨ cl16.slots.size ≤ ((1 : Int32)).toNatClampNeg) := inb_of S16 ⟨by decide, by decide⟩
  refine own_by (X15.aaload hx (j := (1 : Int32)) (v := (.ref a_TEST)) (by rw [K15]; exact Ar16.1) (State.isArrayOf_alike hZ.alike Ar16.2.1) rfl Ar16.2.2 hin16 (H16.at hin16 rfl) (g := (mkF m 16 #[.val (.ref r1), .val (.ref r1_1), .val (.int (3 : Int32)), .val (.int (1 : Int32)), .val (.ref a_LIVE)] [(.int (1 : Int32)), (.ref r1_1)])) rfl rfl (hb hby D1_16)) ?_
  refine own_by (fun _ k => XS.astore X15.here hx rfl (hb hby D1_17) rfl rfl (l' := #[.val (.ref r1), .val (.ref r1_1), .val (.int (3 : Int32)), .val (.int (1 : Int32)), .val (.ref a_TEST)]) rfl k) ?_
  refine own_by (fun _ k => XS.aload X15.here hx rfl (hb hby D1_19) rfl rfl k) ?_
  have fc17 : Fld Z T1.heap a_TEST s2_ "label" s10_ (.ref l_TEST) := F_TEST.ext O4.2
  obtain ⟨T18, X18, e18, st18⟩ := getF X15 hx hZ hown (host := "") (Or.inl (own_w hw 24 rfl)) Via.refl K15 fc17 (g := (mkF m 21 #[.val (.ref r1), .val (.ref r1_1), .val (.int (3 : Int32)), .val (.int (1 : Int32)), .val (.ref a_TEST)] [(.ref a_TEST)])) rfl rfl (hb hby D1_21)
  refine own_by st18 ?_
  show own_Go p e below (T18.setTop (mkF m 24 #[.val (.ref r1), .val (.ref r1_1), .val (.int (3 : Int32)), .val (.int (1 : Int32)), .val (.ref a_TEST)] [(.ref l_TEST)])) _
  refine own_by (fun _ k => XS.aloadN X18.here hx rfl (hb hby D1_24) rfl rfl k) ?_
  have fc19 : Exa Z T1.heap l_TEST s11_ := Es_TEST.ext O4.2
  have fc20 : Fld Z T1.heap l_TEST s11_ "coder" "B" (.int (0 : Int32)) := Fc_TEST.ext O4.2
  have fc21 : Fld Z T1.heap l_TEST s11_ "value" "[B" (.ref b_TEST) := Fv_TEST.ext O4.2
  have fc22 : Arv Z T1.heap b_TEST kb_TEST .byte (4 : Int32) [(.int (116 : Int32)), (.int (101 : Int32)), (.int (115 : Int32)), (.int (116 : Int32))] (.int (0 : Int32)) := V_TEST.ext O4.2
  obtain ⟨cq23, kq23, q23a, q23b, q23c⟩ := isOf hZ e18 fc19
  obtain ⟨_, _, ⟨T23, L23, k23, n23⟩, -, X23, ⟨Lc23, hQ23, l23, y23, z23⟩, st23⟩ := X18.virtualBack hx (y := (⟨s11_, "equals", s12_⟩ : MethodName)) (z := (⟨s11_, "equals", s12_⟩ : MethodName)) hown (mvT hZ (own_w hw 26 rfl)) (mvT hZ (own_w hw 27 rfl)) (notFace_of_selects (args := #[]) (mvT hZ (own_w hw 29 rfl))) (mvT hZ (own_w hw 29 rfl)) (mvT hZ (own_w hw 28 rfl)) (by decide) (backOf (W := 0) (rm_eq_4_4 l Z a0 hw [] l_TEST r1 b_TEST b kb_TEST kb cs (116 : Int32) (101 : Int32) (115 : Int32) (116 : Int32) d1 d2 d3 d4 T1.heap n0 O4 S_COMPACT fc19 fc20 fc21 fc22 fc11 fc12 fc13 fc14 hcs (own_old_ne Es_TEST O0 gr)) hZ (own_w hw 31 rfl) (own_w hw 30 rfl) (by decide) (by decide)) q23a q23c (g := (mkF m 25 #[.val (.ref r1), .val (.ref r1_1), .val (.int (3 : Int32)), .val (.int (1 : Int32)), .val (.ref a_TEST)] [(.ref r1), (.ref l_TEST)])) rfl (by rw [hml]; rfl) (Steps.refl _) (argsL := [(.ref r1)]) (rest := []) (lenOf own_pd__28Ljava_2flang_2fObject_3b_29Z rfl) rfl (by show 2 * 0 + _ ≤ _; exact Nat.le_of_eq rfl) (hb hby D1_25) (fun _ _ => ⟨rfl, e18, (by decide : 1 + 0 ≤ _), (by decide : 3 + 0 ≤ _)⟩)
  dsimp only [Pt.U, Pt.locs, Pt.cells, Pt.slots] at X23 l23 y23 z23 st23 hQ23
  subst l23 y23 z23
  obtain ⟨rfl, M23, K23⟩ := hQ23
  have N23 := Fr.app N15 M23
  refine own_by (fun _ k => st23.trans k) ?_
  refine own_by (fun _ k => XS.ifYes X23.here hx rfl (pc0 := 28) (pc' := 34) rfl (hb hby D1_28) rfl ((if0 _ _).trans (teq hl_TEST).1) (by decide) (by decide) k) ?_
  show own_Go p e below (T23.setTop (mkF m 34 #[.val (.ref r1), .val (.ref r1_1), .val (.int (3 : Int32)), .val (.int (1 : Int32)), .val (.ref a_TEST)] [])) _
  refine own_by (fun _ k => XS.iinc X23.here hx rfl (hb hby D1_34) rfl (l' := #[.val (.ref r1), .val (.ref r1_1), .val (.int (3 : Int32)), .val (.int (2 : Int32)), .val (.ref a_TEST)]) rfl k) ?_
  refine own_by (fun _ k => XS.goto X23.here hx rfl (pc0 := 37) (pc' := 9) rfl (hb hby D1_37) (by decide) (by decide) k) ?_
  refine own_by (fun _ k => XS.iloadN X23.here hx rfl (hb hby D1_9) rfl k) ?_
  refine own_by (fun _ k => XS.iloadN X23.here hx rfl (hb hby D1_10) rfl k) ?_
  refine own_by (fun _ k => XS.icmpNo X23.here hx rfl (hb hby D1_11) rfl (tlt (by decide : (2 : Int32) < (3 : Int32))).2.1 k) ?_
  show own_Go p e below (T23.setTop (mkF m 14 #[.val (.ref r1), .val (.ref r1_1), .val (.int (3 : Int32)), .val (.int (2 : Int32)), .val (.ref a_TEST)] [])) _
  refine own_by (fun _ k => XS.aloadN X23.here hx rfl (hb hby D1_14) rfl rfl k) ?_
  refine own_by (fun _ k => XS.iloadN X23.here hx rfl (hb hby D1_15) rfl k) ?_
  obtain ⟨cl24, Ar24, q24, S24, M24, H24, G24⟩ := (id g1_0)
  have hin24 : ¬ ((2 : Int32) < 0 ∨ cl24.slots.size ≤ ((2 : Int32)).toNatClampNeg) := inb_of S24 ⟨by decide, by decide⟩
  refine own_by (X23.aaload hx (j := (2 : Int32)) (v := (.ref a_MANAGEMENT)) (by rw [K23]; exact Ar24.1) (State.isArrayOf_alike hZ.alike Ar24.2.1) rfl Ar24.2.2 hin24 (H24.at hin24 rfl) (g := (mkF m 16 #[.val (.ref r1), .val (.ref r1_1), .val (.int (3 : Int32)), .val (.int (2 : Int32)), .val (.ref a_TEST)] [(.int (2 : Int32)), (.ref r1_1)])) rfl rfl (hb hby D1_16)) ?_
  refine own_by (fun _ k => XS.astore X23.here hx rfl (hb hby D1_17) rfl rfl (l' := #[.val (.ref r1), .val (.ref r1_1), .val (.int (3 : Int32)), .val (.int (2 : Int32)), .val (.ref a_MANAGEMENT)]) rfl k) ?_
  refine own_by (fun _ k => XS.aload X23.here hx rfl (hb hby D1_19) rfl rfl k) ?_
  have fc25 : Fld Z T1.heap a_MANAGEMENT s2_ "label" s10_ (.ref l_MANAGEMENT) := F_MANAGEMENT.ext O4.2
  obtain ⟨T26, X26, e26, st26⟩ := getF X23 hx hZ hown (host := "") (Or.inl (own_w hw 24 rfl)) Via.refl K23 fc25 (g := (mkF m 21 #[.val (.ref r1), .val (.ref r1_1), .val (.int (3 : Int32)), .val (.int (2 : Int32)), .val (.ref a_MANAGEMENT)] [(.ref a_MANAGEMENT)])) rfl rfl (hb hby D1_21)
  refine own_by st26 ?_
  show own_Go p e below (T26.setTop (mkF m 24 #[.val (.ref r1), .val (.ref r1_1), .val (.int (3 : Int32)), .val (.int (2 : Int32)), .val (.ref a_MANAGEMENT)] [(.ref l_MANAGEMENT)])) _
  refine own_by (fun _ k => XS.aloadN X26.here hx rfl (hb hby D1_24) rfl rfl k) ?_
  have fc27 : Exa Z T1.heap l_MANAGEMENT s11_ := Es_MANAGEMENT.ext O4.2
  have fc28 : Fld Z T1.heap l_MANAGEMENT s11_ "coder" "B" (.int (0 : Int32)) := Fc_MANAGEMENT.ext O4.2
  have fc29 : Fld Z T1.heap l_MANAGEMENT s11_ "value" "[B" (.ref b_MANAGEMENT) := Fv_MANAGEMENT.ext O4.2
  have fc30 : Arv Z T1.heap b_MANAGEMENT kb_MANAGEMENT .byte (4 : Int32) [(.int (109 : Int32)), (.int (103 : Int32)), (.int (109 : Int32)), (.int (116 : Int32))] (.int (0 : Int32)) := V_MANAGEMENT.ext O4.2
  obtain ⟨cq31, kq31, q31a, q31b, q31c⟩ := isOf hZ e26 fc27
  obtain ⟨_, _, ⟨T31, L31, k31, n31⟩, -, X31, ⟨Lc31, hQ31, l31, y31, z31⟩, st31⟩ := X26.virtualBack hx (y := (⟨s11_, "equals", s12_⟩ : MethodName)) (z := (⟨s11_, "equals", s12_⟩ : MethodName)) hown (mvT hZ (own_w hw 26 rfl)) (mvT hZ (own_w hw 27 rfl)) (notFace_of_selects (args := #[]) (mvT hZ (own_w hw 29 rfl))) (mvT hZ (own_w hw 29 rfl)) (mvT hZ (own_w hw 28 rfl)) (by decide) (backOf (W := 0) (rm_eq_4_4 l Z a0 hw [] l_MANAGEMENT r1 b_MANAGEMENT b kb_MANAGEMENT kb cs (109 : Int32) (103 : Int32) (109 : Int32) (116 : Int32) d1 d2 d3 d4 T1.heap n0 O4 S_COMPACT fc27 fc28 fc29 fc30 fc11 fc12 fc13 fc14 hcs (own_old_ne Es_MANAGEMENT O0 gr)) hZ (own_w hw 31 rfl) (own_w hw 30 rfl) (by decide) (by decide)) q31a q31c (g := (mkF m 25 #[.val (.ref r1), .val (.ref r1_1), .val (.int (3 : Int32)), .val (.int (2 : Int32)), .val (.ref a_MANAGEMENT)] [(.ref r1), (.ref l_MANAGEMENT)])) rfl (by rw [hml]; rfl) (Steps.refl _) (argsL := [(.ref r1)]) (rest := []) (lenOf own_pd__28Ljava_2flang_2fObject_3b_29Z rfl) rfl (by show 2 * 0 + _ ≤ _; exact Nat.le_of_eq rfl) (hb hby D1_25) (fun _ _ => ⟨rfl, e26, (by decide : 1 + 0 ≤ _), (by decide : 3 + 0 ≤ _)⟩)
  dsimp only [Pt.U, Pt.locs, Pt.cells, Pt.slots] at X31 l31 y31 z31 st31 hQ31
  subst l31 y31 z31
  obtain ⟨rfl, M31, K31⟩ := hQ31
  have N31 := Fr.app N23 M31
  refine own_by (fun _ k => st31.trans k) ?_
  refine own_by (fun _ k => XS.ifNo X31.here hx rfl (hb hby D1_28) rfl ((if0 _ _).trans (feq hl_MANAGEMENT).1) k) ?_
  show own_Go p e below (T31.setTop (mkF m 31 #[.val (.ref r1), .val (.ref r1_1), .val (.int (3 : Int32)), .val (.int (2 : Int32)), .val (.ref a_MANAGEMENT)] [])) _
  refine own_by (fun _ k => XS.aload X31.here hx rfl (hb hby D1_31) rfl rfl k) ?_
  have K32 : Keep h0 T1.heap [] := ((Keep.refl h0 []).trans K1 all0)
  obtain ⟨fs, hr, hrun, hended, hW, hsame⟩ := X31.leave (v := some (.ref a_MANAGEMENT)) (fun h => by rw [Bd.returns] at h; cases h)
  refine ⟨_, _, retOut X31 hx Bd.returns (own_narrow_ref (by decide) rfl) (Or.inr (Or.inr (Or.inr (Or.inr ⟨rfl, by decide, rfl⟩)))) (hb hby D1_33) hr, hrun, hended, _, _, rfl, ?_, ⟨_, rfl⟩, hW, hsame.mono (by decide) (by decide)⟩
  show Q_rm_ol4_MANAGEMENT Z r1 b kb cs d1 d2 d3 d4 va kva a_LIVE a_TEST a_MANAGEMENT l_LIVE b_LIVE kb_LIVE l_TEST b_TEST kb_TEST l_MANAGEMENT b_MANAGEMENT kb_MANAGEMENT h0 n0 _ T31.heap _
  rw [K31]
  exact ⟨rfl, N31, K32⟩
theorem D4_0 : decode method_3_code 0 = .ok (.iload_n 1, 1) := by decide +kernel
theorem D4_1 : decode method_3_code 1 = .ok (.ifCond .ne 14, 3) := by decide +kernel
theorem D4_4 : decode method_3_code 4 = .ok (.new 30, 3) := by decide +kernel
theorem D4_7 : decode method_3_code 7 = .ok (.dup, 1) := by decide +kernel
theorem D4_8 : decode method_3_code 8 = .ok (.iconst 0, 1) := by decide +kernel
theorem D4_9 : decode method_3_code 9 = .ok (.newarray .char, 2) := by decide +kernel
theorem D4_11 : decode method_3_code 11 = .ok (.invokespecial 32, 3) := by decide +kernel
theorem D4_14 : decode method_3_code 14 = .ok (.areturn, 1) := by decide +kernel
def Q_rm_pre0 (Z : State) (bf : Addr) (kf : ClassId) (cs : Int32) (u1a : Int32) (u2a : Int32) (u3a : Int32) (u4a : Int32) (u5a : Int32) (h0 : Heap) (n0 : Nat) (v : Option Value) (h : Heap) (L : List Loc) : Prop := ∃ (r1 : Addr), ∃ (b : Addr), ∃ (kb : ClassId), v = some (.ref r1) ∧ Fr n0 L ∧ Keep h0 h [] ∧ Exa Z h r1 s11_ ∧ Fld Z h r1 s11_ "coder" "B" (.int (0 : Int32)) ∧ Fld Z h r1 s11_ "value" "[B" (.ref b) ∧ Arv Z h b kb .byte (0 : Int32) [] (.int (0 : Int32)) ∧ h0.size ≤ r1
theorem ef_rm_pre0 (m : MethodId) (bf : Addr) (kf : ClassId) (cs : Int32) (u1a : Int32) (u2a : Int32) (u3a : Int32) (u4a : Int32) (u5a : Int32) : entryFrame m #[(.ref bf), (.int (0 : Int32))] 3 = mkF m 0 #[.val (.ref bf), .val (.int (0 : Int32)), .unset] [] := by first | (simp [entryFrame, mkF, argsToLocals, Value.category]; done) | rfl
set_option maxRecDepth 65536 in
set_option maxHeartbeats 40000000 in
theorem rm_pre0 (l : Launch) (Z : State) (a0 : Array Value) (hw : ∀ d ∈ tables_1, d.before a0 Z = true) (ws : List Jvm.Cond) (bf : Addr) (kf : ClassId) (cs : Int32) (u1a : Int32) (u2a : Int32) (u3a : Int32) (u4a : Int32) (u5a : Int32) (h0 : Heap) (n0 : Nat) (O0 : Old Z n0 h0) (hEL : EW Z a0 own_EL) (S_COMPACT : Sta Z Z.heap s11_ s15_ "Z" (.int cs)) (Vf : Arv Z h0 bf kf .char (5 : Int32) [(.int (u1a &&& (255 : Int32))), (.int (u2a &&& (255 : Int32))), (.int (u3a &&& (255 : Int32))), (.int (u4a &&& (255 : Int32))), (.int (u5a &&& (255 : Int32)))] (.int (0 : Int32))) (hcs : ¬ (cs = (0 : Int32))) :
    MetFree l (⟨s1_, "prefix", s13_⟩ : MethodName) (head1 (Jvm.Cond.code (⟨s1_, "prefix", s13_⟩ : MethodName) method_3_code 3 (some (.object s11_)) :: ws) ({ frames := 3, cells := 6, slots := 12, locals := 43 } : Room)) (fun a U => a = #[(.ref bf), (.int (0 : Int32))] ∧ Z.Warmed39 U.vm ∧ U.heap = h0 ∧ CHv Z own_EL U.vm h0) (fun _ _ _ _ _ => True) (fun _ U o U' => ∃ v L, o = .returned v ∧ Q_rm_pre0 Z bf kf cs u1a u2a u3a u4a u5a h0 n0 v U'.heap L ∧ CHr Z own_EL U.vm U.heap U'.vm U'.heap ∧ ReturnedEndW U o U' L ({ frames := 3, cells := 6, slots := 12, locals := 43 } : Room).cells ({ frames := 3, cells := 6, slots := 12, locals := 43 } : Room).slots) := by
  refine MetFree.of_bodySF (plainFor_of_name own_pn_com_example_ostiarius_ostiarius_key_KeyKindOfLabelPinLaw) hisR ?_
  intro p e s m args below meth c s₁ Bd hml0 hP hK
  obtain ⟨rfl, hZ, hh, hC⟩ := hP
  have hx := Bd.exec
  have hby := Bd.bytes
  have hml : c.maxLocals = 3 := hml0
  have hown : s.vm.findClass s1_ = some m.cls := findClass_of_methodNamed Bd.named
  have hnm := (name_of_methodNamed Bd.named Bd.method).1
  have X0 : Stand p l e ({ frames := 3, cells := 6, slots := 12, locals := 43 } : Room) (s.setVm s.vm) m #[(.ref bf), (.int (0 : Int32))] below meth c s₁ [] 0 0 := Stand.of_body Bd
  have S0 : s.Since s.vm h0.size := (State.WarmedH.refl s).since _
  have hZ : Z.Warmed39 (s.setVm s.vm).vm := hZ
  have hown : (s.setVm s.vm).vm.findClass s1_ = some m.cls := hown
  have R0 : CHr Z own_EL s.vm h0 s.vm h0 := CHr.refl hC
  have e0 : s₁.heap = h0 := by rw [← hh, Bd.state]; rfl
  have N0 := Fr.nil n0
  have Z0 : n0 ≤ h0.size := by rw [← O0.1]; exact O0.2.1
  show own_Go p e below (s₁.setTop (entryFrame m #[(.ref bf), (.int (0 : Int32))] 3)) (fun t o => ∃ v L, o = .returned v ∧ Q_rm_pre0 Z bf kf cs u1a u2a u3a u4a u5a h0 n0 v t.heap L ∧ CHr Z own_EL s.vm s.heap t.vm t.heap ∧ ReturnedEndW s o t L ({ frames := 3, cells := 6, slots := 12, locals := 43 } : Room).cells ({ frames := 3, cells := 6, slots := 12, locals := 43 } : Room).slots)
  rw [ef_rm_pre0 m bf kf cs u1a u2a u3a u4a u5a]
  have lt_Vf : h0.size > bf := Vf.lt
  refine own_by (fun _ k => XS.iloadN X0.here hx rfl (hb hby D4_0) rfl k) ?_
  refine own_by (fun _ k => XS.ifNo X0.here hx rfl (hb hby D4_1) rfl ((if0 _ _).trans (teq (by decide : (0 : Int32) = (0 : Int32))).2) k) ?_
  show own_Go p e below (s₁.setTop (mkF m 4 #[.val (.ref bf), .val (.int (0 : Int32)), .unset] [])) _
  obtain ⟨T1, h1, X1, e1, E1, A1, D1, U1, st1⟩ := newO X0 hx hZ hown (own_w hw 36 rfl) (own_w hw 37 rfl) (own_w hw 30 rfl) e0 (g := (mkF m 4 #[.val (.ref bf), .val (.int (0 : Int32)), .unset] [])) rfl (hb hby D4_4) (by decide) (by decide)
  obtain ⟨ob1, g1⟩ : ∃ z, z = h0.size := ⟨_, rfl⟩
  rw [← g1] at A1 D1 U1 st1
  refine own_by st1 ?_
  have z1 := E1.1
  have lt1 : h1.size > ob1 := A1.lt
  have R1 := R0.trans (CHr.ext E1 R0.1)
  refine own_by (fun _ k => XS.dup X1.here hx rfl (hb hby D4_7) rfl rfl k) ?_
  refine own_by (fun _ k => XS.iconst X1.here hx rfl (hb hby D4_8) k) ?_
  obtain ⟨T2, h2, k2, X2, e2, E2, A2, st2⟩ := newP X1 hx hZ (own_w hw 0 rfl) e1 (g := (mkF m 9 #[.val (.ref bf), .val (.int (0 : Int32)), .unset] [(.int (0 : Int32)), (.ref ob1), (.ref ob1)])) rfl (hb hby D4_9) rfl (by decide) (cap := 0) (by decide) (by decide) (by decide) (by decide)
  obtain ⟨ob2, g2⟩ : ∃ z, z = h1.size := ⟨_, rfl⟩
  rw [← g2] at A2 st2
  refine own_by st2 ?_
  have z2 := E2.1
  have R2 := R1.trans (CHr.ext E2 R1.1)
  have Vw2 : Arv Z h2 ob2 k2 .char (0 : Int32) [] (.int (0 : Int32)) := Arv.new A2 (by decide)
  have lt2 : h2.size > ob2 := Vw2.lt
  have fc3 : Exa Z h2 ob1 s11_ := (A1.ext E2)
  have fc4 : Fld Z h2 ob1 s11_ "value" "[B" .null := ((show Fld Z h1 ob1 s11_ "value" "[B" .null from D1 (Or.inr (own_w hw 63 rfl)) (ty := (.array .byte)) (by decide)).ext E2)
  have fc5 : Fld Z h2 ob1 s11_ "coder" "B" (.int (0 : Int32)) := ((show Fld Z h1 ob1 s11_ "coder" "B" (.int (0 : Int32)) from D1 (Or.inr (own_w hw 61 rfl)) (ty := .byte) (by decide)).ext E2)
  have O6 : Old Z n0 h2 := ((O0.ext E1).ext E2)
  obtain ⟨_, _, ⟨T7, L7, k7, n7⟩, -, X7, S'7, gr7, ⟨Lc7, hQ7, l7, y7, z7, C7⟩, st7⟩ := X2.specialBackS hx (y := (⟨s11_, "<init>", "([C)V"⟩ : MethodName)) rfl hown (mvT hZ (own_w hw 38 rfl)) (mvT hZ (own_w hw 39 rfl)) (mvT hZ (own_w hw 40 rfl)) (by decide) (backOfSH (W := 1) (rm_sinit_0 l Z a0 hw [] ob1 ob2 k2 h2 n0 O6 hEL fc3 fc4 fc5 Vw2 (by first | assumption | omega | decide)) hZ (own_w hw 40 rfl) (own_w hw 30 rfl) (by decide) (by decide) hEL R2.1) (g := (mkF m 11 #[.val (.ref bf), .val (.int (0 : Int32)), .unset] [(.ref ob2), (.ref ob1), (.ref ob1)])) rfl (by rw [hml]; rfl) (Steps.refl _) (a := ob1) (argsL := [(.ref ob2)]) (rest := [(.ref ob1)]) (lenOf own_pd__28_5bC_29V rfl) rfl (by show 2 * 0 + _ ≤ _; exact Nat.le_of_eq rfl) (hb hby D4_11) (fun _ _ => ⟨rfl, e2, (by decide : 2 + 4 ≤ _), (by decide : 4 + 8 ≤ _)⟩)
  dsimp only [Pt.U, Pt.locs, Pt.cells, Pt.slots] at X7 l7 y7 z7 st7 hQ7 S'7 gr7 C7
  subst l7 y7 z7
  obtain ⟨X7, S7, hZ7, ho7⟩ := rebS S0 (by first | omega | (rw [e2]; omega)) X7 S'7 gr7 hZ hown
  obtain ⟨b_7, kb_7, rfl, M7, K7, g7_0, g7_1, g7_2, g7_3⟩ := hQ7
  have N7 := Fr.app N0 M7
  refine own_by (fun _ k => st7.trans k) ?_
  have R7 := R2.trans C7
  have z7 := K7.1
  have lt_g7_0 : T7.heap.size > ob1 := g7_0.lt
  have lt_g7_1 : T7.heap.size > ob1 := g7_1.lt
  have lt_g7_2 : T7.heap.size > ob1 := g7_2.lt
  have lt_g7_3 : T7.heap.size > b_7 := g7_3.lt
  have K8 : Keep h0 T7.heap [] := ((((Keep.refl h0 []).ext E1).ext E2).trans K7 (allS (P := fun x => x ∈ [] ∨ h0.size ≤ x) (Or.inr (by omega)) all0))
  obtain ⟨fs, hr, hrun, hended, hW⟩ := X7.leaveW S7 (by first | omega | (rw [e0]; omega)) (v := some (.ref ob1)) (fun h => by rw [Bd.returns] at h; cases h)
  have RR := R7.trans (CHv.at X7 hZ7 hEL R7.1)
  have RR' : CHr Z own_EL s.vm s.heap T7.vm T7.heap := by rw [hh]; exact RR
  refine ⟨_, _, retOut X7 hx Bd.returns (own_narrow_ref (by decide) rfl) (Or.inr (Or.inr (Or.inr (Or.inr ⟨rfl, by decide, rfl⟩)))) (hb hby D4_14) hr, hrun, hended, _, _, rfl, ?_, RR', ⟨_, rfl⟩, hW.2.1, hW.2.2.1, hW.2.2.2.mono (by decide) (by decide)⟩
  show Q_rm_pre0 Z bf kf cs u1a u2a u3a u4a u5a h0 n0 _ T7.heap _
  exact ⟨ob1, b_7, kb_7, rfl, N7, K8, g7_0, g7_1, g7_2, g7_3, (by first | assumption | omega)⟩
theorem D4_15 : decode method_3_code 15 = .ok (.iload_n 1, 1) := by decide +kernel
theorem D4_16 : decode method_3_code 16 = .ok (.iconst 1, 1) := by decide +kernel
theorem D4_17 : decode method_3_code 17 = .ok (.if_icmp .ne 22, 3) := by decide +kernel
theorem D4_20 : decode method_3_code 20 = .ok (.iconst 1, 1) := by decide +kernel
theorem D4_21 : decode method_3_code 21 = .ok (.newarray .char, 2) := by decide +kernel
theorem D4_23 : decode method_3_code 23 = .ok (.astore_n 2, 1) := by decide +kernel
theorem D4_24 : decode method_3_code 24 = .ok (.aload_n 2, 1) := by decide +kernel
theorem D4_25 : decode method_3_code 25 = .ok (.iconst 0, 1) := by decide +kernel
theorem D4_26 : decode method_3_code 26 = .ok (.aload_n 0, 1) := by decide +kernel
theorem D4_27 : decode method_3_code 27 = .ok (.iconst 0, 1) := by decide +kernel
theorem D4_28 : decode method_3_code 28 = .ok (.caload, 1) := by decide +kernel
theorem D4_29 : decode method_3_code 29 = .ok (.castore, 1) := by decide +kernel
theorem D4_30 : decode method_3_code 30 = .ok (.new 30, 3) := by decide +kernel
theorem D4_33 : decode method_3_code 33 = .ok (.dup, 1) := by decide +kernel
theorem D4_34 : decode method_3_code 34 = .ok (.aload_n 2, 1) := by decide +kernel
theorem D4_35 : decode method_3_code 35 = .ok (.invokespecial 32, 3) := by decide +kernel
theorem D4_38 : decode method_3_code 38 = .ok (.areturn, 1) := by decide +kernel
def Q_rm_pre1 (Z : State) (bf : Addr) (kf : ClassId) (cs : Int32) (u1a : Int32) (u2a : Int32) (u3a : Int32) (u4a : Int32) (u5a : Int32) (h0 : Heap) (n0 : Nat) (v : Option Value) (h : Heap) (L : List Loc) : Prop := ∃ (r1 : Addr), ∃ (b : Addr), ∃ (kb : ClassId), v = some (.ref r1) ∧ Fr n0 L ∧ Keep h0 h [] ∧ Exa Z h r1 s11_ ∧ Fld Z h r1 s11_ "coder" "B" (.int (0 : Int32)) ∧ Fld Z h r1 s11_ "value" "[B" (.ref b) ∧ Arv Z h b kb .byte (1 : Int32) [(.int (own_b (u1a &&& (255 : Int32))))] (.int (0 : Int32)) ∧ h0.size ≤ r1
theorem ef_rm_pre1 (m : MethodId) (bf : Addr) (kf : ClassId) (cs : Int32) (u1a : Int32) (u2a : Int32) (u3a : Int32) (u4a : Int32) (u5a : Int32) : entryFrame m #[(.ref bf), (.int (1 : Int32))] 3 = mkF m 0 #[.val (.ref bf), .val (.int (1 : Int32)), .unset] [] := by first | (simp [entryFrame, mkF, argsToLocals, Value.category]; done) | rfl
set_option maxRecDepth 65536 in
set_option maxHeartbeats 40000000 in
theorem rm_pre1 (l : Launch) (Z : State) (a0 : Array Value) (hw : ∀ d ∈ tables_1, d.before a0 Z = true) (ws : List Jvm.Cond) (bf : Addr) (kf : ClassId) (cs : Int32) (u1a : Int32) (u2a : Int32) (u3a : Int32) (u4a : Int32) (u5a : Int32) (h0 : Heap) (n0 : Nat) (O0 : Old Z n0 h0) (hEL : EW Z a0 own_EL) (S_COMPACT : Sta Z Z.heap s11_ s15_ "Z" (.int cs)) (Vf : Arv Z h0 bf kf .char (5 : Int32) [(.int (u1a &&& (255 : Int32))), (.int (u2a &&& (255 : Int32))), (.int (u3a &&& (255 : Int32))), (.int (u4a &&& (255 : Int32))), (.int (u5a &&& (255 : Int32)))] (.int (0 : Int32))) (hcs : ¬ (cs = (0 : Int32))) :
    MetFree l (⟨s1_, "prefix", s13_⟩ : MethodName) (head1 (Jvm.Cond.code (⟨s1_, "prefix", s13_⟩ : MethodName) method_3_code 3 (some (.object s11_)) :: ws) ({ frames := 4, cells := 3, slots := 6, locals := 66 } : Room)) (fun a U => a = #[(.ref bf), (.int (1 : Int32))] ∧ Z.Warmed39 U.vm ∧ U.heap = h0 ∧ CHv Z own_EL U.vm h0) (fun _ _ _ _ _ => True) (fun _ U o U' => ∃ v L, o = .returned v ∧ Q_rm_pre1 Z bf kf cs u1a u2a u3a u4a u5a h0 n0 v U'.heap L ∧ CHr Z own_EL U.vm U.heap U'.vm U'.heap ∧ ReturnedEndW U o U' L ({ frames := 4, cells := 3, slots := 6, locals := 66 } : Room).cells ({ frames := 4, cells := 3, slots := 6, locals := 66 } : Room).slots) := by
  refine MetFree.of_bodySF (plainFor_of_name own_pn_com_example_ostiarius_ostiarius_key_KeyKindOfLabelPinLaw) hisR ?_
  intro p e s m args below meth c s₁ Bd hml0 hP hK
  obtain ⟨rfl, hZ, hh, hC⟩ := hP
  have hx := Bd.exec
  have hby := Bd.bytes
  have hml : c.maxLocals = 3 := hml0
  have hown : s.vm.findClass s1_ = some m.cls := findClass_of_methodNamed Bd.named
  have hnm := (name_of_methodNamed Bd.named Bd.method).1
  have X0 : Stand p l e ({ frames := 4, cells := 3, slots := 6, locals := 66 } : Room) (s.setVm s.vm) m #[(.ref bf), (.int (1 : Int32))] below meth c s₁ [] 0 0 := Stand.of_body Bd
  have S0 : s.Since s.vm h0.size := (State.WarmedH.refl s).since _
  have hZ : Z.Warmed39 (s.setVm s.vm).vm := hZ
  have hown : (s.setVm s.vm).vm.findClass s1_ = some m.cls := hown
  have R0 : CHr Z own_EL s.vm h0 s.vm h0 := CHr.refl hC
  have e0 : s₁.heap = h0 := by rw [← hh, Bd.state]; rfl
  have N0 := Fr.nil n0
  have Z0 : n0 ≤ h0.size := by rw [← O0.1]; exact O0.2.1
  show own_Go p e below (s₁.setTop (entryFrame m #[(.ref bf), (.int (1 : Int32))] 3)) (fun t o => ∃ v L, o = .returned v ∧ Q_rm_pre1 Z bf kf cs u1a u2a u3a u4a u5a h0 n0 v t.heap L ∧ CHr Z own_EL s.vm s.heap t.vm t.heap ∧ ReturnedEndW s o t L ({ frames := 4, cells := 3, slots := 6, locals := 66 } : Room).cells ({ frames := 4, cells := 3, slots := 6, locals := 66 } : Room).slots)
  rw [ef_rm_pre1 m bf kf cs u1a u2a u3a u4a u5a]
  have lt_Vf : h0.size > bf := Vf.lt
  refine own_by (fun _ k => XS.iloadN X0.here hx rfl (hb hby D4_0) rfl k) ?_
  refine own_by (fun _ k => XS.ifYes X0.here hx rfl (pc0 := 1) (pc' := 15) rfl (hb hby D4_1) rfl ((if0 _ _).trans (feq (by decide : ¬ ((1 : Int32) = (0 : Int32)))).2) (by decide) (by decide) k) ?_
  show own_Go p e below (s₁.setTop (mkF m 15 #[.val (.ref bf), .val (.int (1 : Int32)), .unset] [])) _
  refine own_by (fun _ k => XS.iloadN X0.here hx rfl (hb hby D4_15) rfl k) ?_
  refine own_by (fun _ k => XS.iconst X0.here hx rfl (hb hby D4_16) k) ?_
  refine own_by (fun _ k => XS.icmpNo X0.here hx rfl (hb hby D4_17) rfl (teq (by decide : (1 : Int32) = (1 : Int32))).2 k) ?_
  show own_Go p e below (s₁.setTop (mkF m 20 #[.val (.ref bf), .val (.int (1 : Int32)), .unset] [])) _
  refine own_by (fun _ k => XS.iconst X0.here hx rfl (hb hby D4_20) k) ?_
  obtain ⟨T1, h1, k1, X1, e1, E1, A1, st1⟩ := newP X0 hx hZ (own_w hw 0 rfl) e0 (g := (mkF m 21 #[.val (.ref bf), .val (.int (1 : Int32)), .unset] [(.int (1 : Int32))])) rfl (hb hby D4_21) rfl (by decide) (cap := 1) (by decide) (by decide) (by decide) (by decide)
  obtain ⟨ob1, g1⟩ : ∃ z, z = h0.size := ⟨_, rfl⟩
  rw [← g1] at A1 st1
  refine own_by st1 ?_
  have z1 := E1.1
  have R1 := R0.trans (CHr.ext E1 R0.1)
  have Vw1 : Arv Z h1 ob1 k1 .char (1 : Int32) [] (.int (0 : Int32)) := Arv.new A1 (by decide)
  have lt1 : h1.size > ob1 := Vw1.lt
  refine own_by (fun _ k => XS.astoreN X1.here hx rfl (hb hby D4_23) rfl rfl (l' := #[.val (.ref bf), .val (.int (1 : Int32)), .val (.ref ob1)]) rfl k) ?_
  refine own_by (fun _ k => XS.aloadN X1.here hx rfl (hb hby D4_24) rfl rfl k) ?_
  refine own_by (fun _ k => XS.iconst X1.here hx rfl (hb hby D4_25) k) ?_
  refine own_by (fun _ k => XS.aloadN X1.here hx rfl (hb hby D4_26) rfl rfl k) ?_
  show own_Go p e below (T1.setTop (mkF m 27 #[.val (.ref bf), .val (.int (1 : Int32)), .val (.ref ob1)] [(.ref bf), (.int (0 : Int32)), (.ref ob1)])) _
  refine own_by (fun _ k => XS.iconst X1.here hx rfl (hb hby D4_27) k) ?_
  have fc2 : Arv Z h1 bf kf .char (5 : Int32) [(.int (u1a &&& (255 : Int32))), (.int (u2a &&& (255 : Int32))), (.int (u3a &&& (255 : Int32))), (.int (u4a &&& (255 : Int32))), (.int (u5a &&& (255 : Int32)))] (.int (0 : Int32)) := (Vf.ext E1)
  obtain ⟨cl3, Ar3, q3, S3, M3, H3, G3⟩ := (id fc2)
  have hin3 : ¬ ((0 : Int32) < 0 ∨ cl3.slots.size ≤ ((0 : Int32)).toNatClampNeg) := inb_of S3 ⟨by decide, by decide⟩
  refine own_by (X1.caload hx (j := (0 : Int32)) (v := (.int (u1a &&& (255 : Int32)))) (by rw [e1]; exact Ar3.1) (State.isArrayOf_alike hZ.alike Ar3.2.1) Ar3.2.2 hin3 (H3.at hin3 rfl) (g := (mkF m 28 #[.val (.ref bf), .val (.int (1 : Int32)), .val (.ref ob1)] [(.int (0 : Int32)), (.ref bf), (.int (0 : Int32)), (.ref ob1)])) rfl rfl (hb hby D4_28)) ?_
  have Vw4 : Arv Z h1 ob1 k1 .char (1 : Int32) [(.int (0 : Int32))] (.int (0 : Int32)) := Vw1.pad (pad_rep [] (.int (0 : Int32)) 1)
  obtain ⟨cl5, Ar5, q5, S5, M5, H5, G5⟩ := (id Vw4)
  have hin5 : ¬ ((0 : Int32) < 0 ∨ cl5.slots.size ≤ ((0 : Int32)).toNatClampNeg) := inb_of S5 ⟨by decide, by decide⟩
  obtain ⟨T5, h5, X5, e5, W5, st5⟩ := stC X1 hx hZ e1 Ar5 (j := (0 : Int32)) hin5 (g := (mkF m 29 #[.val (.ref bf), .val (.int (1 : Int32)), .val (.ref ob1)] [(.int (u1a &&& (255 : Int32))), (.int (0 : Int32)), (.ref ob1)])) rfl rfl (hb hby D4_29)
  refine own_by st5 ?_
  rw [own_mask_c] at W5
  have z5 := W5.size
  have N5 := Fr.snoc X5 N0 (by omega)
  have sw5 : Safe Z own_EL s.vm h1 ob1 := (Safe.arv hZ.alike Vw4 (by decide))
  have sf5_ob1 := Safe.wr W5 sw5 R1.1 sw5
  have R5 := R1.trans (CHr.wr W5 sw5 R1.1)
  have Vw5 : Arv Z h5 ob1 k1 .char (1 : Int32) [(.int (u1a &&& (255 : Int32)))] (.int (0 : Int32)) := Arv.set Ar5 q5 S5 M5 H5 G5 (own_fits_c _) W5 0 rfl (Nat.le_of_ble_eq_true rfl)
  obtain ⟨T6, h6, X6, e6, E6, A6, D6, U6, st6⟩ := newO X5 hx hZ hown (own_w hw 36 rfl) (own_w hw 37 rfl) (own_w hw 30 rfl) e5 (g := (mkF m 30 #[.val (.ref bf), .val (.int (1 : Int32)), .val (.ref ob1)] [])) rfl (hb hby D4_30) (by decide) (by decide)
  obtain ⟨ob6, g6⟩ : ∃ z, z = h5.size := ⟨_, rfl⟩
  rw [← g6] at A6 D6 U6 st6
  refine own_by st6 ?_
  have z6 := E6.1
  have lt6 : h6.size > ob6 := A6.lt
  have sf6_ob1 := Safe.ext E6 R5.1 sf5_ob1
  have R6 := R5.trans (CHr.ext E6 R5.1)
  refine own_by (fun _ k => XS.dup X6.here hx rfl (hb hby D4_33) rfl rfl k) ?_
  refine own_by (fun _ k => XS.aloadN X6.here hx rfl (hb hby D4_34) rfl rfl k) ?_
  show own_Go p e below (T6.setTop (mkF m 35 #[.val (.ref bf), .val (.int (1 : Int32)), .val (.ref ob1)] [(.ref ob1), (.ref ob6), (.ref ob6)])) _
  have fc7 : Arv Z h6 ob1 k1 .char (1 : Int32) [(.int (u1a &&& (255 : Int32)))] (.int (0 : Int32)) := (Vw5.ext E6)
  have O8 : Old Z n0 h6 := (((O0.ext E1).wr W5 (by omega)).ext E6)
  obtain ⟨_, _, ⟨T9, L9, k9, n9⟩, -, X9, ⟨Lc9, hQ9, l9, y9, z9⟩, st9⟩ := X6.specialBack hx (y := (⟨s11_, "<init>", "([C)V"⟩ : MethodName)) rfl hown (mvT hZ (own_w hw 38 rfl)) (mvT hZ (own_w hw 39 rfl)) (mvT hZ (own_w hw 40 rfl)) (by decide) (backOf (W := 1) (rm_sinit_1 l Z a0 hw [] ob6 ob1 k1 cs (u1a &&& (255 : Int32)) h6 n0 O8 S_COMPACT A6 (show Fld Z h6 ob6 s11_ "value" "[B" .null from D6 (Or.inr (own_w hw 63 rfl)) (ty := (.array .byte)) (by decide)) (show Fld Z h6 ob6 s11_ "coder" "B" (.int (0 : Int32)) from D6 (Or.inr (own_w hw 61 rfl)) (ty := .byte) (by decide)) fc7 (own_mask_hi (u1a)) (by first | assumption | omega | decide) hcs (by first | assumption | omega | decide)) hZ (own_w hw 40 rfl) (own_w hw 30 rfl) (by decide) (by decide)) (g := (mkF m 35 #[.val (.ref bf), .val (.int (1 : Int32)), .val (.ref ob1)] [(.ref ob1), (.ref ob6), (.ref ob6)])) rfl (by rw [hml]; rfl) (Steps.refl _) (a := ob6) (argsL := [(.ref ob1)]) (rest := [(.ref ob6)]) (lenOf own_pd__28_5bC_29V rfl) rfl (by show 2 * 0 + _ ≤ _; exact Nat.le_of_eq rfl) (hb hby D4_35) (fun _ _ => ⟨rfl, e6, (by decide : 2 + 1 ≤ _), (by decide : 5 + 1 ≤ _)⟩)
  dsimp only [Pt.U, Pt.locs, Pt.cells, Pt.slots] at X9 l9 y9 z9 st9 hQ9
  subst l9 y9 z9
  obtain ⟨b_9, kb_9, rfl, M9, K9, g9_0, g9_1, g9_2, g9_3, r9_0⟩ := hQ9
  have N9 := Fr.app N5 M9
  refine own_by (fun _ k => st9.trans k) ?_
  have sk9 : ∀ x ∈ ([ob6] : List Addr), Safe Z own_EL s.vm h6 x := (sfS (own_safe_null hZ.alike A6 (show Fld Z h6 ob6 s11_ "value" "[B" .null from D6 (Or.inr (own_w hw 63 rfl)) (ty := (.array .byte)) (by decide))) sf0)
  have sf9_ob1 := Safe.keep K9 sk9 R6.1 sf6_ob1
  have R9 := R6.trans (CHr.keep K9 sk9 R6.1)
  have z9 := K9.1
  have lt_g9_0 : T9.heap.size > ob6 := g9_0.lt
  have lt_g9_1 : T9.heap.size > ob6 := g9_1.lt
  have lt_g9_2 : T9.heap.size > ob6 := g9_2.lt
  have lt_g9_3 : T9.heap.size > b_9 := g9_3.lt
  have K10 : Keep h0 T9.heap [] := (((((Keep.refl h0 []).ext E1).wr W5 (Or.inr (by omega))).ext E6).trans K9 (allS (P := fun x => x ∈ [] ∨ h0.size ≤ x) (Or.inr (by omega)) all0))
  obtain ⟨fs, hr, hrun, hended, hW⟩ := X9.leaveW S0 (by first | omega | (rw [e0]; omega)) (v := some (.ref ob6)) (fun h => by rw [Bd.returns] at h; cases h)
  have RR := R9.trans (CHv.at X9 hZ hEL R9.1)
  have RR' : CHr Z own_EL s.vm s.heap T9.vm T9.heap := by rw [hh]; exact RR
  refine ⟨_, _, retOut X9 hx Bd.returns (own_narrow_ref (by decide) rfl) (Or.inr (Or.inr (Or.inr (Or.inr ⟨rfl, by decide, rfl⟩)))) (hb hby D4_38) hr, hrun, hended, _, _, rfl, ?_, RR', ⟨_, rfl⟩, hW.2.1, hW.2.2.1, hW.2.2.2.mono (by decide) (by decide)⟩
  show Q_rm_pre1 Z bf kf cs u1a u2a u3a u4a u5a h0 n0 _ T9.heap _
  exact ⟨ob6, b_9, kb_9, rfl, N9, K10, g9_0, g9_1, g9_2, g9_3, (by first | assumption | omega)⟩
theorem D4_39 : decode method_3_code 39 = .ok (.iload_n 1, 1) := by decide +kernel
theorem D4_40 : decode method_3_code 40 = .ok (.iconst 2, 1) := by decide +kernel
theorem D4_41 : decode method_3_code 41 = .ok (.if_icmp .ne 28, 3) := by decide +kernel
theorem D4_44 : decode method_3_code 44 = .ok (.iconst 2, 1) := by decide +kernel
theorem D4_45 : decode method_3_code 45 = .ok (.newarray .char, 2) := by decide +kernel
theorem D4_47 : decode method_3_code 47 = .ok (.astore_n 2, 1) := by decide +kernel
theorem D4_48 : decode method_3_code 48 = .ok (.aload_n 2, 1) := by decide +kernel
theorem D4_49 : decode method_3_code 49 = .ok (.iconst 0, 1) := by decide +kernel
theorem D4_50 : decode method_3_code 50 = .ok (.aload_n 0, 1) := by decide +kernel
theorem D4_51 : decode method_3_code 51 = .ok (.iconst 0, 1) := by decide +kernel
theorem D4_52 : decode method_3_code 52 = .ok (.caload, 1) := by decide +kernel
theorem D4_53 : decode method_3_code 53 = .ok (.castore, 1) := by decide +kernel
theorem D4_54 : decode method_3_code 54 = .ok (.aload_n 2, 1) := by decide +kernel
theorem D4_55 : decode method_3_code 55 = .ok (.iconst 1, 1) := by decide +kernel
theorem D4_56 : decode method_3_code 56 = .ok (.aload_n 0, 1) := by decide +kernel
theorem D4_57 : decode method_3_code 57 = .ok (.iconst 1, 1) := by decide +kernel
theorem D4_58 : decode method_3_code 58 = .ok (.caload, 1) := by decide +kernel
theorem D4_59 : decode method_3_code 59 = .ok (.castore, 1) := by decide +kernel
theorem D4_60 : decode method_3_code 60 = .ok (.new 30, 3) := by decide +kernel
theorem D4_63 : decode method_3_code 63 = .ok (.dup, 1) := by decide +kernel
theorem D4_64 : decode method_3_code 64 = .ok (.aload_n 2, 1) := by decide +kernel
theorem D4_65 : decode method_3_code 65 = .ok (.invokespecial 32, 3) := by decide +kernel
theorem D4_68 : decode method_3_code 68 = .ok (.areturn, 1) := by decide +kernel
def Q_rm_pre2 (Z : State) (bf : Addr) (kf : ClassId) (cs : Int32) (u1a : Int32) (u2a : Int32) (u3a : Int32) (u4a : Int32) (u5a : Int32) (h0 : Heap) (n0 : Nat) (v : Option Value) (h : Heap) (L : List Loc) : Prop := ∃ (r1 : Addr), ∃ (b : Addr), ∃ (kb : ClassId), v = some (.ref r1) ∧ Fr n0 L ∧ Keep h0 h [] ∧ Exa Z h r1 s11_ ∧ Fld Z h r1 s11_ "coder" "B" (.int (0 : Int32)) ∧ Fld Z h r1 s11_ "value" "[B" (.ref b) ∧ Arv Z h b kb .byte (2 : Int32) [(.int (own_b (u1a &&& (255 : Int32)))), (.int (own_b (u2a &&& (255 : Int32))))] (.int (0 : Int32)) ∧ h0.size ≤ r1
theorem ef_rm_pre2 (m : MethodId) (bf : Addr) (kf : ClassId) (cs : Int32) (u1a : Int32) (u2a : Int32) (u3a : Int32) (u4a : Int32) (u5a : Int32) : entryFrame m #[(.ref bf), (.int (2 : Int32))] 3 = mkF m 0 #[.val (.ref bf), .val (.int (2 : Int32)), .unset] [] := by first | (simp [entryFrame, mkF, argsToLocals, Value.category]; done) | rfl
set_option maxRecDepth 65536 in
set_option maxHeartbeats 40000000 in
theorem rm_pre2 (l : Launch) (Z : State) (a0 : Array Value) (hw : ∀ d ∈ tables_1, d.before a0 Z = true) (ws : List Jvm.Cond) (bf : Addr) (kf : ClassId) (cs : Int32) (u1a : Int32) (u2a : Int32) (u3a : Int32) (u4a : Int32) (u5a : Int32) (h0 : Heap) (n0 : Nat) (O0 : Old Z n0 h0) (hEL : EW Z a0 own_EL) (S_COMPACT : Sta Z Z.heap s11_ s15_ "Z" (.int cs)) (Vf : Arv Z h0 bf kf .char (5 : Int32) [(.int (u1a &&& (255 : Int32))), (.int (u2a &&& (255 : Int32))), (.int (u3a &&& (255 : Int32))), (.int (u4a &&& (255 : Int32))), (.int (u5a &&& (255 : Int32)))] (.int (0 : Int32))) (hcs : ¬ (cs = (0 : Int32))) :
    MetFree l (⟨s1_, "prefix", s13_⟩ : MethodName) (head1 (Jvm.Cond.code (⟨s1_, "prefix", s13_⟩ : MethodName) method_3_code 3 (some (.object s11_)) :: ws) ({ frames := 4, cells := 3, slots := 8, locals := 66 } : Room)) (fun a U => a = #[(.ref bf), (.int (2 : Int32))] ∧ Z.Warmed39 U.vm ∧ U.heap = h0 ∧ CHv Z own_EL U.vm h0) (fun _ _ _ _ _ => True) (fun _ U o U' => ∃ v L, o = .returned v ∧ Q_rm_pre2 Z bf kf cs u1a u2a u3a u4a u5a h0 n0 v U'.heap L ∧ CHr Z own_EL U.vm U.heap U'.vm U'.heap ∧ ReturnedEndW U o U' L ({ frames := 4, cells := 3, slots := 8, locals := 66 } : Room).cells ({ frames := 4, cells := 3, slots := 8, locals := 66 } : Room).slots) := by
  refine MetFree.of_bodySF (plainFor_of_name own_pn_com_example_ostiarius_ostiarius_key_KeyKindOfLabelPinLaw) hisR ?_
  intro p e s m args below meth c s₁ Bd hml0 hP hK
  obtain ⟨rfl, hZ, hh, hC⟩ := hP
  have hx := Bd.exec
  have hby := Bd.bytes
  have hml : c.maxLocals = 3 := hml0
  have hown : s.vm.findClass s1_ = some m.cls := findClass_of_methodNamed Bd.named
  have hnm := (name_of_methodNamed Bd.named Bd.method).1
  have X0 : Stand p l e ({ frames := 4, cells := 3, slots := 8, locals := 66 } : Room) (s.setVm s.vm) m #[(.ref bf), (.int (2 : Int32))] below meth c s₁ [] 0 0 := Stand.of_body Bd
  have S0 : s.Since s.vm h0.size := (State.WarmedH.refl s).since _
  have hZ : Z.Warmed39 (s.setVm s.vm).vm := hZ
  have hown : (s.setVm s.vm).vm.findClass s1_ = some m.cls := hown
  have R0 : CHr Z own_EL s.vm h0 s.vm h0 := CHr.refl hC
  have e0 : s₁.heap = h0 := by rw [← hh, Bd.state]; rfl
  have N0 := Fr.nil n0
  have Z0 : n0 ≤ h0.size := by rw [← O0.1]; exact O0.2.1
  show own_Go p e below (s₁.setTop (entryFrame m #[(.ref bf), (.int (2 : Int32))] 3)) (fun t o => ∃ v L, o = .returned v ∧ Q_rm_pre2 Z bf kf cs u1a u2a u3a u4a u5a h0 n0 v t.heap L ∧ CHr Z own_EL s.vm s.heap t.vm t.heap ∧ ReturnedEndW s o t L ({ frames := 4, cells := 3, slots := 8, locals := 66 } : Room).cells ({ frames := 4, cells := 3, slots := 8, locals := 66 } : Room).slots)
  rw [ef_rm_pre2 m bf kf cs u1a u2a u3a u4a u5a]
  have lt_Vf : h0.size > bf := Vf.lt
  refine own_by (fun _ k => XS.iloadN X0.here hx rfl (hb hby D4_0) rfl k) ?_
  refine own_by (fun _ k => XS.ifYes X0.here hx rfl (pc0 := 1) (pc' := 15) rfl (hb hby D4_1) rfl ((if0 _ _).trans (feq (by decide : ¬ ((2 : Int32) = (0 : Int32)))).2) (by decide) (by decide) k) ?_
  show own_Go p e below (s₁.setTop (mkF m 15 #[.val (.ref bf), .val (.int (2 : Int32)), .unset] [])) _
  refine own_by (fun _ k => XS.iloadN X0.here hx rfl (hb hby D4_15) rfl k) ?_
  refine own_by (fun _ k => XS.iconst X0.here hx rfl (hb hby D4_16) k) ?_
  refine own_by (fun _ k => XS.icmpYes X0.here hx rfl (pc0 := 17) (pc' := 39) rfl (hb hby D4_17) rfl (feq (by decide : ¬ ((2 : Int32) = (1 : Int32)))).2 (by decide) (by decide) k) ?_
  show own_Go p e below (s₁.setTop (mkF m 39 #[.val (.ref bf), .val (.int (2 : Int32)), .unset] [])) _
  refine own_by (fun _ k => XS.iloadN X0.here hx rfl (hb hby D4_39) rfl k) ?_
  refine own_by (fun _ k => XS.iconst X0.here hx rfl (hb hby D4_40) k) ?_
  refine own_by (fun _ k => XS.icmpNo X0.here hx rfl (hb hby D4_41) rfl (teq (by decide : (2 : Int32) = (2 : Int32))).2 k) ?_
  show own_Go p e below (s₁.setTop (mkF m 44 #[.val (.ref bf), .val (.int (2 : Int32)), .unset] [])) _
  refine own_by (fun _ k => XS.iconst X0.here hx rfl (hb hby D4_44) k) ?_
  obtain ⟨T1, h1, k1, X1, e1, E1, A1, st1⟩ := newP X0 hx hZ (own_w hw 0 rfl) e0 (g := (mkF m 45 #[.val (.ref bf), .val (.int (2 : Int32)), .unset] [(.int (2 : Int32))])) rfl (hb hby D4_45) rfl (by decide) (cap := 2) (by decide) (by decide) (by decide) (by decide)
  obtain ⟨ob1, g1⟩ : ∃ z, z = h0.size := ⟨_, rfl⟩
  rw [← g1] at A1 st1
  refine own_by st1 ?_
  have z1 := E1.1
  have R1 := R0.trans (CHr.ext E1 R0.1)
  have Vw1 : Arv Z h1 ob1 k1 .char (2 : Int32) [] (.int (0 : Int32)) := Arv.new A1 (by decide)
  have lt1 : h1.size > ob1 := Vw1.lt
  refine own_by (fun _ k => XS.astoreN X1.here hx rfl (hb hby D4_47) rfl rfl (l' := #[.val (.ref bf), .val (.int (2 : Int32)), .val (.ref ob1)]) rfl k) ?_
  refine own_by (fun _ k => XS.aloadN X1.here hx rfl (hb hby D4_48) rfl rfl k) ?_
  refine own_by (fun _ k => XS.iconst X1.here hx rfl (hb hby D4_49) k) ?_
  refine own_by (fun _ k => XS.aloadN X1.here hx rfl (hb hby D4_50) rfl rfl k) ?_
  show own_Go p e below (T1.setTop (mkF m 51 #[.val (.ref bf), .val (.int (2 : Int32)), .val (.ref ob1)] [(.ref bf), (.int (0 : Int32)), (.ref ob1)])) _
  refine own_by (fun _ k => XS.iconst X1.here hx rfl (hb hby D4_51) k) ?_
  have fc2 : Arv Z h1 bf kf .char (5 : Int32) [(.int (u1a &&& (255 : Int32))), (.int (u2a &&& (255 : Int32))), (.int (u3a &&& (255 : Int32))), (.int (u4a &&& (255 : Int32))), (.int (u5a &&& (255 : Int32)))] (.int (0 : Int32)) := (Vf.ext E1)
  obtain ⟨cl3, Ar3, q3, S3, M3, H3, G3⟩ := (id fc2)
  have hin3 : ¬ ((0 : Int32) < 0 ∨ cl3.slots.size ≤ ((0 : Int32)).toNatClampNeg) := inb_of S3 ⟨by decide, by decide⟩
  refine own_by (X1.caload hx (j := (0 : Int32)) (v := (.int (u1a &&& (255 : Int32)))) (by rw [e1]; exact Ar3.1) (State.isArrayOf_alike hZ.alike Ar3.2.1) Ar3.2.2 hin3 (H3.at hin3 rfl) (g := (mkF m 52 #[.val (.ref bf), .val (.int (2 : Int32)), .val (.ref ob1)] [(.int (0 : Int32)), (.ref bf), (.int (0 : Int32)), (.ref ob1)])) rfl rfl (hb hby D4_52)) ?_
  have Vw4 : Arv Z h1 ob1 k1 .char (2 : Int32) [(.int (0 : Int32))] (.int (0 : Int32)) := Vw1.pad (pad_rep [] (.int (0 : Int32)) 1)
  obtain ⟨cl5, Ar5, q5, S5, M5, H5, G5⟩ := (id Vw4)
  have hin5 : ¬ ((0 : Int32) < 0 ∨ cl5.slots.size ≤ ((0 : Int32)).toNatClampNeg) := inb_of S5 ⟨by decide, by decide⟩
  obtain ⟨T5, h5, X5, e5, W5, st5⟩ := stC X1 hx hZ e1 Ar5 (j := (0 : Int32)) hin5 (g := (mkF m 53 #[.val (.ref bf), .val (.int (2 : Int32)), .val (.ref ob1)] [(.int (u1a &&& (255 : Int32))), (.int (0 : Int32)), (.ref ob1)])) rfl rfl (hb hby D4_53)
  refine own_by st5 ?_
  rw [own_mask_c] at W5
  have z5 := W5.size
  have N5 := Fr.snoc X5 N0 (by omega)
  have sw5 : Safe Z own_EL s.vm h1 ob1 := (Safe.arv hZ.alike Vw4 (by decide))
  have sf5_ob1 := Safe.wr W5 sw5 R1.1 sw5
  have R5 := R1.trans (CHr.wr W5 sw5 R1.1)
  have Vw5 : Arv Z h5 ob1 k1 .char (2 : Int32) [(.int (u1a &&& (255 : Int32)))] (.int (0 : Int32)) := Arv.set Ar5 q5 S5 M5 H5 G5 (own_fits_c _) W5 0 rfl (Nat.le_of_ble_eq_true rfl)
  refine own_by (fun _ k => XS.aloadN X5.here hx rfl (hb hby D4_54) rfl rfl k) ?_
  refine own_by (fun _ k => XS.iconst X5.here hx rfl (hb hby D4_55) k) ?_
  refine own_by (fun _ k => XS.aloadN X5.here hx rfl (hb hby D4_56) rfl rfl k) ?_
  show own_Go p e below (T5.setTop (mkF m 57 #[.val (.ref bf), .val (.int (2 : Int32)), .val (.ref ob1)] [(.ref bf), (.int (1 : Int32)), (.ref ob1)])) _
  refine own_by (fun _ k => XS.iconst X5.here hx rfl (hb hby D4_57) k) ?_
  have fc6 : Arv Z h5 bf kf .char (5 : Int32) [(.int (u1a &&& (255 : Int32))), (.int (u2a &&& (255 : Int32))), (.int (u3a &&& (255 : Int32))), (.int (u4a &&& (255 : Int32))), (.int (u5a &&& (255 : Int32)))] (.int (0 : Int32)) := (fc2.other W5 (own_ne (by omega)))
  obtain ⟨cl7, Ar7, q7, S7, M7, H7, G7⟩ := (id fc6)
  have hin7 : ¬ ((1 : Int32) < 0 ∨ cl7.slots.size ≤ ((1 : Int32)).toNatClampNeg) := inb_of S7 ⟨by decide, by decide⟩
  refine own_by (X5.caload hx (j := (1 : Int32)) (v := (.int (u2a &&& (255 : Int32)))) (by rw [e5]; exact Ar7.1) (State.isArrayOf_alike hZ.alike Ar7.2.1) Ar7.2.2 hin7 (H7.at hin7 rfl) (g := (mkF m 58 #[.val (.ref bf), .val (.int (2 : Int32)), .val (.ref ob1)] [(.int (1 : Int32)), (.ref bf), (.int (1 : Int32)), (.ref ob1)])) rfl rfl (hb hby D4_58)) ?_
  have Vw8 : Arv Z h5 ob1 k1 .char (2 : Int32) [(.int (u1a &&& (255 : Int32))), (.int (0 : Int32))] (.int (0 : Int32)) := Vw5.pad (pad_rep [(.int (u1a &&& (255 : Int32)))] (.int (0 : Int32)) 1)
  obtain ⟨cl9, Ar9, q9, S9, M9, H9, G9⟩ := (id Vw8)
  have hin9 : ¬ ((1 : Int32) < 0 ∨ cl9.slots.size ≤ ((1 : Int32)).toNatClampNeg) := inb_of S9 ⟨by decide, by decide⟩
  obtain ⟨T9, h9, X9, e9, W9, st9⟩ := stC X5 hx hZ e5 Ar9 (j := (1 : Int32)) hin9 (g := (mkF m 59 #[.val (.ref bf), .val (.int (2 : Int32)), .val (.ref ob1)] [(.int (u2a &&& (255 : Int32))), (.int (1 : Int32)), (.ref ob1)])) rfl rfl (hb hby D4_59)
  refine own_by st9 ?_
  rw [own_mask_c] at W9
  have z9 := W9.size
  have N9 := Fr.snoc X9 N5 (by omega)
  have sw9 : Safe Z own_EL s.vm h5 ob1 := sf5_ob1
  have sf9_ob1 := Safe.wr W9 sw9 R5.1 sw9
  have R9 := R5.trans (CHr.wr W9 sw9 R5.1)
  have Vw9 : Arv Z h9 ob1 k1 .char (2 : Int32) [(.int (u1a &&& (255 : Int32))), (.int (u2a &&& (255 : Int32)))] (.int (0 : Int32)) := Arv.set Ar9 q9 S9 M9 H9 G9 (own_fits_c _) W9 1 rfl (Nat.le_of_ble_eq_true rfl)
  obtain ⟨T10, h10, X10, e10, E10, A10, D10, U10, st10⟩ := newO X9 hx hZ hown (own_w hw 36 rfl) (own_w hw 37 rfl) (own_w hw 30 rfl) e9 (g := (mkF m 60 #[.val (.ref bf), .val (.int (2 : Int32)), .val (.ref ob1)] [])) rfl (hb hby D4_60) (by decide) (by decide)
  obtain ⟨ob10, g10⟩ : ∃ z, z = h9.size := ⟨_, rfl⟩
  rw [← g10] at A10 D10 U10 st10
  refine own_by st10 ?_
  have z10 := E10.1
  have lt10 : h10.size > ob10 := A10.lt
  have sf10_ob1 := Safe.ext E10 R9.1 sf9_ob1
  have R10 := R9.trans (CHr.ext E10 R9.1)
  refine own_by (fun _ k => XS.dup X10.here hx rfl (hb hby D4_63) rfl rfl k) ?_
  refine own_by (fun _ k => XS.aloadN X10.here hx rfl (hb hby D4_64) rfl rfl k) ?_
  show own_Go p e below (T10.setTop (mkF m 65 #[.val (.ref bf), .val (.int (2 : Int32)), .val (.ref ob1)] [(.ref ob1), (.ref ob10), (.ref ob10)])) _
  have fc11 : Arv Z h10 ob1 k1 .char (2 : Int32) [(.int (u1a &&& (255 : Int32))), (.int (u2a &&& (255 : Int32)))] (.int (0 : Int32)) := (Vw9.ext E10)
  have O12 : Old Z n0 h10 := ((((O0.ext E1).wr W5 (by omega)).wr W9 (by omega)).ext E10)
  obtain ⟨_, _, ⟨T13, L13, k13, n13⟩, -, X13, ⟨Lc13, hQ13, l13, y13, z13⟩, st13⟩ := X10.specialBack hx (y := (⟨s11_, "<init>", "([C)V"⟩ : MethodName)) rfl hown (mvT hZ (own_w hw 38 rfl)) (mvT hZ (own_w hw 39 rfl)) (mvT hZ (own_w hw 40 rfl)) (by decide) (backOf (W := 1) (rm_sinit_2 l Z a0 hw [] ob10 ob1 k1 cs (u1a &&& (255 : Int32)) (u2a &&& (255 : Int32)) h10 n0 O12 S_COMPACT A10 (show Fld Z h10 ob10 s11_ "value" "[B" .null from D10 (Or.inr (own_w hw 63 rfl)) (ty := (.array .byte)) (by decide)) (show Fld Z h10 ob10 s11_ "coder" "B" (.int (0 : Int32)) from D10 (Or.inr (own_w hw 61 rfl)) (ty := .byte) (by decide)) fc11 (own_mask_hi (u1a)) (own_mask_hi (u2a)) (by first | assumption | omega | decide) hcs (by first | assumption | omega | decide)) hZ (own_w hw 40 rfl) (own_w hw 30 rfl) (by decide) (by decide)) (g := (mkF m 65 #[.val (.ref bf), .val (.int (2 : Int32)), .val (.ref ob1)] [(.ref ob1), (.ref ob10), (.ref ob10)])) rfl (by rw [hml]; rfl) (Steps.refl _) (a := ob10) (argsL := [(.ref ob1)]) (rest := [(.ref ob10)]) (lenOf own_pd__28_5bC_29V rfl) rfl (by show 2 * 0 + _ ≤ _; exact Nat.le_of_eq rfl) (hb hby D4_65) (fun _ _ => ⟨rfl, e10, (by decide : 2 + 1 ≤ _), (by decide : 6 + 2 ≤ _)⟩)
  dsimp only [Pt.U, Pt.locs, Pt.cells, Pt.slots] at X13 l13 y13 z13 st13 hQ13
  subst l13 y13 z13
  obtain ⟨b_13, kb_13, rfl, M13, K13, g13_0, g13_1, g13_2, g13_3, r13_0⟩ := hQ13
  have N13 := Fr.app N9 M13
  refine own_by (fun _ k => st13.trans k) ?_
  have sk13 : ∀ x ∈ ([ob10] : List Addr), Safe Z own_EL s.vm h10 x := (sfS (own_safe_null hZ.alike A10 (show Fld Z h10 ob10 s11_ "value" "[B" .null from D10 (Or.inr (own_w hw 63 rfl)) (ty := (.array .byte)) (by decide))) sf0)
  have sf13_ob1 := Safe.keep K13 sk13 R10.1 sf10_ob1
  have R13 := R10.trans (CHr.keep K13 sk13 R10.1)
  have z13 := K13.1
  have lt_g13_0 : T13.heap.size > ob10 := g13_0.lt
  have lt_g13_1 : T13.heap.size > ob10 := g13_1.lt
  have lt_g13_2 : T13.heap.size > ob10 := g13_2.lt
  have lt_g13_3 : T13.heap.size > b_13 := g13_3.lt
  have K14 : Keep h0 T13.heap [] := ((((((Keep.refl h0 []).ext E1).wr W5 (Or.inr (by omega))).wr W9 (Or.inr (by omega))).ext E10).trans K13 (allS (P := fun x => x ∈ [] ∨ h0.size ≤ x) (Or.inr (by omega)) all0))
  obtain ⟨fs, hr, hrun, hended, hW⟩ := X13.leaveW S0 (by first | omega | (rw [e0]; omega)) (v := some (.ref ob10)) (fun h => by rw [Bd.returns] at h; cases h)
  have RR := R13.trans (CHv.at X13 hZ hEL R13.1)
  have RR' : CHr Z own_EL s.vm s.heap T13.vm T13.heap := by rw [hh]; exact RR
  refine ⟨_, _, retOut X13 hx Bd.returns (own_narrow_ref (by decide) rfl) (Or.inr (Or.inr (Or.inr (Or.inr ⟨rfl, by decide, rfl⟩)))) (hb hby D4_68) hr, hrun, hended, _, _, rfl, ?_, RR', ⟨_, rfl⟩, hW.2.1, hW.2.2.1, hW.2.2.2.mono (by decide) (by decide)⟩
  show Q_rm_pre2 Z bf kf cs u1a u2a u3a u4a u5a h0 n0 _ T13.heap _
  exact ⟨ob10, b_13, kb_13, rfl, N13, K14, g13_0, g13_1, g13_2, g13_3, (by first | assumption | omega)⟩
theorem D4_69 : decode method_3_code 69 = .ok (.iload_n 1, 1) := by decide +kernel
theorem D4_70 : decode method_3_code 70 = .ok (.iconst 3, 1) := by decide +kernel
theorem D4_71 : decode method_3_code 71 = .ok (.if_icmp .ne 34, 3) := by decide +kernel
theorem D4_74 : decode method_3_code 74 = .ok (.iconst 3, 1) := by decide +kernel
theorem D4_75 : decode method_3_code 75 = .ok (.newarray .char, 2) := by decide +kernel
theorem D4_77 : decode method_3_code 77 = .ok (.astore_n 2, 1) := by decide +kernel
theorem D4_78 : decode method_3_code 78 = .ok (.aload_n 2, 1) := by decide +kernel
theorem D4_79 : decode method_3_code 79 = .ok (.iconst 0, 1) := by decide +kernel
theorem D4_80 : decode method_3_code 80 = .ok (.aload_n 0, 1) := by decide +kernel
theorem D4_81 : decode method_3_code 81 = .ok (.iconst 0, 1) := by decide +kernel
theorem D4_82 : decode method_3_code 82 = .ok (.caload, 1) := by decide +kernel
theorem D4_83 : decode method_3_code 83 = .ok (.castore, 1) := by decide +kernel
theorem D4_84 : decode method_3_code 84 = .ok (.aload_n 2, 1) := by decide +kernel
theorem D4_85 : decode method_3_code 85 = .ok (.iconst 1, 1) := by decide +kernel
theorem D4_86 : decode method_3_code 86 = .ok (.aload_n 0, 1) := by decide +kernel
theorem D4_87 : decode method_3_code 87 = .ok (.iconst 1, 1) := by decide +kernel
theorem D4_88 : decode method_3_code 88 = .ok (.caload, 1) := by decide +kernel
theorem D4_89 : decode method_3_code 89 = .ok (.castore, 1) := by decide +kernel
theorem D4_90 : decode method_3_code 90 = .ok (.aload_n 2, 1) := by decide +kernel
theorem D4_91 : decode method_3_code 91 = .ok (.iconst 2, 1) := by decide +kernel
theorem D4_92 : decode method_3_code 92 = .ok (.aload_n 0, 1) := by decide +kernel
theorem D4_93 : decode method_3_code 93 = .ok (.iconst 2, 1) := by decide +kernel
theorem D4_94 : decode method_3_code 94 = .ok (.caload, 1) := by decide +kernel
theorem D4_95 : decode method_3_code 95 = .ok (.castore, 1) := by decide +kernel
theorem D4_96 : decode method_3_code 96 = .ok (.new 30, 3) := by decide +kernel
theorem D4_99 : decode method_3_code 99 = .ok (.dup, 1) := by decide +kernel
theorem D4_100 : decode method_3_code 100 = .ok (.aload_n 2, 1) := by decide +kernel
theorem D4_101 : decode method_3_code 101 = .ok (.invokespecial 32, 3) := by decide +kernel
theorem D4_104 : decode method_3_code 104 = .ok (.areturn, 1) := by decide +kernel
def Q_rm_pre3 (Z : State) (bf : Addr) (kf : ClassId) (cs : Int32) (u1a : Int32) (u2a : Int32) (u3a : Int32) (u4a : Int32) (u5a : Int32) (h0 : Heap) (n0 : Nat) (v : Option Value) (h : Heap) (L : List Loc) : Prop := ∃ (r1 : Addr), ∃ (b : Addr), ∃ (kb : ClassId), v = some (.ref r1) ∧ Fr n0 L ∧ Keep h0 h [] ∧ Exa Z h r1 s11_ ∧ Fld Z h r1 s11_ "coder" "B" (.int (0 : Int32)) ∧ Fld Z h r1 s11_ "value" "[B" (.ref b) ∧ Arv Z h b kb .byte (3 : Int32) [(.int (own_b (u1a &&& (255 : Int32)))), (.int (own_b (u2a &&& (255 : Int32)))), (.int (own_b (u3a &&& (255 : Int32))))] (.int (0 : Int32)) ∧ h0.size ≤ r1
theorem ef_rm_pre3 (m : MethodId) (bf : Addr) (kf : ClassId) (cs : Int32) (u1a : Int32) (u2a : Int32) (u3a : Int32) (u4a : Int32) (u5a : Int32) : entryFrame m #[(.ref bf), (.int (3 : Int32))] 3 = mkF m 0 #[.val (.ref bf), .val (.int (3 : Int32)), .unset] [] := by first | (simp [entryFrame, mkF, argsToLocals, Value.category]; done) | rfl
set_option maxRecDepth 65536 in
set_option maxHeartbeats 40000000 in
theorem rm_pre3 (l : Launch) (Z : State) (a0 : Array Value) (hw : ∀ d ∈ tables_1, d.before a0 Z = true) (ws : List Jvm.Cond) (bf : Addr) (kf : ClassId) (cs : Int32) (u1a : Int32) (u2a : Int32) (u3a : Int32) (u4a : Int32) (u5a : Int32) (h0 : Heap) (n0 : Nat) (O0 : Old Z n0 h0) (hEL : EW Z a0 own_EL) (S_COMPACT : Sta Z Z.heap s11_ s15_ "Z" (.int cs)) (Vf : Arv Z h0 bf kf .char (5 : Int32) [(.int (u1a &&& (255 : Int32))), (.int (u2a &&& (255 : Int32))), (.int (u3a &&& (255 : Int32))), (.int (u4a &&& (255 : Int32))), (.int (u5a &&& (255 : Int32)))] (.int (0 : Int32))) (hcs : ¬ (cs = (0 : Int32))) :
    MetFree l (⟨s1_, "prefix", s13_⟩ : MethodName) (head1 (Jvm.Cond.code (⟨s1_, "prefix", s13_⟩ : MethodName) method_3_code 3 (some (.object s11_)) :: ws) ({ frames := 4, cells := 3, slots := 10, locals := 66 } : Room)) (fun a U => a = #[(.ref bf), (.int (3 : Int32))] ∧ Z.Warmed39 U.vm ∧ U.heap = h0 ∧ CHv Z own_EL U.vm h0) (fun _ _ _ _ _ => True) (fun _ U o U' => ∃ v L, o = .returned v ∧ Q_rm_pre3 Z bf kf cs u1a u2a u3a u4a u5a h0 n0 v U'.heap L ∧ CHr Z own_EL U.vm U.heap U'.vm U'.heap ∧ ReturnedEndW U o U' L ({ frames := 4, cells := 3, slots := 10, locals := 66 } : Room).cells ({ frames := 4, cells := 3, slots := 10, locals := 66 } : Room).slots) := by
  refine MetFree.of_bodySF (plainFor_of_name own_pn_com_example_ostiarius_ostiarius_key_KeyKindOfLabelPinLaw) hisR ?_
  intro p e s m args below meth c s₁ Bd hml0 hP hK
  obtain ⟨rfl, hZ, hh, hC⟩ := hP
  have hx := Bd.exec
  have hby := Bd.bytes
  have hml : c.maxLocals = 3 := hml0
  have hown : s.vm.findClass s1_ = some m.cls := findClass_of_methodNamed Bd.named
  have hnm := (name_of_methodNamed Bd.named Bd.method).1
  have X0 : Stand p l e ({ frames := 4, cells := 3, slots := 10, locals := 66 } : Room) (s.setVm s.vm) m #[(.ref bf), (.int (3 : Int32))] below meth c s₁ [] 0 0 := Stand.of_body Bd
  have S0 : s.Since s.vm h0.size := (State.WarmedH.refl s).since _
  have hZ : Z.Warmed39 (s.setVm s.vm).vm := hZ
  have hown : (s.setVm s.vm).vm.findClass s1_ = some m.cls := hown
  have R0 : CHr Z own_EL s.vm h0 s.vm h0 := CHr.refl hC
  have e0 : s₁.heap = h0 := by rw [← hh, Bd.state]; rfl
  have N0 := Fr.nil n0
  have Z0 : n0 ≤ h0.size := by rw [← O0.1]; exact O0.2.1
  show own_Go p e below (s₁.setTop (entryFrame m #[(.ref bf), (.int (3 : Int32))] 3)) (fun t o => ∃ v L, o = .returned v ∧ Q_rm_pre3 Z bf kf cs u1a u2a u3a u4a u5a h0 n0 v t.heap L ∧ CHr Z own_EL s.vm s.heap t.vm t.heap ∧ ReturnedEndW s o t L ({ frames := 4, cells := 3, slots := 10, locals := 66 } : Room).cells ({ frames := 4, cells := 3, slots := 10, locals := 66 } : Room).slots)
  rw [ef_rm_pre3 m bf kf cs u1a u2a u3a u4a u5a]
  have lt_Vf : h0.size > bf := Vf.lt
  refine own_by (fun _ k => XS.iloadN X0.here hx rfl (hb hby D4_0) rfl k) ?_
  refine own_by (fun _ k => XS.ifYes X0.here hx rfl (pc0 := 1) (pc' := 15) rfl (hb hby D4_1) rfl ((if0 _ _).trans (feq (by decide : ¬ ((3 : Int32) = (0 : Int32)))).2) (by decide) (by decide) k) ?_
  show own_Go p e below (s₁.setTop (mkF m 15 #[.val (.ref bf), .val (.int (3 : Int32)), .unset] [])) _
  refine own_by (fun _ k => XS.iloadN X0.here hx rfl (hb hby D4_15) rfl k) ?_
  refine own_by (fun _ k => XS.iconst X0.here hx rfl (hb hby D4_16) k) ?_
  refine own_by (fun _ k => XS.icmpYes X0.here hx rfl (pc0 := 17) (pc' := 39) rfl (hb hby D4_17) rfl (feq (by decide : ¬ ((3 : Int32) = (1 : Int32)))).2 (by decide) (by decide) k) ?_
  show own_Go p e below (s₁.setTop (mkF m 39 #[.val (.ref bf), .val (.int (3 : Int32)), .unset] [])) _
  refine own_by (fun _ k => XS.iloadN X0.here hx rfl (hb hby D4_39) rfl k) ?_
  refine own_by (fun _ k => XS.iconst X0.here hx rfl (hb hby D4_40) k) ?_
  refine own_by (fun _ k => XS.icmpYes X0.here hx rfl (pc0 := 41) (pc' := 69) rfl (hb hby D4_41) rfl (feq (by decide : ¬ ((3 : Int32) = (2 : Int32)))).2 (by decide) (by decide) k) ?_
  show own_Go p e below (s₁.setTop (mkF m 69 #[.val (.ref bf), .val (.int (3 : Int32)), .unset] [])) _
  refine own_by (fun _ k => XS.iloadN X0.here hx rfl (hb hby D4_69) rfl k) ?_
  refine own_by (fun _ k => XS.iconst X0.here hx rfl (hb hby D4_70) k) ?_
  refine own_by (fun _ k => XS.icmpNo X0.here hx rfl (hb hby D4_71) rfl (teq (by decide : (3 : Int32) = (3 : Int32))).2 k) ?_
  show own_Go p e below (s₁.setTop (mkF m 74 #[.val (.ref bf), .val (.int (3 : Int32)), .unset] [])) _
  refine own_by (fun _ k => XS.iconst X0.here hx rfl (hb hby D4_74) k) ?_
  obtain ⟨T1, h1, k1, X1, e1, E1, A1, st1⟩ := newP X0 hx hZ (own_w hw 0 rfl) e0 (g := (mkF m 75 #[.val (.ref bf), .val (.int (3 : Int32)), .unset] [(.int (3 : Int32))])) rfl (hb hby D4_75) rfl (by decide) (cap := 3) (by decide) (by decide) (by decide) (by decide)
  obtain ⟨ob1, g1⟩ : ∃ z, z = h0.size := ⟨_, rfl⟩
  rw [← g1] at A1 st1
  refine own_by st1 ?_
  have z1 := E1.1
  have R1 := R0.trans (CHr.ext E1 R0.1)
  have Vw1 : Arv Z h1 ob1 k1 .char (3 : Int32) [] (.int (0 : Int32)) := Arv.new A1 (by decide)
  have lt1 : h1.size > ob1 := Vw1.lt
  refine own_by (fun _ k => XS.astoreN X1.here hx rfl (hb hby D4_77) rfl rfl (l' := #[.val (.ref bf), .val (.int (3 : Int32)), .val (.ref ob1)]) rfl k) ?_
  refine own_by (fun _ k => XS.aloadN X1.here hx rfl (hb hby D4_78) rfl rfl k) ?_
  refine own_by (fun _ k => XS.iconst X1.here hx rfl (hb hby D4_79) k) ?_
  refine own_by (fun _ k => XS.aloadN X1.here hx rfl (hb hby D4_80) rfl rfl k) ?_
  show own_Go p e below (T1.setTop (mkF m 81 #[.val (.ref bf), .val (.int (3 : Int32)), .val (.ref ob1)] [(.ref bf), (.int (0 : Int32)), (.ref ob1)])) _
  refine own_by (fun _ k => XS.iconst X1.here hx rfl (hb hby D4_81) k) ?_
  have fc2 : Arv Z h1 bf kf .char (5 : Int32) [(.int (u1a &&& (255 : Int32))), (.int (u2a &&& (255 : Int32))), (.int (u3a &&& (255 : Int32))), (.int (u4a &&& (255 : Int32))), (.int (u5a &&& (255 : Int32)))] (.int (0 : Int32)) := (Vf.ext E1)
  obtain ⟨cl3, Ar3, q3, S3, M3, H3, G3⟩ := (id fc2)
  have hin3 : ¬ ((0 : Int32) < 0 ∨ cl3.slots.size ≤ ((0 : Int32)).toNatClampNeg) := inb_of S3 ⟨by decide, by decide⟩
  refine own_by (X1.caload hx (j := (0 : Int32)) (v := (.int (u1a &&& (255 : Int32)))) (by rw [e1]; exact Ar3.1) (State.isArrayOf_alike hZ.alike Ar3.2.1) Ar3.2.2 hin3 (H3.at hin3 rfl) (g := (mkF m 82 #[.val (.ref bf), .val (.int (3 : Int32)), .val (.ref ob1)] [(.int (0 : Int32)), (.ref bf), (.int (0 : Int32)), (.ref ob1)])) rfl rfl (hb hby D4_82)) ?_
  have Vw4 : Arv Z h1 ob1 k1 .char (3 : Int32) [(.int (0 : Int32))] (.int (0 : Int32)) := Vw1.pad (pad_rep [] (.int (0 : Int32)) 1)
  obtain ⟨cl5, Ar5, q5, S5, M5, H5, G5⟩ := (id Vw4)
  have hin5 : ¬ ((0 : Int32) < 0 ∨ cl5.slots.size ≤ ((0 : Int32)).toNatClampNeg) := inb_of S5 ⟨by decide, by decide⟩
  obtain ⟨T5, h5, X5, e5, W5, st5⟩ := stC X1 hx hZ e1 Ar5 (j := (0 : Int32)) hin5 (g := (mkF m 83 #[.val (.ref bf), .val (.int (3 : Int32)), .val (.ref ob1)] [(.int (u1a &&& (255 : Int32))), (.int (0 : Int32)), (.ref ob1)])) rfl rfl (hb hby D4_83)
  refine own_by st5 ?_
  rw [own_mask_c] at W5
  have z5 := W5.size
  have N5 := Fr.snoc X5 N0 (by omega)
  have sw5 : Safe Z own_EL s.vm h1 ob1 := (Safe.arv hZ.alike Vw4 (by decide))
  have sf5_ob1 := Safe.wr W5 sw5 R1.1 sw5
  have R5 := R1.trans (CHr.wr W5 sw5 R1.1)
  have Vw5 : Arv Z h5 ob1 k1 .char (3 : Int32) [(.int (u1a &&& (255 : Int32)))] (.int (0 : Int32)) := Arv.set Ar5 q5 S5 M5 H5 G5 (own_fits_c _) W5 0 rfl (Nat.le_of_ble_eq_true rfl)
  refine own_by (fun _ k => XS.aloadN X5.here hx rfl (hb hby D4_84) rfl rfl k) ?_
  refine own_by (fun _ k => XS.iconst X5.here hx rfl (hb hby D4_85) k) ?_
  refine own_by (fun _ k => XS.aloadN X5.here hx rfl (hb hby D4_86) rfl rfl k) ?_
  show own_Go p e below (T5.setTop (mkF m 87 #[.val (.ref bf), .val (.int (3 : Int32)), .val (.ref ob1)] [(.ref bf), (.int (1 : Int32)), (.ref ob1)])) _
  refine own_by (fun _ k => XS.iconst X5.here hx rfl (hb hby D4_87) k) ?_
  have fc6 : Arv Z h5 bf kf .char (5 : Int32) [(.int (u1a &&& (255 : Int32))), (.int (u2a &&& (255 : Int32))), (.int (u3a &&& (255 : Int32))), (.int (u4a &&& (255 : Int32))), (.int (u5a &&& (255 : Int32)))] (.int (0 : Int32)) := (fc2.other W5 (own_ne (by omega)))
  obtain ⟨cl7, Ar7, q7, S7, M7, H7, G7⟩ := (id fc6)
  have hin7 : ¬ ((1 : Int32) < 0 ∨ cl7.slots.size ≤ ((1 : Int32)).toNatClampNeg) := inb_of S7 ⟨by decide, by decide⟩
  refine own_by (X5.caload hx (j := (1 : Int32)) (v := (.int (u2a &&& (255 : Int32)))) (by rw [e5]; exact Ar7.1) (State.isArrayOf_alike hZ.alike Ar7.2.1) Ar7.2.2 hin7 (H7.at hin7 rfl) (g := (mkF m 88 #[.val (.ref bf), .val (.int (3 : Int32)), .val (.ref ob1)] [(.int (1 : Int32)), (.ref bf), (.int (1 : Int32)), (.ref ob1)])) rfl rfl (hb hby D4_88)) ?_
  have Vw8 : Arv Z h5 ob1 k1 .char (3 : Int32) [(.int (u1a &&& (255 : Int32))), (.int (0 : Int32))] (.int (0 : Int32)) := Vw5.pad (pad_rep [(.int (u1a &&& (255 : Int32)))] (.int (0 : Int32)) 1)
  obtain ⟨cl9, Ar9, q9, S9, M9, H9, G9⟩ := (id Vw8)
  have hin9 : ¬ ((1 : Int32) < 0 ∨ cl9.slots.size ≤ ((1 : Int32)).toNatClampNeg) := inb_of S9 ⟨by decide, by decide⟩
  obtain ⟨T9, h9, X9, e9, W9, st9⟩ := stC X5 hx hZ e5 Ar9 (j := (1 : Int32)) hin9 (g := (mkF m 89 #[.val (.ref bf), .val (.int (3 : Int32)), .val (.ref ob1)] [(.int (u2a &&& (255 : Int32))), (.int (1 : Int32)), (.ref ob1)])) rfl rfl (hb hby D4_89)
  refine own_by st9 ?_
  rw [own_mask_c] at W9
  have z9 := W9.size
  have N9 := Fr.snoc X9 N5 (by omega)
  have sw9 : Safe Z own_EL s.vm h5 ob1 := sf5_ob1
  have sf9_ob1 := Safe.wr W9 sw9 R5.1 sw9
  have R9 := R5.trans (CHr.wr W9 sw9 R5.1)
  have Vw9 : Arv Z h9 ob1 k1 .char (3 : Int32) [(.int (u1a &&& (255 : Int32))), (.int (u2a &&& (255 : Int32)))] (.int (0 : Int32)) := Arv.set Ar9 q9 S9 M9 H9 G9 (own_fits_c _) W9 1 rfl (Nat.le_of_ble_eq_true rfl)
  refine own_by (fun _ k => XS.aloadN X9.here hx rfl (hb hby D4_90) rfl rfl k) ?_
  refine own_by (fun _ k => XS.iconst X9.here hx rfl (hb hby D4_91) k) ?_
  refine own_by (fun _ k => XS.aloadN X9.here hx rfl (hb hby D4_92) rfl rfl k) ?_
  show own_Go p e below (T9.setTop (mkF m 93 #[.val (.ref bf), .val (.int (3 : Int32)), .val (.ref ob1)] [(.ref bf), (.int (2 : Int32)), (.ref ob1)])) _
  refine own_by (fun _ k => XS.iconst X9.here hx rfl (hb hby D4_93) k) ?_
  have fc10 : Arv Z h9 bf kf .char (5 : Int32) [(.int (u1a &&& (255 : Int32))), (.int (u2a &&& (255 : Int32))), (.int (u3a &&& (255 : Int32))), (.int (u4a &&& (255 : Int32))), (.int (u5a &&& (255 : Int32)))] (.int (0 : Int32)) := (fc6.other W9 (own_ne (by omega)))
  obtain ⟨cl11, Ar11, q11, S11, M11, H11, G11⟩ := (id fc10)
  have hin11 : ¬ ((2 : Int32) < 0 ∨ cl11.slots.size ≤ ((2 : Int32)).toNatClampNeg) := inb_of S11 ⟨by decide, by decide⟩
  refine own_by (X9.caload hx (j := (2 : Int32)) (v := (.int (u3a &&& (255 : Int32)))) (by rw [e9]; exact Ar11.1) (State.isArrayOf_alike hZ.alike Ar11.2.1) Ar11.2.2 hin11 (H11.at hin11 rfl) (g := (mkF m 94 #[.val (.ref bf), .val (.int (3 : Int32)), .val (.ref ob1)] [(.int (2 : Int32)), (.ref bf), (.int (2 : Int32)), (.ref ob1)])) rfl rfl (hb hby D4_94)) ?_
  have Vw12 : Arv Z h9 ob1 k1 .char (3 : Int32) [(.int (u1a &&& (255 : Int32))), (.int (u2a &&& (255 : Int32))), (.int (0 : Int32))] (.int (0 : Int32)) := Vw9.pad (pad_rep [(.int (u1a &&& (255 : Int32))), (.int (u2a &&& (255 : Int32)))] (.int (0 : Int32)) 1)
  obtain ⟨cl13, Ar13, q13, S13, M13, H13, G13⟩ := (id Vw12)
  have hin13 : ¬ ((2 : Int32) < 0 ∨ cl13.slots.size ≤ ((2 : Int32)).toNatClampNeg) := inb_of S13 ⟨by decide, by decide⟩
  obtain ⟨T13, h13, X13, e13, W13, st13⟩ := stC X9 hx hZ e9 Ar13 (j := (2 : Int32)) hin13 (g := (mkF m 95 #[.val (.ref bf), .val (.int (3 : Int32)), .val (.ref ob1)] [(.int (u3a &&& (255 : Int32))), (.int (2 : Int32)), (.ref ob1)])) rfl rfl (hb hby D4_95)
  refine own_by st13 ?_
  rw [own_mask_c] at W13
  have z13 := W13.size
  have N13 := Fr.snoc X13 N9 (by omega)
  have sw13 : Safe Z own_EL s.vm h9 ob1 := sf9_ob1
  have sf13_ob1 := Safe.wr W13 sw13 R9.1 sw13
  have R13 := R9.trans (CHr.wr W13 sw13 R9.1)
  have Vw13 : Arv Z h13 ob1 k1 .char (3 : Int32) [(.int (u1a &&& (255 : Int32))), (.int (u2a &&& (255 : Int32))), (.int (u3a &&& (255 : Int32)))] (.int (0 : Int32)) := Arv.set Ar13 q13 S13 M13 H13 G13 (own_fits_c _) W13 2 rfl (Nat.le_of_ble_eq_true rfl)
  obtain ⟨T14, h14, X14, e14, E14, A14, D14, U14, st14⟩ := newO X13 hx hZ hown (own_w hw 36 rfl) (own_w hw 37 rfl) (own_w hw 30 rfl) e13 (g := (mkF m 96 #[.val (.ref bf), .val (.int (3 : Int32)), .val (.ref ob1)] [])) rfl (hb hby D4_96) (by decide) (by decide)
  obtain ⟨ob14, g14⟩ : ∃ z, z = h13.size := ⟨_, rfl⟩
  rw [← g14] at A14 D14 U14 st14
  refine own_by st14 ?_
  have z14 := E14.1
  have lt14 : h14.size > ob14 := A14.lt
  have sf14_ob1 := Safe.ext E14 R13.1 sf13_ob1
  have R14 := R13.trans (CHr.ext E14 R13.1)
  refine own_by (fun _ k => XS.dup X14.here hx rfl (hb hby D4_99) rfl rfl k) ?_
  refine own_by (fun _ k => XS.aloadN X14.here hx rfl (hb hby D4_100) rfl rfl k) ?_
  show own_Go p e below (T14.setTop (mkF m 101 #[.val (.ref bf), .val (.int (3 : Int32)), .val (.ref ob1)] [(.ref ob1), (.ref ob14), (.ref ob14)])) _
  have fc15 : Arv Z h14 ob1 k1 .char (3 : Int32) [(.int (u1a &&& (255 : Int32))), (.int (u2a &&& (255 : Int32))), (.int (u3a &&& (255 : Int32)))] (.int (0 : Int32)) := (Vw13.ext E14)
  have O16 : Old Z n0 h14 := (((((O0.ext E1).wr W5 (by omega)).wr W9 (by omega)).wr W13 (by omega)).ext E14)
  obtain ⟨_, _, ⟨T17, L17, k17, n17⟩, -, X17, ⟨Lc17, hQ17, l17, y17, z17⟩, st17⟩ := X14.specialBack hx (y := (⟨s11_, "<init>", "([C)V"⟩ : MethodName)) rfl hown (mvT hZ (own_w hw 38 rfl)) (mvT hZ (own_w hw 39 rfl)) (mvT hZ (own_w hw 40 rfl)) (by decide) (backOf (W := 1) (rm_sinit_3 l Z a0 hw [] ob14 ob1 k1 cs (u1a &&& (255 : Int32)) (u2a &&& (255 : Int32)) (u3a &&& (255 : Int32)) h14 n0 O16 S_COMPACT A14 (show Fld Z h14 ob14 s11_ "value" "[B" .null from D14 (Or.inr (own_w hw 63 rfl)) (ty := (.array .byte)) (by decide)) (show Fld Z h14 ob14 s11_ "coder" "B" (.int (0 : Int32)) from D14 (Or.inr (own_w hw 61 rfl)) (ty := .byte) (by decide)) fc15 (own_mask_hi (u1a)) (own_mask_hi (u2a)) (own_mask_hi (u3a)) (by first | assumption | omega | decide) hcs (by first | assumption | omega | decide)) hZ (own_w hw 40 rfl) (own_w hw 30 rfl) (by decide) (by decide)) (g := (mkF m 101 #[.val (.ref bf), .val (.int (3 : Int32)), .val (.ref ob1)] [(.ref ob1), (.ref ob14), (.ref ob14)])) rfl (by rw [hml]; rfl) (Steps.refl _) (a := ob14) (argsL := [(.ref ob1)]) (rest := [(.ref ob14)]) (lenOf own_pd__28_5bC_29V rfl) rfl (by show 2 * 0 + _ ≤ _; exact Nat.le_of_eq rfl) (hb hby D4_101) (fun _ _ => ⟨rfl, e14, (by decide : 2 + 1 ≤ _), (by decide : 7 + 3 ≤ _)⟩)
  dsimp only [Pt.U, Pt.locs, Pt.cells, Pt.slots] at X17 l17 y17 z17 st17 hQ17
  subst l17 y17 z17
  obtain ⟨b_17, kb_17, rfl, M17, K17, g17_0, g17_1, g17_2, g17_3, r17_0⟩ := hQ17
  have N17 := Fr.app N13 M17
  refine own_by (fun _ k => st17.trans k) ?_
  have sk17 : ∀ x ∈ ([ob14] : List Addr), Safe Z own_EL s.vm h14 x := (sfS (own_safe_null hZ.alike A14 (show Fld Z h14 ob14 s11_ "value" "[B" .null from D14 (Or.inr (own_w hw 63 rfl)) (ty := (.array .byte)) (by decide))) sf0)
  have sf17_ob1 := Safe.keep K17 sk17 R14.1 sf14_ob1
  have R17 := R14.trans (CHr.keep K17 sk17 R14.1)
  have z17 := K17.1
  have lt_g17_0 : T17.heap.size > ob14 := g17_0.lt
  have lt_g17_1 : T17.heap.size > ob14 := g17_1.lt
  have lt_g17_2 : T17.heap.size > ob14 := g17_2.lt
  have lt_g17_3 : T17.heap.size > b_17 := g17_3.lt
  have K18 : Keep h0 T17.heap [] := (((((((Keep.refl h0 []).ext E1).wr W5 (Or.inr (by omega))).wr W9 (Or.inr (by omega))).wr W13 (Or.inr (by omega))).ext E14).trans K17 (allS (P := fun x => x ∈ [] ∨ h0.size ≤ x) (Or.inr (by omega)) all0))
  obtain ⟨fs, hr, hrun, hended, hW⟩ := X17.leaveW S0 (by first | omega | (rw [e0]; omega)) (v := some (.ref ob14)) (fun h => by rw [Bd.returns] at h; cases h)
  have RR := R17.trans (CHv.at X17 hZ hEL R17.1)
  have RR' : CHr Z own_EL s.vm s.heap T17.vm T17.heap := by rw [hh]; exact RR
  refine ⟨_, _, retOut X17 hx Bd.returns (own_narrow_ref (by decide) rfl) (Or.inr (Or.inr (Or.inr (Or.inr ⟨rfl, by decide, rfl⟩)))) (hb hby D4_104) hr, hrun, hended, _, _, rfl, ?_, RR', ⟨_, rfl⟩, hW.2.1, hW.2.2.1, hW.2.2.2.mono (by decide) (by decide)⟩
  show Q_rm_pre3 Z bf kf cs u1a u2a u3a u4a u5a h0 n0 _ T17.heap _
  exact ⟨ob14, b_17, kb_17, rfl, N17, K18, g17_0, g17_1, g17_2, g17_3, (by first | assumption | omega)⟩
theorem D4_105 : decode method_3_code 105 = .ok (.iload_n 1, 1) := by decide +kernel
theorem D4_106 : decode method_3_code 106 = .ok (.iconst 4, 1) := by decide +kernel
theorem D4_107 : decode method_3_code 107 = .ok (.if_icmp .ne 40, 3) := by decide +kernel
theorem D4_110 : decode method_3_code 110 = .ok (.iconst 4, 1) := by decide +kernel
theorem D4_111 : decode method_3_code 111 = .ok (.newarray .char, 2) := by decide +kernel
theorem D4_113 : decode method_3_code 113 = .ok (.astore_n 2, 1) := by decide +kernel
theorem D4_114 : decode method_3_code 114 = .ok (.aload_n 2, 1) := by decide +kernel
theorem D4_115 : decode method_3_code 115 = .ok (.iconst 0, 1) := by decide +kernel
theorem D4_116 : decode method_3_code 116 = .ok (.aload_n 0, 1) := by decide +kernel
theorem D4_117 : decode method_3_code 117 = .ok (.iconst 0, 1) := by decide +kernel
theorem D4_118 : decode method_3_code 118 = .ok (.caload, 1) := by decide +kernel
theorem D4_119 : decode method_3_code 119 = .ok (.castore, 1) := by decide +kernel
theorem D4_120 : decode method_3_code 120 = .ok (.aload_n 2, 1) := by decide +kernel
theorem D4_121 : decode method_3_code 121 = .ok (.iconst 1, 1) := by decide +kernel
theorem D4_122 : decode method_3_code 122 = .ok (.aload_n 0, 1) := by decide +kernel
theorem D4_123 : decode method_3_code 123 = .ok (.iconst 1, 1) := by decide +kernel
theorem D4_124 : decode method_3_code 124 = .ok (.caload, 1) := by decide +kernel
theorem D4_125 : decode method_3_code 125 = .ok (.castore, 1) := by decide +kernel
theorem D4_126 : decode method_3_code 126 = .ok (.aload_n 2, 1) := by decide +kernel
theorem D4_127 : decode method_3_code 127 = .ok (.iconst 2, 1) := by decide +kernel
theorem D4_128 : decode method_3_code 128 = .ok (.aload_n 0, 1) := by decide +kernel
theorem D4_129 : decode method_3_code 129 = .ok (.iconst 2, 1) := by decide +kernel
theorem D4_130 : decode method_3_code 130 = .ok (.caload, 1) := by decide +kernel
theorem D4_131 : decode method_3_code 131 = .ok (.castore, 1) := by decide +kernel
theorem D4_132 : decode method_3_code 132 = .ok (.aload_n 2, 1) := by decide +kernel
theorem D4_133 : decode method_3_code 133 = .ok (.iconst 3, 1) := by decide +kernel
theorem D4_134 : decode method_3_code 134 = .ok (.aload_n 0, 1) := by decide +kernel
theorem D4_135 : decode method_3_code 135 = .ok (.iconst 3, 1) := by decide +kernel
theorem D4_136 : decode method_3_code 136 = .ok (.caload, 1) := by decide +kernel
theorem D4_137 : decode method_3_code 137 = .ok (.castore, 1) := by decide +kernel
theorem D4_138 : decode method_3_code 138 = .ok (.new 30, 3) := by decide +kernel
theorem D4_141 : decode method_3_code 141 = .ok (.dup, 1) := by decide +kernel
theorem D4_142 : decode method_3_code 142 = .ok (.aload_n 2, 1) := by decide +kernel
theorem D4_143 : decode method_3_code 143 = .ok (.invokespecial 32, 3) := by decide +kernel
theorem D4_146 : decode method_3_code 146 = .ok (.areturn, 1) := by decide +kernel
def Q_rm_pre4 (Z : State) (bf : Addr) (kf : ClassId) (cs : Int32) (u1a : Int32) (u2a : Int32) (u3a : Int32) (u4a : Int32) (u5a : Int32) (h0 : Heap) (n0 : Nat) (v : Option Value) (h : Heap) (L : List Loc) : Prop := ∃ (r1 : Addr), ∃ (b : Addr), ∃ (kb : ClassId), v = some (.ref r1) ∧ Fr n0 L ∧ Keep h0 h [] ∧ Exa Z h r1 s11_ ∧ Fld Z h r1 s11_ "coder" "B" (.int (0 : Int32)) ∧ Fld Z h r1 s11_ "value" "[B" (.ref b) ∧ Arv Z h b kb .byte (4 : Int32) [(.int (own_b (u1a &&& (255 : Int32)))), (.int (own_b (u2a &&& (255 : Int32)))), (.int (own_b (u3a &&& (255 : Int32)))), (.int (own_b (u4a &&& (255 : Int32))))] (.int (0 : Int32)) ∧ h0.size ≤ r1
theorem ef_rm_pre4 (m : MethodId) (bf : Addr) (kf : ClassId) (cs : Int32) (u1a : Int32) (u2a : Int32) (u3a : Int32) (u4a : Int32) (u5a : Int32) : entryFrame m #[(.ref bf), (.int (4 : Int32))] 3 = mkF m 0 #[.val (.ref bf), .val (.int (4 : Int32)), .unset] [] := by first | (simp [entryFrame, mkF, argsToLocals, Value.category]; done) | rfl
set_option maxRecDepth 65536 in
set_option maxHeartbeats 40000000 in
theorem rm_pre4 (l : Launch) (Z : State) (a0 : Array Value) (hw : ∀ d ∈ tables_1, d.before a0 Z = true) (ws : List Jvm.Cond) (bf : Addr) (kf : ClassId) (cs : Int32) (u1a : Int32) (u2a : Int32) (u3a : Int32) (u4a : Int32) (u5a : Int32) (h0 : Heap) (n0 : Nat) (O0 : Old Z n0 h0) (hEL : EW Z a0 own_EL) (S_COMPACT : Sta Z Z.heap s11_ s15_ "Z" (.int cs)) (Vf : Arv Z h0 bf kf .char (5 : Int32) [(.int (u1a &&& (255 : Int32))), (.int (u2a &&& (255 : Int32))), (.int (u3a &&& (255 : Int32))), (.int (u4a &&& (255 : Int32))), (.int (u5a &&& (255 : Int32)))] (.int (0 : Int32))) (hcs : ¬ (cs = (0 : Int32))) :
    MetFree l (⟨s1_, "prefix", s13_⟩ : MethodName) (head1 (Jvm.Cond.code (⟨s1_, "prefix", s13_⟩ : MethodName) method_3_code 3 (some (.object s11_)) :: ws) ({ frames := 4, cells := 3, slots := 12, locals := 66 } : Room)) (fun a U => a = #[(.ref bf), (.int (4 : Int32))] ∧ Z.Warmed39 U.vm ∧ U.heap = h0 ∧ CHv Z own_EL U.vm h0) (fun _ _ _ _ _ => True) (fun _ U o U' => ∃ v L, o = .returned v ∧ Q_rm_pre4 Z bf kf cs u1a u2a u3a u4a u5a h0 n0 v U'.heap L ∧ CHr Z own_EL U.vm U.heap U'.vm U'.heap ∧ ReturnedEndW U o U' L ({ frames := 4, cells := 3, slots := 12, locals := 66 } : Room).cells ({ frames := 4, cells := 3, slots := 12, locals := 66 } : Room).slots) := by
  refine MetFree.of_bodySF (plainFor_of_name own_pn_com_example_ostiarius_ostiarius_key_KeyKindOfLabelPinLaw) hisR ?_
  intro p e s m args below meth c s₁ Bd hml0 hP hK
  obtain ⟨rfl, hZ, hh, hC⟩ := hP
  have hx := Bd.exec
  have hby := Bd.bytes
  have hml : c.maxLocals = 3 := hml0
  have hown : s.vm.findClass s1_ = some m.cls := findClass_of_methodNamed Bd.named
  have hnm := (name_of_methodNamed Bd.named Bd.method).1
  have X0 : Stand p l e ({ frames := 4, cells := 3, slots := 12, locals := 66 } : Room) (s.setVm s.vm) m #[(.ref bf), (.int (4 : Int32))] below meth c s₁ [] 0 0 := Stand.of_body Bd
  have S0 : s.Since s.vm h0.size := (State.WarmedH.refl s).since _
  have hZ : Z.Warmed39 (s.setVm s.vm).vm := hZ
  have hown : (s.setVm s.vm).vm.findClass s1_ = some m.cls := hown
  have R0 : CHr Z own_EL s.vm h0 s.vm h0 := CHr.refl hC
  have e0 : s₁.heap = h0 := by rw [← hh, Bd.state]; rfl
  have N0 := Fr.nil n0
  have Z0 : n0 ≤ h0.size := by rw [← O0.1]; exact O0.2.1
  show own_Go p e below (s₁.setTop (entryFrame m #[(.ref bf), (.int (4 : Int32))] 3)) (fun t o => ∃ v L, o = .returned v ∧ Q_rm_pre4 Z bf kf cs u1a u2a u3a u4a u5a h0 n0 v t.heap L ∧ CHr Z own_EL s.vm s.heap t.vm t.heap ∧ ReturnedEndW s o t L ({ frames := 4, cells := 3, slots := 12, locals := 66 } : Room).cells ({ frames := 4, cells := 3, slots := 12, locals := 66 } : Room).slots)
  rw [ef_rm_pre4 m bf kf cs u1a u2a u3a u4a u5a]
  have lt_Vf : h0.size > bf := Vf.lt
  refine own_by (fun _ k => XS.iloadN X0.here hx rfl (hb hby D4_0) rfl k) ?_
  refine own_by (fun _ k => XS.ifYes X0.here hx rfl (pc0 := 1) (pc' := 15) rfl (hb hby D4_1) rfl ((if0 _ _).trans (feq (by decide : ¬ ((4 : Int32) = (0 : Int32)))).2) (by decide) (by decide) k) ?_
  show own_Go p e below (s₁.setTop (mkF m 15 #[.val (.ref bf), .val (.int (4 : Int32)), .unset] [])) _
  refine own_by (fun _ k => XS.iloadN X0.here hx rfl (hb hby D4_15) rfl k) ?_
  refine own_by (fun _ k => XS.iconst X0.here hx rfl (hb hby D4_16) k) ?_
  refine own_by (fun _ k => XS.icmpYes X0.here hx rfl (pc0 := 17) (pc' := 39) rfl (hb hby D4_17) rfl (feq (by decide : ¬ ((4 : Int32) = (1 : Int32)))).2 (by decide) (by decide) k) ?_
  show own_Go p e below (s₁.setTop (mkF m 39 #[.val (.ref bf), .val (.int (4 : Int32)), .unset] [])) _
  refine own_by (fun _ k => XS.iloadN X0.here hx rfl (hb hby D4_39) rfl k) ?_
  refine own_by (fun _ k => XS.iconst X0.here hx rfl (hb hby D4_40) k) ?_
  refine own_by (fun _ k => XS.icmpYes X0.here hx rfl (pc0 := 41) (pc' := 69) rfl (hb hby D4_41) rfl (feq (by decide : ¬ ((4 : Int32) = (2 : Int32)))).2 (by decide) (by decide) k) ?_
  show own_Go p e below (s₁.setTop (mkF m 69 #[.val (.ref bf), .val (.int (4 : Int32)), .unset] [])) _
  refine own_by (fun _ k => XS.iloadN X0.here hx rfl (hb hby D4_69) rfl k) ?_
  refine own_by (fun _ k => XS.iconst X0.here hx rfl (hb hby D4_70) k) ?_
  refine own_by (fun _ k => XS.icmpYes X0.here hx rfl (pc0 := 71) (pc' := 105) rfl (hb hby D4_71) rfl (feq (by decide : ¬ ((4 : Int32) = (3 : Int32)))).2 (by decide) (by decide) k) ?_
  show own_Go p e below (s₁.setTop (mkF m 105 #[.val (.ref bf), .val (.int (4 : Int32)), .unset] [])) _
  refine own_by (fun _ k => XS.iloadN X0.here hx rfl (hb hby D4_105) rfl k) ?_
  refine own_by (fun _ k => XS.iconst X0.here hx rfl (hb hby D4_106) k) ?_
  refine own_by (fun _ k => XS.icmpNo X0.here hx rfl (hb hby D4_107) rfl (teq (by decide : (4 : Int32) = (4 : Int32))).2 k) ?_
  show own_Go p e below (s₁.setTop (mkF m 110 #[.val (.ref bf), .val (.int (4 : Int32)), .unset] [])) _
  refine own_by (fun _ k => XS.iconst X0.here hx rfl (hb hby D4_110) k) ?_
  obtain ⟨T1, h1, k1, X1, e1, E1, A1, st1⟩ := newP X0 hx hZ (own_w hw 0 rfl) e0 (g := (mkF m 111 #[.val (.ref bf), .val (.int (4 : Int32)), .unset] [(.int (4 : Int32))])) rfl (hb hby D4_111) rfl (by decide) (cap := 4) (by decide) (by decide) (by decide) (by decide)
  obtain ⟨ob1, g1⟩ : ∃ z, z = h0.size := ⟨_, rfl⟩
  rw [← g1] at A1 st1
  refine own_by st1 ?_
  have z1 := E1.1
  have R1 := R0.trans (CHr.ext E1 R0.1)
  have Vw1 : Arv Z h1 ob1 k1 .char (4 : Int32) [] (.int (0 : Int32)) := Arv.new A1 (by decide)
  have lt1 : h1.size > ob1 := Vw1.lt
  refine own_by (fun _ k => XS.astoreN X1.here hx rfl (hb hby D4_113) rfl rfl (l' := #[.val (.ref bf), .val (.int (4 : Int32)), .val (.ref ob1)]) rfl k) ?_
  refine own_by (fun _ k => XS.aloadN X1.here hx rfl (hb hby D4_114) rfl rfl k) ?_
  refine own_by (fun _ k => XS.iconst X1.here hx rfl (hb hby D4_115) k) ?_
  refine own_by (fun _ k => XS.aloadN X1.here hx rfl (hb hby D4_116) rfl rfl k) ?_
  show own_Go p e below (T1.setTop (mkF m 117 #[.val (.ref bf), .val (.int (4 : Int32)), .val (.ref ob1)] [(.ref bf), (.int (0 : Int32)), (.ref ob1)])) _
  refine own_by (fun _ k => XS.iconst X1.here hx rfl (hb hby D4_117) k) ?_
  have fc2 : Arv Z h1 bf kf .char (5 : Int32) [(.int (u1a &&& (255 : Int32))), (.int (u2a &&& (255 : Int32))), (.int (u3a &&& (255 : Int32))), (.int (u4a &&& (255 : Int32))), (.int (u5a &&& (255 : Int32)))] (.int (0 : Int32)) := (Vf.ext E1)
  obtain ⟨cl3, Ar3, q3, S3, M3, H3, G3⟩ := (id fc2)
  have hin3 : ¬ ((0 : Int32) < 0 ∨ cl3.slots.size ≤ ((0 : Int32)).toNatClampNeg) := inb_of S3 ⟨by decide, by decide⟩
  refine own_by (X1.caload hx (j := (0 : Int32)) (v := (.int (u1a &&& (255 : Int32)))) (by rw [e1]; exact Ar3.1) (State.isArrayOf_alike hZ.alike Ar3.2.1) Ar3.2.2 hin3 (H3.at hin3 rfl) (g := (mkF m 118 #[.val (.ref bf), .val (.int (4 : Int32)), .val (.ref ob1)] [(.int (0 : Int32)), (.ref bf), (.int (0 : Int32)), (.ref ob1)])) rfl rfl (hb hby D4_118)) ?_
  have Vw4 : Arv Z h1 ob1 k1 .char (4 : Int32) [(.int (0 : Int32))] (.int (0 : Int32)) := Vw1.pad (pad_rep [] (.int (0 : Int32)) 1)
  obtain ⟨cl5, Ar5, q5, S5, M5, H5, G5⟩ := (id Vw4)
  have hin5 : ¬ ((0 : Int32) < 0 ∨ cl5.slots.size ≤ ((0 : Int32)).toNatClampNeg) := inb_of S5 ⟨by decide, by decide⟩
  obtain ⟨T5, h5, X5, e5, W5, st5⟩ := stC X1 hx hZ e1 Ar5 (j := (0 : Int32)) hin5 (g := (mkF m 119 #[.val (.ref bf), .val (.int (4 : Int32)), .val (.ref ob1)] [(.int (u1a &&& (255 : Int32))), (.int (0 : Int32)), (.ref ob1)])) rfl rfl (hb hby D4_119)
  refine own_by st5 ?_
  rw [own_mask_c] at W5
  have z5 := W5.size
  have N5 := Fr.snoc X5 N0 (by omega)
  have sw5 : Safe Z own_EL s.vm h1 ob1 := (Safe.arv hZ.alike Vw4 (by decide))
  have sf5_ob1 := Safe.wr W5 sw5 R1.1 sw5
  have R5 := R1.trans (CHr.wr W5 sw5 R1.1)
  have Vw5 : Arv Z h5 ob1 k1 .char (4 : Int32) [(.int (u1a &&& (255 : Int32)))] (.int (0 : Int32)) := Arv.set Ar5 q5 S5 M5 H5 G5 (own_fits_c _) W5 0 rfl (Nat.le_of_ble_eq_true rfl)
  refine own_by (fun _ k => XS.aloadN X5.here hx rfl (hb hby D4_120) rfl rfl k) ?_
  refine own_by (fun _ k => XS.iconst X5.here hx rfl (hb hby D4_121) k) ?_
  refine own_by (fun _ k => XS.aloadN X5.here hx rfl (hb hby D4_122) rfl rfl k) ?_
  show own_Go p e below (T5.setTop (mkF m 123 #[.val (.ref bf), .val (.int (4 : Int32)), .val (.ref ob1)] [(.ref bf), (.int (1 : Int32)), (.ref ob1)])) _
  refine own_by (fun _ k => XS.iconst X5.here hx rfl (hb hby D4_123) k) ?_
  have fc6 : Arv Z h5 bf kf .char (5 : Int32) [(.int (u1a &&& (255 : Int32))), (.int (u2a &&& (255 : Int32))), (.int (u3a &&& (255 : Int32))), (.int (u4a &&& (255 : Int32))), (.int (u5a &&& (255 : Int32)))] (.int (0 : Int32)) := (fc2.other W5 (own_ne (by omega)))
  obtain ⟨cl7, Ar7, q7, S7, M7, H7, G7⟩ := (id fc6)
  have hin7 : ¬ ((1 : Int32) < 0 ∨ cl7.slots.size ≤ ((1 : Int32)).toNatClampNeg) := inb_of S7 ⟨by decide, by decide⟩
  refine own_by (X5.caload hx (j := (1 : Int32)) (v := (.int (u2a &&& (255 : Int32)))) (by rw [e5]; exact Ar7.1) (State.isArrayOf_alike hZ.alike Ar7.2.1) Ar7.2.2 hin7 (H7.at hin7 rfl) (g := (mkF m 124 #[.val (.ref bf), .val (.int (4 : Int32)), .val (.ref ob1)] [(.int (1 : Int32)), (.ref bf), (.int (1 : Int32)), (.ref ob1)])) rfl rfl (hb hby D4_124)) ?_
  have Vw8 : Arv Z h5 ob1 k1 .char (4 : Int32) [(.int (u1a &&& (255 : Int32))), (.int (0 : Int32))] (.int (0 : Int32)) := Vw5.pad (pad_rep [(.int (u1a &&& (255 : Int32)))] (.int (0 : Int32)) 1)
  obtain ⟨cl9, Ar9, q9, S9, M9, H9, G9⟩ := (id Vw8)
  have hin9 : ¬ ((1 : Int32) < 0 ∨ cl9.slots.size ≤ ((1 : Int32)).toNatClampNeg) := inb_of S9 ⟨by decide, by decide⟩
  obtain ⟨T9, h9, X9, e9, W9, st9⟩ := stC X5 hx hZ e5 Ar9 (j := (1 : Int32)) hin9 (g := (mkF m 125 #[.val (.ref bf), .val (.int (4 : Int32)), .val (.ref ob1)] [(.int (u2a &&& (255 : Int32))), (.int (1 : Int32)), (.ref ob1)])) rfl rfl (hb hby D4_125)
  refine own_by st9 ?_
  rw [own_mask_c] at W9
  have z9 := W9.size
  have N9 := Fr.snoc X9 N5 (by omega)
  have sw9 : Safe Z own_EL s.vm h5 ob1 := sf5_ob1
  have sf9_ob1 := Safe.wr W9 sw9 R5.1 sw9
  have R9 := R5.trans (CHr.wr W9 sw9 R5.1)
  have Vw9 : Arv Z h9 ob1 k1 .char (4 : Int32) [(.int (u1a &&& (255 : Int32))), (.int (u2a &&& (255 : Int32)))] (.int (0 : Int32)) := Arv.set Ar9 q9 S9 M9 H9 G9 (own_fits_c _) W9 1 rfl (Nat.le_of_ble_eq_true rfl)
  refine own_by (fun _ k => XS.aloadN X9.here hx rfl (hb hby D4_126) rfl rfl k) ?_
  refine own_by (fun _ k => XS.iconst X9.here hx rfl (hb hby D4_127) k) ?_
  refine own_by (fun _ k => XS.aloadN X9.here hx rfl (hb hby D4_128) rfl rfl k) ?_
  show own_Go p e below (T9.setTop (mkF m 129 #[.val (.ref bf), .val (.int (4 : Int32)), .val (.ref ob1)] [(.ref bf), (.int (2 : Int32)), (.ref ob1)])) _
  refine own_by (fun _ k => XS.iconst X9.here hx rfl (hb hby D4_129) k) ?_
  have fc10 : Arv Z h9 bf kf .char (5 : Int32) [(.int (u1a &&& (255 : Int32))), (.int (u2a &&& (255 : Int32))), (.int (u3a &&& (255 : Int32))), (.int (u4a &&& (255 : Int32))), (.int (u5a &&& (255 : Int32)))] (.int (0 : Int32)) := (fc6.other W9 (own_ne (by omega)))
  obtain ⟨cl11, Ar11, q11, S11, M11, H11, G11⟩ := (id fc10)
  have hin11 : ¬ ((2 : Int32) < 0 ∨ cl11.slots.size ≤ ((2 : Int32)).toNatClampNeg) := inb_of S11 ⟨by decide, by decide⟩
  refine own_by (X9.caload hx (j := (2 : Int32)) (v := (.int (u3a &&& (255 : Int32)))) (by rw [e9]; exact Ar11.1) (State.isArrayOf_alike hZ.alike Ar11.2.1) Ar11.2.2 hin11 (H11.at hin11 rfl) (g := (mkF m 130 #[.val (.ref bf), .val (.int (4 : Int32)), .val (.ref ob1)] [(.int (2 : Int32)), (.ref bf), (.int (2 : Int32)), (.ref ob1)])) rfl rfl (hb hby D4_130)) ?_
  have Vw12 : Arv Z h9 ob1 k1 .char (4 : Int32) [(.int (u1a &&& (255 : Int32))), (.int (u2a &&& (255 : Int32))), (.int (0 : Int32))] (.int (0 : Int32)) := Vw9.pad (pad_rep [(.int (u1a &&& (255 : Int32))), (.int (u2a &&& (255 : Int32)))] (.int (0 : Int32)) 1)
  obtain ⟨cl13, Ar13, q13, S13, M13, H13, G13⟩ := (id Vw12)
  have hin13 : ¬ ((2 : Int32) < 0 ∨ cl13.slots.size ≤ ((2 : Int32)).toNatClampNeg) := inb_of S13 ⟨by decide, by decide⟩
  obtain ⟨T13, h13, X13, e13, W13, st13⟩ := stC X9 hx hZ e9 Ar13 (j := (2 : Int32)) hin13 (g := (mkF m 131 #[.val (.ref bf), .val (.int (4 : Int32)), .val (.ref ob1)] [(.int (u3a &&& (255 : Int32))), (.int (2 : Int32)), (.ref ob1)])) rfl rfl (hb hby D4_131)
  refine own_by st13 ?_
  rw [own_mask_c] at W13
  have z13 := W13.size
  have N13 := Fr.snoc X13 N9 (by omega)
  have sw13 : Safe Z own_EL s.vm h9 ob1 := sf9_ob1
  have sf13_ob1 := Safe.wr W13 sw13 R9.1 sw13
  have R13 := R9.trans (CHr.wr W13 sw13 R9.1)
  have Vw13 : Arv Z h13 ob1 k1 .char (4 : Int32) [(.int (u1a &&& (255 : Int32))), (.int (u2a &&& (255 : Int32))), (.int (u3a &&& (255 : Int32)))] (.int (0 : Int32)) := Arv.set Ar13 q13 S13 M13 H13 G13 (own_fits_c _) W13 2 rfl (Nat.le_of_ble_eq_true rfl)
  refine own_by (fun _ k => XS.aloadN X13.here hx rfl (hb hby D4_132) rfl rfl k) ?_
  refine own_by (fun _ k => XS.iconst X13.here hx rfl (hb hby D4_133) k) ?_
  refine own_by (fun _ k => XS.aloadN X13.here hx rfl (hb hby D4_134) rfl rfl k) ?_
  show own_Go p e below (T13.setTop (mkF m 135 #[.val (.ref bf), .val (.int (4 : Int32)), .val (.ref ob1)] [(.ref bf), (.int (3 : Int32)), (.ref ob1)])) _
  refine own_by (fun _ k => XS.iconst X13.here hx rfl (hb hby D4_135) k) ?_
  have fc14 : Arv Z h13 bf kf .char (5 : Int32) [(.int (u1a &&& (255 : Int32))), (.int (u2a &&& (255 : Int32))), (.int (u3a &&& (255 : Int32))), (.int (u4a &&& (255 : Int32))), (.int (u5a &&& (255 : Int32)))] (.int (0 : Int32)) := (fc10.other W13 (own_ne (by omega)))
  obtain ⟨cl15, Ar15, q15, S15, M15, H15, G15⟩ := (id fc14)
  have hin15 : ¬ ((3 : Int32) < 0 ∨ cl15.slots.size ≤ ((3 : Int32)).toNatClampNeg) := inb_of S15 ⟨by decide, by decide⟩
  refine own_by (X13.caload hx (j := (3 : Int32)) (v := (.int (u4a &&& (255 : Int32)))) (by rw [e13]; exact Ar15.1) (State.isArrayOf_alike hZ.alike Ar15.2.1) Ar15.2.2 hin15 (H15.at hin15 rfl) (g := (mkF m 136 #[.val (.ref bf), .val (.int (4 : Int32)), .val (.ref ob1)] [(.int (3 : Int32)), (.ref bf), (.int (3 : Int32)), (.ref ob1)])) rfl rfl (hb hby D4_136)) ?_
  have Vw16 : Arv Z h13 ob1 k1 .char (4 : Int32) [(.int (u1a &&& (255 : Int32))), (.int (u2a &&& (255 : Int32))), (.int (u3a &&& (255 : Int32))), (.int (0 : Int32))] (.int (0 : Int32)) := Vw13.pad (pad_rep [(.int (u1a &&& (255 : Int32))), (.int (u2a &&& (255 : Int32))), (.int (u3a &&& (255 : Int32)))] (.int (0 : Int32)) 1)
  obtain ⟨cl17, Ar17, q17, S17, M17, H17, G17⟩ := (id Vw16)
  have hin17 : ¬ ((3 : Int32) < 0 ∨ cl17.slots.size ≤ ((3 : Int32)).toNatClampNeg) := inb_of S17 ⟨by decide, by decide⟩
  obtain ⟨T17, h17, X17, e17, W17, st17⟩ := stC X13 hx hZ e13 Ar17 (j := (3 : Int32)) hin17 (g := (mkF m 137 #[.val (.ref bf), .val (.int (4 : Int32)), .val (.ref ob1)] [(.int (u4a &&& (255 : Int32))), (.int (3 : Int32)), (.ref ob1)])) rfl rfl (hb hby D4_137)
  refine own_by st17 ?_
  rw [own_mask_c] at W17
  have z17 := W17.size
  have N17 := Fr.snoc X17 N13 (by omega)
  have sw17 : Safe Z own_EL s.vm h13 ob1 := sf13_ob1
  have sf17_ob1 := Safe.wr W17 sw17 R13.1 sw17
  have R17 := R13.trans (CHr.wr W17 sw17 R13.1)
  have Vw17 : Arv Z h17 ob1 k1 .char (4 : Int32) [(.int (u1a &&& (255 : Int32))), (.int (u2a &&& (255 : Int32))), (.int (u3a &&& (255 : Int32))), (.int (u4a &&& (255 : Int32)))] (.int (0 : Int32)) := Arv.set Ar17 q17 S17 M17 H17 G17 (own_fits_c _) W17 3 rfl (Nat.le_of_ble_eq_true rfl)
  obtain ⟨T18, h18, X18, e18, E18, A18, D18, U18, st18⟩ := newO X17 hx hZ hown (own_w hw 36 rfl) (own_w hw 37 rfl) (own_w hw 30 rfl) e17 (g := (mkF m 138 #[.val (.ref bf), .val (.int (4 : Int32)), .val (.ref ob1)] [])) rfl (hb hby D4_138) (by decide) (by decide)
  obtain ⟨ob18, g18⟩ : ∃ z, z = h17.size := ⟨_, rfl⟩
  rw [← g18] at A18 D18 U18 st18
  refine own_by st18 ?_
  have z18 := E18.1
  have lt18 : h18.size > ob18 := A18.lt
  have sf18_ob1 := Safe.ext E18 R17.1 sf17_ob1
  have R18 := R17.trans (CHr.ext E18 R17.1)
  refine own_by (fun _ k => XS.dup X18.here hx rfl (hb hby D4_141) rfl rfl k) ?_
  refine own_by (fun _ k => XS.aloadN X18.here hx rfl (hb hby D4_142) rfl rfl k) ?_
  show own_Go p e below (T18.setTop (mkF m 143 #[.val (.ref bf), .val (.int (4 : Int32)), .val (.ref ob1)] [(.ref ob1), (.ref ob18), (.ref ob18)])) _
  have fc19 : Arv Z h18 ob1 k1 .char (4 : Int32) [(.int (u1a &&& (255 : Int32))), (.int (u2a &&& (255 : Int32))), (.int (u3a &&& (255 : Int32))), (.int (u4a &&& (255 : Int32)))] (.int (0 : Int32)) := (Vw17.ext E18)
  have O20 : Old Z n0 h18 := ((((((O0.ext E1).wr W5 (by omega)).wr W9 (by omega)).wr W13 (by omega)).wr W17 (by omega)).ext E18)
  obtain ⟨_, _, ⟨T21, L21, k21, n21⟩, -, X21, ⟨Lc21, hQ21, l21, y21, z21⟩, st21⟩ := X18.specialBack hx (y := (⟨s11_, "<init>", "([C)V"⟩ : MethodName)) rfl hown (mvT hZ (own_w hw 38 rfl)) (mvT hZ (own_w hw 39 rfl)) (mvT hZ (own_w hw 40 rfl)) (by decide) (backOf (W := 1) (rm_sinit_4 l Z a0 hw [] ob18 ob1 k1 cs (u1a &&& (255 : Int32)) (u2a &&& (255 : Int32)) (u3a &&& (255 : Int32)) (u4a &&& (255 : Int32)) h18 n0 O20 S_COMPACT A18 (show Fld Z h18 ob18 s11_ "value" "[B" .null from D18 (Or.inr (own_w hw 63 rfl)) (ty := (.array .byte)) (by decide)) (show Fld Z h18 ob18 s11_ "coder" "B" (.int (0 : Int32)) from D18 (Or.inr (own_w hw 61 rfl)) (ty := .byte) (by decide)) fc19 (own_mask_hi (u1a)) (own_mask_hi (u2a)) (own_mask_hi (u3a)) (own_mask_hi (u4a)) (by first | assumption | omega | decide) hcs (by first | assumption | omega | decide)) hZ (own_w hw 40 rfl) (own_w hw 30 rfl) (by decide) (by decide)) (g := (mkF m 143 #[.val (.ref bf), .val (.int (4 : Int32)), .val (.ref ob1)] [(.ref ob1), (.ref ob18), (.ref ob18)])) rfl (by rw [hml]; rfl) (Steps.refl _) (a := ob18) (argsL := [(.ref ob1)]) (rest := [(.ref ob18)]) (lenOf own_pd__28_5bC_29V rfl) rfl (by show 2 * 0 + _ ≤ _; exact Nat.le_of_eq rfl) (hb hby D4_143) (fun _ _ => ⟨rfl, e18, (by decide : 2 + 1 ≤ _), (by decide : 8 + 4 ≤ _)⟩)
  dsimp only [Pt.U, Pt.locs, Pt.cells, Pt.slots] at X21 l21 y21 z21 st21 hQ21
  subst l21 y21 z21
  obtain ⟨b_21, kb_21, rfl, M21, K21, g21_0, g21_1, g21_2, g21_3, r21_0⟩ := hQ21
  have N21 := Fr.app N17 M21
  refine own_by (fun _ k => st21.trans k) ?_
  have sk21 : ∀ x ∈ ([ob18] : List Addr), Safe Z own_EL s.vm h18 x := (sfS (own_safe_null hZ.alike A18 (show Fld Z h18 ob18 s11_ "value" "[B" .null from D18 (Or.inr (own_w hw 63 rfl)) (ty := (.array .byte)) (by decide))) sf0)
  have sf21_ob1 := Safe.keep K21 sk21 R18.1 sf18_ob1
  have R21 := R18.trans (CHr.keep K21 sk21 R18.1)
  have z21 := K21.1
  have lt_g21_0 : T21.heap.size > ob18 := g21_0.lt
  have lt_g21_1 : T21.heap.size > ob18 := g21_1.lt
  have lt_g21_2 : T21.heap.size > ob18 := g21_2.lt
  have lt_g21_3 : T21.heap.size > b_21 := g21_3.lt
  have K22 : Keep h0 T21.heap [] := ((((((((Keep.refl h0 []).ext E1).wr W5 (Or.inr (by omega))).wr W9 (Or.inr (by omega))).wr W13 (Or.inr (by omega))).wr W17 (Or.inr (by omega))).ext E18).trans K21 (allS (P := fun x => x ∈ [] ∨ h0.size ≤ x) (Or.inr (by omega)) all0))
  obtain ⟨fs, hr, hrun, hended, hW⟩ := X21.leaveW S0 (by first | omega | (rw [e0]; omega)) (v := some (.ref ob18)) (fun h => by rw [Bd.returns] at h; cases h)
  have RR := R21.trans (CHv.at X21 hZ hEL R21.1)
  have RR' : CHr Z own_EL s.vm s.heap T21.vm T21.heap := by rw [hh]; exact RR
  refine ⟨_, _, retOut X21 hx Bd.returns (own_narrow_ref (by decide) rfl) (Or.inr (Or.inr (Or.inr (Or.inr ⟨rfl, by decide, rfl⟩)))) (hb hby D4_146) hr, hrun, hended, _, _, rfl, ?_, RR', ⟨_, rfl⟩, hW.2.1, hW.2.2.1, hW.2.2.2.mono (by decide) (by decide)⟩
  show Q_rm_pre4 Z bf kf cs u1a u2a u3a u4a u5a h0 n0 _ T21.heap _
  exact ⟨ob18, b_21, kb_21, rfl, N21, K22, g21_0, g21_1, g21_2, g21_3, (by first | assumption | omega)⟩
theorem D4_147 : decode method_3_code 147 = .ok (.iconst 5, 1) := by decide +kernel
theorem D4_148 : decode method_3_code 148 = .ok (.newarray .char, 2) := by decide +kernel
theorem D4_150 : decode method_3_code 150 = .ok (.astore_n 2, 1) := by decide +kernel
theorem D4_151 : decode method_3_code 151 = .ok (.aload_n 2, 1) := by decide +kernel
theorem D4_152 : decode method_3_code 152 = .ok (.iconst 0, 1) := by decide +kernel
theorem D4_153 : decode method_3_code 153 = .ok (.aload_n 0, 1) := by decide +kernel
theorem D4_154 : decode method_3_code 154 = .ok (.iconst 0, 1) := by decide +kernel
theorem D4_155 : decode method_3_code 155 = .ok (.caload, 1) := by decide +kernel
theorem D4_156 : decode method_3_code 156 = .ok (.castore, 1) := by decide +kernel
theorem D4_157 : decode method_3_code 157 = .ok (.aload_n 2, 1) := by decide +kernel
theorem D4_158 : decode method_3_code 158 = .ok (.iconst 1, 1) := by decide +kernel
theorem D4_159 : decode method_3_code 159 = .ok (.aload_n 0, 1) := by decide +kernel
theorem D4_160 : decode method_3_code 160 = .ok (.iconst 1, 1) := by decide +kernel
theorem D4_161 : decode method_3_code 161 = .ok (.caload, 1) := by decide +kernel
theorem D4_162 : decode method_3_code 162 = .ok (.castore, 1) := by decide +kernel
theorem D4_163 : decode method_3_code 163 = .ok (.aload_n 2, 1) := by decide +kernel
theorem D4_164 : decode method_3_code 164 = .ok (.iconst 2, 1) := by decide +kernel
theorem D4_165 : decode method_3_code 165 = .ok (.aload_n 0, 1) := by decide +kernel
theorem D4_166 : decode method_3_code 166 = .ok (.iconst 2, 1) := by decide +kernel
theorem D4_167 : decode method_3_code 167 = .ok (.caload, 1) := by decide +kernel
theorem D4_168 : decode method_3_code 168 = .ok (.castore, 1) := by decide +kernel
theorem D4_169 : decode method_3_code 169 = .ok (.aload_n 2, 1) := by decide +kernel
theorem D4_170 : decode method_3_code 170 = .ok (.iconst 3, 1) := by decide +kernel
theorem D4_171 : decode method_3_code 171 = .ok (.aload_n 0, 1) := by decide +kernel
theorem D4_172 : decode method_3_code 172 = .ok (.iconst 3, 1) := by decide +kernel
theorem D4_173 : decode method_3_code 173 = .ok (.caload, 1) := by decide +kernel
theorem D4_174 : decode method_3_code 174 = .ok (.castore, 1) := by decide +kernel
theorem D4_175 : decode method_3_code 175 = .ok (.aload_n 2, 1) := by decide +kernel
theorem D4_176 : decode method_3_code 176 = .ok (.iconst 4, 1) := by decide +kernel
theorem D4_177 : decode method_3_code 177 = .ok (.aload_n 0, 1) := by decide +kernel
theorem D4_178 : decode method_3_code 178 = .ok (.iconst 4, 1) := by decide +kernel
theorem D4_179 : decode method_3_code 179 = .ok (.caload, 1) := by decide +kernel
theorem D4_180 : decode method_3_code 180 = .ok (.castore, 1) := by decide +kernel
theorem D4_181 : decode method_3_code 181 = .ok (.new 30, 3) := by decide +kernel
theorem D4_184 : decode method_3_code 184 = .ok (.dup, 1) := by decide +kernel
theorem D4_185 : decode method_3_code 185 = .ok (.aload_n 2, 1) := by decide +kernel
theorem D4_186 : decode method_3_code 186 = .ok (.invokespecial 32, 3) := by decide +kernel
theorem D4_189 : decode method_3_code 189 = .ok (.areturn, 1) := by decide +kernel
def Q_rm_pre5 (Z : State) (bf : Addr) (kf : ClassId) (cs : Int32) (u1a : Int32) (u2a : Int32) (u3a : Int32) (u4a : Int32) (u5a : Int32) (h0 : Heap) (n0 : Nat) (v : Option Value) (h : Heap) (L : List Loc) : Prop := ∃ (r1 : Addr), ∃ (b : Addr), ∃ (kb : ClassId), v = some (.ref r1) ∧ Fr n0 L ∧ Keep h0 h [] ∧ Exa Z h r1 s11_ ∧ Fld Z h r1 s11_ "coder" "B" (.int (0 : Int32)) ∧ Fld Z h r1 s11_ "value" "[B" (.ref b) ∧ Arv Z h b kb .byte (5 : Int32) [(.int (own_b (u1a &&& (255 : Int32)))), (.int (own_b (u2a &&& (255 : Int32)))), (.int (own_b (u3a &&& (255 : Int32)))), (.int (own_b (u4a &&& (255 : Int32)))), (.int (own_b (u5a &&& (255 : Int32))))] (.int (0 : Int32)) ∧ h0.size ≤ r1
theorem ef_rm_pre5 (m : MethodId) (bf : Addr) (kf : ClassId) (cs : Int32) (u1a : Int32) (u2a : Int32) (u3a : Int32) (u4a : Int32) (u5a : Int32) : entryFrame m #[(.ref bf), (.int (5 : Int32))] 3 = mkF m 0 #[.val (.ref bf), .val (.int (5 : Int32)), .unset] [] := by first | (simp [entryFrame, mkF, argsToLocals, Value.category]; done) | rfl
set_option maxRecDepth 65536 in
set_option maxHeartbeats 40000000 in
theorem rm_pre5 (l : Launch) (Z : State) (a0 : Array Value) (hw : ∀ d ∈ tables_1, d.before a0 Z = true) (ws : List Jvm.Cond) (bf : Addr) (kf : ClassId) (cs : Int32) (u1a : Int32) (u2a : Int32) (u3a : Int32) (u4a : Int32) (u5a : Int32) (h0 : Heap) (n0 : Nat) (O0 : Old Z n0 h0) (hEL : EW Z a0 own_EL) (S_COMPACT : Sta Z Z.heap s11_ s15_ "Z" (.int cs)) (Vf : Arv Z h0 bf kf .char (5 : Int32) [(.int (u1a &&& (255 : Int32))), (.int (u2a &&& (255 : Int32))), (.int (u3a &&& (255 : Int32))), (.int (u4a &&& (255 : Int32))), (.int (u5a &&& (255 : Int32)))] (.int (0 : Int32))) (hcs : ¬ (cs = (0 : Int32))) :
    MetFree l (⟨s1_, "prefix", s13_⟩ : MethodName) (head1 (Jvm.Cond.code (⟨s1_, "prefix", s13_⟩ : MethodName) method_3_code 3 (some (.object s11_)) :: ws) ({ frames := 4, cells := 3, slots := 14, locals := 66 } : Room)) (fun a U => a = #[(.ref bf), (.int (5 : Int32))] ∧ Z.Warmed39 U.vm ∧ U.heap = h0 ∧ CHv Z own_EL U.vm h0) (fun _ _ _ _ _ => True) (fun _ U o U' => ∃ v L, o = .returned v ∧ Q_rm_pre5 Z bf kf cs u1a u2a u3a u4a u5a h0 n0 v U'.heap L ∧ CHr Z own_EL U.vm U.heap U'.vm U'.heap ∧ ReturnedEndW U o U' L ({ frames := 4, cells := 3, slots := 14, locals := 66 } : Room).cells ({ frames := 4, cells := 3, slots := 14, locals := 66 } : Room).slots) := by
  refine MetFree.of_bodySF (plainFor_of_name own_pn_com_example_ostiarius_ostiarius_key_KeyKindOfLabelPinLaw) hisR ?_
  intro p e s m args below meth c s₁ Bd hml0 hP hK
  obtain ⟨rfl, hZ, hh, hC⟩ := hP
  have hx := Bd.exec
  have hby := Bd.bytes
  have hml : c.maxLocals = 3 := hml0
  have hown : s.vm.findClass s1_ = some m.cls := findClass_of_methodNamed Bd.named
  have hnm := (name_of_methodNamed Bd.named Bd.method).1
  have X0 : Stand p l e ({ frames := 4, cells := 3, slots := 14, locals := 66 } : Room) (s.setVm s.vm) m #[(.ref bf), (.int (5 : Int32))] below meth c s₁ [] 0 0 := Stand.of_body Bd
  have S0 : s.Since s.vm h0.size := (State.WarmedH.refl s).since _
  have hZ : Z.Warmed39 (s.setVm s.vm).vm := hZ
  have hown : (s.setVm s.vm).vm.findClass s1_ = some m.cls := hown
  have R0 : CHr Z own_EL s.vm h0 s.vm h0 := CHr.refl hC
  have e0 : s₁.heap = h0 := by rw [← hh, Bd.state]; rfl
  have N0 := Fr.nil n0
  have Z0 : n0 ≤ h0.size := by rw [← O0.1]; exact O0.2.1
  show own_Go p e below (s₁.setTop (entryFrame m #[(.ref bf), (.int (5 : Int32))] 3)) (fun t o => ∃ v L, o = .returned v ∧ Q_rm_pre5 Z bf kf cs u1a u2a u3a u4a u5a h0 n0 v t.heap L ∧ CHr Z own_EL s.vm s.heap t.vm t.heap ∧ ReturnedEndW s o t L ({ frames := 4, cells := 3, slots := 14, locals := 66 } : Room).cells ({ frames := 4, cells := 3, slots := 14, locals := 66 } : Room).slots)
  rw [ef_rm_pre5 m bf kf cs u1a u2a u3a u4a u5a]
  have lt_Vf : h0.size > bf := Vf.lt
  refine own_by (fun _ k => XS.iloadN X0.here hx rfl (hb hby D4_0) rfl k) ?_
  refine own_by (fun _ k => XS.ifYes X0.here hx rfl (pc0 := 1) (pc' := 15) rfl (hb hby D4_1) rfl ((if0 _ _).trans (feq (by decide : ¬ ((5 : Int32) = (0 : Int32)))).2) (by decide) (by decide) k) ?_
  show own_Go p e below (s₁.setTop (mkF m 15 #[.val (.ref bf), .val (.int (5 : Int32)), .unset] [])) _
  refine own_by (fun _ k => XS.iloadN X0.here hx rfl (hb hby D4_15) rfl k) ?_
  refine own_by (fun _ k => XS.iconst X0.here hx rfl (hb hby D4_16) k) ?_
  refine own_by (fun _ k => XS.icmpYes X0.here hx rfl (pc0 := 17) (pc' := 39) rfl (hb hby D4_17) rfl (feq (by decide : ¬ ((5 : Int32) = (1 : Int32)))).2 (by decide) (by decide) k) ?_
  show own_Go p e below (s₁.setTop (mkF m 39 #[.val (.ref bf), .val (.int (5 : Int32)), .unset] [])) _
  refine own_by (fun _ k => XS.iloadN X0.here hx rfl (hb hby D4_39) rfl k) ?_
  refine own_by (fun _ k => XS.iconst X0.here hx rfl (hb hby D4_40) k) ?_
  refine own_by (fun _ k => XS.icmpYes X0.here hx rfl (pc0 := 41) (pc' := 69) rfl (hb hby D4_41) rfl (feq (by decide : ¬ ((5 : Int32) = (2 : Int32)))).2 (by decide) (by decide) k) ?_
  show own_Go p e below (s₁.setTop (mkF m 69 #[.val (.ref bf), .val (.int (5 : Int32)), .unset] [])) _
  refine own_by (fun _ k => XS.iloadN X0.here hx rfl (hb hby D4_69) rfl k) ?_
  refine own_by (fun _ k => XS.iconst X0.here hx rfl (hb hby D4_70) k) ?_
  refine own_by (fun _ k => XS.icmpYes X0.here hx rfl (pc0 := 71) (pc' := 105) rfl (hb hby D4_71) rfl (feq (by decide : ¬ ((5 : Int32) = (3 : Int32)))).2 (by decide) (by decide) k) ?_
  show own_Go p e below (s₁.setTop (mkF m 105 #[.val (.ref bf), .val (.int (5 : Int32)), .unset] [])) _
  refine own_by (fun _ k => XS.iloadN X0.here hx rfl (hb hby D4_105) rfl k) ?_
  refine own_by (fun _ k => XS.iconst X0.here hx rfl (hb hby D4_106) k) ?_
  refine own_by (fun _ k => XS.icmpYes X0.here hx rfl (pc0 := 107) (pc' := 147) rfl (hb hby D4_107) rfl (feq (by decide : ¬ ((5 : Int32) = (4 : Int32)))).2 (by decide) (by decide) k) ?_
  show own_Go p e below (s₁.setTop (mkF m 147 #[.val (.ref bf), .val (.int (5 : Int32)), .unset] [])) _
  refine own_by (fun _ k => XS.iconst X0.here hx rfl (hb hby D4_147) k) ?_
  obtain ⟨T1, h1, k1, X1, e1, E1, A1, st1⟩ := newP X0 hx hZ (own_w hw 0 rfl) e0 (g := (mkF m 148 #[.val (.ref bf), .val (.int (5 : Int32)), .unset] [(.int (5 : Int32))])) rfl (hb hby D4_148) rfl (by decide) (cap := 5) (by decide) (by decide) (by decide) (by decide)
  obtain ⟨ob1, g1⟩ : ∃ z, z = h0.size := ⟨_, rfl⟩
  rw [← g1] at A1 st1
  refine own_by st1 ?_
  have z1 := E1.1
  have R1 := R0.trans (CHr.ext E1 R0.1)
  have Vw1 : Arv Z h1 ob1 k1 .char (5 : Int32) [] (.int (0 : Int32)) := Arv.new A1 (by decide)
  have lt1 : h1.size > ob1 := Vw1.lt
  refine own_by (fun _ k => XS.astoreN X1.here hx rfl (hb hby D4_150) rfl rfl (l' := #[.val (.ref bf), .val (.int (5 : Int32)), .val (.ref ob1)]) rfl k) ?_
  refine own_by (fun _ k => XS.aloadN X1.here hx rfl (hb hby D4_151) rfl rfl k) ?_
  refine own_by (fun _ k => XS.iconst X1.here hx rfl (hb hby D4_152) k) ?_
  refine own_by (fun _ k => XS.aloadN X1.here hx rfl (hb hby D4_153) rfl rfl k) ?_
  show own_Go p e below (T1.setTop (mkF m 154 #[.val (.ref bf), .val (.int (5 : Int32)), .val (.ref ob1)] [(.ref bf), (.int (0 : Int32)), (.ref ob1)])) _
  refine own_by (fun _ k => XS.iconst X1.here hx rfl (hb hby D4_154) k) ?_
  have fc2 : Arv Z h1 bf kf .char (5 : Int32) [(.int (u1a &&& (255 : Int32))), (.int (u2a &&& (255 : Int32))), (.int (u3a &&& (255 : Int32))), (.int (u4a &&& (255 : Int32))), (.int (u5a &&& (255 : Int32)))] (.int (0 : Int32)) := (Vf.ext E1)
  obtain ⟨cl3, Ar3, q3, S3, M3, H3, G3⟩ := (id fc2)
  have hin3 : ¬ ((0 : Int32) < 0 ∨ cl3.slots.size ≤ ((0 : Int32)).toNatClampNeg) := inb_of S3 ⟨by decide, by decide⟩
  refine own_by (X1.caload hx (j := (0 : Int32)) (v := (.int (u1a &&& (255 : Int32)))) (by rw [e1]; exact Ar3.1) (State.isArrayOf_alike hZ.alike Ar3.2.1) Ar3.2.2 hin3 (H3.at hin3 rfl) (g := (mkF m 155 #[.val (.ref bf), .val (.int (5 : Int32)), .val (.ref ob1)] [(.int (0 : Int32)), (.ref bf), (.int (0 : Int32)), (.ref ob1)])) rfl rfl (hb hby D4_155)) ?_
  have Vw4 : Arv Z h1 ob1 k1 .char (5 : Int32) [(.int (0 : Int32))] (.int (0 : Int32)) := Vw1.pad (pad_rep [] (.int (0 : Int32)) 1)
  obtain ⟨cl5, Ar5, q5, S5, M5, H5, G5⟩ := (id Vw4)
  have hin5 : ¬ ((0 : Int32) < 0 ∨ cl5.slots.size ≤ ((0 : Int32)).toNatClampNeg) := inb_of S5 ⟨by decide, by decide⟩
  obtain ⟨T5, h5, X5, e5, W5, st5⟩ := stC X1 hx hZ e1 Ar5 (j := (0 : Int32)) hin5 (g := (mkF m 156 #[.val (.ref bf), .val (.int (5 : Int32)), .val (.ref ob1)] [(.int (u1a &&& (255 : Int32))), (.int (0 : Int32)), (.ref ob1)])) rfl rfl (hb hby D4_156)
  refine own_by st5 ?_
  rw [own_mask_c] at W5
  have z5 := W5.size
  have N5 := Fr.snoc X5 N0 (by omega)
  have sw5 : Safe Z own_EL s.vm h1 ob1 := (Safe.arv hZ.alike Vw4 (by decide))
  have sf5_ob1 := Safe.wr W5 sw5 R1.1 sw5
  have R5 := R1.trans (CHr.wr W5 sw5 R1.1)
  have Vw5 : Arv Z h5 ob1 k1 .char (5 : Int32) [(.int (u1a &&& (255 : Int32)))] (.int (0 : Int32)) := Arv.set Ar5 q5 S5 M5 H5 G5 (own_fits_c _) W5 0 rfl (Nat.le_of_ble_eq_true rfl)
  refine own_by (fun _ k => XS.aloadN X5.here hx rfl (hb hby D4_157) rfl rfl k) ?_
  refine own_by (fun _ k => XS.iconst X5.here hx rfl (hb hby D4_158) k) ?_
  refine own_by (fun _ k => XS.aloadN X5.here hx rfl (hb hby D4_159) rfl rfl k) ?_
  show own_Go p e below (T5.setTop (mkF m 160 #[.val (.ref bf), .val (.int (5 : Int32)), .val (.ref ob1)] [(.ref bf), (.int (1 : Int32)), (.ref ob1)])) _
  refine own_by (fun _ k => XS.iconst X5.here hx rfl (hb hby D4_160) k) ?_
  have fc6 : Arv Z h5 bf kf .char (5 : Int32) [(.int (u1a &&& (255 : Int32))), (.int (u2a &&& (255 : Int32))), (.int (u3a &&& (255 : Int32))), (.int (u4a &&& (255 : Int32))), (.int (u5a &&& (255 : Int32)))] (.int (0 : Int32)) := (fc2.other W5 (own_ne (by omega)))
  obtain ⟨cl7, Ar7, q7, S7, M7, H7, G7⟩ := (id fc6)
  have hin7 : ¬ ((1 : Int32) < 0 ∨ cl7.slots.size ≤ ((1 : Int32)).toNatClampNeg) := inb_of S7 ⟨by decide, by decide⟩
  refine own_by (X5.caload hx (j := (1 : Int32)) (v := (.int (u2a &&& (255 : Int32)))) (by rw [e5]; exact Ar7.1) (State.isArrayOf_alike hZ.alike Ar7.2.1) Ar7.2.2 hin7 (H7.at hin7 rfl) (g := (mkF m 161 #[.val (.ref bf), .val (.int (5 : Int32)), .val (.ref ob1)] [(.int (1 : Int32)), (.ref bf), (.int (1 : Int32)), (.ref ob1)])) rfl rfl (hb hby D4_161)) ?_
  have Vw8 : Arv Z h5 ob1 k1 .char (5 : Int32) [(.int (u1a &&& (255 : Int32))), (.int (0 : Int32))] (.int (0 : Int32)) := Vw5.pad (pad_rep [(.int (u1a &&& (255 : Int32)))] (.int (0 : Int32)) 1)
  obtain ⟨cl9, Ar9, q9, S9, M9, H9, G9⟩ := (id Vw8)
  have hin9 : ¬ ((1 : Int32) < 0 ∨ cl9.slots.size ≤ ((1 : Int32)).toNatClampNeg) := inb_of S9 ⟨by decide, by decide⟩
  obtain ⟨T9, h9, X9, e9, W9, st9⟩ := stC X5 hx hZ e5 Ar9 (j := (1 : Int32)) hin9 (g := (mkF m 162 #[.val (.ref bf), .val (.int (5 : Int32)), .val (.ref ob1)] [(.int (u2a &&& (255 : Int32))), (.int (1 : Int32)), (.ref ob1)])) rfl rfl (hb hby D4_162)
  refine own_by st9 ?_
  rw [own_mask_c] at W9
  have z9 := W9.size
  have N9 := Fr.snoc X9 N5 (by omega)
  have sw9 : Safe Z own_EL s.vm h5 ob1 := sf5_ob1
  have sf9_ob1 := Safe.wr W9 sw9 R5.1 sw9
  have R9 := R5.trans (CHr.wr W9 sw9 R5.1)
  have Vw9 : Arv Z h9 ob1 k1 .char (5 : Int32) [(.int (u1a &&& (255 : Int32))), (.int (u2a &&& (255 : Int32)))] (.int (0 : Int32)) := Arv.set Ar9 q9 S9 M9 H9 G9 (own_fits_c _) W9 1 rfl (Nat.le_of_ble_eq_true rfl)
  refine own_by (fun _ k => XS.aloadN X9.here hx rfl (hb hby D4_163) rfl rfl k) ?_
  refine own_by (fun _ k => XS.iconst X9.here hx rfl (hb hby D4_164) k) ?_
  refine own_by (fun _ k => XS.aloadN X9.here hx rfl (hb hby D4_165) rfl rfl k) ?_
  show own_Go p e below (T9.setTop (mkF m 166 #[.val (.ref bf), .val (.int (5 : Int32)), .val (.ref ob1)] [(.ref bf), (.int (2 : Int32)), (.ref ob1)])) _
  refine own_by (fun _ k => XS.iconst X9.here hx rfl (hb hby D4_166) k) ?_
  have fc10 : Arv Z h9 bf kf .char (5 : Int32) [(.int (u1a &&& (255 : Int32))), (.int (u2a &&& (255 : Int32))), (.int (u3a &&& (255 : Int32))), (.int (u4a &&& (255 : Int32))), (.int (u5a &&& (255 : Int32)))] (.int (0 : Int32)) := (fc6.other W9 (own_ne (by omega)))
  obtain ⟨cl11, Ar11, q11, S11, M11, H11, G11⟩ := (id fc10)
  have hin11 : ¬ ((2 : Int32) < 0 ∨ cl11.slots.size ≤ ((2 : Int32)).toNatClampNeg) := inb_of S11 ⟨by decide, by decide⟩
  refine own_by (X9.caload hx (j := (2 : Int32)) (v := (.int (u3a &&& (255 : Int32)))) (by rw [e9]; exact Ar11.1) (State.isArrayOf_alike hZ.alike Ar11.2.1) Ar11.2.2 hin11 (H11.at hin11 rfl) (g := (mkF m 167 #[.val (.ref bf), .val (.int (5 : Int32)), .val (.ref ob1)] [(.int (2 : Int32)), (.ref bf), (.int (2 : Int32)), (.ref ob1)])) rfl rfl (hb hby D4_167)) ?_
  have Vw12 : Arv Z h9 ob1 k1 .char (5 : Int32) [(.int (u1a &&& (255 : Int32))), (.int (u2a &&& (255 : Int32))), (.int (0 : Int32))] (.int (0 : Int32)) := Vw9.pad (pad_rep [(.int (u1a &&& (255 : Int32))), (.int (u2a &&& (255 : Int32)))] (.int (0 : Int32)) 1)
  obtain ⟨cl13, Ar13, q13, S13, M13, H13, G13⟩ := (id Vw12)
  have hin13 : ¬ ((2 : Int32) < 0 ∨ cl13.slots.size ≤ ((2 : Int32)).toNatClampNeg) := inb_of S13 ⟨by decide, by decide⟩
  obtain ⟨T13, h13, X13, e13, W13, st13⟩ := stC X9 hx hZ e9 Ar13 (j := (2 : Int32)) hin13 (g := (mkF m 168 #[.val (.ref bf), .val (.int (5 : Int32)), .val (.ref ob1)] [(.int (u3a &&& (255 : Int32))), (.int (2 : Int32)), (.ref ob1)])) rfl rfl (hb hby D4_168)
  refine own_by st13 ?_
  rw [own_mask_c] at W13
  have z13 := W13.size
  have N13 := Fr.snoc X13 N9 (by omega)
  have sw13 : Safe Z own_EL s.vm h9 ob1 := sf9_ob1
  have sf13_ob1 := Safe.wr W13 sw13 R9.1 sw13
  have R13 := R9.trans (CHr.wr W13 sw13 R9.1)
  have Vw13 : Arv Z h13 ob1 k1 .char (5 : Int32) [(.int (u1a &&& (255 : Int32))), (.int (u2a &&& (255 : Int32))), (.int (u3a &&& (255 : Int32)))] (.int (0 : Int32)) := Arv.set Ar13 q13 S13 M13 H13 G13 (own_fits_c _) W13 2 rfl (Nat.le_of_ble_eq_true rfl)
  refine own_by (fun _ k => XS.aloadN X13.here hx rfl (hb hby D4_169) rfl rfl k) ?_
  refine own_by (fun _ k => XS.iconst X13.here hx rfl (hb hby D4_170) k) ?_
  refine own_by (fun _ k => XS.aloadN X13.here hx rfl (hb hby D4_171) rfl rfl k) ?_
  show own_Go p e below (T13.setTop (mkF m 172 #[.val (.ref bf), .val (.int (5 : Int32)), .val (.ref ob1)] [(.ref bf), (.int (3 : Int32)), (.ref ob1)])) _
  refine own_by (fun _ k => XS.iconst X13.here hx rfl (hb hby D4_172) k) ?_
  have fc14 : Arv Z h13 bf kf .char (5 : Int32) [(.int (u1a &&& (255 : Int32))), (.int (u2a &&& (255 : Int32))), (.int (u3a &&& (255 : Int32))), (.int (u4a &&& (255 : Int32))), (.int (u5a &&& (255 : Int32)))] (.int (0 : Int32)) := (fc10.other W13 (own_ne (by omega)))
  obtain ⟨cl15, Ar15, q15, S15, M15, H15, G15⟩ := (id fc14)
  have hin15 : ¬ ((3 : Int32) < 0 ∨ cl15.slots.size ≤ ((3 : Int32)).toNatClampNeg) := inb_of S15 ⟨by decide, by decide⟩
  refine own_by (X13.caload hx (j := (3 : Int32)) (v := (.int (u4a &&& (255 : Int32)))) (by rw [e13]; exact Ar15.1) (State.isArrayOf_alike hZ.alike Ar15.2.1) Ar15.2.2 hin15 (H15.at hin15 rfl) (g := (mkF m 173 #[.val (.ref bf), .val (.int (5 : Int32)), .val (.ref ob1)] [(.int (3 : Int32)), (.ref bf), (.int (3 : Int32)), (.ref ob1)])) rfl rfl (hb hby D4_173)) ?_
  have Vw16 : Arv Z h13 ob1 k1 .char (5 : Int32) [(.int (u1a &&& (255 : Int32))), (.int (u2a &&& (255 : Int32))), (.int (u3a &&& (255 : Int32))), (.int (0 : Int32))] (.int (0 : Int32)) := Vw13.pad (pad_rep [(.int (u1a &&& (255 : Int32))), (.int (u2a &&& (255 : Int32))), (.int (u3a &&& (255 : Int32)))] (.int (0 : Int32)) 1)
  obtain ⟨cl17, Ar17, q17, S17, M17, H17, G17⟩ := (id Vw16)
  have hin17 : ¬ ((3 : Int32) < 0 ∨ cl17.slots.size ≤ ((3 : Int32)).toNatClampNeg) := inb_of S17 ⟨by decide, by decide⟩
  obtain ⟨T17, h17, X17, e17, W17, st17⟩ := stC X13 hx hZ e13 Ar17 (j := (3 : Int32)) hin17 (g := (mkF m 174 #[.val (.ref bf), .val (.int (5 : Int32)), .val (.ref ob1)] [(.int (u4a &&& (255 : Int32))), (.int (3 : Int32)), (.ref ob1)])) rfl rfl (hb hby D4_174)
  refine own_by st17 ?_
  rw [own_mask_c] at W17
  have z17 := W17.size
  have N17 := Fr.snoc X17 N13 (by omega)
  have sw17 : Safe Z own_EL s.vm h13 ob1 := sf13_ob1
  have sf17_ob1 := Safe.wr W17 sw17 R13.1 sw17
  have R17 := R13.trans (CHr.wr W17 sw17 R13.1)
  have Vw17 : Arv Z h17 ob1 k1 .char (5 : Int32) [(.int (u1a &&& (255 : Int32))), (.int (u2a &&& (255 : Int32))), (.int (u3a &&& (255 : Int32))), (.int (u4a &&& (255 : Int32)))] (.int (0 : Int32)) := Arv.set Ar17 q17 S17 M17 H17 G17 (own_fits_c _) W17 3 rfl (Nat.le_of_ble_eq_true rfl)
  refine own_by (fun _ k => XS.aloadN X17.here hx rfl (hb hby D4_175) rfl rfl k) ?_
  refine own_by (fun _ k => XS.iconst X17.here hx rfl (hb hby D4_176) k) ?_
  refine own_by (fun _ k => XS.aloadN X17.here hx rfl (hb hby D4_177) rfl rfl k) ?_
  show own_Go p e below (T17.setTop (mkF m 178 #[.val (.ref bf), .val (.int (5 : Int32)), .val (.ref ob1)] [(.ref bf), (.int (4 : Int32)), (.ref ob1)])) _
  refine own_by (fun _ k => XS.iconst X17.here hx rfl (hb hby D4_178) k) ?_
  have fc18 : Arv Z h17 bf kf .char (5 : Int32) [(.int (u1a &&& (255 : Int32))), (.int (u2a &&& (255 : Int32))), (.int (u3a &&& (255 : Int32))), (.int (u4a &&& (255 : Int32))), (.int (u5a &&& (255 : Int32)))] (.int (0 : Int32)) := (fc14.other W17 (own_ne (by omega)))
  obtain ⟨cl19, Ar19, q19, S19, M19, H19, G19⟩ := (id fc18)
  have hin19 : ¬ ((4 : Int32) < 0 ∨ cl19.slots.size ≤ ((4 : Int32)).toNatClampNeg) := inb_of S19 ⟨by decide, by decide⟩
  refine own_by (X17.caload hx (j := (4 : Int32)) (v := (.int (u5a &&& (255 : Int32)))) (by rw [e17]; exact Ar19.1) (State.isArrayOf_alike hZ.alike Ar19.2.1) Ar19.2.2 hin19 (H19.at hin19 rfl) (g := (mkF m 179 #[.val (.ref bf), .val (.int (5 : Int32)), .val (.ref ob1)] [(.int (4 : Int32)), (.ref bf), (.int (4 : Int32)), (.ref ob1)])) rfl rfl (hb hby D4_179)) ?_
  have Vw20 : Arv Z h17 ob1 k1 .char (5 : Int32) [(.int (u1a &&& (255 : Int32))), (.int (u2a &&& (255 : Int32))), (.int (u3a &&& (255 : Int32))), (.int (u4a &&& (255 : Int32))), (.int (0 : Int32))] (.int (0 : Int32)) := Vw17.pad (pad_rep [(.int (u1a &&& (255 : Int32))), (.int (u2a &&& (255 : Int32))), (.int (u3a &&& (255 : Int32))), (.int (u4a &&& (255 : Int32)))] (.int (0 : Int32)) 1)
  obtain ⟨cl21, Ar21, q21, S21, M21, H21, G21⟩ := (id Vw20)
  have hin21 : ¬ ((4 : Int32) < 0 ∨ cl21.slots.size ≤ ((4 : Int32)).toNatClampNeg) := inb_of S21 ⟨by decide, by decide⟩
  obtain ⟨T21, h21, X21, e21, W21, st21⟩ := stC X17 hx hZ e17 Ar21 (j := (4 : Int32)) hin21 (g := (mkF m 180 #[.val (.ref bf), .val (.int (5 : Int32)), .val (.ref ob1)] [(.int (u5a &&& (255 : Int32))), (.int (4 : Int32)), (.ref ob1)])) rfl rfl (hb hby D4_180)
  refine own_by st21 ?_
  rw [own_mask_c] at W21
  have z21 := W21.size
  have N21 := Fr.snoc X21 N17 (by omega)
  have sw21 : Safe Z own_EL s.vm h17 ob1 := sf17_ob1
  have sf21_ob1 := Safe.wr W21 sw21 R17.1 sw21
  have R21 := R17.trans (CHr.wr W21 sw21 R17.1)
  have Vw21 : Arv Z h21 ob1 k1 .char (5 : Int32) [(.int (u1a &&& (255 : Int32))), (.int (u2a &&& (255 : Int32))), (.int (u3a &&& (255 : Int32))), (.int (u4a &&& (255 : Int32))), (.int (u5a &&& (255 : Int32)))] (.int (0 : Int32)) := Arv.set Ar21 q21 S21 M21 H21 G21 (own_fits_c _) W21 4 rfl (Nat.le_of_ble_eq_true rfl)
  obtain ⟨T22, h22, X22, e22, E22, A22, D22, U22, st22⟩ := newO X21 hx hZ hown (own_w hw 36 rfl) (own_w hw 37 rfl) (own_w hw 30 rfl) e21 (g := (mkF m 181 #[.val (.ref bf), .val (.int (5 : Int32)), .val (.ref ob1)] [])) rfl (hb hby D4_181) (by decide) (by decide)
  obtain ⟨ob22, g22⟩ : ∃ z, z = h21.size := ⟨_, rfl⟩
  rw [← g22] at A22 D22 U22 st22
  refine own_by st22 ?_
  have z22 := E22.1
  have lt22 : h22.size > ob22 := A22.lt
  have sf22_ob1 := Safe.ext E22 R21.1 sf21_ob1
  have R22 := R21.trans (CHr.ext E22 R21.1)
  refine own_by (fun _ k => XS.dup X22.here hx rfl (hb hby D4_184) rfl rfl k) ?_
  refine own_by (fun _ k => XS.aloadN X22.here hx rfl (hb hby D4_185) rfl rfl k) ?_
  show own_Go p e below (T22.setTop (mkF m 186 #[.val (.ref bf), .val (.int (5 : Int32)), .val (.ref ob1)] [(.ref ob1), (.ref ob22), (.ref ob22)])) _
  have fc23 : Arv Z h22 ob1 k1 .char (5 : Int32) [(.int (u1a &&& (255 : Int32))), (.int (u2a &&& (255 : Int32))), (.int (u3a &&& (255 : Int32))), (.int (u4a &&& (255 : Int32))), (.int (u5a &&& (255 : Int32)))] (.int (0 : Int32)) := (Vw21.ext E22)
  have O24 : Old Z n0 h22 := (((((((O0.ext E1).wr W5 (by omega)).wr W9 (by omega)).wr W13 (by omega)).wr W17 (by omega)).wr W21 (by omega)).ext E22)
  obtain ⟨_, _, ⟨T25, L25, k25, n25⟩, -, X25, ⟨Lc25, hQ25, l25, y25, z25⟩, st25⟩ := X22.specialBack hx (y := (⟨s11_, "<init>", "([C)V"⟩ : MethodName)) rfl hown (mvT hZ (own_w hw 38 rfl)) (mvT hZ (own_w hw 39 rfl)) (mvT hZ (own_w hw 40 rfl)) (by decide) (backOf (W := 1) (rm_sinit_5 l Z a0 hw [] ob22 ob1 k1 cs (u1a &&& (255 : Int32)) (u2a &&& (255 : Int32)) (u3a &&& (255 : Int32)) (u4a &&& (255 : Int32)) (u5a &&& (255 : Int32)) h22 n0 O24 S_COMPACT A22 (show Fld Z h22 ob22 s11_ "value" "[B" .null from D22 (Or.inr (own_w hw 63 rfl)) (ty := (.array .byte)) (by decide)) (show Fld Z h22 ob22 s11_ "coder" "B" (.int (0 : Int32)) from D22 (Or.inr (own_w hw 61 rfl)) (ty := .byte) (by decide)) fc23 (own_mask_hi (u1a)) (own_mask_hi (u2a)) (own_mask_hi (u3a)) (own_mask_hi (u4a)) (own_mask_hi (u5a)) (by first | assumption | omega | decide) hcs (by first | assumption | omega | decide)) hZ (own_w hw 40 rfl) (own_w hw 30 rfl) (by decide) (by decide)) (g := (mkF m 186 #[.val (.ref bf), .val (.int (5 : Int32)), .val (.ref ob1)] [(.ref ob1), (.ref ob22), (.ref ob22)])) rfl (by rw [hml]; rfl) (Steps.refl _) (a := ob22) (argsL := [(.ref ob1)]) (rest := [(.ref ob22)]) (lenOf own_pd__28_5bC_29V rfl) rfl (by show 2 * 0 + _ ≤ _; exact Nat.le_of_eq rfl) (hb hby D4_186) (fun _ _ => ⟨rfl, e22, (by decide : 2 + 1 ≤ _), (by decide : 9 + 5 ≤ _)⟩)
  dsimp only [Pt.U, Pt.locs, Pt.cells, Pt.slots] at X25 l25 y25 z25 st25 hQ25
  subst l25 y25 z25
  obtain ⟨b_25, kb_25, rfl, M25, K25, g25_0, g25_1, g25_2, g25_3, r25_0⟩ := hQ25
  have N25 := Fr.app N21 M25
  refine own_by (fun _ k => st25.trans k) ?_
  have sk25 : ∀ x ∈ ([ob22] : List Addr), Safe Z own_EL s.vm h22 x := (sfS (own_safe_null hZ.alike A22 (show Fld Z h22 ob22 s11_ "value" "[B" .null from D22 (Or.inr (own_w hw 63 rfl)) (ty := (.array .byte)) (by decide))) sf0)
  have sf25_ob1 := Safe.keep K25 sk25 R22.1 sf22_ob1
  have R25 := R22.trans (CHr.keep K25 sk25 R22.1)
  have z25 := K25.1
  have lt_g25_0 : T25.heap.size > ob22 := g25_0.lt
  have lt_g25_1 : T25.heap.size > ob22 := g25_1.lt
  have lt_g25_2 : T25.heap.size > ob22 := g25_2.lt
  have lt_g25_3 : T25.heap.size > b_25 := g25_3.lt
  have K26 : Keep h0 T25.heap [] := (((((((((Keep.refl h0 []).ext E1).wr W5 (Or.inr (by omega))).wr W9 (Or.inr (by omega))).wr W13 (Or.inr (by omega))).wr W17 (Or.inr (by omega))).wr W21 (Or.inr (by omega))).ext E22).trans K25 (allS (P := fun x => x ∈ [] ∨ h0.size ≤ x) (Or.inr (by omega)) all0))
  obtain ⟨fs, hr, hrun, hended, hW⟩ := X25.leaveW S0 (by first | omega | (rw [e0]; omega)) (v := some (.ref ob22)) (fun h => by rw [Bd.returns] at h; cases h)
  have RR := R25.trans (CHv.at X25 hZ hEL R25.1)
  have RR' : CHr Z own_EL s.vm s.heap T25.vm T25.heap := by rw [hh]; exact RR
  refine ⟨_, _, retOut X25 hx Bd.returns (own_narrow_ref (by decide) rfl) (Or.inr (Or.inr (Or.inr (Or.inr ⟨rfl, by decide, rfl⟩)))) (hb hby D4_189) hr, hrun, hended, _, _, rfl, ?_, RR', ⟨_, rfl⟩, hW.2.1, hW.2.2.1, hW.2.2.2.mono (by decide) (by decide)⟩
  show Q_rm_pre5 Z bf kf cs u1a u2a u3a u4a u5a h0 n0 _ T25.heap _
  exact ⟨ob22, b_25, kb_25, rfl, N25, K26, g25_0, g25_1, g25_2, g25_3, (by first | assumption | omega)⟩
def Q_rm_law (Z : State) (sel : Int32) (pos : Int32) (chh : Int32) (lng : Int32) (aa : Int32) (bb : Int32) (va : Addr) (kva : ClassId) (a_LIVE : Addr) (a_TEST : Addr) (a_MANAGEMENT : Addr) (l_LIVE : Addr) (b_LIVE : Addr) (kb_LIVE : ClassId) (l_TEST : Addr) (b_TEST : Addr) (kb_TEST : ClassId) (l_MANAGEMENT : Addr) (b_MANAGEMENT : Addr) (kb_MANAGEMENT : ClassId) (cs : Int32) (h0 : Heap) (n0 : Nat) (v : Option Value) (h : Heap) (L : List Loc) : Prop := v = some (.int (1 : Int32)) ∧ Fr n0 L ∧ Keep h0 h []
theorem ef_rm_law (m : MethodId) (sel : Int32) (pos : Int32) (chh : Int32) (lng : Int32) (aa : Int32) (bb : Int32) (va : Addr) (kva : ClassId) (a_LIVE : Addr) (a_TEST : Addr) (a_MANAGEMENT : Addr) (l_LIVE : Addr) (b_LIVE : Addr) (kb_LIVE : ClassId) (l_TEST : Addr) (b_TEST : Addr) (kb_TEST : ClassId) (l_MANAGEMENT : Addr) (b_MANAGEMENT : Addr) (kb_MANAGEMENT : ClassId) (cs : Int32) : entryFrame m #[(.int sel), (.int pos), (.int chh), (.int lng), (.int aa), (.int bb)] maxLocals = mkF m 0 #[.val (.int sel), .val (.int pos), .val (.int chh), .val (.int lng), .val (.int aa), .val (.int bb), .unset, .unset, .unset, .unset, .unset, .unset, .unset, .unset, .unset, .unset] [] := by first | (simp [entryFrame, mkF, argsToLocals, Value.category, maxLocals]; done) | rfl
set_option maxRecDepth 65536 in
set_option maxHeartbeats 40000000 in
theorem rm_law (l : Launch) (Z : State) (a0 : Array Value) (hw : ∀ d ∈ tables_1, d.before a0 Z = true) (ws : List Jvm.Cond) (sel : Int32) (pos : Int32) (chh : Int32) (lng : Int32) (aa : Int32) (bb : Int32) (va : Addr) (kva : ClassId) (a_LIVE : Addr) (a_TEST : Addr) (a_MANAGEMENT : Addr) (l_LIVE : Addr) (b_LIVE : Addr) (kb_LIVE : ClassId) (l_TEST : Addr) (b_TEST : Addr) (kb_TEST : ClassId) (l_MANAGEMENT : Addr) (b_MANAGEMENT : Addr) (kb_MANAGEMENT : ClassId) (cs : Int32) (h0 : Heap) (n0 : Nat) (O0 : Old Z n0 h0) (hEL : EW Z a0 own_EL) (S_VALUES : Sta Z Z.heap s2_ "$VALUES" s5_ (.ref va)) (E_va : Exa Z Z.heap va s5_) (V_va : Arv Z Z.heap va kva (.object s2_) (3 : Int32) [(.ref a_LIVE), (.ref a_TEST), (.ref a_MANAGEMENT)] .null) (E_LIVE : Exa Z Z.heap a_LIVE s2_) (F_LIVE : Fld Z Z.heap a_LIVE s2_ "label" s10_ (.ref l_LIVE)) (Es_LIVE : Exa Z Z.heap l_LIVE s11_) (Fc_LIVE : Fld Z Z.heap l_LIVE s11_ "coder" "B" (.int (0 : Int32))) (Fv_LIVE : Fld Z Z.heap l_LIVE s11_ "value" "[B" (.ref b_LIVE)) (V_LIVE : Arv Z Z.heap b_LIVE kb_LIVE .byte (4 : Int32) [(.int (108 : Int32)), (.int (105 : Int32)), (.int (118 : Int32)), (.int (101 : Int32))] (.int (0 : Int32))) (E_TEST : Exa Z Z.heap a_TEST s2_) (F_TEST : Fld Z Z.heap a_TEST s2_ "label" s10_ (.ref l_TEST)) (Es_TEST : Exa Z Z.heap l_TEST s11_) (Fc_TEST : Fld Z Z.heap l_TEST s11_ "coder" "B" (.int (0 : Int32))) (Fv_TEST : Fld Z Z.heap l_TEST s11_ "value" "[B" (.ref b_TEST)) (V_TEST : Arv Z Z.heap b_TEST kb_TEST .byte (4 : Int32) [(.int (116 : Int32)), (.int (101 : Int32)), (.int (115 : Int32)), (.int (116 : Int32))] (.int (0 : Int32))) (E_MANAGEMENT : Exa Z Z.heap a_MANAGEMENT s2_) (F_MANAGEMENT : Fld Z Z.heap a_MANAGEMENT s2_ "label" s10_ (.ref l_MANAGEMENT)) (Es_MANAGEMENT : Exa Z Z.heap l_MANAGEMENT s11_) (Fc_MANAGEMENT : Fld Z Z.heap l_MANAGEMENT s11_ "coder" "B" (.int (0 : Int32))) (Fv_MANAGEMENT : Fld Z Z.heap l_MANAGEMENT s11_ "value" "[B" (.ref b_MANAGEMENT)) (V_MANAGEMENT : Arv Z Z.heap b_MANAGEMENT kb_MANAGEMENT .byte (4 : Int32) [(.int (109 : Int32)), (.int (103 : Int32)), (.int (109 : Int32)), (.int (116 : Int32))] (.int (0 : Int32))) (S_COMPACT : Sta Z Z.heap s11_ s15_ "Z" (.int cs)) (S_LIVE : Sta Z Z.heap s2_ "LIVE" s9_ (.ref a_LIVE)) (S_TEST : Sta Z Z.heap s2_ "TEST" s9_ (.ref a_TEST)) (S_MANAGEMENT : Sta Z Z.heap s2_ "MANAGEMENT" s9_ (.ref a_MANAGEMENT)) (hcs : ¬ (cs = (0 : Int32))) :
    MetFree l x (head1 (Jvm.Cond.code x code maxLocals ret :: ws) room_1) (fun a U => a = #[(.int sel), (.int pos), (.int chh), (.int lng), (.int aa), (.int bb)] ∧ Z.Warmed39 U.vm ∧ U.heap = h0 ∧ CHv Z own_EL U.vm h0) (fun _ _ _ _ _ => True) (fun _ U o U' => ∃ v L, o = .returned v ∧ Q_rm_law Z sel pos chh lng aa bb va kva a_LIVE a_TEST a_MANAGEMENT l_LIVE b_LIVE kb_LIVE l_TEST b_TEST kb_TEST l_MANAGEMENT b_MANAGEMENT kb_MANAGEMENT cs h0 n0 v U'.heap L ∧ CHr Z own_EL U.vm U.heap U'.vm U'.heap ∧ ReturnedEndW U o U' L room_1.cells room_1.slots) := by
  refine MetFree.of_bodySF (plainFor_of_name own_pn_com_example_ostiarius_ostiarius_key_KeyKindOfLabelPinLaw) hisR ?_
  intro p e s m args below meth c s₁ Bd hml0 hP hK
  obtain ⟨rfl, hZ, hh, hC⟩ := hP
  have hx := Bd.exec
  have hby := Bd.bytes
  have hml : c.maxLocals = 16 := hml0
  have hown : s.vm.findClass s1_ = some m.cls := findClass_of_methodNamed Bd.named
  have hnm := (name_of_methodNamed Bd.named Bd.method).1
  have X0 : Stand p l e room_1 (s.setVm s.vm) m #[(.int sel), (.int pos), (.int chh), (.int lng), (.int aa), (.int bb)] below meth c s₁ [] 0 0 := Stand.of_body Bd
  have S0 : s.Since s.vm h0.size := (State.WarmedH.refl s).since _
  have hZ : Z.Warmed39 (s.setVm s.vm).vm := hZ
  have hown : (s.setVm s.vm).vm.findClass s1_ = some m.cls := hown
  have R0 : CHr Z own_EL s.vm h0 s.vm h0 := CHr.refl hC
  have e0 : s₁.heap = h0 := by rw [← hh, Bd.state]; rfl
  have N0 := Fr.nil n0
  have Z0 : n0 ≤ h0.size := by rw [← O0.1]; exact O0.2.1
  show own_Go p e below (s₁.setTop (entryFrame m #[(.int sel), (.int pos), (.int chh), (.int lng), (.int aa), (.int bb)] maxLocals)) (fun t o => ∃ v L, o = .returned v ∧ Q_rm_law Z sel pos chh lng aa bb va kva a_LIVE a_TEST a_MANAGEMENT l_LIVE b_LIVE kb_LIVE l_TEST b_TEST kb_TEST l_MANAGEMENT b_MANAGEMENT kb_MANAGEMENT cs h0 n0 v t.heap L ∧ CHr Z own_EL s.vm s.heap t.vm t.heap ∧ ReturnedEndW s o t L room_1.cells room_1.slots)
  rw [ef_rm_law m sel pos chh lng aa bb va kva a_LIVE a_TEST a_MANAGEMENT l_LIVE b_LIVE kb_LIVE l_TEST b_TEST kb_TEST l_MANAGEMENT b_MANAGEMENT kb_MANAGEMENT cs]
  refine own_by (fun _ k => XS.iloadN X0.here hx rfl (hb hby at_0) rfl k) ?_
  refine own_by (fun _ k => XS.iconst X0.here hx rfl (hb hby at_1) k) ?_
  refine own_by (fun _ k => XS.iand X0.here hx rfl (hb hby at_2) rfl k) ?_
  refine own_by (fun _ k => XS.istore X0.here hx rfl (hb hby at_3) rfl (l' := #[.val (.int sel), .val (.int pos), .val (.int chh), .val (.int lng), .val (.int aa), .val (.int bb), .val (.int (sel &&& (3 : Int32))), .unset, .unset, .unset, .unset, .unset, .unset, .unset, .unset, .unset]) rfl k) ?_
  show own_Go p e below (s₁.setTop (mkF m 5 #[.val (.int sel), .val (.int pos), .val (.int chh), .val (.int lng), .val (.int aa), .val (.int bb), .val (.int (sel &&& (3 : Int32))), .unset, .unset, .unset, .unset, .unset, .unset, .unset, .unset, .unset] [])) _
  obtain ⟨bs, e_bs⟩ : ∃ z, z = (sel &&& (3 : Int32)) := ⟨_, rfl⟩
  rw [← e_bs]
  refine own_by (fun _ k => XS.iconst X0.here hx rfl (hb hby at_5) k) ?_
  obtain ⟨T1, h1, k1, X1, e1, E1, A1, st1⟩ := newP X0 hx hZ (own_w hw 0 rfl) e0 (g := (mkF m 6 #[.val (.int sel), .val (.int pos), .val (.int chh), .val (.int lng), .val (.int aa), .val (.int bb), .val (.int bs), .unset, .unset, .unset, .unset, .unset, .unset, .unset, .unset, .unset] [(.int (5 : Int32))])) rfl (hb hby at_6) rfl (by decide) (cap := 5) (by decide) (by decide) (by decide) (by decide)
  obtain ⟨ob1, g1⟩ : ∃ z, z = h0.size := ⟨_, rfl⟩
  rw [← g1] at A1 st1
  refine own_by st1 ?_
  have z1 := E1.1
  have R1 := R0.trans (CHr.ext E1 R0.1)
  have Vw1 : Arv Z h1 ob1 k1 .char (5 : Int32) [] (.int (0 : Int32)) := Arv.new A1 (by decide)
  have lt1 : h1.size > ob1 := Vw1.lt
  refine own_by (fun _ k => XS.astore X1.here hx rfl (hb hby at_8) rfl rfl (l' := #[.val (.int sel), .val (.int pos), .val (.int chh), .val (.int lng), .val (.int aa), .val (.int bb), .val (.int bs), .val (.ref ob1), .unset, .unset, .unset, .unset, .unset, .unset, .unset, .unset]) rfl k) ?_
  show own_Go p e below (T1.setTop (mkF m 10 #[.val (.int sel), .val (.int pos), .val (.int chh), .val (.int lng), .val (.int aa), .val (.int bb), .val (.int bs), .val (.ref ob1), .unset, .unset, .unset, .unset, .unset, .unset, .unset, .unset] [])) _
  have jn2 : ∀ (Tj2 : State) (Hj2 : Heap), (∃ lc, Stand p l e room_1 (s.setVm s.vm) m #[(.int sel), (.int pos), (.int chh), (.int lng), (.int aa), (.int bb)] below meth c Tj2 lc 1 5 ∧ Fr n0 lc) → Tj2.heap = Hj2 → ∀ (u1a : Int32) (u2a : Int32) (u3a : Int32) (u4a : Int32), (Keep h0 Hj2 []) → (CHr Z own_EL s.vm h0 s.vm Hj2) → (Arv Z Hj2 ob1 k1 .char (5 : Int32) [(.int (u1a &&& (255 : Int32))), (.int (u2a &&& (255 : Int32))), (.int (u3a &&& (255 : Int32))), (.int (u4a &&& (255 : Int32)))] (.int (0 : Int32))) → own_Go p e below (Tj2.setTop (mkF m 161 #[.val (.int sel), .val (.int pos), .val (.int chh), .val (.int lng), .val (.int aa), .val (.int bb), .val (.int bs), .val (.ref ob1), .unset, .unset, .unset, .unset, .unset, .unset, .unset, .unset] [])) (fun t o => ∃ v L, o = .returned v ∧ Q_rm_law Z sel pos chh lng aa bb va kva a_LIVE a_TEST a_MANAGEMENT l_LIVE b_LIVE kb_LIVE l_TEST b_TEST kb_TEST l_MANAGEMENT b_MANAGEMENT kb_MANAGEMENT cs h0 n0 v t.heap L ∧ CHr Z own_EL s.vm s.heap t.vm t.heap ∧ ReturnedEndW s o t L room_1.cells room_1.slots) := by
    rintro Tj2 Hj2 ⟨lc2, Xj2, Nj2⟩ ej2 u1a u2a u3a u4a Kj2 Rj2 fj2_0
    have zj2 := Kj2.1
    have lt_fj2_0 : Hj2.size > ob1 := fj2_0.lt
    refine own_by (fun _ k => XS.aload Xj2.here hx rfl (hb hby at_161) rfl rfl k) ?_
    refine own_by (fun _ k => XS.iconst Xj2.here hx rfl (hb hby at_163) k) ?_
    refine own_by (fun _ k => XS.iload Xj2.here hx rfl (hb hby at_164) rfl k) ?_
    refine own_by (fun _ k => XS.sipush Xj2.here hx rfl (hb hby at_166) k) ?_
    refine own_by (fun _ k => XS.iand Xj2.here hx rfl (hb hby at_169) rfl k) ?_
    refine own_by (fun _ k => XS.i2c Xj2.here hx rfl (hb hby at_170) rfl k) ?_
    show own_Go p e below (Tj2.setTop (mkF m 171 #[.val (.int sel), .val (.int pos), .val (.int chh), .val (.int lng), .val (.int aa), .val (.int bb), .val (.int bs), .val (.ref ob1), .unset, .unset, .unset, .unset, .unset, .unset, .unset, .unset] [(.int ((bb &&& (255 : Int32)).toUInt32.toUInt16.toUInt32.toInt32)), (.int (4 : Int32)), (.ref ob1)])) _
    rw [i2c_mask]
    show own_Go p e below (Tj2.setTop (mkF m 171 #[.val (.int sel), .val (.int pos), .val (.int chh), .val (.int lng), .val (.int aa), .val (.int bb), .val (.int bs), .val (.ref ob1), .unset, .unset, .unset, .unset, .unset, .unset, .unset, .unset] [(.int (bb &&& (255 : Int32))), (.int (4 : Int32)), (.ref ob1)])) _
    have Vw3 : Arv Z Hj2 ob1 k1 .char (5 : Int32) [(.int (u1a &&& (255 : Int32))), (.int (u2a &&& (255 : Int32))), (.int (u3a &&& (255 : Int32))), (.int (u4a &&& (255 : Int32))), (.int (0 : Int32))] (.int (0 : Int32)) := fj2_0.pad (pad_rep [(.int (u1a &&& (255 : Int32))), (.int (u2a &&& (255 : Int32))), (.int (u3a &&& (255 : Int32))), (.int (u4a &&& (255 : Int32)))] (.int (0 : Int32)) 1)
    obtain ⟨cl4, Ar4, q4, S4, M4, H4, G4⟩ := (id Vw3)
    have hin4 : ¬ ((4 : Int32) < 0 ∨ cl4.slots.size ≤ ((4 : Int32)).toNatClampNeg) := inb_of S4 ⟨by decide, by decide⟩
    obtain ⟨T4, h4, X4, e4, W4, st4⟩ := stC Xj2 hx hZ ej2 Ar4 (j := (4 : Int32)) hin4 (g := (mkF m 171 #[.val (.int sel), .val (.int pos), .val (.int chh), .val (.int lng), .val (.int aa), .val (.int bb), .val (.int bs), .val (.ref ob1), .unset, .unset, .unset, .unset, .unset, .unset, .unset, .unset] [(.int (bb &&& (255 : Int32))), (.int (4 : Int32)), (.ref ob1)])) rfl rfl (hb hby at_171)
    refine own_by st4 ?_
    rw [own_mask_c] at W4
    have z4 := W4.size
    have N4 := Fr.snoc X4 Nj2 (by omega)
    have sw4 : Safe Z own_EL s.vm Hj2 ob1 := (Safe.arv hZ.alike Vw3 (by decide))
    have sf4_ob1 := Safe.wr W4 sw4 Rj2.1 sw4
    have R4 := Rj2.trans (CHr.wr W4 sw4 Rj2.1)
    have Vw4 : Arv Z h4 ob1 k1 .char (5 : Int32) [(.int (u1a &&& (255 : Int32))), (.int (u2a &&& (255 : Int32))), (.int (u3a &&& (255 : Int32))), (.int (u4a &&& (255 : Int32))), (.int (bb &&& (255 : Int32)))] (.int (0 : Int32)) := Arv.set Ar4 q4 S4 M4 H4 G4 (own_fits_c _) W4 4 rfl (Nat.le_of_ble_eq_true rfl)
    show own_Go p e below (T4.setTop (mkF m 172 #[.val (.int sel), .val (.int pos), .val (.int chh), .val (.int lng), .val (.int aa), .val (.int bb), .val (.int bs), .val (.ref ob1), .unset, .unset, .unset, .unset, .unset, .unset, .unset, .unset] [])) _
    have jn5 : ∀ (Tj5 : State) (Hj5 : Heap), (∃ lc, Stand p l e room_1 (s.setVm s.vm) m #[(.int sel), (.int pos), (.int chh), (.int lng), (.int aa), (.int bb)] below meth c Tj5 lc 1 5 ∧ Fr n0 lc) → Tj5.heap = Hj5 → ∀ (v1a : Int32) (v2a : Int32) (v3a : Int32) (v4a : Int32) (v5a : Int32), (Keep h0 Hj5 []) → (CHr Z own_EL s.vm h0 s.vm Hj5) → (Arv Z Hj5 ob1 k1 .char (5 : Int32) [(.int (v1a &&& (255 : Int32))), (.int (v2a &&& (255 : Int32))), (.int (v3a &&& (255 : Int32))), (.int (v4a &&& (255 : Int32))), (.int (v5a &&& (255 : Int32)))] (.int (0 : Int32))) → own_Go p e below (Tj5.setTop (mkF m 195 #[.val (.int sel), .val (.int pos), .val (.int chh), .val (.int lng), .val (.int aa), .val (.int bb), .val (.int bs), .val (.ref ob1), .unset, .unset, .unset, .unset, .unset, .unset, .unset, .unset] [])) (fun t o => ∃ v L, o = .returned v ∧ Q_rm_law Z sel pos chh lng aa bb va kva a_LIVE a_TEST a_MANAGEMENT l_LIVE b_LIVE kb_LIVE l_TEST b_TEST kb_TEST l_MANAGEMENT b_MANAGEMENT kb_MANAGEMENT cs h0 n0 v t.heap L ∧ CHr Z own_EL s.vm s.heap t.vm t.heap ∧ ReturnedEndW s o t L room_1.cells room_1.slots) := by
      rintro Tj5 Hj5 ⟨lc5, Xj5, Nj5⟩ ej5 v1a v2a v3a v4a v5a Kj5 Rj5 fj5_0
      have zj5 := Kj5.1
      have lt_fj5_0 : Hj5.size > ob1 := fj5_0.lt
      refine own_by (fun _ k => XS.iloadN Xj5.here hx rfl (hb hby at_195) rfl k) ?_
      refine own_by (Xj5.ldcInt hx hown (mvT hZ (own_w hw 1 rfl)) (g := (mkF m 196 #[.val (.int sel), .val (.int pos), .val (.int chh), .val (.int lng), .val (.int aa), .val (.int bb), .val (.int bs), .val (.ref ob1), .unset, .unset, .unset, .unset, .unset, .unset, .unset, .unset] [(.int lng)])) rfl (hb hby at_196)) ?_
      refine own_by (fun _ k => XS.iand Xj5.here hx rfl (hb hby at_198) rfl k) ?_
      refine own_by (fun _ k => XS.bipush Xj5.here hx rfl (hb hby at_199) k) ?_
      refine own_by (fun _ k => iremM (g := (mkF m 201 #[.val (.int sel), .val (.int pos), .val (.int chh), .val (.int lng), .val (.int aa), .val (.int bb), .val (.int bs), .val (.ref ob1), .unset, .unset, .unset, .unset, .unset, .unset, .unset, .unset] [(.int (6 : Int32)), (.int (lng &&& (2147483647 : Int32)))])) Xj5 hx rfl (hb hby at_201) rfl (by decide : ¬ ((6 : Int32) = (0 : Int32))) k) ?_
      refine own_by (fun _ k => XS.istore Xj5.here hx rfl (hb hby at_202) rfl (l' := #[.val (.int sel), .val (.int pos), .val (.int chh), .val (.int lng), .val (.int aa), .val (.int bb), .val (.int bs), .val (.ref ob1), .val (.int ((lng &&& (2147483647 : Int32)) % (6 : Int32))), .unset, .unset, .unset, .unset, .unset, .unset, .unset]) rfl k) ?_
      show own_Go p e below (Tj5.setTop (mkF m 204 #[.val (.int sel), .val (.int pos), .val (.int chh), .val (.int lng), .val (.int aa), .val (.int bb), .val (.int bs), .val (.ref ob1), .val (.int ((lng &&& (2147483647 : Int32)) % (6 : Int32))), .unset, .unset, .unset, .unset, .unset, .unset, .unset] [])) _
      obtain ⟨nn, e_nn⟩ : ∃ z, z = ((lng &&& (2147483647 : Int32)) % (6 : Int32)) := ⟨_, rfl⟩
      rw [← e_nn]
      have h_nn := own_rem6 e_nn
      refine own_by (fun _ k => XS.iloadN Xj5.here hx rfl (hb hby at_204) rfl k) ?_
      refine own_by (fun _ k => XS.iconst Xj5.here hx rfl (hb hby at_205) k) ?_
      refine own_by (fun _ k => XS.iushr Xj5.here hx rfl (hb hby at_206) rfl k) ?_
      refine own_by (fun _ k => XS.bipush Xj5.here hx rfl (hb hby at_207) k) ?_
      refine own_by (fun _ k => XS.iand Xj5.here hx rfl (hb hby at_209) rfl k) ?_
      show own_Go p e below (Tj5.setTop (mkF m 210 #[.val (.int sel), .val (.int pos), .val (.int chh), .val (.int lng), .val (.int aa), .val (.int bb), .val (.int bs), .val (.ref ob1), .val (.int nn), .unset, .unset, .unset, .unset, .unset, .unset, .unset] [(.int (((sel.toUInt32 >>> ((3 : Int32) &&& 31).toUInt32).toInt32) &&& (7 : Int32)))])) _
      have jn6 : ∀ (Tj6 : State), (∃ lc, Stand p l e room_1 (s.setVm s.vm) m #[(.int sel), (.int pos), (.int chh), (.int lng), (.int aa), (.int bb)] below meth c Tj6 lc 1 5 ∧ Fr n0 lc) → Tj6.heap = Hj5 → ∀ (nl : Int32), (nl = 0 ∨ nl = 1) → own_Go p e below (Tj6.setTop (mkF m 218 #[.val (.int sel), .val (.int pos), .val (.int chh), .val (.int lng), .val (.int aa), .val (.int bb), .val (.int bs), .val (.ref ob1), .val (.int nn), .unset, .unset, .unset, .unset, .unset, .unset, .unset] [(.int nl)])) (fun t o => ∃ v L, o = .returned v ∧ Q_rm_law Z sel pos chh lng aa bb va kva a_LIVE a_TEST a_MANAGEMENT l_LIVE b_LIVE kb_LIVE l_TEST b_TEST kb_TEST l_MANAGEMENT b_MANAGEMENT kb_MANAGEMENT cs h0 n0 v t.heap L ∧ CHr Z own_EL s.vm s.heap t.vm t.heap ∧ ReturnedEndW s o t L room_1.cells room_1.slots) := by
        rintro Tj6 ⟨lc6, Xj6, Nj6⟩ ej6 nl hj6
        refine own_by (fun _ k => XS.istore Xj6.here hx rfl (hb hby at_218) rfl (l' := #[.val (.int sel), .val (.int pos), .val (.int chh), .val (.int lng), .val (.int aa), .val (.int bb), .val (.int bs), .val (.ref ob1), .val (.int nn), .val (.int nl), .unset, .unset, .unset, .unset, .unset, .unset]) rfl k) ?_
        show own_Go p e below (Tj6.setTop (mkF m 220 #[.val (.int sel), .val (.int pos), .val (.int chh), .val (.int lng), .val (.int aa), .val (.int bb), .val (.int bs), .val (.ref ob1), .val (.int nn), .val (.int nl), .unset, .unset, .unset, .unset, .unset, .unset] [])) _
        rcases hj6 with rfl | rfl
        · skip
          show own_Go p e below (Tj6.setTop (mkF m 220 #[.val (.int sel), .val (.int pos), .val (.int chh), .val (.int lng), .val (.int aa), .val (.int bb), .val (.int bs), .val (.ref ob1), .val (.int nn), .val (.int (0 : Int32)), .unset, .unset, .unset, .unset, .unset, .unset] [])) _
          refine own_by (fun _ k => XS.iload Xj6.here hx rfl (hb hby at_220) rfl k) ?_
          refine own_by (fun _ k => XS.ifYes Xj6.here hx rfl (pc0 := 222) (pc' := 229) rfl (hb hby at_222) rfl ((if0 _ _).trans (teq (by decide : (0 : Int32) = (0 : Int32))).1) (by decide) (by decide) k) ?_
          show own_Go p e below (Tj6.setTop (mkF m 229 #[.val (.int sel), .val (.int pos), .val (.int chh), .val (.int lng), .val (.int aa), .val (.int bb), .val (.int bs), .val (.ref ob1), .val (.int nn), .val (.int (0 : Int32)), .unset, .unset, .unset, .unset, .unset, .unset] [])) _
          refine own_by (fun _ k => XS.aload Xj6.here hx rfl (hb hby at_229) rfl rfl k) ?_
          show own_Go p e below (Tj6.setTop (mkF m 231 #[.val (.int sel), .val (.int pos), .val (.int chh), .val (.int lng), .val (.int aa), .val (.int bb), .val (.int bs), .val (.ref ob1), .val (.int nn), .val (.int (0 : Int32)), .unset, .unset, .unset, .unset, .unset, .unset] [(.ref ob1)])) _
          rcases h_nn with rfl | rfl | rfl | rfl | rfl | rfl
          · skip
            show own_Go p e below (Tj6.setTop (mkF m 231 #[.val (.int sel), .val (.int pos), .val (.int chh), .val (.int lng), .val (.int aa), .val (.int bb), .val (.int bs), .val (.ref ob1), .val (.int (0 : Int32)), .val (.int (0 : Int32)), .unset, .unset, .unset, .unset, .unset, .unset] [(.ref ob1)])) _
            refine own_by (fun _ k => XS.iload Xj6.here hx rfl (hb hby at_231) rfl k) ?_
            have O7 : Old Z n0 Hj5 := (O0.keep Kj5 all0)
            obtain ⟨_, _, ⟨T8, L8, k8, n8⟩, -, X8, S'8, gr8, ⟨Lc8, hQ8, l8, y8, z8, C8⟩, st8⟩ := callSS Xj6 hx (y := (⟨s1_, "prefix", s13_⟩ : MethodName)) hown (mvT hZ (own_w hw 32 rfl)) (mvT hZ (own_w hw 33 rfl)) (mvT hZ (own_w hw 34 rfl)) (mvT hZ (own_w hw 35 rfl)) (by decide) (backOfSH (W := 0) (rm_pre0 l Z a0 hw [] ob1 k1 cs v1a v2a v3a v4a v5a Hj5 n0 O7 hEL S_COMPACT fj5_0 hcs) hZ (own_w hw 35 rfl) (own_w hw 34 rfl) (by decide) (by decide) hEL Rj5.1) (g := (mkF m 233 #[.val (.int sel), .val (.int pos), .val (.int chh), .val (.int lng), .val (.int aa), .val (.int bb), .val (.int bs), .val (.ref ob1), .val (.int (0 : Int32)), .val (.int (0 : Int32)), .unset, .unset, .unset, .unset, .unset, .unset] [(.int (0 : Int32)), (.ref ob1)])) rfl (by rw [hml]; rfl) (argsL := [(.ref ob1), (.int (0 : Int32))]) (rest := []) (lenOf own_pd__28_5bCI_29Ljava_2flang_2fString_3b rfl) rfl (by show 2 * 0 + _ ≤ _; exact Nat.le_of_eq rfl) (hb hby at_233) (fun _ _ => ⟨rfl, ej6, (by decide : 1 + 6 ≤ _), (by decide : 5 + 12 ≤ _)⟩)
            dsimp only [Pt.U, Pt.locs, Pt.cells, Pt.slots] at X8 l8 y8 z8 st8 hQ8 S'8 gr8 C8
            subst l8 y8 z8
            obtain ⟨X8, S8, hZ8, ho8⟩ := rebS S0 (by first | omega | (rw [ej6]; omega)) X8 S'8 gr8 hZ hown
            obtain ⟨r1_8, b_8, kb_8, rfl, M8, K8, g8_0, g8_1, g8_2, g8_3, r8_0⟩ := hQ8
            have N8 := Fr.app Nj6 M8
            refine own_by (fun _ k => st8.trans k) ?_
            have R8 := Rj5.trans C8
            have z8 := K8.1
            have lt_g8_0 : T8.heap.size > r1_8 := g8_0.lt
            have lt_g8_1 : T8.heap.size > r1_8 := g8_1.lt
            have lt_g8_2 : T8.heap.size > r1_8 := g8_2.lt
            have lt_g8_3 : T8.heap.size > b_8 := g8_3.lt
            refine own_by (fun _ k => XS.astore X8.here hx rfl (hb hby at_236) rfl rfl (l' := #[.val (.int sel), .val (.int pos), .val (.int chh), .val (.int lng), .val (.int aa), .val (.int bb), .val (.int bs), .val (.ref ob1), .val (.int (0 : Int32)), .val (.int (0 : Int32)), .val (.ref r1_8), .unset, .unset, .unset, .unset, .unset]) rfl k) ?_
            refine own_by (fun _ k => XS.aconstNull X8.here hx rfl (hb hby at_238) k) ?_
            refine own_by (fun _ k => XS.astore X8.here hx rfl (hb hby at_239) rfl rfl (l' := #[.val (.int sel), .val (.int pos), .val (.int chh), .val (.int lng), .val (.int aa), .val (.int bb), .val (.int bs), .val (.ref ob1), .val (.int (0 : Int32)), .val (.int (0 : Int32)), .val (.ref r1_8), .val .null, .unset, .unset, .unset, .unset]) rfl k) ?_
            refine own_by (fun _ k => XS.iload X8.here hx rfl (hb hby at_241) rfl k) ?_
            show own_Go p e below (T8.setTop (mkF m 243 #[.val (.int sel), .val (.int pos), .val (.int chh), .val (.int lng), .val (.int aa), .val (.int bb), .val (.int bs), .val (.ref ob1), .val (.int (0 : Int32)), .val (.int (0 : Int32)), .val (.ref r1_8), .val .null, .unset, .unset, .unset, .unset] [(.int (0 : Int32))])) _
            refine own_by (fun _ k => XS.ifNo X8.here hx rfl (hb hby at_243) rfl ((if0 _ _).trans (teq (by decide : (0 : Int32) = (0 : Int32))).2) k) ?_
            show own_Go p e below (T8.setTop (mkF m 246 #[.val (.int sel), .val (.int pos), .val (.int chh), .val (.int lng), .val (.int aa), .val (.int bb), .val (.int bs), .val (.ref ob1), .val (.int (0 : Int32)), .val (.int (0 : Int32)), .val (.ref r1_8), .val .null, .unset, .unset, .unset, .unset] [])) _
            refine own_by (fun _ k => XS.iload X8.here hx rfl (hb hby at_246) rfl k) ?_
            refine own_by (fun _ k => XS.iconst X8.here hx rfl (hb hby at_248) k) ?_
            refine own_by (fun _ k => XS.icmpYes X8.here hx rfl (pc0 := 249) (pc' := 381) rfl (hb hby at_249) rfl (feq (by decide : ¬ ((0 : Int32) = (4 : Int32)))).2 (by decide) (by decide) k) ?_
            show own_Go p e below (T8.setTop (mkF m 381 #[.val (.int sel), .val (.int pos), .val (.int chh), .val (.int lng), .val (.int aa), .val (.int bb), .val (.int bs), .val (.ref ob1), .val (.int (0 : Int32)), .val (.int (0 : Int32)), .val (.ref r1_8), .val .null, .unset, .unset, .unset, .unset] [])) _
            refine own_by (fun _ k => XS.aload X8.here hx rfl (hb hby at_381) rfl rfl k) ?_
            have O9 : Old Z n0 T8.heap := (O7.keep K8 all0)
            obtain ⟨_, _, ⟨T10, L10, k10, n10⟩, -, X10, ⟨Lc10, hQ10, l10, y10, z10⟩, st10⟩ := Jvm.LawKit.callS X8 hx (y := (⟨s2_, "ofLabel", s3_⟩ : MethodName)) ho8 (mvT hZ8 (own_w hw 2 rfl)) (mvT hZ8 (own_w hw 3 rfl)) (mvT hZ8 (own_w hw 4 rfl)) (mvT hZ8 (own_w hw 5 rfl)) (by decide) (backOf (W := 0) (rm_olNone_none l Z a0 hw [] r1_8 b_8 kb_8 cs (0 : Int32) [] va kva a_LIVE a_TEST a_MANAGEMENT l_LIVE b_LIVE kb_LIVE l_TEST b_TEST kb_TEST l_MANAGEMENT b_MANAGEMENT kb_MANAGEMENT T8.heap n0 O9 S_VALUES E_va V_va E_LIVE F_LIVE Es_LIVE Fc_LIVE Fv_LIVE V_LIVE E_TEST F_TEST Es_TEST Fc_TEST Fv_TEST V_TEST E_MANAGEMENT F_MANAGEMENT Es_MANAGEMENT Fc_MANAGEMENT Fv_MANAGEMENT V_MANAGEMENT S_COMPACT g8_0 g8_1 g8_2 g8_3 hcs (by omega) (by decide)) hZ8 (own_w hw 5 rfl) (own_w hw 4 rfl) (by decide) (by decide)) (g := (mkF m 383 #[.val (.int sel), .val (.int pos), .val (.int chh), .val (.int lng), .val (.int aa), .val (.int bb), .val (.int bs), .val (.ref ob1), .val (.int (0 : Int32)), .val (.int (0 : Int32)), .val (.ref r1_8), .val .null, .unset, .unset, .unset, .unset] [(.ref r1_8)])) rfl (by rw [hml]; rfl) (argsL := [(.ref r1_8)]) (rest := []) (lenOf own_pd__28Ljava_2flang_2fString_3b_29Lcom_2fexample_2fostiarius_2fostiarius_2fkey_2fKeyKind_3b rfl) rfl (by show 2 * 0 + _ ≤ _; exact Nat.le_of_eq rfl) (hb hby at_383) (fun _ _ => ⟨rfl, rfl, (by decide : 7 + 1 ≤ _), (by decide : 17 + 3 ≤ _)⟩)
            dsimp only [Pt.U, Pt.locs, Pt.cells, Pt.slots] at X10 l10 y10 z10 st10 hQ10
            subst l10 y10 z10
            obtain ⟨rfl, M10, K10⟩ := hQ10
            have N10 := Fr.app N8 M10
            refine own_by st10 ?_
            have sk10 : ∀ x ∈ ([] : List Addr), Safe Z own_EL T8.vm T8.heap x := sf0
            have R10 := R8.trans (CHr.keep K10 sk10 R8.1)
            have z10 := K10.1
            refine own_by (fun _ k => XS.aload X10.here hx rfl (hb hby at_386) rfl rfl k) ?_
            refine own_by (fun _ k => Jvm.RoadKit.acmp (g := (mkF m 388 #[.val (.int sel), .val (.int pos), .val (.int chh), .val (.int lng), .val (.int aa), .val (.int bb), .val (.int bs), .val (.ref ob1), .val (.int (0 : Int32)), .val (.int (0 : Int32)), .val (.ref r1_8), .val .null, .unset, .unset, .unset, .unset] [.null, .null])) X10 hx rfl rfl rfl (pc0 := 388) (pc' := 391) (same := true) rfl (hb hby at_388) rfl (decide_eq_true rfl) (by decide) (by decide) k) ?_
            show own_Go p e below (T10.setTop (mkF m 391 #[.val (.int sel), .val (.int pos), .val (.int chh), .val (.int lng), .val (.int aa), .val (.int bb), .val (.int bs), .val (.ref ob1), .val (.int (0 : Int32)), .val (.int (0 : Int32)), .val (.ref r1_8), .val .null, .unset, .unset, .unset, .unset] [])) _
            refine own_by (fun _ k => XS.iconst X10.here hx rfl (hb hby at_391) k) ?_
            refine own_by (fun _ k => XS.goto X10.here hx rfl (pc0 := 392) (pc' := 396) rfl (hb hby at_392) (by decide) (by decide) k) ?_
            have K11 : Keep h0 T10.heap [] := ((((Keep.refl h0 []).trans Kj5 all0).trans K8 all0).trans K10 all0)
            obtain ⟨fs, hr, hrun, hended, hW⟩ := X10.leaveW S8 (by first | omega | (rw [e0]; omega)) (v := some (.int (1 : Int32))) (fun h => by rw [Bd.returns] at h; cases h)
            have RR := R10.trans (CHv.at X10 hZ8 hEL R10.1)
            have RR' : CHr Z own_EL s.vm s.heap T10.vm T10.heap := by rw [hh]; exact RR
            refine ⟨_, _, retN X10 hx (t := .boolean) Bd.returns (by simp) (hb hby at_396) hr, hrun, hended, _, _, rfl, ?_, RR', ⟨_, rfl⟩, hW.2.1, hW.2.2.1, hW.2.2.2.mono (by decide) (by decide)⟩
            show Q_rm_law Z sel pos chh lng aa bb va kva a_LIVE a_TEST a_MANAGEMENT l_LIVE b_LIVE kb_LIVE l_TEST b_TEST kb_TEST l_MANAGEMENT b_MANAGEMENT kb_MANAGEMENT cs h0 n0 _ T10.heap _
            exact ⟨rfl, N10, K11⟩
          · skip
            show own_Go p e below (Tj6.setTop (mkF m 231 #[.val (.int sel), .val (.int pos), .val (.int chh), .val (.int lng), .val (.int aa), .val (.int bb), .val (.int bs), .val (.ref ob1), .val (.int (1 : Int32)), .val (.int (0 : Int32)), .unset, .unset, .unset, .unset, .unset, .unset] [(.ref ob1)])) _
            refine own_by (fun _ k => XS.iload Xj6.here hx rfl (hb hby at_231) rfl k) ?_
            have O12 : Old Z n0 Hj5 := (O0.keep Kj5 all0)
            obtain ⟨_, _, ⟨T13, L13, k13, n13⟩, -, X13, S'13, gr13, ⟨Lc13, hQ13, l13, y13, z13, C13⟩, st13⟩ := callSS Xj6 hx (y := (⟨s1_, "prefix", s13_⟩ : MethodName)) hown (mvT hZ (own_w hw 32 rfl)) (mvT hZ (own_w hw 33 rfl)) (mvT hZ (own_w hw 34 rfl)) (mvT hZ (own_w hw 35 rfl)) (by decide) (backOfSH (W := 0) (rm_pre1 l Z a0 hw [] ob1 k1 cs v1a v2a v3a v4a v5a Hj5 n0 O12 hEL S_COMPACT fj5_0 hcs) hZ (own_w hw 35 rfl) (own_w hw 34 rfl) (by decide) (by decide) hEL Rj5.1) (g := (mkF m 233 #[.val (.int sel), .val (.int pos), .val (.int chh), .val (.int lng), .val (.int aa), .val (.int bb), .val (.int bs), .val (.ref ob1), .val (.int (1 : Int32)), .val (.int (0 : Int32)), .unset, .unset, .unset, .unset, .unset, .unset] [(.int (1 : Int32)), (.ref ob1)])) rfl (by rw [hml]; rfl) (argsL := [(.ref ob1), (.int (1 : Int32))]) (rest := []) (lenOf own_pd__28_5bCI_29Ljava_2flang_2fString_3b rfl) rfl (by show 2 * 0 + _ ≤ _; exact Nat.le_of_eq rfl) (hb hby at_233) (fun _ _ => ⟨rfl, ej6, (by decide : 1 + 3 ≤ _), (by decide : 5 + 6 ≤ _)⟩)
            dsimp only [Pt.U, Pt.locs, Pt.cells, Pt.slots] at X13 l13 y13 z13 st13 hQ13 S'13 gr13 C13
            subst l13 y13 z13
            obtain ⟨X13, S13, hZ13, ho13⟩ := rebS S0 (by first | omega | (rw [ej6]; omega)) X13 S'13 gr13 hZ hown
            obtain ⟨r1_13, b_13, kb_13, rfl, M13, K13, g13_0, g13_1, g13_2, g13_3, r13_0⟩ := hQ13
            have N13 := Fr.app Nj6 M13
            refine own_by (fun _ k => st13.trans k) ?_
            have R13 := Rj5.trans C13
            have z13 := K13.1
            have lt_g13_0 : T13.heap.size > r1_13 := g13_0.lt
            have lt_g13_1 : T13.heap.size > r1_13 := g13_1.lt
            have lt_g13_2 : T13.heap.size > r1_13 := g13_2.lt
            have lt_g13_3 : T13.heap.size > b_13 := g13_3.lt
            refine own_by (fun _ k => XS.astore X13.here hx rfl (hb hby at_236) rfl rfl (l' := #[.val (.int sel), .val (.int pos), .val (.int chh), .val (.int lng), .val (.int aa), .val (.int bb), .val (.int bs), .val (.ref ob1), .val (.int (1 : Int32)), .val (.int (0 : Int32)), .val (.ref r1_13), .unset, .unset, .unset, .unset, .unset]) rfl k) ?_
            refine own_by (fun _ k => XS.aconstNull X13.here hx rfl (hb hby at_238) k) ?_
            refine own_by (fun _ k => XS.astore X13.here hx rfl (hb hby at_239) rfl rfl (l' := #[.val (.int sel), .val (.int pos), .val (.int chh), .val (.int lng), .val (.int aa), .val (.int bb), .val (.int bs), .val (.ref ob1), .val (.int (1 : Int32)), .val (.int (0 : Int32)), .val (.ref r1_13), .val .null, .unset, .unset, .unset, .unset]) rfl k) ?_
            refine own_by (fun _ k => XS.iload X13.here hx rfl (hb hby at_241) rfl k) ?_
            show own_Go p e below (T13.setTop (mkF m 243 #[.val (.int sel), .val (.int pos), .val (.int chh), .val (.int lng), .val (.int aa), .val (.int bb), .val (.int bs), .val (.ref ob1), .val (.int (1 : Int32)), .val (.int (0 : Int32)), .val (.ref r1_13), .val .null, .unset, .unset, .unset, .unset] [(.int (0 : Int32))])) _
            refine own_by (fun _ k => XS.ifNo X13.here hx rfl (hb hby at_243) rfl ((if0 _ _).trans (teq (by decide : (0 : Int32) = (0 : Int32))).2) k) ?_
            show own_Go p e below (T13.setTop (mkF m 246 #[.val (.int sel), .val (.int pos), .val (.int chh), .val (.int lng), .val (.int aa), .val (.int bb), .val (.int bs), .val (.ref ob1), .val (.int (1 : Int32)), .val (.int (0 : Int32)), .val (.ref r1_13), .val .null, .unset, .unset, .unset, .unset] [])) _
            refine own_by (fun _ k => XS.iload X13.here hx rfl (hb hby at_246) rfl k) ?_
            refine own_by (fun _ k => XS.iconst X13.here hx rfl (hb hby at_248) k) ?_
            refine own_by (fun _ k => XS.icmpYes X13.here hx rfl (pc0 := 249) (pc' := 381) rfl (hb hby at_249) rfl (feq (by decide : ¬ ((1 : Int32) = (4 : Int32)))).2 (by decide) (by decide) k) ?_
            show own_Go p e below (T13.setTop (mkF m 381 #[.val (.int sel), .val (.int pos), .val (.int chh), .val (.int lng), .val (.int aa), .val (.int bb), .val (.int bs), .val (.ref ob1), .val (.int (1 : Int32)), .val (.int (0 : Int32)), .val (.ref r1_13), .val .null, .unset, .unset, .unset, .unset] [])) _
            refine own_by (fun _ k => XS.aload X13.here hx rfl (hb hby at_381) rfl rfl k) ?_
            have O14 : Old Z n0 T13.heap := (O12.keep K13 all0)
            obtain ⟨_, _, ⟨T15, L15, k15, n15⟩, -, X15, ⟨Lc15, hQ15, l15, y15, z15⟩, st15⟩ := Jvm.LawKit.callS X13 hx (y := (⟨s2_, "ofLabel", s3_⟩ : MethodName)) ho13 (mvT hZ13 (own_w hw 2 rfl)) (mvT hZ13 (own_w hw 3 rfl)) (mvT hZ13 (own_w hw 4 rfl)) (mvT hZ13 (own_w hw 5 rfl)) (by decide) (backOf (W := 0) (rm_olNone_none l Z a0 hw [] r1_13 b_13 kb_13 cs (1 : Int32) [(.int (own_b (v1a &&& (255 : Int32))))] va kva a_LIVE a_TEST a_MANAGEMENT l_LIVE b_LIVE kb_LIVE l_TEST b_TEST kb_TEST l_MANAGEMENT b_MANAGEMENT kb_MANAGEMENT T13.heap n0 O14 S_VALUES E_va V_va E_LIVE F_LIVE Es_LIVE Fc_LIVE Fv_LIVE V_LIVE E_TEST F_TEST Es_TEST Fc_TEST Fv_TEST V_TEST E_MANAGEMENT F_MANAGEMENT Es_MANAGEMENT Fc_MANAGEMENT Fv_MANAGEMENT V_MANAGEMENT S_COMPACT g13_0 g13_1 g13_2 g13_3 hcs (by omega) (by decide)) hZ13 (own_w hw 5 rfl) (own_w hw 4 rfl) (by decide) (by decide)) (g := (mkF m 383 #[.val (.int sel), .val (.int pos), .val (.int chh), .val (.int lng), .val (.int aa), .val (.int bb), .val (.int bs), .val (.ref ob1), .val (.int (1 : Int32)), .val (.int (0 : Int32)), .val (.ref r1_13), .val .null, .unset, .unset, .unset, .unset] [(.ref r1_13)])) rfl (by rw [hml]; rfl) (argsL := [(.ref r1_13)]) (rest := []) (lenOf own_pd__28Ljava_2flang_2fString_3b_29Lcom_2fexample_2fostiarius_2fostiarius_2fkey_2fKeyKind_3b rfl) rfl (by show 2 * 0 + _ ≤ _; exact Nat.le_of_eq rfl) (hb hby at_383) (fun _ _ => ⟨rfl, rfl, (by decide : 4 + 1 ≤ _), (by decide : 11 + 3 ≤ _)⟩)
            dsimp only [Pt.U, Pt.locs, Pt.cells, Pt.slots] at X15 l15 y15 z15 st15 hQ15
            subst l15 y15 z15
            obtain ⟨rfl, M15, K15⟩ := hQ15
            have N15 := Fr.app N13 M15
            refine own_by st15 ?_
            have sk15 : ∀ x ∈ ([] : List Addr), Safe Z own_EL T13.vm T13.heap x := sf0
            have R15 := R13.trans (CHr.keep K15 sk15 R13.1)
            have z15 := K15.1
            refine own_by (fun _ k => XS.aload X15.here hx rfl (hb hby at_386) rfl rfl k) ?_
            refine own_by (fun _ k => Jvm.RoadKit.acmp (g := (mkF m 388 #[.val (.int sel), .val (.int pos), .val (.int chh), .val (.int lng), .val (.int aa), .val (.int bb), .val (.int bs), .val (.ref ob1), .val (.int (1 : Int32)), .val (.int (0 : Int32)), .val (.ref r1_13), .val .null, .unset, .unset, .unset, .unset] [.null, .null])) X15 hx rfl rfl rfl (pc0 := 388) (pc' := 391) (same := true) rfl (hb hby at_388) rfl (decide_eq_true rfl) (by decide) (by decide) k) ?_
            show own_Go p e below (T15.setTop (mkF m 391 #[.val (.int sel), .val (.int pos), .val (.int chh), .val (.int lng), .val (.int aa), .val (.int bb), .val (.int bs), .val (.ref ob1), .val (.int (1 : Int32)), .val (.int (0 : Int32)), .val (.ref r1_13), .val .null, .unset, .unset, .unset, .unset] [])) _
            refine own_by (fun _ k => XS.iconst X15.here hx rfl (hb hby at_391) k) ?_
            refine own_by (fun _ k => XS.goto X15.here hx rfl (pc0 := 392) (pc' := 396) rfl (hb hby at_392) (by decide) (by decide) k) ?_
            have K16 : Keep h0 T15.heap [] := ((((Keep.refl h0 []).trans Kj5 all0).trans K13 all0).trans K15 all0)
            obtain ⟨fs, hr, hrun, hended, hW⟩ := X15.leaveW S13 (by first | omega | (rw [e0]; omega)) (v := some (.int (1 : Int32))) (fun h => by rw [Bd.returns] at h; cases h)
            have RR := R15.trans (CHv.at X15 hZ13 hEL R15.1)
            have RR' : CHr Z own_EL s.vm s.heap T15.vm T15.heap := by rw [hh]; exact RR
            refine ⟨_, _, retN X15 hx (t := .boolean) Bd.returns (by simp) (hb hby at_396) hr, hrun, hended, _, _, rfl, ?_, RR', ⟨_, rfl⟩, hW.2.1, hW.2.2.1, hW.2.2.2.mono (by decide) (by decide)⟩
            show Q_rm_law Z sel pos chh lng aa bb va kva a_LIVE a_TEST a_MANAGEMENT l_LIVE b_LIVE kb_LIVE l_TEST b_TEST kb_TEST l_MANAGEMENT b_MANAGEMENT kb_MANAGEMENT cs h0 n0 _ T15.heap _
            exact ⟨rfl, N15, K16⟩
          · skip
            show own_Go p e below (Tj6.setTop (mkF m 231 #[.val (.int sel), .val (.int pos), .val (.int chh), .val (.int lng), .val (.int aa), .val (.int bb), .val (.int bs), .val (.ref ob1), .val (.int (2 : Int32)), .val (.int (0 : Int32)), .unset, .unset, .unset, .unset, .unset, .unset] [(.ref ob1)])) _
            refine own_by (fun _ k => XS.iload Xj6.here hx rfl (hb hby at_231) rfl k) ?_
            have O17 : Old Z n0 Hj5 := (O0.keep Kj5 all0)
            obtain ⟨_, _, ⟨T18, L18, k18, n18⟩, -, X18, S'18, gr18, ⟨Lc18, hQ18, l18, y18, z18, C18⟩, st18⟩ := callSS Xj6 hx (y := (⟨s1_, "prefix", s13_⟩ : MethodName)) hown (mvT hZ (own_w hw 32 rfl)) (mvT hZ (own_w hw 33 rfl)) (mvT hZ (own_w hw 34 rfl)) (mvT hZ (own_w hw 35 rfl)) (by decide) (backOfSH (W := 0) (rm_pre2 l Z a0 hw [] ob1 k1 cs v1a v2a v3a v4a v5a Hj5 n0 O17 hEL S_COMPACT fj5_0 hcs) hZ (own_w hw 35 rfl) (own_w hw 34 rfl) (by decide) (by decide) hEL Rj5.1) (g := (mkF m 233 #[.val (.int sel), .val (.int pos), .val (.int chh), .val (.int lng), .val (.int aa), .val (.int bb), .val (.int bs), .val (.ref ob1), .val (.int (2 : Int32)), .val (.int (0 : Int32)), .unset, .unset, .unset, .unset, .unset, .unset] [(.int (2 : Int32)), (.ref ob1)])) rfl (by rw [hml]; rfl) (argsL := [(.ref ob1), (.int (2 : Int32))]) (rest := []) (lenOf own_pd__28_5bCI_29Ljava_2flang_2fString_3b rfl) rfl (by show 2 * 0 + _ ≤ _; exact Nat.le_of_eq rfl) (hb hby at_233) (fun _ _ => ⟨rfl, ej6, (by decide : 1 + 3 ≤ _), (by decide : 5 + 8 ≤ _)⟩)
            dsimp only [Pt.U, Pt.locs, Pt.cells, Pt.slots] at X18 l18 y18 z18 st18 hQ18 S'18 gr18 C18
            subst l18 y18 z18
            obtain ⟨X18, S18, hZ18, ho18⟩ := rebS S0 (by first | omega | (rw [ej6]; omega)) X18 S'18 gr18 hZ hown
            obtain ⟨r1_18, b_18, kb_18, rfl, M18, K18, g18_0, g18_1, g18_2, g18_3, r18_0⟩ := hQ18
            have N18 := Fr.app Nj6 M18
            refine own_by (fun _ k => st18.trans k) ?_
            have R18 := Rj5.trans C18
            have z18 := K18.1
            have lt_g18_0 : T18.heap.size > r1_18 := g18_0.lt
            have lt_g18_1 : T18.heap.size > r1_18 := g18_1.lt
            have lt_g18_2 : T18.heap.size > r1_18 := g18_2.lt
            have lt_g18_3 : T18.heap.size > b_18 := g18_3.lt
            refine own_by (fun _ k => XS.astore X18.here hx rfl (hb hby at_236) rfl rfl (l' := #[.val (.int sel), .val (.int pos), .val (.int chh), .val (.int lng), .val (.int aa), .val (.int bb), .val (.int bs), .val (.ref ob1), .val (.int (2 : Int32)), .val (.int (0 : Int32)), .val (.ref r1_18), .unset, .unset, .unset, .unset, .unset]) rfl k) ?_
            refine own_by (fun _ k => XS.aconstNull X18.here hx rfl (hb hby at_238) k) ?_
            refine own_by (fun _ k => XS.astore X18.here hx rfl (hb hby at_239) rfl rfl (l' := #[.val (.int sel), .val (.int pos), .val (.int chh), .val (.int lng), .val (.int aa), .val (.int bb), .val (.int bs), .val (.ref ob1), .val (.int (2 : Int32)), .val (.int (0 : Int32)), .val (.ref r1_18), .val .null, .unset, .unset, .unset, .unset]) rfl k) ?_
            refine own_by (fun _ k => XS.iload X18.here hx rfl (hb hby at_241) rfl k) ?_
            show own_Go p e below (T18.setTop (mkF m 243 #[.val (.int sel), .val (.int pos), .val (.int chh), .val (.int lng), .val (.int aa), .val (.int bb), .val (.int bs), .val (.ref ob1), .val (.int (2 : Int32)), .val (.int (0 : Int32)), .val (.ref r1_18), .val .null, .unset, .unset, .unset, .unset] [(.int (0 : Int32))])) _
            refine own_by (fun _ k => XS.ifNo X18.here hx rfl (hb hby at_243) rfl ((if0 _ _).trans (teq (by decide : (0 : Int32) = (0 : Int32))).2) k) ?_
            show own_Go p e below (T18.setTop (mkF m 246 #[.val (.int sel), .val (.int pos), .val (.int chh), .val (.int lng), .val (.int aa), .val (.int bb), .val (.int bs), .val (.ref ob1), .val (.int (2 : Int32)), .val (.int (0 : Int32)), .val (.ref r1_18), .val .null, .unset, .unset, .unset, .unset] [])) _
            refine own_by (fun _ k => XS.iload X18.here hx rfl (hb hby at_246) rfl k) ?_
            refine own_by (fun _ k => XS.iconst X18.here hx rfl (hb hby at_248) k) ?_
            refine own_by (fun _ k => XS.icmpYes X18.here hx rfl (pc0 := 249) (pc' := 381) rfl (hb hby at_249) rfl (feq (by decide : ¬ ((2 : Int32) = (4 : Int32)))).2 (by decide) (by decide) k) ?_
            show own_Go p e below (T18.setTop (mkF m 381 #[.val (.int sel), .val (.int pos), .val (.int chh), .val (.int lng), .val (.int aa), .val (.int bb), .val (.int bs), .val (.ref ob1), .val (.int (2 : Int32)), .val (.int (0 : Int32)), .val (.ref r1_18), .val .null, .unset, .unset, .unset, .unset] [])) _
            refine own_by (fun _ k => XS.aload X18.here hx rfl (hb hby at_381) rfl rfl k) ?_
            have O19 : Old Z n0 T18.heap := (O17.keep K18 all0)
            obtain ⟨_, _, ⟨T20, L20, k20, n20⟩, -, X20, ⟨Lc20, hQ20, l20, y20, z20⟩, st20⟩ := Jvm.LawKit.callS X18 hx (y := (⟨s2_, "ofLabel", s3_⟩ : MethodName)) ho18 (mvT hZ18 (own_w hw 2 rfl)) (mvT hZ18 (own_w hw 3 rfl)) (mvT hZ18 (own_w hw 4 rfl)) (mvT hZ18 (own_w hw 5 rfl)) (by decide) (backOf (W := 0) (rm_olNone_none l Z a0 hw [] r1_18 b_18 kb_18 cs (2 : Int32) [(.int (own_b (v1a &&& (255 : Int32)))), (.int (own_b (v2a &&& (255 : Int32))))] va kva a_LIVE a_TEST a_MANAGEMENT l_LIVE b_LIVE kb_LIVE l_TEST b_TEST kb_TEST l_MANAGEMENT b_MANAGEMENT kb_MANAGEMENT T18.heap n0 O19 S_VALUES E_va V_va E_LIVE F_LIVE Es_LIVE Fc_LIVE Fv_LIVE V_LIVE E_TEST F_TEST Es_TEST Fc_TEST Fv_TEST V_TEST E_MANAGEMENT F_MANAGEMENT Es_MANAGEMENT Fc_MANAGEMENT Fv_MANAGEMENT V_MANAGEMENT S_COMPACT g18_0 g18_1 g18_2 g18_3 hcs (by omega) (by decide)) hZ18 (own_w hw 5 rfl) (own_w hw 4 rfl) (by decide) (by decide)) (g := (mkF m 383 #[.val (.int sel), .val (.int pos), .val (.int chh), .val (.int lng), .val (.int aa), .val (.int bb), .val (.int bs), .val (.ref ob1), .val (.int (2 : Int32)), .val (.int (0 : Int32)), .val (.ref r1_18), .val .null, .unset, .unset, .unset, .unset] [(.ref r1_18)])) rfl (by rw [hml]; rfl) (argsL := [(.ref r1_18)]) (rest := []) (lenOf own_pd__28Ljava_2flang_2fString_3b_29Lcom_2fexample_2fostiarius_2fostiarius_2fkey_2fKeyKind_3b rfl) rfl (by show 2 * 0 + _ ≤ _; exact Nat.le_of_eq rfl) (hb hby at_383) (fun _ _ => ⟨rfl, rfl, (by decide : 4 + 1 ≤ _), (by decide : 13 + 3 ≤ _)⟩)
            dsimp only [Pt.U, Pt.locs, Pt.cells, Pt.slots] at X20 l20 y20 z20 st20 hQ20
            subst l20 y20 z20
            obtain ⟨rfl, M20, K20⟩ := hQ20
            have N20 := Fr.app N18 M20
            refine own_by st20 ?_
            have sk20 : ∀ x ∈ ([] : List Addr), Safe Z own_EL T18.vm T18.heap x := sf0
            have R20 := R18.trans (CHr.keep K20 sk20 R18.1)
            have z20 := K20.1
            refine own_by (fun _ k => XS.aload X20.here hx rfl (hb hby at_386) rfl rfl k) ?_
            refine own_by (fun _ k => Jvm.RoadKit.acmp (g := (mkF m 388 #[.val (.int sel), .val (.int pos), .val (.int chh), .val (.int lng), .val (.int aa), .val (.int bb), .val (.int bs), .val (.ref ob1), .val (.int (2 : Int32)), .val (.int (0 : Int32)), .val (.ref r1_18), .val .null, .unset, .unset, .unset, .unset] [.null, .null])) X20 hx rfl rfl rfl (pc0 := 388) (pc' := 391) (same := true) rfl (hb hby at_388) rfl (decide_eq_true rfl) (by decide) (by decide) k) ?_
            show own_Go p e below (T20.setTop (mkF m 391 #[.val (.int sel), .val (.int pos), .val (.int chh), .val (.int lng), .val (.int aa), .val (.int bb), .val (.int bs), .val (.ref ob1), .val (.int (2 : Int32)), .val (.int (0 : Int32)), .val (.ref r1_18), .val .null, .unset, .unset, .unset, .unset] [])) _
            refine own_by (fun _ k => XS.iconst X20.here hx rfl (hb hby at_391) k) ?_
            refine own_by (fun _ k => XS.goto X20.here hx rfl (pc0 := 392) (pc' := 396) rfl (hb hby at_392) (by decide) (by decide) k) ?_
            have K21 : Keep h0 T20.heap [] := ((((Keep.refl h0 []).trans Kj5 all0).trans K18 all0).trans K20 all0)
            obtain ⟨fs, hr, hrun, hended, hW⟩ := X20.leaveW S18 (by first | omega | (rw [e0]; omega)) (v := some (.int (1 : Int32))) (fun h => by rw [Bd.returns] at h; cases h)
            have RR := R20.trans (CHv.at X20 hZ18 hEL R20.1)
            have RR' : CHr Z own_EL s.vm s.heap T20.vm T20.heap := by rw [hh]; exact RR
            refine ⟨_, _, retN X20 hx (t := .boolean) Bd.returns (by simp) (hb hby at_396) hr, hrun, hended, _, _, rfl, ?_, RR', ⟨_, rfl⟩, hW.2.1, hW.2.2.1, hW.2.2.2.mono (by decide) (by decide)⟩
            show Q_rm_law Z sel pos chh lng aa bb va kva a_LIVE a_TEST a_MANAGEMENT l_LIVE b_LIVE kb_LIVE l_TEST b_TEST kb_TEST l_MANAGEMENT b_MANAGEMENT kb_MANAGEMENT cs h0 n0 _ T20.heap _
            exact ⟨rfl, N20, K21⟩
          · skip
            show own_Go p e below (Tj6.setTop (mkF m 231 #[.val (.int sel), .val (.int pos), .val (.int chh), .val (.int lng), .val (.int aa), .val (.int bb), .val (.int bs), .val (.ref ob1), .val (.int (3 : Int32)), .val (.int (0 : Int32)), .unset, .unset, .unset, .unset, .unset, .unset] [(.ref ob1)])) _
            refine own_by (fun _ k => XS.iload Xj6.here hx rfl (hb hby at_231) rfl k) ?_
            have O22 : Old Z n0 Hj5 := (O0.keep Kj5 all0)
            obtain ⟨_, _, ⟨T23, L23, k23, n23⟩, -, X23, S'23, gr23, ⟨Lc23, hQ23, l23, y23, z23, C23⟩, st23⟩ := callSS Xj6 hx (y := (⟨s1_, "prefix", s13_⟩ : MethodName)) hown (mvT hZ (own_w hw 32 rfl)) (mvT hZ (own_w hw 33 rfl)) (mvT hZ (own_w hw 34 rfl)) (mvT hZ (own_w hw 35 rfl)) (by decide) (backOfSH (W := 0) (rm_pre3 l Z a0 hw [] ob1 k1 cs v1a v2a v3a v4a v5a Hj5 n0 O22 hEL S_COMPACT fj5_0 hcs) hZ (own_w hw 35 rfl) (own_w hw 34 rfl) (by decide) (by decide) hEL Rj5.1) (g := (mkF m 233 #[.val (.int sel), .val (.int pos), .val (.int chh), .val (.int lng), .val (.int aa), .val (.int bb), .val (.int bs), .val (.ref ob1), .val (.int (3 : Int32)), .val (.int (0 : Int32)), .unset, .unset, .unset, .unset, .unset, .unset] [(.int (3 : Int32)), (.ref ob1)])) rfl (by rw [hml]; rfl) (argsL := [(.ref ob1), (.int (3 : Int32))]) (rest := []) (lenOf own_pd__28_5bCI_29Ljava_2flang_2fString_3b rfl) rfl (by show 2 * 0 + _ ≤ _; exact Nat.le_of_eq rfl) (hb hby at_233) (fun _ _ => ⟨rfl, ej6, (by decide : 1 + 3 ≤ _), (by decide : 5 + 10 ≤ _)⟩)
            dsimp only [Pt.U, Pt.locs, Pt.cells, Pt.slots] at X23 l23 y23 z23 st23 hQ23 S'23 gr23 C23
            subst l23 y23 z23
            obtain ⟨X23, S23, hZ23, ho23⟩ := rebS S0 (by first | omega | (rw [ej6]; omega)) X23 S'23 gr23 hZ hown
            obtain ⟨r1_23, b_23, kb_23, rfl, M23, K23, g23_0, g23_1, g23_2, g23_3, r23_0⟩ := hQ23
            have N23 := Fr.app Nj6 M23
            refine own_by (fun _ k => st23.trans k) ?_
            have R23 := Rj5.trans C23
            have z23 := K23.1
            have lt_g23_0 : T23.heap.size > r1_23 := g23_0.lt
            have lt_g23_1 : T23.heap.size > r1_23 := g23_1.lt
            have lt_g23_2 : T23.heap.size > r1_23 := g23_2.lt
            have lt_g23_3 : T23.heap.size > b_23 := g23_3.lt
            refine own_by (fun _ k => XS.astore X23.here hx rfl (hb hby at_236) rfl rfl (l' := #[.val (.int sel), .val (.int pos), .val (.int chh), .val (.int lng), .val (.int aa), .val (.int bb), .val (.int bs), .val (.ref ob1), .val (.int (3 : Int32)), .val (.int (0 : Int32)), .val (.ref r1_23), .unset, .unset, .unset, .unset, .unset]) rfl k) ?_
            refine own_by (fun _ k => XS.aconstNull X23.here hx rfl (hb hby at_238) k) ?_
            refine own_by (fun _ k => XS.astore X23.here hx rfl (hb hby at_239) rfl rfl (l' := #[.val (.int sel), .val (.int pos), .val (.int chh), .val (.int lng), .val (.int aa), .val (.int bb), .val (.int bs), .val (.ref ob1), .val (.int (3 : Int32)), .val (.int (0 : Int32)), .val (.ref r1_23), .val .null, .unset, .unset, .unset, .unset]) rfl k) ?_
            refine own_by (fun _ k => XS.iload X23.here hx rfl (hb hby at_241) rfl k) ?_
            show own_Go p e below (T23.setTop (mkF m 243 #[.val (.int sel), .val (.int pos), .val (.int chh), .val (.int lng), .val (.int aa), .val (.int bb), .val (.int bs), .val (.ref ob1), .val (.int (3 : Int32)), .val (.int (0 : Int32)), .val (.ref r1_23), .val .null, .unset, .unset, .unset, .unset] [(.int (0 : Int32))])) _
            refine own_by (fun _ k => XS.ifNo X23.here hx rfl (hb hby at_243) rfl ((if0 _ _).trans (teq (by decide : (0 : Int32) = (0 : Int32))).2) k) ?_
            show own_Go p e below (T23.setTop (mkF m 246 #[.val (.int sel), .val (.int pos), .val (.int chh), .val (.int lng), .val (.int aa), .val (.int bb), .val (.int bs), .val (.ref ob1), .val (.int (3 : Int32)), .val (.int (0 : Int32)), .val (.ref r1_23), .val .null, .unset, .unset, .unset, .unset] [])) _
            refine own_by (fun _ k => XS.iload X23.here hx rfl (hb hby at_246) rfl k) ?_
            refine own_by (fun _ k => XS.iconst X23.here hx rfl (hb hby at_248) k) ?_
            refine own_by (fun _ k => XS.icmpYes X23.here hx rfl (pc0 := 249) (pc' := 381) rfl (hb hby at_249) rfl (feq (by decide : ¬ ((3 : Int32) = (4 : Int32)))).2 (by decide) (by decide) k) ?_
            show own_Go p e below (T23.setTop (mkF m 381 #[.val (.int sel), .val (.int pos), .val (.int chh), .val (.int lng), .val (.int aa), .val (.int bb), .val (.int bs), .val (.ref ob1), .val (.int (3 : Int32)), .val (.int (0 : Int32)), .val (.ref r1_23), .val .null, .unset, .unset, .unset, .unset] [])) _
            refine own_by (fun _ k => XS.aload X23.here hx rfl (hb hby at_381) rfl rfl k) ?_
            have O24 : Old Z n0 T23.heap := (O22.keep K23 all0)
            obtain ⟨_, _, ⟨T25, L25, k25, n25⟩, -, X25, ⟨Lc25, hQ25, l25, y25, z25⟩, st25⟩ := Jvm.LawKit.callS X23 hx (y := (⟨s2_, "ofLabel", s3_⟩ : MethodName)) ho23 (mvT hZ23 (own_w hw 2 rfl)) (mvT hZ23 (own_w hw 3 rfl)) (mvT hZ23 (own_w hw 4 rfl)) (mvT hZ23 (own_w hw 5 rfl)) (by decide) (backOf (W := 0) (rm_olNone_none l Z a0 hw [] r1_23 b_23 kb_23 cs (3 : Int32) [(.int (own_b (v1a &&& (255 : Int32)))), (.int (own_b (v2a &&& (255 : Int32)))), (.int (own_b (v3a &&& (255 : Int32))))] va kva a_LIVE a_TEST a_MANAGEMENT l_LIVE b_LIVE kb_LIVE l_TEST b_TEST kb_TEST l_MANAGEMENT b_MANAGEMENT kb_MANAGEMENT T23.heap n0 O24 S_VALUES E_va V_va E_LIVE F_LIVE Es_LIVE Fc_LIVE Fv_LIVE V_LIVE E_TEST F_TEST Es_TEST Fc_TEST Fv_TEST V_TEST E_MANAGEMENT F_MANAGEMENT Es_MANAGEMENT Fc_MANAGEMENT Fv_MANAGEMENT V_MANAGEMENT S_COMPACT g23_0 g23_1 g23_2 g23_3 hcs (by omega) (by decide)) hZ23 (own_w hw 5 rfl) (own_w hw 4 rfl) (by decide) (by decide)) (g := (mkF m 383 #[.val (.int sel), .val (.int pos), .val (.int chh), .val (.int lng), .val (.int aa), .val (.int bb), .val (.int bs), .val (.ref ob1), .val (.int (3 : Int32)), .val (.int (0 : Int32)), .val (.ref r1_23), .val .null, .unset, .unset, .unset, .unset] [(.ref r1_23)])) rfl (by rw [hml]; rfl) (argsL := [(.ref r1_23)]) (rest := []) (lenOf own_pd__28Ljava_2flang_2fString_3b_29Lcom_2fexample_2fostiarius_2fostiarius_2fkey_2fKeyKind_3b rfl) rfl (by show 2 * 0 + _ ≤ _; exact Nat.le_of_eq rfl) (hb hby at_383) (fun _ _ => ⟨rfl, rfl, (by decide : 4 + 1 ≤ _), (by decide : 15 + 3 ≤ _)⟩)
            dsimp only [Pt.U, Pt.locs, Pt.cells, Pt.slots] at X25 l25 y25 z25 st25 hQ25
            subst l25 y25 z25
            obtain ⟨rfl, M25, K25⟩ := hQ25
            have N25 := Fr.app N23 M25
            refine own_by st25 ?_
            have sk25 : ∀ x ∈ ([] : List Addr), Safe Z own_EL T23.vm T23.heap x := sf0
            have R25 := R23.trans (CHr.keep K25 sk25 R23.1)
            have z25 := K25.1
            refine own_by (fun _ k => XS.aload X25.here hx rfl (hb hby at_386) rfl rfl k) ?_
            refine own_by (fun _ k => Jvm.RoadKit.acmp (g := (mkF m 388 #[.val (.int sel), .val (.int pos), .val (.int chh), .val (.int lng), .val (.int aa), .val (.int bb), .val (.int bs), .val (.ref ob1), .val (.int (3 : Int32)), .val (.int (0 : Int32)), .val (.ref r1_23), .val .null, .unset, .unset, .unset, .unset] [.null, .null])) X25 hx rfl rfl rfl (pc0 := 388) (pc' := 391) (same := true) rfl (hb hby at_388) rfl (decide_eq_true rfl) (by decide) (by decide) k) ?_
            show own_Go p e below (T25.setTop (mkF m 391 #[.val (.int sel), .val (.int pos), .val (.int chh), .val (.int lng), .val (.int aa), .val (.int bb), .val (.int bs), .val (.ref ob1), .val (.int (3 : Int32)), .val (.int (0 : Int32)), .val (.ref r1_23), .val .null, .unset, .unset, .unset, .unset] [])) _
            refine own_by (fun _ k => XS.iconst X25.here hx rfl (hb hby at_391) k) ?_
            refine own_by (fun _ k => XS.goto X25.here hx rfl (pc0 := 392) (pc' := 396) rfl (hb hby at_392) (by decide) (by decide) k) ?_
            have K26 : Keep h0 T25.heap [] := ((((Keep.refl h0 []).trans Kj5 all0).trans K23 all0).trans K25 all0)
            obtain ⟨fs, hr, hrun, hended, hW⟩ := X25.leaveW S23 (by first | omega | (rw [e0]; omega)) (v := some (.int (1 : Int32))) (fun h => by rw [Bd.returns] at h; cases h)
            have RR := R25.trans (CHv.at X25 hZ23 hEL R25.1)
            have RR' : CHr Z own_EL s.vm s.heap T25.vm T25.heap := by rw [hh]; exact RR
            refine ⟨_, _, retN X25 hx (t := .boolean) Bd.returns (by simp) (hb hby at_396) hr, hrun, hended, _, _, rfl, ?_, RR', ⟨_, rfl⟩, hW.2.1, hW.2.2.1, hW.2.2.2.mono (by decide) (by decide)⟩
            show Q_rm_law Z sel pos chh lng aa bb va kva a_LIVE a_TEST a_MANAGEMENT l_LIVE b_LIVE kb_LIVE l_TEST b_TEST kb_TEST l_MANAGEMENT b_MANAGEMENT kb_MANAGEMENT cs h0 n0 _ T25.heap _
            exact ⟨rfl, N25, K26⟩
          · skip
            show own_Go p e below (Tj6.setTop (mkF m 231 #[.val (.int sel), .val (.int pos), .val (.int chh), .val (.int lng), .val (.int aa), .val (.int bb), .val (.int bs), .val (.ref ob1), .val (.int (4 : Int32)), .val (.int (0 : Int32)), .unset, .unset, .unset, .unset, .unset, .unset] [(.ref ob1)])) _
            refine own_by (fun _ k => XS.iload Xj6.here hx rfl (hb hby at_231) rfl k) ?_
            have O27 : Old Z n0 Hj5 := (O0.keep Kj5 all0)
            obtain ⟨_, _, ⟨T28, L28, k28, n28⟩, -, X28, S'28, gr28, ⟨Lc28, hQ28, l28, y28, z28, C28⟩, st28⟩ := callSS Xj6 hx (y := (⟨s1_, "prefix", s13_⟩ : MethodName)) hown (mvT hZ (own_w hw 32 rfl)) (mvT hZ (own_w hw 33 rfl)) (mvT hZ (own_w hw 34 rfl)) (mvT hZ (own_w hw 35 rfl)) (by decide) (backOfSH (W := 0) (rm_pre4 l Z a0 hw [] ob1 k1 cs v1a v2a v3a v4a v5a Hj5 n0 O27 hEL S_COMPACT fj5_0 hcs) hZ (own_w hw 35 rfl) (own_w hw 34 rfl) (by decide) (by decide) hEL Rj5.1) (g := (mkF m 233 #[.val (.int sel), .val (.int pos), .val (.int chh), .val (.int lng), .val (.int aa), .val (.int bb), .val (.int bs), .val (.ref ob1), .val (.int (4 : Int32)), .val (.int (0 : Int32)), .unset, .unset, .unset, .unset, .unset, .unset] [(.int (4 : Int32)), (.ref ob1)])) rfl (by rw [hml]; rfl) (argsL := [(.ref ob1), (.int (4 : Int32))]) (rest := []) (lenOf own_pd__28_5bCI_29Ljava_2flang_2fString_3b rfl) rfl (by show 2 * 0 + _ ≤ _; exact Nat.le_of_eq rfl) (hb hby at_233) (fun _ _ => ⟨rfl, ej6, (by decide : 1 + 3 ≤ _), (by decide : 5 + 12 ≤ _)⟩)
            dsimp only [Pt.U, Pt.locs, Pt.cells, Pt.slots] at X28 l28 y28 z28 st28 hQ28 S'28 gr28 C28
            subst l28 y28 z28
            obtain ⟨X28, S28, hZ28, ho28⟩ := rebS S0 (by first | omega | (rw [ej6]; omega)) X28 S'28 gr28 hZ hown
            obtain ⟨r1_28, b_28, kb_28, rfl, M28, K28, g28_0, g28_1, g28_2, g28_3, r28_0⟩ := hQ28
            have N28 := Fr.app Nj6 M28
            refine own_by (fun _ k => st28.trans k) ?_
            have R28 := Rj5.trans C28
            have z28 := K28.1
            have lt_g28_0 : T28.heap.size > r1_28 := g28_0.lt
            have lt_g28_1 : T28.heap.size > r1_28 := g28_1.lt
            have lt_g28_2 : T28.heap.size > r1_28 := g28_2.lt
            have lt_g28_3 : T28.heap.size > b_28 := g28_3.lt
            refine own_by (fun _ k => XS.astore X28.here hx rfl (hb hby at_236) rfl rfl (l' := #[.val (.int sel), .val (.int pos), .val (.int chh), .val (.int lng), .val (.int aa), .val (.int bb), .val (.int bs), .val (.ref ob1), .val (.int (4 : Int32)), .val (.int (0 : Int32)), .val (.ref r1_28), .unset, .unset, .unset, .unset, .unset]) rfl k) ?_
            refine own_by (fun _ k => XS.aconstNull X28.here hx rfl (hb hby at_238) k) ?_
            refine own_by (fun _ k => XS.astore X28.here hx rfl (hb hby at_239) rfl rfl (l' := #[.val (.int sel), .val (.int pos), .val (.int chh), .val (.int lng), .val (.int aa), .val (.int bb), .val (.int bs), .val (.ref ob1), .val (.int (4 : Int32)), .val (.int (0 : Int32)), .val (.ref r1_28), .val .null, .unset, .unset, .unset, .unset]) rfl k) ?_
            refine own_by (fun _ k => XS.iload X28.here hx rfl (hb hby at_241) rfl k) ?_
            show own_Go p e below (T28.setTop (mkF m 243 #[.val (.int sel), .val (.int pos), .val (.int chh), .val (.int lng), .val (.int aa), .val (.int bb), .val (.int bs), .val (.ref ob1), .val (.int (4 : Int32)), .val (.int (0 : Int32)), .val (.ref r1_28), .val .null, .unset, .unset, .unset, .unset] [(.int (0 : Int32))])) _
            refine own_by (fun _ k => XS.ifNo X28.here hx rfl (hb hby at_243) rfl ((if0 _ _).trans (teq (by decide : (0 : Int32) = (0 : Int32))).2) k) ?_
            show own_Go p e below (T28.setTop (mkF m 246 #[.val (.int sel), .val (.int pos), .val (.int chh), .val (.int lng), .val (.int aa), .val (.int bb), .val (.int bs), .val (.ref ob1), .val (.int (4 : Int32)), .val (.int (0 : Int32)), .val (.ref r1_28), .val .null, .unset, .unset, .unset, .unset] [])) _
            refine own_by (fun _ k => XS.iload X28.here hx rfl (hb hby at_246) rfl k) ?_
            refine own_by (fun _ k => XS.iconst X28.here hx rfl (hb hby at_248) k) ?_
            refine own_by (fun _ k => XS.icmpNo X28.here hx rfl (hb hby at_249) rfl (teq (by decide : (4 : Int32) = (4 : Int32))).2 k) ?_
            show own_Go p e below (T28.setTop (mkF m 252 #[.val (.int sel), .val (.int pos), .val (.int chh), .val (.int lng), .val (.int aa), .val (.int bb), .val (.int bs), .val (.ref ob1), .val (.int (4 : Int32)), .val (.int (0 : Int32)), .val (.ref r1_28), .val .null, .unset, .unset, .unset, .unset] [])) _
            refine own_by (fun _ k => XS.aload X28.here hx rfl (hb hby at_252) rfl rfl k) ?_
            refine own_by (fun _ k => XS.iconst X28.here hx rfl (hb hby at_254) k) ?_
            have fc29 : Arv Z T28.heap ob1 k1 .char (5 : Int32) [(.int (v1a &&& (255 : Int32))), (.int (v2a &&& (255 : Int32))), (.int (v3a &&& (255 : Int32))), (.int (v4a &&& (255 : Int32))), (.int (v5a &&& (255 : Int32)))] (.int (0 : Int32)) := (fj5_0.keep K28 nin0)
            obtain ⟨cl30, Ar30, q30, S30, M30, H30, G30⟩ := (id fc29)
            have hin30 : ¬ ((0 : Int32) < 0 ∨ cl30.slots.size ≤ ((0 : Int32)).toNatClampNeg) := inb_of S30 ⟨by decide, by decide⟩
            refine own_by (X28.caload hx (j := (0 : Int32)) (v := (.int (v1a &&& (255 : Int32)))) Ar30.1 (State.isArrayOf_alike hZ28.alike Ar30.2.1) Ar30.2.2 hin30 (H30.at hin30 rfl) (g := (mkF m 255 #[.val (.int sel), .val (.int pos), .val (.int chh), .val (.int lng), .val (.int aa), .val (.int bb), .val (.int bs), .val (.ref ob1), .val (.int (4 : Int32)), .val (.int (0 : Int32)), .val (.ref r1_28), .val .null, .unset, .unset, .unset, .unset] [(.int (0 : Int32)), (.ref ob1)])) rfl rfl (hb hby at_255)) ?_
            refine own_by (fun _ k => XS.istore X28.here hx rfl (hb hby at_256) rfl (l' := #[.val (.int sel), .val (.int pos), .val (.int chh), .val (.int lng), .val (.int aa), .val (.int bb), .val (.int bs), .val (.ref ob1), .val (.int (4 : Int32)), .val (.int (0 : Int32)), .val (.ref r1_28), .val .null, .val (.int (v1a &&& (255 : Int32))), .unset, .unset, .unset]) rfl k) ?_
            refine own_by (fun _ k => XS.aload X28.here hx rfl (hb hby at_258) rfl rfl k) ?_
            refine own_by (fun _ k => XS.iconst X28.here hx rfl (hb hby at_260) k) ?_
            show own_Go p e below (T28.setTop (mkF m 261 #[.val (.int sel), .val (.int pos), .val (.int chh), .val (.int lng), .val (.int aa), .val (.int bb), .val (.int bs), .val (.ref ob1), .val (.int (4 : Int32)), .val (.int (0 : Int32)), .val (.ref r1_28), .val .null, .val (.int (v1a &&& (255 : Int32))), .unset, .unset, .unset] [(.int (1 : Int32)), (.ref ob1)])) _
            obtain ⟨cl31, Ar31, q31, S31, M31, H31, G31⟩ := (id fc29)
            have hin31 : ¬ ((1 : Int32) < 0 ∨ cl31.slots.size ≤ ((1 : Int32)).toNatClampNeg) := inb_of S31 ⟨by decide, by decide⟩
            refine own_by (X28.caload hx (j := (1 : Int32)) (v := (.int (v2a &&& (255 : Int32)))) Ar31.1 (State.isArrayOf_alike hZ28.alike Ar31.2.1) Ar31.2.2 hin31 (H31.at hin31 rfl) (g := (mkF m 261 #[.val (.int sel), .val (.int pos), .val (.int chh), .val (.int lng), .val (.int aa), .val (.int bb), .val (.int bs), .val (.ref ob1), .val (.int (4 : Int32)), .val (.int (0 : Int32)), .val (.ref r1_28), .val .null, .val (.int (v1a &&& (255 : Int32))), .unset, .unset, .unset] [(.int (1 : Int32)), (.ref ob1)])) rfl rfl (hb hby at_261)) ?_
            refine own_by (fun _ k => XS.istore X28.here hx rfl (hb hby at_262) rfl (l' := #[.val (.int sel), .val (.int pos), .val (.int chh), .val (.int lng), .val (.int aa), .val (.int bb), .val (.int bs), .val (.ref ob1), .val (.int (4 : Int32)), .val (.int (0 : Int32)), .val (.ref r1_28), .val .null, .val (.int (v1a &&& (255 : Int32))), .val (.int (v2a &&& (255 : Int32))), .unset, .unset]) rfl k) ?_
            refine own_by (fun _ k => XS.aload X28.here hx rfl (hb hby at_264) rfl rfl k) ?_
            refine own_by (fun _ k => XS.iconst X28.here hx rfl (hb hby at_266) k) ?_
            obtain ⟨cl32, Ar32, q32, S32, M32, H32, G32⟩ := (id fc29)
            have hin32 : ¬ ((2 : Int32) < 0 ∨ cl32.slots.size ≤ ((2 : Int32)).toNatClampNeg) := inb_of S32 ⟨by decide, by decide⟩
            refine own_by (X28.caload hx (j := (2 : Int32)) (v := (.int (v3a &&& (255 : Int32)))) Ar32.1 (State.isArrayOf_alike hZ28.alike Ar32.2.1) Ar32.2.2 hin32 (H32.at hin32 rfl) (g := (mkF m 267 #[.val (.int sel), .val (.int pos), .val (.int chh), .val (.int lng), .val (.int aa), .val (.int bb), .val (.int bs), .val (.ref ob1), .val (.int (4 : Int32)), .val (.int (0 : Int32)), .val (.ref r1_28), .val .null, .val (.int (v1a &&& (255 : Int32))), .val (.int (v2a &&& (255 : Int32))), .unset, .unset] [(.int (2 : Int32)), (.ref ob1)])) rfl rfl (hb hby at_267)) ?_
            refine own_by (fun _ k => XS.istore X28.here hx rfl (hb hby at_268) rfl (l' := #[.val (.int sel), .val (.int pos), .val (.int chh), .val (.int lng), .val (.int aa), .val (.int bb), .val (.int bs), .val (.ref ob1), .val (.int (4 : Int32)), .val (.int (0 : Int32)), .val (.ref r1_28), .val .null, .val (.int (v1a &&& (255 : Int32))), .val (.int (v2a &&& (255 : Int32))), .val (.int (v3a &&& (255 : Int32))), .unset]) rfl k) ?_
            show own_Go p e below (T28.setTop (mkF m 270 #[.val (.int sel), .val (.int pos), .val (.int chh), .val (.int lng), .val (.int aa), .val (.int bb), .val (.int bs), .val (.ref ob1), .val (.int (4 : Int32)), .val (.int (0 : Int32)), .val (.ref r1_28), .val .null, .val (.int (v1a &&& (255 : Int32))), .val (.int (v2a &&& (255 : Int32))), .val (.int (v3a &&& (255 : Int32))), .unset] [])) _
            refine own_by (fun _ k => XS.aload X28.here hx rfl (hb hby at_270) rfl rfl k) ?_
            refine own_by (fun _ k => XS.iconst X28.here hx rfl (hb hby at_272) k) ?_
            obtain ⟨cl33, Ar33, q33, S33, M33, H33, G33⟩ := (id fc29)
            have hin33 : ¬ ((3 : Int32) < 0 ∨ cl33.slots.size ≤ ((3 : Int32)).toNatClampNeg) := inb_of S33 ⟨by decide, by decide⟩
            refine own_by (X28.caload hx (j := (3 : Int32)) (v := (.int (v4a &&& (255 : Int32)))) Ar33.1 (State.isArrayOf_alike hZ28.alike Ar33.2.1) Ar33.2.2 hin33 (H33.at hin33 rfl) (g := (mkF m 273 #[.val (.int sel), .val (.int pos), .val (.int chh), .val (.int lng), .val (.int aa), .val (.int bb), .val (.int bs), .val (.ref ob1), .val (.int (4 : Int32)), .val (.int (0 : Int32)), .val (.ref r1_28), .val .null, .val (.int (v1a &&& (255 : Int32))), .val (.int (v2a &&& (255 : Int32))), .val (.int (v3a &&& (255 : Int32))), .unset] [(.int (3 : Int32)), (.ref ob1)])) rfl rfl (hb hby at_273)) ?_
            refine own_by (fun _ k => XS.istore X28.here hx rfl (hb hby at_274) rfl (l' := #[.val (.int sel), .val (.int pos), .val (.int chh), .val (.int lng), .val (.int aa), .val (.int bb), .val (.int bs), .val (.ref ob1), .val (.int (4 : Int32)), .val (.int (0 : Int32)), .val (.ref r1_28), .val .null, .val (.int (v1a &&& (255 : Int32))), .val (.int (v2a &&& (255 : Int32))), .val (.int (v3a &&& (255 : Int32))), .val (.int (v4a &&& (255 : Int32)))]) rfl k) ?_
            refine own_by (fun _ k => XS.iload X28.here hx rfl (hb hby at_276) rfl k) ?_
            refine own_by (fun _ k => XS.bipush X28.here hx rfl (hb hby at_278) k) ?_
            show own_Go p e below (T28.setTop (mkF m 280 #[.val (.int sel), .val (.int pos), .val (.int chh), .val (.int lng), .val (.int aa), .val (.int bb), .val (.int bs), .val (.ref ob1), .val (.int (4 : Int32)), .val (.int (0 : Int32)), .val (.ref r1_28), .val .null, .val (.int (v1a &&& (255 : Int32))), .val (.int (v2a &&& (255 : Int32))), .val (.int (v3a &&& (255 : Int32))), .val (.int (v4a &&& (255 : Int32)))] [(.int (108 : Int32)), (.int (v1a &&& (255 : Int32)))])) _
            by_cases hc34 : (v1a &&& (255 : Int32)) = (108 : Int32)
            · skip
              refine own_by (fun _ k => XS.icmpNo X28.here hx rfl (hb hby at_280) rfl (teq hc34).2 k) ?_
              show own_Go p e below (T28.setTop (mkF m 283 #[.val (.int sel), .val (.int pos), .val (.int chh), .val (.int lng), .val (.int aa), .val (.int bb), .val (.int bs), .val (.ref ob1), .val (.int (4 : Int32)), .val (.int (0 : Int32)), .val (.ref r1_28), .val .null, .val (.int (v1a &&& (255 : Int32))), .val (.int (v2a &&& (255 : Int32))), .val (.int (v3a &&& (255 : Int32))), .val (.int (v4a &&& (255 : Int32)))] [])) _
              refine own_by (fun _ k => XS.iload X28.here hx rfl (hb hby at_283) rfl k) ?_
              refine own_by (fun _ k => XS.bipush X28.here hx rfl (hb hby at_285) k) ?_
              by_cases hc35 : (v2a &&& (255 : Int32)) = (105 : Int32)
              · skip
                refine own_by (fun _ k => XS.icmpNo X28.here hx rfl (hb hby at_287) rfl (teq hc35).2 k) ?_
                show own_Go p e below (T28.setTop (mkF m 290 #[.val (.int sel), .val (.int pos), .val (.int chh), .val (.int lng), .val (.int aa), .val (.int bb), .val (.int bs), .val (.ref ob1), .val (.int (4 : Int32)), .val (.int (0 : Int32)), .val (.ref r1_28), .val .null, .val (.int (v1a &&& (255 : Int32))), .val (.int (v2a &&& (255 : Int32))), .val (.int (v3a &&& (255 : Int32))), .val (.int (v4a &&& (255 : Int32)))] [])) _
                refine own_by (fun _ k => XS.iload X28.here hx rfl (hb hby at_290) rfl k) ?_
                refine own_by (fun _ k => XS.bipush X28.here hx rfl (hb hby at_292) k) ?_
                by_cases hc36 : (v3a &&& (255 : Int32)) = (118 : Int32)
                · skip
                  refine own_by (fun _ k => XS.icmpNo X28.here hx rfl (hb hby at_294) rfl (teq hc36).2 k) ?_
                  show own_Go p e below (T28.setTop (mkF m 297 #[.val (.int sel), .val (.int pos), .val (.int chh), .val (.int lng), .val (.int aa), .val (.int bb), .val (.int bs), .val (.ref ob1), .val (.int (4 : Int32)), .val (.int (0 : Int32)), .val (.ref r1_28), .val .null, .val (.int (v1a &&& (255 : Int32))), .val (.int (v2a &&& (255 : Int32))), .val (.int (v3a &&& (255 : Int32))), .val (.int (v4a &&& (255 : Int32)))] [])) _
                  refine own_by (fun _ k => XS.iload X28.here hx rfl (hb hby at_297) rfl k) ?_
                  refine own_by (fun _ k => XS.bipush X28.here hx rfl (hb hby at_299) k) ?_
                  by_cases hc37 : (v4a &&& (255 : Int32)) = (101 : Int32)
                  · skip
                    refine own_by (fun _ k => XS.icmpNo X28.here hx rfl (hb hby at_301) rfl (teq hc37).2 k) ?_
                    show own_Go p e below (T28.setTop (mkF m 304 #[.val (.int sel), .val (.int pos), .val (.int chh), .val (.int lng), .val (.int aa), .val (.int bb), .val (.int bs), .val (.ref ob1), .val (.int (4 : Int32)), .val (.int (0 : Int32)), .val (.ref r1_28), .val .null, .val (.int (v1a &&& (255 : Int32))), .val (.int (v2a &&& (255 : Int32))), .val (.int (v3a &&& (255 : Int32))), .val (.int (v4a &&& (255 : Int32)))] [])) _
                    have O38 : Old Z n0 T28.heap := (O27.keep K28 all0)
                    obtain ⟨T39, X39, e39, st39⟩ := getS2 X28 hx hZ28 ho28 (host := "") (Or.inl (own_w hw 74 rfl)) Via.refl rfl (S_LIVE.ext O38.2) (g := (mkF m 304 #[.val (.int sel), .val (.int pos), .val (.int chh), .val (.int lng), .val (.int aa), .val (.int bb), .val (.int bs), .val (.ref ob1), .val (.int (4 : Int32)), .val (.int (0 : Int32)), .val (.ref r1_28), .val .null, .val (.int (v1a &&& (255 : Int32))), .val (.int (v2a &&& (255 : Int32))), .val (.int (v3a &&& (255 : Int32))), .val (.int (v4a &&& (255 : Int32)))] [])) rfl (hb hby at_304)
                    refine own_by st39 ?_
                    refine own_by (fun _ k => XS.astore X39.here hx rfl (hb hby at_307) rfl rfl (l' := #[.val (.int sel), .val (.int pos), .val (.int chh), .val (.int lng), .val (.int aa), .val (.int bb), .val (.int bs), .val (.ref ob1), .val (.int (4 : Int32)), .val (.int (0 : Int32)), .val (.ref r1_28), .val (.ref a_LIVE), .val (.int (v1a &&& (255 : Int32))), .val (.int (v2a &&& (255 : Int32))), .val (.int (v3a &&& (255 : Int32))), .val (.int (v4a &&& (255 : Int32)))]) rfl k) ?_
                    refine own_by (fun _ k => XS.goto X39.here hx rfl (pc0 := 309) (pc' := 381) rfl (hb hby at_309) (by decide) (by decide) k) ?_
                    refine own_by (fun _ k => XS.aload X39.here hx rfl (hb hby at_381) rfl rfl k) ?_
                    obtain ⟨_, _, ⟨T40, L40, k40, n40⟩, -, X40, ⟨Lc40, hQ40, l40, y40, z40⟩, st40⟩ := Jvm.LawKit.callS X39 hx (y := (⟨s2_, "ofLabel", s3_⟩ : MethodName)) ho28 (mvT hZ28 (own_w hw 2 rfl)) (mvT hZ28 (own_w hw 3 rfl)) (mvT hZ28 (own_w hw 4 rfl)) (mvT hZ28 (own_w hw 5 rfl)) (by decide) (backOf (W := 0) (rm_ol4_LIVE l Z a0 hw [] r1_28 b_28 kb_28 cs (own_b (v1a &&& (255 : Int32))) (own_b (v2a &&& (255 : Int32))) (own_b (v3a &&& (255 : Int32))) (own_b (v4a &&& (255 : Int32))) va kva a_LIVE a_TEST a_MANAGEMENT l_LIVE b_LIVE kb_LIVE l_TEST b_TEST kb_TEST l_MANAGEMENT b_MANAGEMENT kb_MANAGEMENT T28.heap n0 O38 S_VALUES E_va V_va E_LIVE F_LIVE Es_LIVE Fc_LIVE Fv_LIVE V_LIVE E_TEST F_TEST Es_TEST Fc_TEST Fv_TEST V_TEST E_MANAGEMENT F_MANAGEMENT Es_MANAGEMENT Fc_MANAGEMENT Fv_MANAGEMENT V_MANAGEMENT S_COMPACT g28_0 g28_1 g28_2 g28_3 hcs (by omega) (fun q => absurd (((own_all_pos ((own_blit (108 : Int32)).mpr hc34)).trans ((own_all_pos ((own_blit (105 : Int32)).mpr hc35)).trans ((own_all_pos ((own_blit (118 : Int32)).mpr hc36)).trans ((own_all_pos ((own_blit (101 : Int32)).mpr hc37)).trans rfl)))).symm.trans q) (by decide))) hZ28 (own_w hw 5 rfl) (own_w hw 4 rfl) (by decide) (by decide)) (g := (mkF m 383 #[.val (.int sel), .val (.int pos), .val (.int chh), .val (.int lng), .val (.int aa), .val (.int bb), .val (.int bs), .val (.ref ob1), .val (.int (4 : Int32)), .val (.int (0 : Int32)), .val (.ref r1_28), .val (.ref a_LIVE), .val (.int (v1a &&& (255 : Int32))), .val (.int (v2a &&& (255 : Int32))), .val (.int (v3a &&& (255 : Int32))), .val (.int (v4a &&& (255 : Int32)))] [(.ref r1_28)])) rfl (by rw [hml]; rfl) (argsL := [(.ref r1_28)]) (rest := []) (lenOf own_pd__28Ljava_2flang_2fString_3b_29Lcom_2fexample_2fostiarius_2fostiarius_2fkey_2fKeyKind_3b rfl) rfl (by show 2 * 0 + _ ≤ _; exact Nat.le_of_eq rfl) (hb hby at_383) (fun _ _ => ⟨rfl, e39, (by decide : 4 + 1 ≤ _), (by decide : 17 + 3 ≤ _)⟩)
                    dsimp only [Pt.U, Pt.locs, Pt.cells, Pt.slots] at X40 l40 y40 z40 st40 hQ40
                    subst l40 y40 z40
                    obtain ⟨rfl, M40, K40⟩ := hQ40
                    have N40 := Fr.app N28 M40
                    refine own_by st40 ?_
                    have sk40 : ∀ x ∈ ([] : List Addr), Safe Z own_EL T28.vm T28.heap x := sf0
                    have R40 := R28.trans (CHr.keep K40 sk40 R28.1)
                    have z40 := K40.1
                    refine own_by (fun _ k => XS.aload X40.here hx rfl (hb hby at_386) rfl rfl k) ?_
                    show own_Go p e below (T40.setTop (mkF m 388 #[.val (.int sel), .val (.int pos), .val (.int chh), .val (.int lng), .val (.int aa), .val (.int bb), .val (.int bs), .val (.ref ob1), .val (.int (4 : Int32)), .val (.int (0 : Int32)), .val (.ref r1_28), .val (.ref a_LIVE), .val (.int (v1a &&& (255 : Int32))), .val (.int (v2a &&& (255 : Int32))), .val (.int (v3a &&& (255 : Int32))), .val (.int (v4a &&& (255 : Int32)))] [(.ref a_LIVE), (.ref a_LIVE)])) _
                    refine own_by (fun _ k => Jvm.RoadKit.acmp (g := (mkF m 388 #[.val (.int sel), .val (.int pos), .val (.int chh), .val (.int lng), .val (.int aa), .val (.int bb), .val (.int bs), .val (.ref ob1), .val (.int (4 : Int32)), .val (.int (0 : Int32)), .val (.ref r1_28), .val (.ref a_LIVE), .val (.int (v1a &&& (255 : Int32))), .val (.int (v2a &&& (255 : Int32))), .val (.int (v3a &&& (255 : Int32))), .val (.int (v4a &&& (255 : Int32)))] [(.ref a_LIVE), (.ref a_LIVE)])) X40 hx rfl rfl rfl (pc0 := 388) (pc' := 391) (same := true) rfl (hb hby at_388) rfl (decide_eq_true rfl) (by decide) (by decide) k) ?_
                    show own_Go p e below (T40.setTop (mkF m 391 #[.val (.int sel), .val (.int pos), .val (.int chh), .val (.int lng), .val (.int aa), .val (.int bb), .val (.int bs), .val (.ref ob1), .val (.int (4 : Int32)), .val (.int (0 : Int32)), .val (.ref r1_28), .val (.ref a_LIVE), .val (.int (v1a &&& (255 : Int32))), .val (.int (v2a &&& (255 : Int32))), .val (.int (v3a &&& (255 : Int32))), .val (.int (v4a &&& (255 : Int32)))] [])) _
                    refine own_by (fun _ k => XS.iconst X40.here hx rfl (hb hby at_391) k) ?_
                    refine own_by (fun _ k => XS.goto X40.here hx rfl (pc0 := 392) (pc' := 396) rfl (hb hby at_392) (by decide) (by decide) k) ?_
                    have K41 : Keep h0 T40.heap [] := ((((Keep.refl h0 []).trans Kj5 all0).trans K28 all0).trans K40 all0)
                    obtain ⟨fs, hr, hrun, hended, hW⟩ := X40.leaveW S28 (by first | omega | (rw [e0]; omega)) (v := some (.int (1 : Int32))) (fun h => by rw [Bd.returns] at h; cases h)
                    have RR := R40.trans (CHv.at X40 hZ28 hEL R40.1)
                    have RR' : CHr Z own_EL s.vm s.heap T40.vm T40.heap := by rw [hh]; exact RR
                    refine ⟨_, _, retN X40 hx (t := .boolean) Bd.returns (by simp) (hb hby at_396) hr, hrun, hended, _, _, rfl, ?_, RR', ⟨_, rfl⟩, hW.2.1, hW.2.2.1, hW.2.2.2.mono (by decide) (by decide)⟩
                    show Q_rm_law Z sel pos chh lng aa bb va kva a_LIVE a_TEST a_MANAGEMENT l_LIVE b_LIVE kb_LIVE l_TEST b_TEST kb_TEST l_MANAGEMENT b_MANAGEMENT kb_MANAGEMENT cs h0 n0 _ T40.heap _
                    exact ⟨rfl, N40, K41⟩
                  · skip
                    refine own_by (fun _ k => XS.icmpYes X28.here hx rfl (pc0 := 301) (pc' := 312) rfl (hb hby at_301) rfl (feq hc37).2 (by decide) (by decide) k) ?_
                    show own_Go p e below (T28.setTop (mkF m 312 #[.val (.int sel), .val (.int pos), .val (.int chh), .val (.int lng), .val (.int aa), .val (.int bb), .val (.int bs), .val (.ref ob1), .val (.int (4 : Int32)), .val (.int (0 : Int32)), .val (.ref r1_28), .val .null, .val (.int (v1a &&& (255 : Int32))), .val (.int (v2a &&& (255 : Int32))), .val (.int (v3a &&& (255 : Int32))), .val (.int (v4a &&& (255 : Int32)))] [])) _
                    refine own_by (fun _ k => XS.iload X28.here hx rfl (hb hby at_312) rfl k) ?_
                    refine own_by (fun _ k => XS.bipush X28.here hx rfl (hb hby at_314) k) ?_
                    refine own_by (fun _ k => XS.icmpYes X28.here hx rfl (pc0 := 316) (pc' := 348) rfl (hb hby at_316) rfl (feq (by rw [hc34]; decide)).2 (by decide) (by decide) k) ?_
                    show own_Go p e below (T28.setTop (mkF m 348 #[.val (.int sel), .val (.int pos), .val (.int chh), .val (.int lng), .val (.int aa), .val (.int bb), .val (.int bs), .val (.ref ob1), .val (.int (4 : Int32)), .val (.int (0 : Int32)), .val (.ref r1_28), .val .null, .val (.int (v1a &&& (255 : Int32))), .val (.int (v2a &&& (255 : Int32))), .val (.int (v3a &&& (255 : Int32))), .val (.int (v4a &&& (255 : Int32)))] [])) _
                    refine own_by (fun _ k => XS.iload X28.here hx rfl (hb hby at_348) rfl k) ?_
                    refine own_by (fun _ k => XS.bipush X28.here hx rfl (hb hby at_350) k) ?_
                    refine own_by (fun _ k => XS.icmpYes X28.here hx rfl (pc0 := 352) (pc' := 381) rfl (hb hby at_352) rfl (feq (by rw [hc34]; decide)).2 (by decide) (by decide) k) ?_
                    show own_Go p e below (T28.setTop (mkF m 381 #[.val (.int sel), .val (.int pos), .val (.int chh), .val (.int lng), .val (.int aa), .val (.int bb), .val (.int bs), .val (.ref ob1), .val (.int (4 : Int32)), .val (.int (0 : Int32)), .val (.ref r1_28), .val .null, .val (.int (v1a &&& (255 : Int32))), .val (.int (v2a &&& (255 : Int32))), .val (.int (v3a &&& (255 : Int32))), .val (.int (v4a &&& (255 : Int32)))] [])) _
                    refine own_by (fun _ k => XS.aload X28.here hx rfl (hb hby at_381) rfl rfl k) ?_
                    have O42 : Old Z n0 T28.heap := (O27.keep K28 all0)
                    obtain ⟨_, _, ⟨T43, L43, k43, n43⟩, -, X43, ⟨Lc43, hQ43, l43, y43, z43⟩, st43⟩ := Jvm.LawKit.callS X28 hx (y := (⟨s2_, "ofLabel", s3_⟩ : MethodName)) ho28 (mvT hZ28 (own_w hw 2 rfl)) (mvT hZ28 (own_w hw 3 rfl)) (mvT hZ28 (own_w hw 4 rfl)) (mvT hZ28 (own_w hw 5 rfl)) (by decide) (backOf (W := 0) (rm_ol4_none l Z a0 hw [] r1_28 b_28 kb_28 cs (own_b (v1a &&& (255 : Int32))) (own_b (v2a &&& (255 : Int32))) (own_b (v3a &&& (255 : Int32))) (own_b (v4a &&& (255 : Int32))) va kva a_LIVE a_TEST a_MANAGEMENT l_LIVE b_LIVE kb_LIVE l_TEST b_TEST kb_TEST l_MANAGEMENT b_MANAGEMENT kb_MANAGEMENT T28.heap n0 O42 S_VALUES E_va V_va E_LIVE F_LIVE Es_LIVE Fc_LIVE Fv_LIVE V_LIVE E_TEST F_TEST Es_TEST Fc_TEST Fv_TEST V_TEST E_MANAGEMENT F_MANAGEMENT Es_MANAGEMENT Fc_MANAGEMENT Fv_MANAGEMENT V_MANAGEMENT S_COMPACT g28_0 g28_1 g28_2 g28_3 hcs (by omega) ((own_all_pos ((own_blit (108 : Int32)).mpr hc34)).trans ((own_all_pos ((own_blit (105 : Int32)).mpr hc35)).trans ((own_all_pos ((own_blit (118 : Int32)).mpr hc36)).trans (own_all_neg fun q => hc37 ((own_blit (101 : Int32)).mp q))))) (own_all_neg fun q => (show ¬ ((v1a &&& (255 : Int32)) = (116 : Int32)) from by rw [hc34]; decide) ((own_blit (116 : Int32)).mp q)) (own_all_neg fun q => (show ¬ ((v1a &&& (255 : Int32)) = (109 : Int32)) from by rw [hc34]; decide) ((own_blit (109 : Int32)).mp q))) hZ28 (own_w hw 5 rfl) (own_w hw 4 rfl) (by decide) (by decide)) (g := (mkF m 383 #[.val (.int sel), .val (.int pos), .val (.int chh), .val (.int lng), .val (.int aa), .val (.int bb), .val (.int bs), .val (.ref ob1), .val (.int (4 : Int32)), .val (.int (0 : Int32)), .val (.ref r1_28), .val .null, .val (.int (v1a &&& (255 : Int32))), .val (.int (v2a &&& (255 : Int32))), .val (.int (v3a &&& (255 : Int32))), .val (.int (v4a &&& (255 : Int32)))] [(.ref r1_28)])) rfl (by rw [hml]; rfl) (argsL := [(.ref r1_28)]) (rest := []) (lenOf own_pd__28Ljava_2flang_2fString_3b_29Lcom_2fexample_2fostiarius_2fostiarius_2fkey_2fKeyKind_3b rfl) rfl (by show 2 * 0 + _ ≤ _; exact Nat.le_of_eq rfl) (hb hby at_383) (fun _ _ => ⟨rfl, rfl, (by decide : 4 + 1 ≤ _), (by decide : 17 + 3 ≤ _)⟩)
                    dsimp only [Pt.U, Pt.locs, Pt.cells, Pt.slots] at X43 l43 y43 z43 st43 hQ43
                    subst l43 y43 z43
                    obtain ⟨rfl, M43, K43⟩ := hQ43
                    have N43 := Fr.app N28 M43
                    refine own_by st43 ?_
                    have sk43 : ∀ x ∈ ([] : List Addr), Safe Z own_EL T28.vm T28.heap x := sf0
                    have R43 := R28.trans (CHr.keep K43 sk43 R28.1)
                    have z43 := K43.1
                    refine own_by (fun _ k => XS.aload X43.here hx rfl (hb hby at_386) rfl rfl k) ?_
                    refine own_by (fun _ k => Jvm.RoadKit.acmp (g := (mkF m 388 #[.val (.int sel), .val (.int pos), .val (.int chh), .val (.int lng), .val (.int aa), .val (.int bb), .val (.int bs), .val (.ref ob1), .val (.int (4 : Int32)), .val (.int (0 : Int32)), .val (.ref r1_28), .val .null, .val (.int (v1a &&& (255 : Int32))), .val (.int (v2a &&& (255 : Int32))), .val (.int (v3a &&& (255 : Int32))), .val (.int (v4a &&& (255 : Int32)))] [.null, .null])) X43 hx rfl rfl rfl (pc0 := 388) (pc' := 391) (same := true) rfl (hb hby at_388) rfl (decide_eq_true rfl) (by decide) (by decide) k) ?_
                    show own_Go p e below (T43.setTop (mkF m 391 #[.val (.int sel), .val (.int pos), .val (.int chh), .val (.int lng), .val (.int aa), .val (.int bb), .val (.int bs), .val (.ref ob1), .val (.int (4 : Int32)), .val (.int (0 : Int32)), .val (.ref r1_28), .val .null, .val (.int (v1a &&& (255 : Int32))), .val (.int (v2a &&& (255 : Int32))), .val (.int (v3a &&& (255 : Int32))), .val (.int (v4a &&& (255 : Int32)))] [])) _
                    refine own_by (fun _ k => XS.iconst X43.here hx rfl (hb hby at_391) k) ?_
                    refine own_by (fun _ k => XS.goto X43.here hx rfl (pc0 := 392) (pc' := 396) rfl (hb hby at_392) (by decide) (by decide) k) ?_
                    have K44 : Keep h0 T43.heap [] := ((((Keep.refl h0 []).trans Kj5 all0).trans K28 all0).trans K43 all0)
                    obtain ⟨fs, hr, hrun, hended, hW⟩ := X43.leaveW S28 (by first | omega | (rw [e0]; omega)) (v := some (.int (1 : Int32))) (fun h => by rw [Bd.returns] at h; cases h)
                    have RR := R43.trans (CHv.at X43 hZ28 hEL R43.1)
                    have RR' : CHr Z own_EL s.vm s.heap T43.vm T43.heap := by rw [hh]; exact RR
                    refine ⟨_, _, retN X43 hx (t := .boolean) Bd.returns (by simp) (hb hby at_396) hr, hrun, hended, _, _, rfl, ?_, RR', ⟨_, rfl⟩, hW.2.1, hW.2.2.1, hW.2.2.2.mono (by decide) (by decide)⟩
                    show Q_rm_law Z sel pos chh lng aa bb va kva a_LIVE a_TEST a_MANAGEMENT l_LIVE b_LIVE kb_LIVE l_TEST b_TEST kb_TEST l_MANAGEMENT b_MANAGEMENT kb_MANAGEMENT cs h0 n0 _ T43.heap _
                    exact ⟨rfl, N43, K44⟩
                · skip
                  refine own_by (fun _ k => XS.icmpYes X28.here hx rfl (pc0 := 294) (pc' := 312) rfl (hb hby at_294) rfl (feq hc36).2 (by decide) (by decide) k) ?_
                  show own_Go p e below (T28.setTop (mkF m 312 #[.val (.int sel), .val (.int pos), .val (.int chh), .val (.int lng), .val (.int aa), .val (.int bb), .val (.int bs), .val (.ref ob1), .val (.int (4 : Int32)), .val (.int (0 : Int32)), .val (.ref r1_28), .val .null, .val (.int (v1a &&& (255 : Int32))), .val (.int (v2a &&& (255 : Int32))), .val (.int (v3a &&& (255 : Int32))), .val (.int (v4a &&& (255 : Int32)))] [])) _
                  refine own_by (fun _ k => XS.iload X28.here hx rfl (hb hby at_312) rfl k) ?_
                  refine own_by (fun _ k => XS.bipush X28.here hx rfl (hb hby at_314) k) ?_
                  refine own_by (fun _ k => XS.icmpYes X28.here hx rfl (pc0 := 316) (pc' := 348) rfl (hb hby at_316) rfl (feq (by rw [hc34]; decide)).2 (by decide) (by decide) k) ?_
                  show own_Go p e below (T28.setTop (mkF m 348 #[.val (.int sel), .val (.int pos), .val (.int chh), .val (.int lng), .val (.int aa), .val (.int bb), .val (.int bs), .val (.ref ob1), .val (.int (4 : Int32)), .val (.int (0 : Int32)), .val (.ref r1_28), .val .null, .val (.int (v1a &&& (255 : Int32))), .val (.int (v2a &&& (255 : Int32))), .val (.int (v3a &&& (255 : Int32))), .val (.int (v4a &&& (255 : Int32)))] [])) _
                  refine own_by (fun _ k => XS.iload X28.here hx rfl (hb hby at_348) rfl k) ?_
                  refine own_by (fun _ k => XS.bipush X28.here hx rfl (hb hby at_350) k) ?_
                  refine own_by (fun _ k => XS.icmpYes X28.here hx rfl (pc0 := 352) (pc' := 381) rfl (hb hby at_352) rfl (feq (by rw [hc34]; decide)).2 (by decide) (by decide) k) ?_
                  show own_Go p e below (T28.setTop (mkF m 381 #[.val (.int sel), .val (.int pos), .val (.int chh), .val (.int lng), .val (.int aa), .val (.int bb), .val (.int bs), .val (.ref ob1), .val (.int (4 : Int32)), .val (.int (0 : Int32)), .val (.ref r1_28), .val .null, .val (.int (v1a &&& (255 : Int32))), .val (.int (v2a &&& (255 : Int32))), .val (.int (v3a &&& (255 : Int32))), .val (.int (v4a &&& (255 : Int32)))] [])) _
                  refine own_by (fun _ k => XS.aload X28.here hx rfl (hb hby at_381) rfl rfl k) ?_
                  have O45 : Old Z n0 T28.heap := (O27.keep K28 all0)
                  obtain ⟨_, _, ⟨T46, L46, k46, n46⟩, -, X46, ⟨Lc46, hQ46, l46, y46, z46⟩, st46⟩ := Jvm.LawKit.callS X28 hx (y := (⟨s2_, "ofLabel", s3_⟩ : MethodName)) ho28 (mvT hZ28 (own_w hw 2 rfl)) (mvT hZ28 (own_w hw 3 rfl)) (mvT hZ28 (own_w hw 4 rfl)) (mvT hZ28 (own_w hw 5 rfl)) (by decide) (backOf (W := 0) (rm_ol4_none l Z a0 hw [] r1_28 b_28 kb_28 cs (own_b (v1a &&& (255 : Int32))) (own_b (v2a &&& (255 : Int32))) (own_b (v3a &&& (255 : Int32))) (own_b (v4a &&& (255 : Int32))) va kva a_LIVE a_TEST a_MANAGEMENT l_LIVE b_LIVE kb_LIVE l_TEST b_TEST kb_TEST l_MANAGEMENT b_MANAGEMENT kb_MANAGEMENT T28.heap n0 O45 S_VALUES E_va V_va E_LIVE F_LIVE Es_LIVE Fc_LIVE Fv_LIVE V_LIVE E_TEST F_TEST Es_TEST Fc_TEST Fv_TEST V_TEST E_MANAGEMENT F_MANAGEMENT Es_MANAGEMENT Fc_MANAGEMENT Fv_MANAGEMENT V_MANAGEMENT S_COMPACT g28_0 g28_1 g28_2 g28_3 hcs (by omega) ((own_all_pos ((own_blit (108 : Int32)).mpr hc34)).trans ((own_all_pos ((own_blit (105 : Int32)).mpr hc35)).trans (own_all_neg fun q => hc36 ((own_blit (118 : Int32)).mp q)))) (own_all_neg fun q => (show ¬ ((v1a &&& (255 : Int32)) = (116 : Int32)) from by rw [hc34]; decide) ((own_blit (116 : Int32)).mp q)) (own_all_neg fun q => (show ¬ ((v1a &&& (255 : Int32)) = (109 : Int32)) from by rw [hc34]; decide) ((own_blit (109 : Int32)).mp q))) hZ28 (own_w hw 5 rfl) (own_w hw 4 rfl) (by decide) (by decide)) (g := (mkF m 383 #[.val (.int sel), .val (.int pos), .val (.int chh), .val (.int lng), .val (.int aa), .val (.int bb), .val (.int bs), .val (.ref ob1), .val (.int (4 : Int32)), .val (.int (0 : Int32)), .val (.ref r1_28), .val .null, .val (.int (v1a &&& (255 : Int32))), .val (.int (v2a &&& (255 : Int32))), .val (.int (v3a &&& (255 : Int32))), .val (.int (v4a &&& (255 : Int32)))] [(.ref r1_28)])) rfl (by rw [hml]; rfl) (argsL := [(.ref r1_28)]) (rest := []) (lenOf own_pd__28Ljava_2flang_2fString_3b_29Lcom_2fexample_2fostiarius_2fostiarius_2fkey_2fKeyKind_3b rfl) rfl (by show 2 * 0 + _ ≤ _; exact Nat.le_of_eq rfl) (hb hby at_383) (fun _ _ => ⟨rfl, rfl, (by decide : 4 + 1 ≤ _), (by decide : 17 + 3 ≤ _)⟩)
                  dsimp only [Pt.U, Pt.locs, Pt.cells, Pt.slots] at X46 l46 y46 z46 st46 hQ46
                  subst l46 y46 z46
                  obtain ⟨rfl, M46, K46⟩ := hQ46
                  have N46 := Fr.app N28 M46
                  refine own_by st46 ?_
                  have sk46 : ∀ x ∈ ([] : List Addr), Safe Z own_EL T28.vm T28.heap x := sf0
                  have R46 := R28.trans (CHr.keep K46 sk46 R28.1)
                  have z46 := K46.1
                  refine own_by (fun _ k => XS.aload X46.here hx rfl (hb hby at_386) rfl rfl k) ?_
                  refine own_by (fun _ k => Jvm.RoadKit.acmp (g := (mkF m 388 #[.val (.int sel), .val (.int pos), .val (.int chh), .val (.int lng), .val (.int aa), .val (.int bb), .val (.int bs), .val (.ref ob1), .val (.int (4 : Int32)), .val (.int (0 : Int32)), .val (.ref r1_28), .val .null, .val (.int (v1a &&& (255 : Int32))), .val (.int (v2a &&& (255 : Int32))), .val (.int (v3a &&& (255 : Int32))), .val (.int (v4a &&& (255 : Int32)))] [.null, .null])) X46 hx rfl rfl rfl (pc0 := 388) (pc' := 391) (same := true) rfl (hb hby at_388) rfl (decide_eq_true rfl) (by decide) (by decide) k) ?_
                  show own_Go p e below (T46.setTop (mkF m 391 #[.val (.int sel), .val (.int pos), .val (.int chh), .val (.int lng), .val (.int aa), .val (.int bb), .val (.int bs), .val (.ref ob1), .val (.int (4 : Int32)), .val (.int (0 : Int32)), .val (.ref r1_28), .val .null, .val (.int (v1a &&& (255 : Int32))), .val (.int (v2a &&& (255 : Int32))), .val (.int (v3a &&& (255 : Int32))), .val (.int (v4a &&& (255 : Int32)))] [])) _
                  refine own_by (fun _ k => XS.iconst X46.here hx rfl (hb hby at_391) k) ?_
                  refine own_by (fun _ k => XS.goto X46.here hx rfl (pc0 := 392) (pc' := 396) rfl (hb hby at_392) (by decide) (by decide) k) ?_
                  have K47 : Keep h0 T46.heap [] := ((((Keep.refl h0 []).trans Kj5 all0).trans K28 all0).trans K46 all0)
                  obtain ⟨fs, hr, hrun, hended, hW⟩ := X46.leaveW S28 (by first | omega | (rw [e0]; omega)) (v := some (.int (1 : Int32))) (fun h => by rw [Bd.returns] at h; cases h)
                  have RR := R46.trans (CHv.at X46 hZ28 hEL R46.1)
                  have RR' : CHr Z own_EL s.vm s.heap T46.vm T46.heap := by rw [hh]; exact RR
                  refine ⟨_, _, retN X46 hx (t := .boolean) Bd.returns (by simp) (hb hby at_396) hr, hrun, hended, _, _, rfl, ?_, RR', ⟨_, rfl⟩, hW.2.1, hW.2.2.1, hW.2.2.2.mono (by decide) (by decide)⟩
                  show Q_rm_law Z sel pos chh lng aa bb va kva a_LIVE a_TEST a_MANAGEMENT l_LIVE b_LIVE kb_LIVE l_TEST b_TEST kb_TEST l_MANAGEMENT b_MANAGEMENT kb_MANAGEMENT cs h0 n0 _ T46.heap _
                  exact ⟨rfl, N46, K47⟩
              · skip
                refine own_by (fun _ k => XS.icmpYes X28.here hx rfl (pc0 := 287) (pc' := 312) rfl (hb hby at_287) rfl (feq hc35).2 (by decide) (by decide) k) ?_
                show own_Go p e below (T28.setTop (mkF m 312 #[.val (.int sel), .val (.int pos), .val (.int chh), .val (.int lng), .val (.int aa), .val (.int bb), .val (.int bs), .val (.ref ob1), .val (.int (4 : Int32)), .val (.int (0 : Int32)), .val (.ref r1_28), .val .null, .val (.int (v1a &&& (255 : Int32))), .val (.int (v2a &&& (255 : Int32))), .val (.int (v3a &&& (255 : Int32))), .val (.int (v4a &&& (255 : Int32)))] [])) _
                refine own_by (fun _ k => XS.iload X28.here hx rfl (hb hby at_312) rfl k) ?_
                refine own_by (fun _ k => XS.bipush X28.here hx rfl (hb hby at_314) k) ?_
                refine own_by (fun _ k => XS.icmpYes X28.here hx rfl (pc0 := 316) (pc' := 348) rfl (hb hby at_316) rfl (feq (by rw [hc34]; decide)).2 (by decide) (by decide) k) ?_
                show own_Go p e below (T28.setTop (mkF m 348 #[.val (.int sel), .val (.int pos), .val (.int chh), .val (.int lng), .val (.int aa), .val (.int bb), .val (.int bs), .val (.ref ob1), .val (.int (4 : Int32)), .val (.int (0 : Int32)), .val (.ref r1_28), .val .null, .val (.int (v1a &&& (255 : Int32))), .val (.int (v2a &&& (255 : Int32))), .val (.int (v3a &&& (255 : Int32))), .val (.int (v4a &&& (255 : Int32)))] [])) _
                refine own_by (fun _ k => XS.iload X28.here hx rfl (hb hby at_348) rfl k) ?_
                refine own_by (fun _ k => XS.bipush X28.here hx rfl (hb hby at_350) k) ?_
                refine own_by (fun _ k => XS.icmpYes X28.here hx rfl (pc0 := 352) (pc' := 381) rfl (hb hby at_352) rfl (feq (by rw [hc34]; decide)).2 (by decide) (by decide) k) ?_
                show own_Go p e below (T28.setTop (mkF m 381 #[.val (.int sel), .val (.int pos), .val (.int chh), .val (.int lng), .val (.int aa), .val (.int bb), .val (.int bs), .val (.ref ob1), .val (.int (4 : Int32)), .val (.int (0 : Int32)), .val (.ref r1_28), .val .null, .val (.int (v1a &&& (255 : Int32))), .val (.int (v2a &&& (255 : Int32))), .val (.int (v3a &&& (255 : Int32))), .val (.int (v4a &&& (255 : Int32)))] [])) _
                refine own_by (fun _ k => XS.aload X28.here hx rfl (hb hby at_381) rfl rfl k) ?_
                have O48 : Old Z n0 T28.heap := (O27.keep K28 all0)
                obtain ⟨_, _, ⟨T49, L49, k49, n49⟩, -, X49, ⟨Lc49, hQ49, l49, y49, z49⟩, st49⟩ := Jvm.LawKit.callS X28 hx (y := (⟨s2_, "ofLabel", s3_⟩ : MethodName)) ho28 (mvT hZ28 (own_w hw 2 rfl)) (mvT hZ28 (own_w hw 3 rfl)) (mvT hZ28 (own_w hw 4 rfl)) (mvT hZ28 (own_w hw 5 rfl)) (by decide) (backOf (W := 0) (rm_ol4_none l Z a0 hw [] r1_28 b_28 kb_28 cs (own_b (v1a &&& (255 : Int32))) (own_b (v2a &&& (255 : Int32))) (own_b (v3a &&& (255 : Int32))) (own_b (v4a &&& (255 : Int32))) va kva a_LIVE a_TEST a_MANAGEMENT l_LIVE b_LIVE kb_LIVE l_TEST b_TEST kb_TEST l_MANAGEMENT b_MANAGEMENT kb_MANAGEMENT T28.heap n0 O48 S_VALUES E_va V_va E_LIVE F_LIVE Es_LIVE Fc_LIVE Fv_LIVE V_LIVE E_TEST F_TEST Es_TEST Fc_TEST Fv_TEST V_TEST E_MANAGEMENT F_MANAGEMENT Es_MANAGEMENT Fc_MANAGEMENT Fv_MANAGEMENT V_MANAGEMENT S_COMPACT g28_0 g28_1 g28_2 g28_3 hcs (by omega) ((own_all_pos ((own_blit (108 : Int32)).mpr hc34)).trans (own_all_neg fun q => hc35 ((own_blit (105 : Int32)).mp q))) (own_all_neg fun q => (show ¬ ((v1a &&& (255 : Int32)) = (116 : Int32)) from by rw [hc34]; decide) ((own_blit (116 : Int32)).mp q)) (own_all_neg fun q => (show ¬ ((v1a &&& (255 : Int32)) = (109 : Int32)) from by rw [hc34]; decide) ((own_blit (109 : Int32)).mp q))) hZ28 (own_w hw 5 rfl) (own_w hw 4 rfl) (by decide) (by decide)) (g := (mkF m 383 #[.val (.int sel), .val (.int pos), .val (.int chh), .val (.int lng), .val (.int aa), .val (.int bb), .val (.int bs), .val (.ref ob1), .val (.int (4 : Int32)), .val (.int (0 : Int32)), .val (.ref r1_28), .val .null, .val (.int (v1a &&& (255 : Int32))), .val (.int (v2a &&& (255 : Int32))), .val (.int (v3a &&& (255 : Int32))), .val (.int (v4a &&& (255 : Int32)))] [(.ref r1_28)])) rfl (by rw [hml]; rfl) (argsL := [(.ref r1_28)]) (rest := []) (lenOf own_pd__28Ljava_2flang_2fString_3b_29Lcom_2fexample_2fostiarius_2fostiarius_2fkey_2fKeyKind_3b rfl) rfl (by show 2 * 0 + _ ≤ _; exact Nat.le_of_eq rfl) (hb hby at_383) (fun _ _ => ⟨rfl, rfl, (by decide : 4 + 1 ≤ _), (by decide : 17 + 3 ≤ _)⟩)
                dsimp only [Pt.U, Pt.locs, Pt.cells, Pt.slots] at X49 l49 y49 z49 st49 hQ49
                subst l49 y49 z49
                obtain ⟨rfl, M49, K49⟩ := hQ49
                have N49 := Fr.app N28 M49
                refine own_by st49 ?_
                have sk49 : ∀ x ∈ ([] : List Addr), Safe Z own_EL T28.vm T28.heap x := sf0
                have R49 := R28.trans (CHr.keep K49 sk49 R28.1)
                have z49 := K49.1
                refine own_by (fun _ k => XS.aload X49.here hx rfl (hb hby at_386) rfl rfl k) ?_
                refine own_by (fun _ k => Jvm.RoadKit.acmp (g := (mkF m 388 #[.val (.int sel), .val (.int pos), .val (.int chh), .val (.int lng), .val (.int aa), .val (.int bb), .val (.int bs), .val (.ref ob1), .val (.int (4 : Int32)), .val (.int (0 : Int32)), .val (.ref r1_28), .val .null, .val (.int (v1a &&& (255 : Int32))), .val (.int (v2a &&& (255 : Int32))), .val (.int (v3a &&& (255 : Int32))), .val (.int (v4a &&& (255 : Int32)))] [.null, .null])) X49 hx rfl rfl rfl (pc0 := 388) (pc' := 391) (same := true) rfl (hb hby at_388) rfl (decide_eq_true rfl) (by decide) (by decide) k) ?_
                show own_Go p e below (T49.setTop (mkF m 391 #[.val (.int sel), .val (.int pos), .val (.int chh), .val (.int lng), .val (.int aa), .val (.int bb), .val (.int bs), .val (.ref ob1), .val (.int (4 : Int32)), .val (.int (0 : Int32)), .val (.ref r1_28), .val .null, .val (.int (v1a &&& (255 : Int32))), .val (.int (v2a &&& (255 : Int32))), .val (.int (v3a &&& (255 : Int32))), .val (.int (v4a &&& (255 : Int32)))] [])) _
                refine own_by (fun _ k => XS.iconst X49.here hx rfl (hb hby at_391) k) ?_
                refine own_by (fun _ k => XS.goto X49.here hx rfl (pc0 := 392) (pc' := 396) rfl (hb hby at_392) (by decide) (by decide) k) ?_
                have K50 : Keep h0 T49.heap [] := ((((Keep.refl h0 []).trans Kj5 all0).trans K28 all0).trans K49 all0)
                obtain ⟨fs, hr, hrun, hended, hW⟩ := X49.leaveW S28 (by first | omega | (rw [e0]; omega)) (v := some (.int (1 : Int32))) (fun h => by rw [Bd.returns] at h; cases h)
                have RR := R49.trans (CHv.at X49 hZ28 hEL R49.1)
                have RR' : CHr Z own_EL s.vm s.heap T49.vm T49.heap := by rw [hh]; exact RR
                refine ⟨_, _, retN X49 hx (t := .boolean) Bd.returns (by simp) (hb hby at_396) hr, hrun, hended, _, _, rfl, ?_, RR', ⟨_, rfl⟩, hW.2.1, hW.2.2.1, hW.2.2.2.mono (by decide) (by decide)⟩
                show Q_rm_law Z sel pos chh lng aa bb va kva a_LIVE a_TEST a_MANAGEMENT l_LIVE b_LIVE kb_LIVE l_TEST b_TEST kb_TEST l_MANAGEMENT b_MANAGEMENT kb_MANAGEMENT cs h0 n0 _ T49.heap _
                exact ⟨rfl, N49, K50⟩
            · skip
              refine own_by (fun _ k => XS.icmpYes X28.here hx rfl (pc0 := 280) (pc' := 312) rfl (hb hby at_280) rfl (feq hc34).2 (by decide) (by decide) k) ?_
              show own_Go p e below (T28.setTop (mkF m 312 #[.val (.int sel), .val (.int pos), .val (.int chh), .val (.int lng), .val (.int aa), .val (.int bb), .val (.int bs), .val (.ref ob1), .val (.int (4 : Int32)), .val (.int (0 : Int32)), .val (.ref r1_28), .val .null, .val (.int (v1a &&& (255 : Int32))), .val (.int (v2a &&& (255 : Int32))), .val (.int (v3a &&& (255 : Int32))), .val (.int (v4a &&& (255 : Int32)))] [])) _
              refine own_by (fun _ k => XS.iload X28.here hx rfl (hb hby at_312) rfl k) ?_
              refine own_by (fun _ k => XS.bipush X28.here hx rfl (hb hby at_314) k) ?_
              by_cases hc51 : (v1a &&& (255 : Int32)) = (116 : Int32)
              · skip
                refine own_by (fun _ k => XS.icmpNo X28.here hx rfl (hb hby at_316) rfl (teq hc51).2 k) ?_
                show own_Go p e below (T28.setTop (mkF m 319 #[.val (.int sel), .val (.int pos), .val (.int chh), .val (.int lng), .val (.int aa), .val (.int bb), .val (.int bs), .val (.ref ob1), .val (.int (4 : Int32)), .val (.int (0 : Int32)), .val (.ref r1_28), .val .null, .val (.int (v1a &&& (255 : Int32))), .val (.int (v2a &&& (255 : Int32))), .val (.int (v3a &&& (255 : Int32))), .val (.int (v4a &&& (255 : Int32)))] [])) _
                refine own_by (fun _ k => XS.iload X28.here hx rfl (hb hby at_319) rfl k) ?_
                refine own_by (fun _ k => XS.bipush X28.here hx rfl (hb hby at_321) k) ?_
                by_cases hc52 : (v2a &&& (255 : Int32)) = (101 : Int32)
                · skip
                  refine own_by (fun _ k => XS.icmpNo X28.here hx rfl (hb hby at_323) rfl (teq hc52).2 k) ?_
                  show own_Go p e below (T28.setTop (mkF m 326 #[.val (.int sel), .val (.int pos), .val (.int chh), .val (.int lng), .val (.int aa), .val (.int bb), .val (.int bs), .val (.ref ob1), .val (.int (4 : Int32)), .val (.int (0 : Int32)), .val (.ref r1_28), .val .null, .val (.int (v1a &&& (255 : Int32))), .val (.int (v2a &&& (255 : Int32))), .val (.int (v3a &&& (255 : Int32))), .val (.int (v4a &&& (255 : Int32)))] [])) _
                  refine own_by (fun _ k => XS.iload X28.here hx rfl (hb hby at_326) rfl k) ?_
                  refine own_by (fun _ k => XS.bipush X28.here hx rfl (hb hby at_328) k) ?_
                  by_cases hc53 : (v3a &&& (255 : Int32)) = (115 : Int32)
                  · skip
                    refine own_by (fun _ k => XS.icmpNo X28.here hx rfl (hb hby at_330) rfl (teq hc53).2 k) ?_
                    show own_Go p e below (T28.setTop (mkF m 333 #[.val (.int sel), .val (.int pos), .val (.int chh), .val (.int lng), .val (.int aa), .val (.int bb), .val (.int bs), .val (.ref ob1), .val (.int (4 : Int32)), .val (.int (0 : Int32)), .val (.ref r1_28), .val .null, .val (.int (v1a &&& (255 : Int32))), .val (.int (v2a &&& (255 : Int32))), .val (.int (v3a &&& (255 : Int32))), .val (.int (v4a &&& (255 : Int32)))] [])) _
                    refine own_by (fun _ k => XS.iload X28.here hx rfl (hb hby at_333) rfl k) ?_
                    refine own_by (fun _ k => XS.bipush X28.here hx rfl (hb hby at_335) k) ?_
                    by_cases hc54 : (v4a &&& (255 : Int32)) = (116 : Int32)
                    · skip
                      refine own_by (fun _ k => XS.icmpNo X28.here hx rfl (hb hby at_337) rfl (teq hc54).2 k) ?_
                      show own_Go p e below (T28.setTop (mkF m 340 #[.val (.int sel), .val (.int pos), .val (.int chh), .val (.int lng), .val (.int aa), .val (.int bb), .val (.int bs), .val (.ref ob1), .val (.int (4 : Int32)), .val (.int (0 : Int32)), .val (.ref r1_28), .val .null, .val (.int (v1a &&& (255 : Int32))), .val (.int (v2a &&& (255 : Int32))), .val (.int (v3a &&& (255 : Int32))), .val (.int (v4a &&& (255 : Int32)))] [])) _
                      have O55 : Old Z n0 T28.heap := (O27.keep K28 all0)
                      obtain ⟨T56, X56, e56, st56⟩ := getS2 X28 hx hZ28 ho28 (host := "") (Or.inl (own_w hw 73 rfl)) Via.refl rfl (S_TEST.ext O55.2) (g := (mkF m 340 #[.val (.int sel), .val (.int pos), .val (.int chh), .val (.int lng), .val (.int aa), .val (.int bb), .val (.int bs), .val (.ref ob1), .val (.int (4 : Int32)), .val (.int (0 : Int32)), .val (.ref r1_28), .val .null, .val (.int (v1a &&& (255 : Int32))), .val (.int (v2a &&& (255 : Int32))), .val (.int (v3a &&& (255 : Int32))), .val (.int (v4a &&& (255 : Int32)))] [])) rfl (hb hby at_340)
                      refine own_by st56 ?_
                      refine own_by (fun _ k => XS.astore X56.here hx rfl (hb hby at_343) rfl rfl (l' := #[.val (.int sel), .val (.int pos), .val (.int chh), .val (.int lng), .val (.int aa), .val (.int bb), .val (.int bs), .val (.ref ob1), .val (.int (4 : Int32)), .val (.int (0 : Int32)), .val (.ref r1_28), .val (.ref a_TEST), .val (.int (v1a &&& (255 : Int32))), .val (.int (v2a &&& (255 : Int32))), .val (.int (v3a &&& (255 : Int32))), .val (.int (v4a &&& (255 : Int32)))]) rfl k) ?_
                      refine own_by (fun _ k => XS.goto X56.here hx rfl (pc0 := 345) (pc' := 381) rfl (hb hby at_345) (by decide) (by decide) k) ?_
                      refine own_by (fun _ k => XS.aload X56.here hx rfl (hb hby at_381) rfl rfl k) ?_
                      obtain ⟨_, _, ⟨T57, L57, k57, n57⟩, -, X57, ⟨Lc57, hQ57, l57, y57, z57⟩, st57⟩ := Jvm.LawKit.callS X56 hx (y := (⟨s2_, "ofLabel", s3_⟩ : MethodName)) ho28 (mvT hZ28 (own_w hw 2 rfl)) (mvT hZ28 (own_w hw 3 rfl)) (mvT hZ28 (own_w hw 4 rfl)) (mvT hZ28 (own_w hw 5 rfl)) (by decide) (backOf (W := 0) (rm_ol4_TEST l Z a0 hw [] r1_28 b_28 kb_28 cs (own_b (v1a &&& (255 : Int32))) (own_b (v2a &&& (255 : Int32))) (own_b (v3a &&& (255 : Int32))) (own_b (v4a &&& (255 : Int32))) va kva a_LIVE a_TEST a_MANAGEMENT l_LIVE b_LIVE kb_LIVE l_TEST b_TEST kb_TEST l_MANAGEMENT b_MANAGEMENT kb_MANAGEMENT T28.heap n0 O55 S_VALUES E_va V_va E_LIVE F_LIVE Es_LIVE Fc_LIVE Fv_LIVE V_LIVE E_TEST F_TEST Es_TEST Fc_TEST Fv_TEST V_TEST E_MANAGEMENT F_MANAGEMENT Es_MANAGEMENT Fc_MANAGEMENT Fv_MANAGEMENT V_MANAGEMENT S_COMPACT g28_0 g28_1 g28_2 g28_3 hcs (by omega) (own_all_neg fun q => hc34 ((own_blit (108 : Int32)).mp q)) (fun q => absurd (((own_all_pos ((own_blit (116 : Int32)).mpr hc51)).trans ((own_all_pos ((own_blit (101 : Int32)).mpr hc52)).trans ((own_all_pos ((own_blit (115 : Int32)).mpr hc53)).trans ((own_all_pos ((own_blit (116 : Int32)).mpr hc54)).trans rfl)))).symm.trans q) (by decide))) hZ28 (own_w hw 5 rfl) (own_w hw 4 rfl) (by decide) (by decide)) (g := (mkF m 383 #[.val (.int sel), .val (.int pos), .val (.int chh), .val (.int lng), .val (.int aa), .val (.int bb), .val (.int bs), .val (.ref ob1), .val (.int (4 : Int32)), .val (.int (0 : Int32)), .val (.ref r1_28), .val (.ref a_TEST), .val (.int (v1a &&& (255 : Int32))), .val (.int (v2a &&& (255 : Int32))), .val (.int (v3a &&& (255 : Int32))), .val (.int (v4a &&& (255 : Int32)))] [(.ref r1_28)])) rfl (by rw [hml]; rfl) (argsL := [(.ref r1_28)]) (rest := []) (lenOf own_pd__28Ljava_2flang_2fString_3b_29Lcom_2fexample_2fostiarius_2fostiarius_2fkey_2fKeyKind_3b rfl) rfl (by show 2 * 0 + _ ≤ _; exact Nat.le_of_eq rfl) (hb hby at_383) (fun _ _ => ⟨rfl, e56, (by decide : 4 + 1 ≤ _), (by decide : 17 + 3 ≤ _)⟩)
                      dsimp only [Pt.U, Pt.locs, Pt.cells, Pt.slots] at X57 l57 y57 z57 st57 hQ57
                      subst l57 y57 z57
                      obtain ⟨rfl, M57, K57⟩ := hQ57
                      have N57 := Fr.app N28 M57
                      refine own_by st57 ?_
                      have sk57 : ∀ x ∈ ([] : List Addr), Safe Z own_EL T28.vm T28.heap x := sf0
                      have R57 := R28.trans (CHr.keep K57 sk57 R28.1)
                      have z57 := K57.1
                      refine own_by (fun _ k => XS.aload X57.here hx rfl (hb hby at_386) rfl rfl k) ?_
                      show own_Go p e below (T57.setTop (mkF m 388 #[.val (.int sel), .val (.int pos), .val (.int chh), .val (.int lng), .val (.int aa), .val (.int bb), .val (.int bs), .val (.ref ob1), .val (.int (4 : Int32)), .val (.int (0 : Int32)), .val (.ref r1_28), .val (.ref a_TEST), .val (.int (v1a &&& (255 : Int32))), .val (.int (v2a &&& (255 : Int32))), .val (.int (v3a &&& (255 : Int32))), .val (.int (v4a &&& (255 : Int32)))] [(.ref a_TEST), (.ref a_TEST)])) _
                      refine own_by (fun _ k => Jvm.RoadKit.acmp (g := (mkF m 388 #[.val (.int sel), .val (.int pos), .val (.int chh), .val (.int lng), .val (.int aa), .val (.int bb), .val (.int bs), .val (.ref ob1), .val (.int (4 : Int32)), .val (.int (0 : Int32)), .val (.ref r1_28), .val (.ref a_TEST), .val (.int (v1a &&& (255 : Int32))), .val (.int (v2a &&& (255 : Int32))), .val (.int (v3a &&& (255 : Int32))), .val (.int (v4a &&& (255 : Int32)))] [(.ref a_TEST), (.ref a_TEST)])) X57 hx rfl rfl rfl (pc0 := 388) (pc' := 391) (same := true) rfl (hb hby at_388) rfl (decide_eq_true rfl) (by decide) (by decide) k) ?_
                      show own_Go p e below (T57.setTop (mkF m 391 #[.val (.int sel), .val (.int pos), .val (.int chh), .val (.int lng), .val (.int aa), .val (.int bb), .val (.int bs), .val (.ref ob1), .val (.int (4 : Int32)), .val (.int (0 : Int32)), .val (.ref r1_28), .val (.ref a_TEST), .val (.int (v1a &&& (255 : Int32))), .val (.int (v2a &&& (255 : Int32))), .val (.int (v3a &&& (255 : Int32))), .val (.int (v4a &&& (255 : Int32)))] [])) _
                      refine own_by (fun _ k => XS.iconst X57.here hx rfl (hb hby at_391) k) ?_
                      refine own_by (fun _ k => XS.goto X57.here hx rfl (pc0 := 392) (pc' := 396) rfl (hb hby at_392) (by decide) (by decide) k) ?_
                      have K58 : Keep h0 T57.heap [] := ((((Keep.refl h0 []).trans Kj5 all0).trans K28 all0).trans K57 all0)
                      obtain ⟨fs, hr, hrun, hended, hW⟩ := X57.leaveW S28 (by first | omega | (rw [e0]; omega)) (v := some (.int (1 : Int32))) (fun h => by rw [Bd.returns] at h; cases h)
                      have RR := R57.trans (CHv.at X57 hZ28 hEL R57.1)
                      have RR' : CHr Z own_EL s.vm s.heap T57.vm T57.heap := by rw [hh]; exact RR
                      refine ⟨_, _, retN X57 hx (t := .boolean) Bd.returns (by simp) (hb hby at_396) hr, hrun, hended, _, _, rfl, ?_, RR', ⟨_, rfl⟩, hW.2.1, hW.2.2.1, hW.2.2.2.mono (by decide) (by decide)⟩
                      show Q_rm_law Z sel pos chh lng aa bb va kva a_LIVE a_TEST a_MANAGEMENT l_LIVE b_LIVE kb_LIVE l_TEST b_TEST kb_TEST l_MANAGEMENT b_MANAGEMENT kb_MANAGEMENT cs h0 n0 _ T57.heap _
                      exact ⟨rfl, N57, K58⟩
                    · skip
                      refine own_by (fun _ k => XS.icmpYes X28.here hx rfl (pc0 := 337) (pc' := 348) rfl (hb hby at_337) rfl (feq hc54).2 (by decide) (by decide) k) ?_
                      show own_Go p e below (T28.setTop (mkF m 348 #[.val (.int sel), .val (.int pos), .val (.int chh), .val (.int lng), .val (.int aa), .val (.int bb), .val (.int bs), .val (.ref ob1), .val (.int (4 : Int32)), .val (.int (0 : Int32)), .val (.ref r1_28), .val .null, .val (.int (v1a &&& (255 : Int32))), .val (.int (v2a &&& (255 : Int32))), .val (.int (v3a &&& (255 : Int32))), .val (.int (v4a &&& (255 : Int32)))] [])) _
                      refine own_by (fun _ k => XS.iload X28.here hx rfl (hb hby at_348) rfl k) ?_
                      refine own_by (fun _ k => XS.bipush X28.here hx rfl (hb hby at_350) k) ?_
                      refine own_by (fun _ k => XS.icmpYes X28.here hx rfl (pc0 := 352) (pc' := 381) rfl (hb hby at_352) rfl (feq (by rw [hc51]; decide)).2 (by decide) (by decide) k) ?_
                      show own_Go p e below (T28.setTop (mkF m 381 #[.val (.int sel), .val (.int pos), .val (.int chh), .val (.int lng), .val (.int aa), .val (.int bb), .val (.int bs), .val (.ref ob1), .val (.int (4 : Int32)), .val (.int (0 : Int32)), .val (.ref r1_28), .val .null, .val (.int (v1a &&& (255 : Int32))), .val (.int (v2a &&& (255 : Int32))), .val (.int (v3a &&& (255 : Int32))), .val (.int (v4a &&& (255 : Int32)))] [])) _
                      refine own_by (fun _ k => XS.aload X28.here hx rfl (hb hby at_381) rfl rfl k) ?_
                      have O59 : Old Z n0 T28.heap := (O27.keep K28 all0)
                      obtain ⟨_, _, ⟨T60, L60, k60, n60⟩, -, X60, ⟨Lc60, hQ60, l60, y60, z60⟩, st60⟩ := Jvm.LawKit.callS X28 hx (y := (⟨s2_, "ofLabel", s3_⟩ : MethodName)) ho28 (mvT hZ28 (own_w hw 2 rfl)) (mvT hZ28 (own_w hw 3 rfl)) (mvT hZ28 (own_w hw 4 rfl)) (mvT hZ28 (own_w hw 5 rfl)) (by decide) (backOf (W := 0) (rm_ol4_none l Z a0 hw [] r1_28 b_28 kb_28 cs (own_b (v1a &&& (255 : Int32))) (own_b (v2a &&& (255 : Int32))) (own_b (v3a &&& (255 : Int32))) (own_b (v4a &&& (255 : Int32))) va kva a_LIVE a_TEST a_MANAGEMENT l_LIVE b_LIVE kb_LIVE l_TEST b_TEST kb_TEST l_MANAGEMENT b_MANAGEMENT kb_MANAGEMENT T28.heap n0 O59 S_VALUES E_va V_va E_LIVE F_LIVE Es_LIVE Fc_LIVE Fv_LIVE V_LIVE E_TEST F_TEST Es_TEST Fc_TEST Fv_TEST V_TEST E_MANAGEMENT F_MANAGEMENT Es_MANAGEMENT Fc_MANAGEMENT Fv_MANAGEMENT V_MANAGEMENT S_COMPACT g28_0 g28_1 g28_2 g28_3 hcs (by omega) (own_all_neg fun q => hc34 ((own_blit (108 : Int32)).mp q)) ((own_all_pos ((own_blit (116 : Int32)).mpr hc51)).trans ((own_all_pos ((own_blit (101 : Int32)).mpr hc52)).trans ((own_all_pos ((own_blit (115 : Int32)).mpr hc53)).trans (own_all_neg fun q => hc54 ((own_blit (116 : Int32)).mp q))))) (own_all_neg fun q => (show ¬ ((v1a &&& (255 : Int32)) = (109 : Int32)) from by rw [hc51]; decide) ((own_blit (109 : Int32)).mp q))) hZ28 (own_w hw 5 rfl) (own_w hw 4 rfl) (by decide) (by decide)) (g := (mkF m 383 #[.val (.int sel), .val (.int pos), .val (.int chh), .val (.int lng), .val (.int aa), .val (.int bb), .val (.int bs), .val (.ref ob1), .val (.int (4 : Int32)), .val (.int (0 : Int32)), .val (.ref r1_28), .val .null, .val (.int (v1a &&& (255 : Int32))), .val (.int (v2a &&& (255 : Int32))), .val (.int (v3a &&& (255 : Int32))), .val (.int (v4a &&& (255 : Int32)))] [(.ref r1_28)])) rfl (by rw [hml]; rfl) (argsL := [(.ref r1_28)]) (rest := []) (lenOf own_pd__28Ljava_2flang_2fString_3b_29Lcom_2fexample_2fostiarius_2fostiarius_2fkey_2fKeyKind_3b rfl) rfl (by show 2 * 0 + _ ≤ _; exact Nat.le_of_eq rfl) (hb hby at_383) (fun _ _ => ⟨rfl, rfl, (by decide : 4 + 1 ≤ _), (by decide : 17 + 3 ≤ _)⟩)
                      dsimp only [Pt.U, Pt.locs, Pt.cells, Pt.slots] at X60 l60 y60 z60 st60 hQ60
                      subst l60 y60 z60
                      obtain ⟨rfl, M60, K60⟩ := hQ60
                      have N60 := Fr.app N28 M60
                      refine own_by st60 ?_
                      have sk60 : ∀ x ∈ ([] : List Addr), Safe Z own_EL T28.vm T28.heap x := sf0
                      have R60 := R28.trans (CHr.keep K60 sk60 R28.1)
                      have z60 := K60.1
                      refine own_by (fun _ k => XS.aload X60.here hx rfl (hb hby at_386) rfl rfl k) ?_
                      refine own_by (fun _ k => Jvm.RoadKit.acmp (g := (mkF m 388 #[.val (.int sel), .val (.int pos), .val (.int chh), .val (.int lng), .val (.int aa), .val (.int bb), .val (.int bs), .val (.ref ob1), .val (.int (4 : Int32)), .val (.int (0 : Int32)), .val (.ref r1_28), .val .null, .val (.int (v1a &&& (255 : Int32))), .val (.int (v2a &&& (255 : Int32))), .val (.int (v3a &&& (255 : Int32))), .val (.int (v4a &&& (255 : Int32)))] [.null, .null])) X60 hx rfl rfl rfl (pc0 := 388) (pc' := 391) (same := true) rfl (hb hby at_388) rfl (decide_eq_true rfl) (by decide) (by decide) k) ?_
                      show own_Go p e below (T60.setTop (mkF m 391 #[.val (.int sel), .val (.int pos), .val (.int chh), .val (.int lng), .val (.int aa), .val (.int bb), .val (.int bs), .val (.ref ob1), .val (.int (4 : Int32)), .val (.int (0 : Int32)), .val (.ref r1_28), .val .null, .val (.int (v1a &&& (255 : Int32))), .val (.int (v2a &&& (255 : Int32))), .val (.int (v3a &&& (255 : Int32))), .val (.int (v4a &&& (255 : Int32)))] [])) _
                      refine own_by (fun _ k => XS.iconst X60.here hx rfl (hb hby at_391) k) ?_
                      refine own_by (fun _ k => XS.goto X60.here hx rfl (pc0 := 392) (pc' := 396) rfl (hb hby at_392) (by decide) (by decide) k) ?_
                      have K61 : Keep h0 T60.heap [] := ((((Keep.refl h0 []).trans Kj5 all0).trans K28 all0).trans K60 all0)
                      obtain ⟨fs, hr, hrun, hended, hW⟩ := X60.leaveW S28 (by first | omega | (rw [e0]; omega)) (v := some (.int (1 : Int32))) (fun h => by rw [Bd.returns] at h; cases h)
                      have RR := R60.trans (CHv.at X60 hZ28 hEL R60.1)
                      have RR' : CHr Z own_EL s.vm s.heap T60.vm T60.heap := by rw [hh]; exact RR
                      refine ⟨_, _, retN X60 hx (t := .boolean) Bd.returns (by simp) (hb hby at_396) hr, hrun, hended, _, _, rfl, ?_, RR', ⟨_, rfl⟩, hW.2.1, hW.2.2.1, hW.2.2.2.mono (by decide) (by decide)⟩
                      show Q_rm_law Z sel pos chh lng aa bb va kva a_LIVE a_TEST a_MANAGEMENT l_LIVE b_LIVE kb_LIVE l_TEST b_TEST kb_TEST l_MANAGEMENT b_MANAGEMENT kb_MANAGEMENT cs h0 n0 _ T60.heap _
                      exact ⟨rfl, N60, K61⟩
                  · skip
                    refine own_by (fun _ k => XS.icmpYes X28.here hx rfl (pc0 := 330) (pc' := 348) rfl (hb hby at_330) rfl (feq hc53).2 (by decide) (by decide) k) ?_
                    show own_Go p e below (T28.setTop (mkF m 348 #[.val (.int sel), .val (.int pos), .val (.int chh), .val (.int lng), .val (.int aa), .val (.int bb), .val (.int bs), .val (.ref ob1), .val (.int (4 : Int32)), .val (.int (0 : Int32)), .val (.ref r1_28), .val .null, .val (.int (v1a &&& (255 : Int32))), .val (.int (v2a &&& (255 : Int32))), .val (.int (v3a &&& (255 : Int32))), .val (.int (v4a &&& (255 : Int32)))] [])) _
                    refine own_by (fun _ k => XS.iload X28.here hx rfl (hb hby at_348) rfl k) ?_
                    refine own_by (fun _ k => XS.bipush X28.here hx rfl (hb hby at_350) k) ?_
                    refine own_by (fun _ k => XS.icmpYes X28.here hx rfl (pc0 := 352) (pc' := 381) rfl (hb hby at_352) rfl (feq (by rw [hc51]; decide)).2 (by decide) (by decide) k) ?_
                    show own_Go p e below (T28.setTop (mkF m 381 #[.val (.int sel), .val (.int pos), .val (.int chh), .val (.int lng), .val (.int aa), .val (.int bb), .val (.int bs), .val (.ref ob1), .val (.int (4 : Int32)), .val (.int (0 : Int32)), .val (.ref r1_28), .val .null, .val (.int (v1a &&& (255 : Int32))), .val (.int (v2a &&& (255 : Int32))), .val (.int (v3a &&& (255 : Int32))), .val (.int (v4a &&& (255 : Int32)))] [])) _
                    refine own_by (fun _ k => XS.aload X28.here hx rfl (hb hby at_381) rfl rfl k) ?_
                    have O62 : Old Z n0 T28.heap := (O27.keep K28 all0)
                    obtain ⟨_, _, ⟨T63, L63, k63, n63⟩, -, X63, ⟨Lc63, hQ63, l63, y63, z63⟩, st63⟩ := Jvm.LawKit.callS X28 hx (y := (⟨s2_, "ofLabel", s3_⟩ : MethodName)) ho28 (mvT hZ28 (own_w hw 2 rfl)) (mvT hZ28 (own_w hw 3 rfl)) (mvT hZ28 (own_w hw 4 rfl)) (mvT hZ28 (own_w hw 5 rfl)) (by decide) (backOf (W := 0) (rm_ol4_none l Z a0 hw [] r1_28 b_28 kb_28 cs (own_b (v1a &&& (255 : Int32))) (own_b (v2a &&& (255 : Int32))) (own_b (v3a &&& (255 : Int32))) (own_b (v4a &&& (255 : Int32))) va kva a_LIVE a_TEST a_MANAGEMENT l_LIVE b_LIVE kb_LIVE l_TEST b_TEST kb_TEST l_MANAGEMENT b_MANAGEMENT kb_MANAGEMENT T28.heap n0 O62 S_VALUES E_va V_va E_LIVE F_LIVE Es_LIVE Fc_LIVE Fv_LIVE V_LIVE E_TEST F_TEST Es_TEST Fc_TEST Fv_TEST V_TEST E_MANAGEMENT F_MANAGEMENT Es_MANAGEMENT Fc_MANAGEMENT Fv_MANAGEMENT V_MANAGEMENT S_COMPACT g28_0 g28_1 g28_2 g28_3 hcs (by omega) (own_all_neg fun q => hc34 ((own_blit (108 : Int32)).mp q)) ((own_all_pos ((own_blit (116 : Int32)).mpr hc51)).trans ((own_all_pos ((own_blit (101 : Int32)).mpr hc52)).trans (own_all_neg fun q => hc53 ((own_blit (115 : Int32)).mp q)))) (own_all_neg fun q => (show ¬ ((v1a &&& (255 : Int32)) = (109 : Int32)) from by rw [hc51]; decide) ((own_blit (109 : Int32)).mp q))) hZ28 (own_w hw 5 rfl) (own_w hw 4 rfl) (by decide) (by decide)) (g := (mkF m 383 #[.val (.int sel), .val (.int pos), .val (.int chh), .val (.int lng), .val (.int aa), .val (.int bb), .val (.int bs), .val (.ref ob1), .val (.int (4 : Int32)), .val (.int (0 : Int32)), .val (.ref r1_28), .val .null, .val (.int (v1a &&& (255 : Int32))), .val (.int (v2a &&& (255 : Int32))), .val (.int (v3a &&& (255 : Int32))), .val (.int (v4a &&& (255 : Int32)))] [(.ref r1_28)])) rfl (by rw [hml]; rfl) (argsL := [(.ref r1_28)]) (rest := []) (lenOf own_pd__28Ljava_2flang_2fString_3b_29Lcom_2fexample_2fostiarius_2fostiarius_2fkey_2fKeyKind_3b rfl) rfl (by show 2 * 0 + _ ≤ _; exact Nat.le_of_eq rfl) (hb hby at_383) (fun _ _ => ⟨rfl, rfl, (by decide : 4 + 1 ≤ _), (by decide : 17 + 3 ≤ _)⟩)
                    dsimp only [Pt.U, Pt.locs, Pt.cells, Pt.slots] at X63 l63 y63 z63 st63 hQ63
                    subst l63 y63 z63
                    obtain ⟨rfl, M63, K63⟩ := hQ63
                    have N63 := Fr.app N28 M63
                    refine own_by st63 ?_
                    have sk63 : ∀ x ∈ ([] : List Addr), Safe Z own_EL T28.vm T28.heap x := sf0
                    have R63 := R28.trans (CHr.keep K63 sk63 R28.1)
                    have z63 := K63.1
                    refine own_by (fun _ k => XS.aload X63.here hx rfl (hb hby at_386) rfl rfl k) ?_
                    refine own_by (fun _ k => Jvm.RoadKit.acmp (g := (mkF m 388 #[.val (.int sel), .val (.int pos), .val (.int chh), .val (.int lng), .val (.int aa), .val (.int bb), .val (.int bs), .val (.ref ob1), .val (.int (4 : Int32)), .val (.int (0 : Int32)), .val (.ref r1_28), .val .null, .val (.int (v1a &&& (255 : Int32))), .val (.int (v2a &&& (255 : Int32))), .val (.int (v3a &&& (255 : Int32))), .val (.int (v4a &&& (255 : Int32)))] [.null, .null])) X63 hx rfl rfl rfl (pc0 := 388) (pc' := 391) (same := true) rfl (hb hby at_388) rfl (decide_eq_true rfl) (by decide) (by decide) k) ?_
                    show own_Go p e below (T63.setTop (mkF m 391 #[.val (.int sel), .val (.int pos), .val (.int chh), .val (.int lng), .val (.int aa), .val (.int bb), .val (.int bs), .val (.ref ob1), .val (.int (4 : Int32)), .val (.int (0 : Int32)), .val (.ref r1_28), .val .null, .val (.int (v1a &&& (255 : Int32))), .val (.int (v2a &&& (255 : Int32))), .val (.int (v3a &&& (255 : Int32))), .val (.int (v4a &&& (255 : Int32)))] [])) _
                    refine own_by (fun _ k => XS.iconst X63.here hx rfl (hb hby at_391) k) ?_
                    refine own_by (fun _ k => XS.goto X63.here hx rfl (pc0 := 392) (pc' := 396) rfl (hb hby at_392) (by decide) (by decide) k) ?_
                    have K64 : Keep h0 T63.heap [] := ((((Keep.refl h0 []).trans Kj5 all0).trans K28 all0).trans K63 all0)
                    obtain ⟨fs, hr, hrun, hended, hW⟩ := X63.leaveW S28 (by first | omega | (rw [e0]; omega)) (v := some (.int (1 : Int32))) (fun h => by rw [Bd.returns] at h; cases h)
                    have RR := R63.trans (CHv.at X63 hZ28 hEL R63.1)
                    have RR' : CHr Z own_EL s.vm s.heap T63.vm T63.heap := by rw [hh]; exact RR
                    refine ⟨_, _, retN X63 hx (t := .boolean) Bd.returns (by simp) (hb hby at_396) hr, hrun, hended, _, _, rfl, ?_, RR', ⟨_, rfl⟩, hW.2.1, hW.2.2.1, hW.2.2.2.mono (by decide) (by decide)⟩
                    show Q_rm_law Z sel pos chh lng aa bb va kva a_LIVE a_TEST a_MANAGEMENT l_LIVE b_LIVE kb_LIVE l_TEST b_TEST kb_TEST l_MANAGEMENT b_MANAGEMENT kb_MANAGEMENT cs h0 n0 _ T63.heap _
                    exact ⟨rfl, N63, K64⟩
                · skip
                  refine own_by (fun _ k => XS.icmpYes X28.here hx rfl (pc0 := 323) (pc' := 348) rfl (hb hby at_323) rfl (feq hc52).2 (by decide) (by decide) k) ?_
                  show own_Go p e below (T28.setTop (mkF m 348 #[.val (.int sel), .val (.int pos), .val (.int chh), .val (.int lng), .val (.int aa), .val (.int bb), .val (.int bs), .val (.ref ob1), .val (.int (4 : Int32)), .val (.int (0 : Int32)), .val (.ref r1_28), .val .null, .val (.int (v1a &&& (255 : Int32))), .val (.int (v2a &&& (255 : Int32))), .val (.int (v3a &&& (255 : Int32))), .val (.int (v4a &&& (255 : Int32)))] [])) _
                  refine own_by (fun _ k => XS.iload X28.here hx rfl (hb hby at_348) rfl k) ?_
                  refine own_by (fun _ k => XS.bipush X28.here hx rfl (hb hby at_350) k) ?_
                  refine own_by (fun _ k => XS.icmpYes X28.here hx rfl (pc0 := 352) (pc' := 381) rfl (hb hby at_352) rfl (feq (by rw [hc51]; decide)).2 (by decide) (by decide) k) ?_
                  show own_Go p e below (T28.setTop (mkF m 381 #[.val (.int sel), .val (.int pos), .val (.int chh), .val (.int lng), .val (.int aa), .val (.int bb), .val (.int bs), .val (.ref ob1), .val (.int (4 : Int32)), .val (.int (0 : Int32)), .val (.ref r1_28), .val .null, .val (.int (v1a &&& (255 : Int32))), .val (.int (v2a &&& (255 : Int32))), .val (.int (v3a &&& (255 : Int32))), .val (.int (v4a &&& (255 : Int32)))] [])) _
                  refine own_by (fun _ k => XS.aload X28.here hx rfl (hb hby at_381) rfl rfl k) ?_
                  have O65 : Old Z n0 T28.heap := (O27.keep K28 all0)
                  obtain ⟨_, _, ⟨T66, L66, k66, n66⟩, -, X66, ⟨Lc66, hQ66, l66, y66, z66⟩, st66⟩ := Jvm.LawKit.callS X28 hx (y := (⟨s2_, "ofLabel", s3_⟩ : MethodName)) ho28 (mvT hZ28 (own_w hw 2 rfl)) (mvT hZ28 (own_w hw 3 rfl)) (mvT hZ28 (own_w hw 4 rfl)) (mvT hZ28 (own_w hw 5 rfl)) (by decide) (backOf (W := 0) (rm_ol4_none l Z a0 hw [] r1_28 b_28 kb_28 cs (own_b (v1a &&& (255 : Int32))) (own_b (v2a &&& (255 : Int32))) (own_b (v3a &&& (255 : Int32))) (own_b (v4a &&& (255 : Int32))) va kva a_LIVE a_TEST a_MANAGEMENT l_LIVE b_LIVE kb_LIVE l_TEST b_TEST kb_TEST l_MANAGEMENT b_MANAGEMENT kb_MANAGEMENT T28.heap n0 O65 S_VALUES E_va V_va E_LIVE F_LIVE Es_LIVE Fc_LIVE Fv_LIVE V_LIVE E_TEST F_TEST Es_TEST Fc_TEST Fv_TEST V_TEST E_MANAGEMENT F_MANAGEMENT Es_MANAGEMENT Fc_MANAGEMENT Fv_MANAGEMENT V_MANAGEMENT S_COMPACT g28_0 g28_1 g28_2 g28_3 hcs (by omega) (own_all_neg fun q => hc34 ((own_blit (108 : Int32)).mp q)) ((own_all_pos ((own_blit (116 : Int32)).mpr hc51)).trans (own_all_neg fun q => hc52 ((own_blit (101 : Int32)).mp q))) (own_all_neg fun q => (show ¬ ((v1a &&& (255 : Int32)) = (109 : Int32)) from by rw [hc51]; decide) ((own_blit (109 : Int32)).mp q))) hZ28 (own_w hw 5 rfl) (own_w hw 4 rfl) (by decide) (by decide)) (g := (mkF m 383 #[.val (.int sel), .val (.int pos), .val (.int chh), .val (.int lng), .val (.int aa), .val (.int bb), .val (.int bs), .val (.ref ob1), .val (.int (4 : Int32)), .val (.int (0 : Int32)), .val (.ref r1_28), .val .null, .val (.int (v1a &&& (255 : Int32))), .val (.int (v2a &&& (255 : Int32))), .val (.int (v3a &&& (255 : Int32))), .val (.int (v4a &&& (255 : Int32)))] [(.ref r1_28)])) rfl (by rw [hml]; rfl) (argsL := [(.ref r1_28)]) (rest := []) (lenOf own_pd__28Ljava_2flang_2fString_3b_29Lcom_2fexample_2fostiarius_2fostiarius_2fkey_2fKeyKind_3b rfl) rfl (by show 2 * 0 + _ ≤ _; exact Nat.le_of_eq rfl) (hb hby at_383) (fun _ _ => ⟨rfl, rfl, (by decide : 4 + 1 ≤ _), (by decide : 17 + 3 ≤ _)⟩)
                  dsimp only [Pt.U, Pt.locs, Pt.cells, Pt.slots] at X66 l66 y66 z66 st66 hQ66
                  subst l66 y66 z66
                  obtain ⟨rfl, M66, K66⟩ := hQ66
                  have N66 := Fr.app N28 M66
                  refine own_by st66 ?_
                  have sk66 : ∀ x ∈ ([] : List Addr), Safe Z own_EL T28.vm T28.heap x := sf0
                  have R66 := R28.trans (CHr.keep K66 sk66 R28.1)
                  have z66 := K66.1
                  refine own_by (fun _ k => XS.aload X66.here hx rfl (hb hby at_386) rfl rfl k) ?_
                  refine own_by (fun _ k => Jvm.RoadKit.acmp (g := (mkF m 388 #[.val (.int sel), .val (.int pos), .val (.int chh), .val (.int lng), .val (.int aa), .val (.int bb), .val (.int bs), .val (.ref ob1), .val (.int (4 : Int32)), .val (.int (0 : Int32)), .val (.ref r1_28), .val .null, .val (.int (v1a &&& (255 : Int32))), .val (.int (v2a &&& (255 : Int32))), .val (.int (v3a &&& (255 : Int32))), .val (.int (v4a &&& (255 : Int32)))] [.null, .null])) X66 hx rfl rfl rfl (pc0 := 388) (pc' := 391) (same := true) rfl (hb hby at_388) rfl (decide_eq_true rfl) (by decide) (by decide) k) ?_
                  show own_Go p e below (T66.setTop (mkF m 391 #[.val (.int sel), .val (.int pos), .val (.int chh), .val (.int lng), .val (.int aa), .val (.int bb), .val (.int bs), .val (.ref ob1), .val (.int (4 : Int32)), .val (.int (0 : Int32)), .val (.ref r1_28), .val .null, .val (.int (v1a &&& (255 : Int32))), .val (.int (v2a &&& (255 : Int32))), .val (.int (v3a &&& (255 : Int32))), .val (.int (v4a &&& (255 : Int32)))] [])) _
                  refine own_by (fun _ k => XS.iconst X66.here hx rfl (hb hby at_391) k) ?_
                  refine own_by (fun _ k => XS.goto X66.here hx rfl (pc0 := 392) (pc' := 396) rfl (hb hby at_392) (by decide) (by decide) k) ?_
                  have K67 : Keep h0 T66.heap [] := ((((Keep.refl h0 []).trans Kj5 all0).trans K28 all0).trans K66 all0)
                  obtain ⟨fs, hr, hrun, hended, hW⟩ := X66.leaveW S28 (by first | omega | (rw [e0]; omega)) (v := some (.int (1 : Int32))) (fun h => by rw [Bd.returns] at h; cases h)
                  have RR := R66.trans (CHv.at X66 hZ28 hEL R66.1)
                  have RR' : CHr Z own_EL s.vm s.heap T66.vm T66.heap := by rw [hh]; exact RR
                  refine ⟨_, _, retN X66 hx (t := .boolean) Bd.returns (by simp) (hb hby at_396) hr, hrun, hended, _, _, rfl, ?_, RR', ⟨_, rfl⟩, hW.2.1, hW.2.2.1, hW.2.2.2.mono (by decide) (by decide)⟩
                  show Q_rm_law Z sel pos chh lng aa bb va kva a_LIVE a_TEST a_MANAGEMENT l_LIVE b_LIVE kb_LIVE l_TEST b_TEST kb_TEST l_MANAGEMENT b_MANAGEMENT kb_MANAGEMENT cs h0 n0 _ T66.heap _
                  exact ⟨rfl, N66, K67⟩
              · skip
                refine own_by (fun _ k => XS.icmpYes X28.here hx rfl (pc0 := 316) (pc' := 348) rfl (hb hby at_316) rfl (feq hc51).2 (by decide) (by decide) k) ?_
                show own_Go p e below (T28.setTop (mkF m 348 #[.val (.int sel), .val (.int pos), .val (.int chh), .val (.int lng), .val (.int aa), .val (.int bb), .val (.int bs), .val (.ref ob1), .val (.int (4 : Int32)), .val (.int (0 : Int32)), .val (.ref r1_28), .val .null, .val (.int (v1a &&& (255 : Int32))), .val (.int (v2a &&& (255 : Int32))), .val (.int (v3a &&& (255 : Int32))), .val (.int (v4a &&& (255 : Int32)))] [])) _
                refine own_by (fun _ k => XS.iload X28.here hx rfl (hb hby at_348) rfl k) ?_
                refine own_by (fun _ k => XS.bipush X28.here hx rfl (hb hby at_350) k) ?_
                by_cases hc68 : (v1a &&& (255 : Int32)) = (109 : Int32)
                · skip
                  refine own_by (fun _ k => XS.icmpNo X28.here hx rfl (hb hby at_352) rfl (teq hc68).2 k) ?_
                  show own_Go p e below (T28.setTop (mkF m 355 #[.val (.int sel), .val (.int pos), .val (.int chh), .val (.int lng), .val (.int aa), .val (.int bb), .val (.int bs), .val (.ref ob1), .val (.int (4 : Int32)), .val (.int (0 : Int32)), .val (.ref r1_28), .val .null, .val (.int (v1a &&& (255 : Int32))), .val (.int (v2a &&& (255 : Int32))), .val (.int (v3a &&& (255 : Int32))), .val (.int (v4a &&& (255 : Int32)))] [])) _
                  refine own_by (fun _ k => XS.iload X28.here hx rfl (hb hby at_355) rfl k) ?_
                  refine own_by (fun _ k => XS.bipush X28.here hx rfl (hb hby at_357) k) ?_
                  by_cases hc69 : (v2a &&& (255 : Int32)) = (103 : Int32)
                  · skip
                    refine own_by (fun _ k => XS.icmpNo X28.here hx rfl (hb hby at_359) rfl (teq hc69).2 k) ?_
                    show own_Go p e below (T28.setTop (mkF m 362 #[.val (.int sel), .val (.int pos), .val (.int chh), .val (.int lng), .val (.int aa), .val (.int bb), .val (.int bs), .val (.ref ob1), .val (.int (4 : Int32)), .val (.int (0 : Int32)), .val (.ref r1_28), .val .null, .val (.int (v1a &&& (255 : Int32))), .val (.int (v2a &&& (255 : Int32))), .val (.int (v3a &&& (255 : Int32))), .val (.int (v4a &&& (255 : Int32)))] [])) _
                    refine own_by (fun _ k => XS.iload X28.here hx rfl (hb hby at_362) rfl k) ?_
                    refine own_by (fun _ k => XS.bipush X28.here hx rfl (hb hby at_364) k) ?_
                    by_cases hc70 : (v3a &&& (255 : Int32)) = (109 : Int32)
                    · skip
                      refine own_by (fun _ k => XS.icmpNo X28.here hx rfl (hb hby at_366) rfl (teq hc70).2 k) ?_
                      show own_Go p e below (T28.setTop (mkF m 369 #[.val (.int sel), .val (.int pos), .val (.int chh), .val (.int lng), .val (.int aa), .val (.int bb), .val (.int bs), .val (.ref ob1), .val (.int (4 : Int32)), .val (.int (0 : Int32)), .val (.ref r1_28), .val .null, .val (.int (v1a &&& (255 : Int32))), .val (.int (v2a &&& (255 : Int32))), .val (.int (v3a &&& (255 : Int32))), .val (.int (v4a &&& (255 : Int32)))] [])) _
                      refine own_by (fun _ k => XS.iload X28.here hx rfl (hb hby at_369) rfl k) ?_
                      refine own_by (fun _ k => XS.bipush X28.here hx rfl (hb hby at_371) k) ?_
                      by_cases hc71 : (v4a &&& (255 : Int32)) = (116 : Int32)
                      · skip
                        refine own_by (fun _ k => XS.icmpNo X28.here hx rfl (hb hby at_373) rfl (teq hc71).2 k) ?_
                        show own_Go p e below (T28.setTop (mkF m 376 #[.val (.int sel), .val (.int pos), .val (.int chh), .val (.int lng), .val (.int aa), .val (.int bb), .val (.int bs), .val (.ref ob1), .val (.int (4 : Int32)), .val (.int (0 : Int32)), .val (.ref r1_28), .val .null, .val (.int (v1a &&& (255 : Int32))), .val (.int (v2a &&& (255 : Int32))), .val (.int (v3a &&& (255 : Int32))), .val (.int (v4a &&& (255 : Int32)))] [])) _
                        have O72 : Old Z n0 T28.heap := (O27.keep K28 all0)
                        obtain ⟨T73, X73, e73, st73⟩ := getS2 X28 hx hZ28 ho28 (host := "") (Or.inl (own_w hw 72 rfl)) Via.refl rfl (S_MANAGEMENT.ext O72.2) (g := (mkF m 376 #[.val (.int sel), .val (.int pos), .val (.int chh), .val (.int lng), .val (.int aa), .val (.int bb), .val (.int bs), .val (.ref ob1), .val (.int (4 : Int32)), .val (.int (0 : Int32)), .val (.ref r1_28), .val .null, .val (.int (v1a &&& (255 : Int32))), .val (.int (v2a &&& (255 : Int32))), .val (.int (v3a &&& (255 : Int32))), .val (.int (v4a &&& (255 : Int32)))] [])) rfl (hb hby at_376)
                        refine own_by st73 ?_
                        refine own_by (fun _ k => XS.astore X73.here hx rfl (hb hby at_379) rfl rfl (l' := #[.val (.int sel), .val (.int pos), .val (.int chh), .val (.int lng), .val (.int aa), .val (.int bb), .val (.int bs), .val (.ref ob1), .val (.int (4 : Int32)), .val (.int (0 : Int32)), .val (.ref r1_28), .val (.ref a_MANAGEMENT), .val (.int (v1a &&& (255 : Int32))), .val (.int (v2a &&& (255 : Int32))), .val (.int (v3a &&& (255 : Int32))), .val (.int (v4a &&& (255 : Int32)))]) rfl k) ?_
                        refine own_by (fun _ k => XS.aload X73.here hx rfl (hb hby at_381) rfl rfl k) ?_
                        obtain ⟨_, _, ⟨T74, L74, k74, n74⟩, -, X74, ⟨Lc74, hQ74, l74, y74, z74⟩, st74⟩ := Jvm.LawKit.callS X73 hx (y := (⟨s2_, "ofLabel", s3_⟩ : MethodName)) ho28 (mvT hZ28 (own_w hw 2 rfl)) (mvT hZ28 (own_w hw 3 rfl)) (mvT hZ28 (own_w hw 4 rfl)) (mvT hZ28 (own_w hw 5 rfl)) (by decide) (backOf (W := 0) (rm_ol4_MANAGEMENT l Z a0 hw [] r1_28 b_28 kb_28 cs (own_b (v1a &&& (255 : Int32))) (own_b (v2a &&& (255 : Int32))) (own_b (v3a &&& (255 : Int32))) (own_b (v4a &&& (255 : Int32))) va kva a_LIVE a_TEST a_MANAGEMENT l_LIVE b_LIVE kb_LIVE l_TEST b_TEST kb_TEST l_MANAGEMENT b_MANAGEMENT kb_MANAGEMENT T28.heap n0 O72 S_VALUES E_va V_va E_LIVE F_LIVE Es_LIVE Fc_LIVE Fv_LIVE V_LIVE E_TEST F_TEST Es_TEST Fc_TEST Fv_TEST V_TEST E_MANAGEMENT F_MANAGEMENT Es_MANAGEMENT Fc_MANAGEMENT Fv_MANAGEMENT V_MANAGEMENT S_COMPACT g28_0 g28_1 g28_2 g28_3 hcs (by omega) (own_all_neg fun q => hc34 ((own_blit (108 : Int32)).mp q)) (own_all_neg fun q => hc51 ((own_blit (116 : Int32)).mp q)) (fun q => absurd (((own_all_pos ((own_blit (109 : Int32)).mpr hc68)).trans ((own_all_pos ((own_blit (103 : Int32)).mpr hc69)).trans ((own_all_pos ((own_blit (109 : Int32)).mpr hc70)).trans ((own_all_pos ((own_blit (116 : Int32)).mpr hc71)).trans rfl)))).symm.trans q) (by decide))) hZ28 (own_w hw 5 rfl) (own_w hw 4 rfl) (by decide) (by decide)) (g := (mkF m 383 #[.val (.int sel), .val (.int pos), .val (.int chh), .val (.int lng), .val (.int aa), .val (.int bb), .val (.int bs), .val (.ref ob1), .val (.int (4 : Int32)), .val (.int (0 : Int32)), .val (.ref r1_28), .val (.ref a_MANAGEMENT), .val (.int (v1a &&& (255 : Int32))), .val (.int (v2a &&& (255 : Int32))), .val (.int (v3a &&& (255 : Int32))), .val (.int (v4a &&& (255 : Int32)))] [(.ref r1_28)])) rfl (by rw [hml]; rfl) (argsL := [(.ref r1_28)]) (rest := []) (lenOf own_pd__28Ljava_2flang_2fString_3b_29Lcom_2fexample_2fostiarius_2fostiarius_2fkey_2fKeyKind_3b rfl) rfl (by show 2 * 0 + _ ≤ _; exact Nat.le_of_eq rfl) (hb hby at_383) (fun _ _ => ⟨rfl, e73, (by decide : 4 + 1 ≤ _), (by decide : 17 + 3 ≤ _)⟩)
                        dsimp only [Pt.U, Pt.locs, Pt.cells, Pt.slots] at X74 l74 y74 z74 st74 hQ74
                        subst l74 y74 z74
                        obtain ⟨rfl, M74, K74⟩ := hQ74
                        have N74 := Fr.app N28 M74
                        refine own_by st74 ?_
                        have sk74 : ∀ x ∈ ([] : List Addr), Safe Z own_EL T28.vm T28.heap x := sf0
                        have R74 := R28.trans (CHr.keep K74 sk74 R28.1)
                        have z74 := K74.1
                        refine own_by (fun _ k => XS.aload X74.here hx rfl (hb hby at_386) rfl rfl k) ?_
                        refine own_by (fun _ k => Jvm.RoadKit.acmp (g := (mkF m 388 #[.val (.int sel), .val (.int pos), .val (.int chh), .val (.int lng), .val (.int aa), .val (.int bb), .val (.int bs), .val (.ref ob1), .val (.int (4 : Int32)), .val (.int (0 : Int32)), .val (.ref r1_28), .val (.ref a_MANAGEMENT), .val (.int (v1a &&& (255 : Int32))), .val (.int (v2a &&& (255 : Int32))), .val (.int (v3a &&& (255 : Int32))), .val (.int (v4a &&& (255 : Int32)))] [(.ref a_MANAGEMENT), (.ref a_MANAGEMENT)])) X74 hx rfl rfl rfl (pc0 := 388) (pc' := 391) (same := true) rfl (hb hby at_388) rfl (decide_eq_true rfl) (by decide) (by decide) k) ?_
                        show own_Go p e below (T74.setTop (mkF m 391 #[.val (.int sel), .val (.int pos), .val (.int chh), .val (.int lng), .val (.int aa), .val (.int bb), .val (.int bs), .val (.ref ob1), .val (.int (4 : Int32)), .val (.int (0 : Int32)), .val (.ref r1_28), .val (.ref a_MANAGEMENT), .val (.int (v1a &&& (255 : Int32))), .val (.int (v2a &&& (255 : Int32))), .val (.int (v3a &&& (255 : Int32))), .val (.int (v4a &&& (255 : Int32)))] [])) _
                        refine own_by (fun _ k => XS.iconst X74.here hx rfl (hb hby at_391) k) ?_
                        refine own_by (fun _ k => XS.goto X74.here hx rfl (pc0 := 392) (pc' := 396) rfl (hb hby at_392) (by decide) (by decide) k) ?_
                        have K75 : Keep h0 T74.heap [] := ((((Keep.refl h0 []).trans Kj5 all0).trans K28 all0).trans K74 all0)
                        obtain ⟨fs, hr, hrun, hended, hW⟩ := X74.leaveW S28 (by first | omega | (rw [e0]; omega)) (v := some (.int (1 : Int32))) (fun h => by rw [Bd.returns] at h; cases h)
                        have RR := R74.trans (CHv.at X74 hZ28 hEL R74.1)
                        have RR' : CHr Z own_EL s.vm s.heap T74.vm T74.heap := by rw [hh]; exact RR
                        refine ⟨_, _, retN X74 hx (t := .boolean) Bd.returns (by simp) (hb hby at_396) hr, hrun, hended, _, _, rfl, ?_, RR', ⟨_, rfl⟩, hW.2.1, hW.2.2.1, hW.2.2.2.mono (by decide) (by decide)⟩
                        show Q_rm_law Z sel pos chh lng aa bb va kva a_LIVE a_TEST a_MANAGEMENT l_LIVE b_LIVE kb_LIVE l_TEST b_TEST kb_TEST l_MANAGEMENT b_MANAGEMENT kb_MANAGEMENT cs h0 n0 _ T74.heap _
                        exact ⟨rfl, N74, K75⟩
                      · skip
                        refine own_by (fun _ k => XS.icmpYes X28.here hx rfl (pc0 := 373) (pc' := 381) rfl (hb hby at_373) rfl (feq hc71).2 (by decide) (by decide) k) ?_
                        show own_Go p e below (T28.setTop (mkF m 381 #[.val (.int sel), .val (.int pos), .val (.int chh), .val (.int lng), .val (.int aa), .val (.int bb), .val (.int bs), .val (.ref ob1), .val (.int (4 : Int32)), .val (.int (0 : Int32)), .val (.ref r1_28), .val .null, .val (.int (v1a &&& (255 : Int32))), .val (.int (v2a &&& (255 : Int32))), .val (.int (v3a &&& (255 : Int32))), .val (.int (v4a &&& (255 : Int32)))] [])) _
                        refine own_by (fun _ k => XS.aload X28.here hx rfl (hb hby at_381) rfl rfl k) ?_
                        have O76 : Old Z n0 T28.heap := (O27.keep K28 all0)
                        obtain ⟨_, _, ⟨T77, L77, k77, n77⟩, -, X77, ⟨Lc77, hQ77, l77, y77, z77⟩, st77⟩ := Jvm.LawKit.callS X28 hx (y := (⟨s2_, "ofLabel", s3_⟩ : MethodName)) ho28 (mvT hZ28 (own_w hw 2 rfl)) (mvT hZ28 (own_w hw 3 rfl)) (mvT hZ28 (own_w hw 4 rfl)) (mvT hZ28 (own_w hw 5 rfl)) (by decide) (backOf (W := 0) (rm_ol4_none l Z a0 hw [] r1_28 b_28 kb_28 cs (own_b (v1a &&& (255 : Int32))) (own_b (v2a &&& (255 : Int32))) (own_b (v3a &&& (255 : Int32))) (own_b (v4a &&& (255 : Int32))) va kva a_LIVE a_TEST a_MANAGEMENT l_LIVE b_LIVE kb_LIVE l_TEST b_TEST kb_TEST l_MANAGEMENT b_MANAGEMENT kb_MANAGEMENT T28.heap n0 O76 S_VALUES E_va V_va E_LIVE F_LIVE Es_LIVE Fc_LIVE Fv_LIVE V_LIVE E_TEST F_TEST Es_TEST Fc_TEST Fv_TEST V_TEST E_MANAGEMENT F_MANAGEMENT Es_MANAGEMENT Fc_MANAGEMENT Fv_MANAGEMENT V_MANAGEMENT S_COMPACT g28_0 g28_1 g28_2 g28_3 hcs (by omega) (own_all_neg fun q => hc34 ((own_blit (108 : Int32)).mp q)) (own_all_neg fun q => hc51 ((own_blit (116 : Int32)).mp q)) ((own_all_pos ((own_blit (109 : Int32)).mpr hc68)).trans ((own_all_pos ((own_blit (103 : Int32)).mpr hc69)).trans ((own_all_pos ((own_blit (109 : Int32)).mpr hc70)).trans (own_all_neg fun q => hc71 ((own_blit (116 : Int32)).mp q)))))) hZ28 (own_w hw 5 rfl) (own_w hw 4 rfl) (by decide) (by decide)) (g := (mkF m 383 #[.val (.int sel), .val (.int pos), .val (.int chh), .val (.int lng), .val (.int aa), .val (.int bb), .val (.int bs), .val (.ref ob1), .val (.int (4 : Int32)), .val (.int (0 : Int32)), .val (.ref r1_28), .val .null, .val (.int (v1a &&& (255 : Int32))), .val (.int (v2a &&& (255 : Int32))), .val (.int (v3a &&& (255 : Int32))), .val (.int (v4a &&& (255 : Int32)))] [(.ref r1_28)])) rfl (by rw [hml]; rfl) (argsL := [(.ref r1_28)]) (rest := []) (lenOf own_pd__28Ljava_2flang_2fString_3b_29Lcom_2fexample_2fostiarius_2fostiarius_2fkey_2fKeyKind_3b rfl) rfl (by show 2 * 0 + _ ≤ _; exact Nat.le_of_eq rfl) (hb hby at_383) (fun _ _ => ⟨rfl, rfl, (by decide : 4 + 1 ≤ _), (by decide : 17 + 3 ≤ _)⟩)
                        dsimp only [Pt.U, Pt.locs, Pt.cells, Pt.slots] at X77 l77 y77 z77 st77 hQ77
                        subst l77 y77 z77
                        obtain ⟨rfl, M77, K77⟩ := hQ77
                        have N77 := Fr.app N28 M77
                        refine own_by st77 ?_
                        have sk77 : ∀ x ∈ ([] : List Addr), Safe Z own_EL T28.vm T28.heap x := sf0
                        have R77 := R28.trans (CHr.keep K77 sk77 R28.1)
                        have z77 := K77.1
                        refine own_by (fun _ k => XS.aload X77.here hx rfl (hb hby at_386) rfl rfl k) ?_
                        refine own_by (fun _ k => Jvm.RoadKit.acmp (g := (mkF m 388 #[.val (.int sel), .val (.int pos), .val (.int chh), .val (.int lng), .val (.int aa), .val (.int bb), .val (.int bs), .val (.ref ob1), .val (.int (4 : Int32)), .val (.int (0 : Int32)), .val (.ref r1_28), .val .null, .val (.int (v1a &&& (255 : Int32))), .val (.int (v2a &&& (255 : Int32))), .val (.int (v3a &&& (255 : Int32))), .val (.int (v4a &&& (255 : Int32)))] [.null, .null])) X77 hx rfl rfl rfl (pc0 := 388) (pc' := 391) (same := true) rfl (hb hby at_388) rfl (decide_eq_true rfl) (by decide) (by decide) k) ?_
                        show own_Go p e below (T77.setTop (mkF m 391 #[.val (.int sel), .val (.int pos), .val (.int chh), .val (.int lng), .val (.int aa), .val (.int bb), .val (.int bs), .val (.ref ob1), .val (.int (4 : Int32)), .val (.int (0 : Int32)), .val (.ref r1_28), .val .null, .val (.int (v1a &&& (255 : Int32))), .val (.int (v2a &&& (255 : Int32))), .val (.int (v3a &&& (255 : Int32))), .val (.int (v4a &&& (255 : Int32)))] [])) _
                        refine own_by (fun _ k => XS.iconst X77.here hx rfl (hb hby at_391) k) ?_
                        refine own_by (fun _ k => XS.goto X77.here hx rfl (pc0 := 392) (pc' := 396) rfl (hb hby at_392) (by decide) (by decide) k) ?_
                        have K78 : Keep h0 T77.heap [] := ((((Keep.refl h0 []).trans Kj5 all0).trans K28 all0).trans K77 all0)
                        obtain ⟨fs, hr, hrun, hended, hW⟩ := X77.leaveW S28 (by first | omega | (rw [e0]; omega)) (v := some (.int (1 : Int32))) (fun h => by rw [Bd.returns] at h; cases h)
                        have RR := R77.trans (CHv.at X77 hZ28 hEL R77.1)
                        have RR' : CHr Z own_EL s.vm s.heap T77.vm T77.heap := by rw [hh]; exact RR
                        refine ⟨_, _, retN X77 hx (t := .boolean) Bd.returns (by simp) (hb hby at_396) hr, hrun, hended, _, _, rfl, ?_, RR', ⟨_, rfl⟩, hW.2.1, hW.2.2.1, hW.2.2.2.mono (by decide) (by decide)⟩
                        show Q_rm_law Z sel pos chh lng aa bb va kva a_LIVE a_TEST a_MANAGEMENT l_LIVE b_LIVE kb_LIVE l_TEST b_TEST kb_TEST l_MANAGEMENT b_MANAGEMENT kb_MANAGEMENT cs h0 n0 _ T77.heap _
                        exact ⟨rfl, N77, K78⟩
                    · skip
                      refine own_by (fun _ k => XS.icmpYes X28.here hx rfl (pc0 := 366) (pc' := 381) rfl (hb hby at_366) rfl (feq hc70).2 (by decide) (by decide) k) ?_
                      show own_Go p e below (T28.setTop (mkF m 381 #[.val (.int sel), .val (.int pos), .val (.int chh), .val (.int lng), .val (.int aa), .val (.int bb), .val (.int bs), .val (.ref ob1), .val (.int (4 : Int32)), .val (.int (0 : Int32)), .val (.ref r1_28), .val .null, .val (.int (v1a &&& (255 : Int32))), .val (.int (v2a &&& (255 : Int32))), .val (.int (v3a &&& (255 : Int32))), .val (.int (v4a &&& (255 : Int32)))] [])) _
                      refine own_by (fun _ k => XS.aload X28.here hx rfl (hb hby at_381) rfl rfl k) ?_
                      have O79 : Old Z n0 T28.heap := (O27.keep K28 all0)
                      obtain ⟨_, _, ⟨T80, L80, k80, n80⟩, -, X80, ⟨Lc80, hQ80, l80, y80, z80⟩, st80⟩ := Jvm.LawKit.callS X28 hx (y := (⟨s2_, "ofLabel", s3_⟩ : MethodName)) ho28 (mvT hZ28 (own_w hw 2 rfl)) (mvT hZ28 (own_w hw 3 rfl)) (mvT hZ28 (own_w hw 4 rfl)) (mvT hZ28 (own_w hw 5 rfl)) (by decide) (backOf (W := 0) (rm_ol4_none l Z a0 hw [] r1_28 b_28 kb_28 cs (own_b (v1a &&& (255 : Int32))) (own_b (v2a &&& (255 : Int32))) (own_b (v3a &&& (255 : Int32))) (own_b (v4a &&& (255 : Int32))) va kva a_LIVE a_TEST a_MANAGEMENT l_LIVE b_LIVE kb_LIVE l_TEST b_TEST kb_TEST l_MANAGEMENT b_MANAGEMENT kb_MANAGEMENT T28.heap n0 O79 S_VALUES E_va V_va E_LIVE F_LIVE Es_LIVE Fc_LIVE Fv_LIVE V_LIVE E_TEST F_TEST Es_TEST Fc_TEST Fv_TEST V_TEST E_MANAGEMENT F_MANAGEMENT Es_MANAGEMENT Fc_MANAGEMENT Fv_MANAGEMENT V_MANAGEMENT S_COMPACT g28_0 g28_1 g28_2 g28_3 hcs (by omega) (own_all_neg fun q => hc34 ((own_blit (108 : Int32)).mp q)) (own_all_neg fun q => hc51 ((own_blit (116 : Int32)).mp q)) ((own_all_pos ((own_blit (109 : Int32)).mpr hc68)).trans ((own_all_pos ((own_blit (103 : Int32)).mpr hc69)).trans (own_all_neg fun q => hc70 ((own_blit (109 : Int32)).mp q))))) hZ28 (own_w hw 5 rfl) (own_w hw 4 rfl) (by decide) (by decide)) (g := (mkF m 383 #[.val (.int sel), .val (.int pos), .val (.int chh), .val (.int lng), .val (.int aa), .val (.int bb), .val (.int bs), .val (.ref ob1), .val (.int (4 : Int32)), .val (.int (0 : Int32)), .val (.ref r1_28), .val .null, .val (.int (v1a &&& (255 : Int32))), .val (.int (v2a &&& (255 : Int32))), .val (.int (v3a &&& (255 : Int32))), .val (.int (v4a &&& (255 : Int32)))] [(.ref r1_28)])) rfl (by rw [hml]; rfl) (argsL := [(.ref r1_28)]) (rest := []) (lenOf own_pd__28Ljava_2flang_2fString_3b_29Lcom_2fexample_2fostiarius_2fostiarius_2fkey_2fKeyKind_3b rfl) rfl (by show 2 * 0 + _ ≤ _; exact Nat.le_of_eq rfl) (hb hby at_383) (fun _ _ => ⟨rfl, rfl, (by decide : 4 + 1 ≤ _), (by decide : 17 + 3 ≤ _)⟩)
                      dsimp only [Pt.U, Pt.locs, Pt.cells, Pt.slots] at X80 l80 y80 z80 st80 hQ80
                      subst l80 y80 z80
                      obtain ⟨rfl, M80, K80⟩ := hQ80
                      have N80 := Fr.app N28 M80
                      refine own_by st80 ?_
                      have sk80 : ∀ x ∈ ([] : List Addr), Safe Z own_EL T28.vm T28.heap x := sf0
                      have R80 := R28.trans (CHr.keep K80 sk80 R28.1)
                      have z80 := K80.1
                      refine own_by (fun _ k => XS.aload X80.here hx rfl (hb hby at_386) rfl rfl k) ?_
                      refine own_by (fun _ k => Jvm.RoadKit.acmp (g := (mkF m 388 #[.val (.int sel), .val (.int pos), .val (.int chh), .val (.int lng), .val (.int aa), .val (.int bb), .val (.int bs), .val (.ref ob1), .val (.int (4 : Int32)), .val (.int (0 : Int32)), .val (.ref r1_28), .val .null, .val (.int (v1a &&& (255 : Int32))), .val (.int (v2a &&& (255 : Int32))), .val (.int (v3a &&& (255 : Int32))), .val (.int (v4a &&& (255 : Int32)))] [.null, .null])) X80 hx rfl rfl rfl (pc0 := 388) (pc' := 391) (same := true) rfl (hb hby at_388) rfl (decide_eq_true rfl) (by decide) (by decide) k) ?_
                      show own_Go p e below (T80.setTop (mkF m 391 #[.val (.int sel), .val (.int pos), .val (.int chh), .val (.int lng), .val (.int aa), .val (.int bb), .val (.int bs), .val (.ref ob1), .val (.int (4 : Int32)), .val (.int (0 : Int32)), .val (.ref r1_28), .val .null, .val (.int (v1a &&& (255 : Int32))), .val (.int (v2a &&& (255 : Int32))), .val (.int (v3a &&& (255 : Int32))), .val (.int (v4a &&& (255 : Int32)))] [])) _
                      refine own_by (fun _ k => XS.iconst X80.here hx rfl (hb hby at_391) k) ?_
                      refine own_by (fun _ k => XS.goto X80.here hx rfl (pc0 := 392) (pc' := 396) rfl (hb hby at_392) (by decide) (by decide) k) ?_
                      have K81 : Keep h0 T80.heap [] := ((((Keep.refl h0 []).trans Kj5 all0).trans K28 all0).trans K80 all0)
                      obtain ⟨fs, hr, hrun, hended, hW⟩ := X80.leaveW S28 (by first | omega | (rw [e0]; omega)) (v := some (.int (1 : Int32))) (fun h => by rw [Bd.returns] at h; cases h)
                      have RR := R80.trans (CHv.at X80 hZ28 hEL R80.1)
                      have RR' : CHr Z own_EL s.vm s.heap T80.vm T80.heap := by rw [hh]; exact RR
                      refine ⟨_, _, retN X80 hx (t := .boolean) Bd.returns (by simp) (hb hby at_396) hr, hrun, hended, _, _, rfl, ?_, RR', ⟨_, rfl⟩, hW.2.1, hW.2.2.1, hW.2.2.2.mono (by decide) (by decide)⟩
                      show Q_rm_law Z sel pos chh lng aa bb va kva a_LIVE a_TEST a_MANAGEMENT l_LIVE b_LIVE kb_LIVE l_TEST b_TEST kb_TEST l_MANAGEMENT b_MANAGEMENT kb_MANAGEMENT cs h0 n0 _ T80.heap _
                      exact ⟨rfl, N80, K81⟩
                  · skip
                    refine own_by (fun _ k => XS.icmpYes X28.here hx rfl (pc0 := 359) (pc' := 381) rfl (hb hby at_359) rfl (feq hc69).2 (by decide) (by decide) k) ?_
                    show own_Go p e below (T28.setTop (mkF m 381 #[.val (.int sel), .val (.int pos), .val (.int chh), .val (.int lng), .val (.int aa), .val (.int bb), .val (.int bs), .val (.ref ob1), .val (.int (4 : Int32)), .val (.int (0 : Int32)), .val (.ref r1_28), .val .null, .val (.int (v1a &&& (255 : Int32))), .val (.int (v2a &&& (255 : Int32))), .val (.int (v3a &&& (255 : Int32))), .val (.int (v4a &&& (255 : Int32)))] [])) _
                    refine own_by (fun _ k => XS.aload X28.here hx rfl (hb hby at_381) rfl rfl k) ?_
                    have O82 : Old Z n0 T28.heap := (O27.keep K28 all0)
                    obtain ⟨_, _, ⟨T83, L83, k83, n83⟩, -, X83, ⟨Lc83, hQ83, l83, y83, z83⟩, st83⟩ := Jvm.LawKit.callS X28 hx (y := (⟨s2_, "ofLabel", s3_⟩ : MethodName)) ho28 (mvT hZ28 (own_w hw 2 rfl)) (mvT hZ28 (own_w hw 3 rfl)) (mvT hZ28 (own_w hw 4 rfl)) (mvT hZ28 (own_w hw 5 rfl)) (by decide) (backOf (W := 0) (rm_ol4_none l Z a0 hw [] r1_28 b_28 kb_28 cs (own_b (v1a &&& (255 : Int32))) (own_b (v2a &&& (255 : Int32))) (own_b (v3a &&& (255 : Int32))) (own_b (v4a &&& (255 : Int32))) va kva a_LIVE a_TEST a_MANAGEMENT l_LIVE b_LIVE kb_LIVE l_TEST b_TEST kb_TEST l_MANAGEMENT b_MANAGEMENT kb_MANAGEMENT T28.heap n0 O82 S_VALUES E_va V_va E_LIVE F_LIVE Es_LIVE Fc_LIVE Fv_LIVE V_LIVE E_TEST F_TEST Es_TEST Fc_TEST Fv_TEST V_TEST E_MANAGEMENT F_MANAGEMENT Es_MANAGEMENT Fc_MANAGEMENT Fv_MANAGEMENT V_MANAGEMENT S_COMPACT g28_0 g28_1 g28_2 g28_3 hcs (by omega) (own_all_neg fun q => hc34 ((own_blit (108 : Int32)).mp q)) (own_all_neg fun q => hc51 ((own_blit (116 : Int32)).mp q)) ((own_all_pos ((own_blit (109 : Int32)).mpr hc68)).trans (own_all_neg fun q => hc69 ((own_blit (103 : Int32)).mp q)))) hZ28 (own_w hw 5 rfl) (own_w hw 4 rfl) (by decide) (by decide)) (g := (mkF m 383 #[.val (.int sel), .val (.int pos), .val (.int chh), .val (.int lng), .val (.int aa), .val (.int bb), .val (.int bs), .val (.ref ob1), .val (.int (4 : Int32)), .val (.int (0 : Int32)), .val (.ref r1_28), .val .null, .val (.int (v1a &&& (255 : Int32))), .val (.int (v2a &&& (255 : Int32))), .val (.int (v3a &&& (255 : Int32))), .val (.int (v4a &&& (255 : Int32)))] [(.ref r1_28)])) rfl (by rw [hml]; rfl) (argsL := [(.ref r1_28)]) (rest := []) (lenOf own_pd__28Ljava_2flang_2fString_3b_29Lcom_2fexample_2fostiarius_2fostiarius_2fkey_2fKeyKind_3b rfl) rfl (by show 2 * 0 + _ ≤ _; exact Nat.le_of_eq rfl) (hb hby at_383) (fun _ _ => ⟨rfl, rfl, (by decide : 4 + 1 ≤ _), (by decide : 17 + 3 ≤ _)⟩)
                    dsimp only [Pt.U, Pt.locs, Pt.cells, Pt.slots] at X83 l83 y83 z83 st83 hQ83
                    subst l83 y83 z83
                    obtain ⟨rfl, M83, K83⟩ := hQ83
                    have N83 := Fr.app N28 M83
                    refine own_by st83 ?_
                    have sk83 : ∀ x ∈ ([] : List Addr), Safe Z own_EL T28.vm T28.heap x := sf0
                    have R83 := R28.trans (CHr.keep K83 sk83 R28.1)
                    have z83 := K83.1
                    refine own_by (fun _ k => XS.aload X83.here hx rfl (hb hby at_386) rfl rfl k) ?_
                    refine own_by (fun _ k => Jvm.RoadKit.acmp (g := (mkF m 388 #[.val (.int sel), .val (.int pos), .val (.int chh), .val (.int lng), .val (.int aa), .val (.int bb), .val (.int bs), .val (.ref ob1), .val (.int (4 : Int32)), .val (.int (0 : Int32)), .val (.ref r1_28), .val .null, .val (.int (v1a &&& (255 : Int32))), .val (.int (v2a &&& (255 : Int32))), .val (.int (v3a &&& (255 : Int32))), .val (.int (v4a &&& (255 : Int32)))] [.null, .null])) X83 hx rfl rfl rfl (pc0 := 388) (pc' := 391) (same := true) rfl (hb hby at_388) rfl (decide_eq_true rfl) (by decide) (by decide) k) ?_
                    show own_Go p e below (T83.setTop (mkF m 391 #[.val (.int sel), .val (.int pos), .val (.int chh), .val (.int lng), .val (.int aa), .val (.int bb), .val (.int bs), .val (.ref ob1), .val (.int (4 : Int32)), .val (.int (0 : Int32)), .val (.ref r1_28), .val .null, .val (.int (v1a &&& (255 : Int32))), .val (.int (v2a &&& (255 : Int32))), .val (.int (v3a &&& (255 : Int32))), .val (.int (v4a &&& (255 : Int32)))] [])) _
                    refine own_by (fun _ k => XS.iconst X83.here hx rfl (hb hby at_391) k) ?_
                    refine own_by (fun _ k => XS.goto X83.here hx rfl (pc0 := 392) (pc' := 396) rfl (hb hby at_392) (by decide) (by decide) k) ?_
                    have K84 : Keep h0 T83.heap [] := ((((Keep.refl h0 []).trans Kj5 all0).trans K28 all0).trans K83 all0)
                    obtain ⟨fs, hr, hrun, hended, hW⟩ := X83.leaveW S28 (by first | omega | (rw [e0]; omega)) (v := some (.int (1 : Int32))) (fun h => by rw [Bd.returns] at h; cases h)
                    have RR := R83.trans (CHv.at X83 hZ28 hEL R83.1)
                    have RR' : CHr Z own_EL s.vm s.heap T83.vm T83.heap := by rw [hh]; exact RR
                    refine ⟨_, _, retN X83 hx (t := .boolean) Bd.returns (by simp) (hb hby at_396) hr, hrun, hended, _, _, rfl, ?_, RR', ⟨_, rfl⟩, hW.2.1, hW.2.2.1, hW.2.2.2.mono (by decide) (by decide)⟩
                    show Q_rm_law Z sel pos chh lng aa bb va kva a_LIVE a_TEST a_MANAGEMENT l_LIVE b_LIVE kb_LIVE l_TEST b_TEST kb_TEST l_MANAGEMENT b_MANAGEMENT kb_MANAGEMENT cs h0 n0 _ T83.heap _
                    exact ⟨rfl, N83, K84⟩
                · skip
                  refine own_by (fun _ k => XS.icmpYes X28.here hx rfl (pc0 := 352) (pc' := 381) rfl (hb hby at_352) rfl (feq hc68).2 (by decide) (by decide) k) ?_
                  show own_Go p e below (T28.setTop (mkF m 381 #[.val (.int sel), .val (.int pos), .val (.int chh), .val (.int lng), .val (.int aa), .val (.int bb), .val (.int bs), .val (.ref ob1), .val (.int (4 : Int32)), .val (.int (0 : Int32)), .val (.ref r1_28), .val .null, .val (.int (v1a &&& (255 : Int32))), .val (.int (v2a &&& (255 : Int32))), .val (.int (v3a &&& (255 : Int32))), .val (.int (v4a &&& (255 : Int32)))] [])) _
                  refine own_by (fun _ k => XS.aload X28.here hx rfl (hb hby at_381) rfl rfl k) ?_
                  have O85 : Old Z n0 T28.heap := (O27.keep K28 all0)
                  obtain ⟨_, _, ⟨T86, L86, k86, n86⟩, -, X86, ⟨Lc86, hQ86, l86, y86, z86⟩, st86⟩ := Jvm.LawKit.callS X28 hx (y := (⟨s2_, "ofLabel", s3_⟩ : MethodName)) ho28 (mvT hZ28 (own_w hw 2 rfl)) (mvT hZ28 (own_w hw 3 rfl)) (mvT hZ28 (own_w hw 4 rfl)) (mvT hZ28 (own_w hw 5 rfl)) (by decide) (backOf (W := 0) (rm_ol4_none l Z a0 hw [] r1_28 b_28 kb_28 cs (own_b (v1a &&& (255 : Int32))) (own_b (v2a &&& (255 : Int32))) (own_b (v3a &&& (255 : Int32))) (own_b (v4a &&& (255 : Int32))) va kva a_LIVE a_TEST a_MANAGEMENT l_LIVE b_LIVE kb_LIVE l_TEST b_TEST kb_TEST l_MANAGEMENT b_MANAGEMENT kb_MANAGEMENT T28.heap n0 O85 S_VALUES E_va V_va E_LIVE F_LIVE Es_LIVE Fc_LIVE Fv_LIVE V_LIVE E_TEST F_TEST Es_TEST Fc_TEST Fv_TEST V_TEST E_MANAGEMENT F_MANAGEMENT Es_MANAGEMENT Fc_MANAGEMENT Fv_MANAGEMENT V_MANAGEMENT S_COMPACT g28_0 g28_1 g28_2 g28_3 hcs (by omega) (own_all_neg fun q => hc34 ((own_blit (108 : Int32)).mp q)) (own_all_neg fun q => hc51 ((own_blit (116 : Int32)).mp q)) (own_all_neg fun q => hc68 ((own_blit (109 : Int32)).mp q))) hZ28 (own_w hw 5 rfl) (own_w hw 4 rfl) (by decide) (by decide)) (g := (mkF m 383 #[.val (.int sel), .val (.int pos), .val (.int chh), .val (.int lng), .val (.int aa), .val (.int bb), .val (.int bs), .val (.ref ob1), .val (.int (4 : Int32)), .val (.int (0 : Int32)), .val (.ref r1_28), .val .null, .val (.int (v1a &&& (255 : Int32))), .val (.int (v2a &&& (255 : Int32))), .val (.int (v3a &&& (255 : Int32))), .val (.int (v4a &&& (255 : Int32)))] [(.ref r1_28)])) rfl (by rw [hml]; rfl) (argsL := [(.ref r1_28)]) (rest := []) (lenOf own_pd__28Ljava_2flang_2fString_3b_29Lcom_2fexample_2fostiarius_2fostiarius_2fkey_2fKeyKind_3b rfl) rfl (by show 2 * 0 + _ ≤ _; exact Nat.le_of_eq rfl) (hb hby at_383) (fun _ _ => ⟨rfl, rfl, (by decide : 4 + 1 ≤ _), (by decide : 17 + 3 ≤ _)⟩)
                  dsimp only [Pt.U, Pt.locs, Pt.cells, Pt.slots] at X86 l86 y86 z86 st86 hQ86
                  subst l86 y86 z86
                  obtain ⟨rfl, M86, K86⟩ := hQ86
                  have N86 := Fr.app N28 M86
                  refine own_by st86 ?_
                  have sk86 : ∀ x ∈ ([] : List Addr), Safe Z own_EL T28.vm T28.heap x := sf0
                  have R86 := R28.trans (CHr.keep K86 sk86 R28.1)
                  have z86 := K86.1
                  refine own_by (fun _ k => XS.aload X86.here hx rfl (hb hby at_386) rfl rfl k) ?_
                  refine own_by (fun _ k => Jvm.RoadKit.acmp (g := (mkF m 388 #[.val (.int sel), .val (.int pos), .val (.int chh), .val (.int lng), .val (.int aa), .val (.int bb), .val (.int bs), .val (.ref ob1), .val (.int (4 : Int32)), .val (.int (0 : Int32)), .val (.ref r1_28), .val .null, .val (.int (v1a &&& (255 : Int32))), .val (.int (v2a &&& (255 : Int32))), .val (.int (v3a &&& (255 : Int32))), .val (.int (v4a &&& (255 : Int32)))] [.null, .null])) X86 hx rfl rfl rfl (pc0 := 388) (pc' := 391) (same := true) rfl (hb hby at_388) rfl (decide_eq_true rfl) (by decide) (by decide) k) ?_
                  show own_Go p e below (T86.setTop (mkF m 391 #[.val (.int sel), .val (.int pos), .val (.int chh), .val (.int lng), .val (.int aa), .val (.int bb), .val (.int bs), .val (.ref ob1), .val (.int (4 : Int32)), .val (.int (0 : Int32)), .val (.ref r1_28), .val .null, .val (.int (v1a &&& (255 : Int32))), .val (.int (v2a &&& (255 : Int32))), .val (.int (v3a &&& (255 : Int32))), .val (.int (v4a &&& (255 : Int32)))] [])) _
                  refine own_by (fun _ k => XS.iconst X86.here hx rfl (hb hby at_391) k) ?_
                  refine own_by (fun _ k => XS.goto X86.here hx rfl (pc0 := 392) (pc' := 396) rfl (hb hby at_392) (by decide) (by decide) k) ?_
                  have K87 : Keep h0 T86.heap [] := ((((Keep.refl h0 []).trans Kj5 all0).trans K28 all0).trans K86 all0)
                  obtain ⟨fs, hr, hrun, hended, hW⟩ := X86.leaveW S28 (by first | omega | (rw [e0]; omega)) (v := some (.int (1 : Int32))) (fun h => by rw [Bd.returns] at h; cases h)
                  have RR := R86.trans (CHv.at X86 hZ28 hEL R86.1)
                  have RR' : CHr Z own_EL s.vm s.heap T86.vm T86.heap := by rw [hh]; exact RR
                  refine ⟨_, _, retN X86 hx (t := .boolean) Bd.returns (by simp) (hb hby at_396) hr, hrun, hended, _, _, rfl, ?_, RR', ⟨_, rfl⟩, hW.2.1, hW.2.2.1, hW.2.2.2.mono (by decide) (by decide)⟩
                  show Q_rm_law Z sel pos chh lng aa bb va kva a_LIVE a_TEST a_MANAGEMENT l_LIVE b_LIVE kb_LIVE l_TEST b_TEST kb_TEST l_MANAGEMENT b_MANAGEMENT kb_MANAGEMENT cs h0 n0 _ T86.heap _
                  exact ⟨rfl, N86, K87⟩
          · skip
            show own_Go p e below (Tj6.setTop (mkF m 231 #[.val (.int sel), .val (.int pos), .val (.int chh), .val (.int lng), .val (.int aa), .val (.int bb), .val (.int bs), .val (.ref ob1), .val (.int (5 : Int32)), .val (.int (0 : Int32)), .unset, .unset, .unset, .unset, .unset, .unset] [(.ref ob1)])) _
            refine own_by (fun _ k => XS.iload Xj6.here hx rfl (hb hby at_231) rfl k) ?_
            have O88 : Old Z n0 Hj5 := (O0.keep Kj5 all0)
            obtain ⟨_, _, ⟨T89, L89, k89, n89⟩, -, X89, S'89, gr89, ⟨Lc89, hQ89, l89, y89, z89, C89⟩, st89⟩ := callSS Xj6 hx (y := (⟨s1_, "prefix", s13_⟩ : MethodName)) hown (mvT hZ (own_w hw 32 rfl)) (mvT hZ (own_w hw 33 rfl)) (mvT hZ (own_w hw 34 rfl)) (mvT hZ (own_w hw 35 rfl)) (by decide) (backOfSH (W := 0) (rm_pre5 l Z a0 hw [] ob1 k1 cs v1a v2a v3a v4a v5a Hj5 n0 O88 hEL S_COMPACT fj5_0 hcs) hZ (own_w hw 35 rfl) (own_w hw 34 rfl) (by decide) (by decide) hEL Rj5.1) (g := (mkF m 233 #[.val (.int sel), .val (.int pos), .val (.int chh), .val (.int lng), .val (.int aa), .val (.int bb), .val (.int bs), .val (.ref ob1), .val (.int (5 : Int32)), .val (.int (0 : Int32)), .unset, .unset, .unset, .unset, .unset, .unset] [(.int (5 : Int32)), (.ref ob1)])) rfl (by rw [hml]; rfl) (argsL := [(.ref ob1), (.int (5 : Int32))]) (rest := []) (lenOf own_pd__28_5bCI_29Ljava_2flang_2fString_3b rfl) rfl (by show 2 * 0 + _ ≤ _; exact Nat.le_of_eq rfl) (hb hby at_233) (fun _ _ => ⟨rfl, ej6, (by decide : 1 + 3 ≤ _), (by decide : 5 + 14 ≤ _)⟩)
            dsimp only [Pt.U, Pt.locs, Pt.cells, Pt.slots] at X89 l89 y89 z89 st89 hQ89 S'89 gr89 C89
            subst l89 y89 z89
            obtain ⟨X89, S89, hZ89, ho89⟩ := rebS S0 (by first | omega | (rw [ej6]; omega)) X89 S'89 gr89 hZ hown
            obtain ⟨r1_89, b_89, kb_89, rfl, M89, K89, g89_0, g89_1, g89_2, g89_3, r89_0⟩ := hQ89
            have N89 := Fr.app Nj6 M89
            refine own_by (fun _ k => st89.trans k) ?_
            have R89 := Rj5.trans C89
            have z89 := K89.1
            have lt_g89_0 : T89.heap.size > r1_89 := g89_0.lt
            have lt_g89_1 : T89.heap.size > r1_89 := g89_1.lt
            have lt_g89_2 : T89.heap.size > r1_89 := g89_2.lt
            have lt_g89_3 : T89.heap.size > b_89 := g89_3.lt
            refine own_by (fun _ k => XS.astore X89.here hx rfl (hb hby at_236) rfl rfl (l' := #[.val (.int sel), .val (.int pos), .val (.int chh), .val (.int lng), .val (.int aa), .val (.int bb), .val (.int bs), .val (.ref ob1), .val (.int (5 : Int32)), .val (.int (0 : Int32)), .val (.ref r1_89), .unset, .unset, .unset, .unset, .unset]) rfl k) ?_
            refine own_by (fun _ k => XS.aconstNull X89.here hx rfl (hb hby at_238) k) ?_
            refine own_by (fun _ k => XS.astore X89.here hx rfl (hb hby at_239) rfl rfl (l' := #[.val (.int sel), .val (.int pos), .val (.int chh), .val (.int lng), .val (.int aa), .val (.int bb), .val (.int bs), .val (.ref ob1), .val (.int (5 : Int32)), .val (.int (0 : Int32)), .val (.ref r1_89), .val .null, .unset, .unset, .unset, .unset]) rfl k) ?_
            refine own_by (fun _ k => XS.iload X89.here hx rfl (hb hby at_241) rfl k) ?_
            show own_Go p e below (T89.setTop (mkF m 243 #[.val (.int sel), .val (.int pos), .val (.int chh), .val (.int lng), .val (.int aa), .val (.int bb), .val (.int bs), .val (.ref ob1), .val (.int (5 : Int32)), .val (.int (0 : Int32)), .val (.ref r1_89), .val .null, .unset, .unset, .unset, .unset] [(.int (0 : Int32))])) _
            refine own_by (fun _ k => XS.ifNo X89.here hx rfl (hb hby at_243) rfl ((if0 _ _).trans (teq (by decide : (0 : Int32) = (0 : Int32))).2) k) ?_
            show own_Go p e below (T89.setTop (mkF m 246 #[.val (.int sel), .val (.int pos), .val (.int chh), .val (.int lng), .val (.int aa), .val (.int bb), .val (.int bs), .val (.ref ob1), .val (.int (5 : Int32)), .val (.int (0 : Int32)), .val (.ref r1_89), .val .null, .unset, .unset, .unset, .unset] [])) _
            refine own_by (fun _ k => XS.iload X89.here hx rfl (hb hby at_246) rfl k) ?_
            refine own_by (fun _ k => XS.iconst X89.here hx rfl (hb hby at_248) k) ?_
            refine own_by (fun _ k => XS.icmpYes X89.here hx rfl (pc0 := 249) (pc' := 381) rfl (hb hby at_249) rfl (feq (by decide : ¬ ((5 : Int32) = (4 : Int32)))).2 (by decide) (by decide) k) ?_
            show own_Go p e below (T89.setTop (mkF m 381 #[.val (.int sel), .val (.int pos), .val (.int chh), .val (.int lng), .val (.int aa), .val (.int bb), .val (.int bs), .val (.ref ob1), .val (.int (5 : Int32)), .val (.int (0 : Int32)), .val (.ref r1_89), .val .null, .unset, .unset, .unset, .unset] [])) _
            refine own_by (fun _ k => XS.aload X89.here hx rfl (hb hby at_381) rfl rfl k) ?_
            have O90 : Old Z n0 T89.heap := (O88.keep K89 all0)
            obtain ⟨_, _, ⟨T91, L91, k91, n91⟩, -, X91, ⟨Lc91, hQ91, l91, y91, z91⟩, st91⟩ := Jvm.LawKit.callS X89 hx (y := (⟨s2_, "ofLabel", s3_⟩ : MethodName)) ho89 (mvT hZ89 (own_w hw 2 rfl)) (mvT hZ89 (own_w hw 3 rfl)) (mvT hZ89 (own_w hw 4 rfl)) (mvT hZ89 (own_w hw 5 rfl)) (by decide) (backOf (W := 0) (rm_olNone_none l Z a0 hw [] r1_89 b_89 kb_89 cs (5 : Int32) [(.int (own_b (v1a &&& (255 : Int32)))), (.int (own_b (v2a &&& (255 : Int32)))), (.int (own_b (v3a &&& (255 : Int32)))), (.int (own_b (v4a &&& (255 : Int32)))), (.int (own_b (v5a &&& (255 : Int32))))] va kva a_LIVE a_TEST a_MANAGEMENT l_LIVE b_LIVE kb_LIVE l_TEST b_TEST kb_TEST l_MANAGEMENT b_MANAGEMENT kb_MANAGEMENT T89.heap n0 O90 S_VALUES E_va V_va E_LIVE F_LIVE Es_LIVE Fc_LIVE Fv_LIVE V_LIVE E_TEST F_TEST Es_TEST Fc_TEST Fv_TEST V_TEST E_MANAGEMENT F_MANAGEMENT Es_MANAGEMENT Fc_MANAGEMENT Fv_MANAGEMENT V_MANAGEMENT S_COMPACT g89_0 g89_1 g89_2 g89_3 hcs (by omega) (by decide)) hZ89 (own_w hw 5 rfl) (own_w hw 4 rfl) (by decide) (by decide)) (g := (mkF m 383 #[.val (.int sel), .val (.int pos), .val (.int chh), .val (.int lng), .val (.int aa), .val (.int bb), .val (.int bs), .val (.ref ob1), .val (.int (5 : Int32)), .val (.int (0 : Int32)), .val (.ref r1_89), .val .null, .unset, .unset, .unset, .unset] [(.ref r1_89)])) rfl (by rw [hml]; rfl) (argsL := [(.ref r1_89)]) (rest := []) (lenOf own_pd__28Ljava_2flang_2fString_3b_29Lcom_2fexample_2fostiarius_2fostiarius_2fkey_2fKeyKind_3b rfl) rfl (by show 2 * 0 + _ ≤ _; exact Nat.le_of_eq rfl) (hb hby at_383) (fun _ _ => ⟨rfl, rfl, (by decide : 4 + 1 ≤ _), (by decide : 19 + 3 ≤ _)⟩)
            dsimp only [Pt.U, Pt.locs, Pt.cells, Pt.slots] at X91 l91 y91 z91 st91 hQ91
            subst l91 y91 z91
            obtain ⟨rfl, M91, K91⟩ := hQ91
            have N91 := Fr.app N89 M91
            refine own_by st91 ?_
            have sk91 : ∀ x ∈ ([] : List Addr), Safe Z own_EL T89.vm T89.heap x := sf0
            have R91 := R89.trans (CHr.keep K91 sk91 R89.1)
            have z91 := K91.1
            refine own_by (fun _ k => XS.aload X91.here hx rfl (hb hby at_386) rfl rfl k) ?_
            refine own_by (fun _ k => Jvm.RoadKit.acmp (g := (mkF m 388 #[.val (.int sel), .val (.int pos), .val (.int chh), .val (.int lng), .val (.int aa), .val (.int bb), .val (.int bs), .val (.ref ob1), .val (.int (5 : Int32)), .val (.int (0 : Int32)), .val (.ref r1_89), .val .null, .unset, .unset, .unset, .unset] [.null, .null])) X91 hx rfl rfl rfl (pc0 := 388) (pc' := 391) (same := true) rfl (hb hby at_388) rfl (decide_eq_true rfl) (by decide) (by decide) k) ?_
            show own_Go p e below (T91.setTop (mkF m 391 #[.val (.int sel), .val (.int pos), .val (.int chh), .val (.int lng), .val (.int aa), .val (.int bb), .val (.int bs), .val (.ref ob1), .val (.int (5 : Int32)), .val (.int (0 : Int32)), .val (.ref r1_89), .val .null, .unset, .unset, .unset, .unset] [])) _
            refine own_by (fun _ k => XS.iconst X91.here hx rfl (hb hby at_391) k) ?_
            refine own_by (fun _ k => XS.goto X91.here hx rfl (pc0 := 392) (pc' := 396) rfl (hb hby at_392) (by decide) (by decide) k) ?_
            have K92 : Keep h0 T91.heap [] := ((((Keep.refl h0 []).trans Kj5 all0).trans K89 all0).trans K91 all0)
            obtain ⟨fs, hr, hrun, hended, hW⟩ := X91.leaveW S89 (by first | omega | (rw [e0]; omega)) (v := some (.int (1 : Int32))) (fun h => by rw [Bd.returns] at h; cases h)
            have RR := R91.trans (CHv.at X91 hZ89 hEL R91.1)
            have RR' : CHr Z own_EL s.vm s.heap T91.vm T91.heap := by rw [hh]; exact RR
            refine ⟨_, _, retN X91 hx (t := .boolean) Bd.returns (by simp) (hb hby at_396) hr, hrun, hended, _, _, rfl, ?_, RR', ⟨_, rfl⟩, hW.2.1, hW.2.2.1, hW.2.2.2.mono (by decide) (by decide)⟩
            show Q_rm_law Z sel pos chh lng aa bb va kva a_LIVE a_TEST a_MANAGEMENT l_LIVE b_LIVE kb_LIVE l_TEST b_TEST kb_TEST l_MANAGEMENT b_MANAGEMENT kb_MANAGEMENT cs h0 n0 _ T91.heap _
            exact ⟨rfl, N91, K92⟩
        · skip
          show own_Go p e below (Tj6.setTop (mkF m 220 #[.val (.int sel), .val (.int pos), .val (.int chh), .val (.int lng), .val (.int aa), .val (.int bb), .val (.int bs), .val (.ref ob1), .val (.int nn), .val (.int (1 : Int32)), .unset, .unset, .unset, .unset, .unset, .unset] [])) _
          refine own_by (fun _ k => XS.iload Xj6.here hx rfl (hb hby at_220) rfl k) ?_
          refine own_by (fun _ k => XS.ifNo Xj6.here hx rfl (hb hby at_222) rfl ((if0 _ _).trans (feq (by decide : ¬ ((1 : Int32) = (0 : Int32)))).1) k) ?_
          show own_Go p e below (Tj6.setTop (mkF m 225 #[.val (.int sel), .val (.int pos), .val (.int chh), .val (.int lng), .val (.int aa), .val (.int bb), .val (.int bs), .val (.ref ob1), .val (.int nn), .val (.int (1 : Int32)), .unset, .unset, .unset, .unset, .unset, .unset] [])) _
          refine own_by (fun _ k => XS.aconstNull Xj6.here hx rfl (hb hby at_225) k) ?_
          refine own_by (fun _ k => XS.goto Xj6.here hx rfl (pc0 := 226) (pc' := 236) rfl (hb hby at_226) (by decide) (by decide) k) ?_
          refine own_by (fun _ k => XS.astore Xj6.here hx rfl (hb hby at_236) rfl rfl (l' := #[.val (.int sel), .val (.int pos), .val (.int chh), .val (.int lng), .val (.int aa), .val (.int bb), .val (.int bs), .val (.ref ob1), .val (.int nn), .val (.int (1 : Int32)), .val .null, .unset, .unset, .unset, .unset, .unset]) rfl k) ?_
          refine own_by (fun _ k => XS.aconstNull Xj6.here hx rfl (hb hby at_238) k) ?_
          refine own_by (fun _ k => XS.astore Xj6.here hx rfl (hb hby at_239) rfl rfl (l' := #[.val (.int sel), .val (.int pos), .val (.int chh), .val (.int lng), .val (.int aa), .val (.int bb), .val (.int bs), .val (.ref ob1), .val (.int nn), .val (.int (1 : Int32)), .val .null, .val .null, .unset, .unset, .unset, .unset]) rfl k) ?_
          refine own_by (fun _ k => XS.iload Xj6.here hx rfl (hb hby at_241) rfl k) ?_
          show own_Go p e below (Tj6.setTop (mkF m 243 #[.val (.int sel), .val (.int pos), .val (.int chh), .val (.int lng), .val (.int aa), .val (.int bb), .val (.int bs), .val (.ref ob1), .val (.int nn), .val (.int (1 : Int32)), .val .null, .val .null, .unset, .unset, .unset, .unset] [(.int (1 : Int32))])) _
          refine own_by (fun _ k => XS.ifYes Xj6.here hx rfl (pc0 := 243) (pc' := 381) rfl (hb hby at_243) rfl ((if0 _ _).trans (feq (by decide : ¬ ((1 : Int32) = (0 : Int32)))).2) (by decide) (by decide) k) ?_
          show own_Go p e below (Tj6.setTop (mkF m 381 #[.val (.int sel), .val (.int pos), .val (.int chh), .val (.int lng), .val (.int aa), .val (.int bb), .val (.int bs), .val (.ref ob1), .val (.int nn), .val (.int (1 : Int32)), .val .null, .val .null, .unset, .unset, .unset, .unset] [])) _
          refine own_by (fun _ k => XS.aload Xj6.here hx rfl (hb hby at_381) rfl rfl k) ?_
          have O93 : Old Z n0 Hj5 := (O0.keep Kj5 all0)
          obtain ⟨_, _, ⟨T94, L94, k94, n94⟩, -, X94, ⟨Lc94, hQ94, l94, y94, z94⟩, st94⟩ := Jvm.LawKit.callS Xj6 hx (y := (⟨s2_, "ofLabel", s3_⟩ : MethodName)) hown (mvT hZ (own_w hw 2 rfl)) (mvT hZ (own_w hw 3 rfl)) (mvT hZ (own_w hw 4 rfl)) (mvT hZ (own_w hw 5 rfl)) (by decide) (backOf (W := 0) (rm_olnull l Z a0 hw [] va kva a_LIVE a_TEST a_MANAGEMENT l_LIVE b_LIVE kb_LIVE l_TEST b_TEST kb_TEST l_MANAGEMENT b_MANAGEMENT kb_MANAGEMENT Hj5 n0 O93 S_VALUES E_va V_va E_LIVE F_LIVE Es_LIVE Fc_LIVE Fv_LIVE V_LIVE E_TEST F_TEST Es_TEST Fc_TEST Fv_TEST V_TEST E_MANAGEMENT F_MANAGEMENT Es_MANAGEMENT Fc_MANAGEMENT Fv_MANAGEMENT V_MANAGEMENT) hZ (own_w hw 5 rfl) (own_w hw 4 rfl) (by decide) (by decide)) (g := (mkF m 383 #[.val (.int sel), .val (.int pos), .val (.int chh), .val (.int lng), .val (.int aa), .val (.int bb), .val (.int bs), .val (.ref ob1), .val (.int nn), .val (.int (1 : Int32)), .val .null, .val .null, .unset, .unset, .unset, .unset] [.null])) rfl (by rw [hml]; rfl) (argsL := [.null]) (rest := []) (lenOf own_pd__28Ljava_2flang_2fString_3b_29Lcom_2fexample_2fostiarius_2fostiarius_2fkey_2fKeyKind_3b rfl) rfl (by show 2 * 0 + _ ≤ _; exact Nat.le_of_eq rfl) (hb hby at_383) (fun _ _ => ⟨rfl, ej6, (by decide : 1 + 1 ≤ _), (by decide : 5 + 3 ≤ _)⟩)
          dsimp only [Pt.U, Pt.locs, Pt.cells, Pt.slots] at X94 l94 y94 z94 st94 hQ94
          subst l94 y94 z94
          obtain ⟨rfl, M94, K94⟩ := hQ94
          have N94 := Fr.app Nj6 M94
          refine own_by st94 ?_
          have sk94 : ∀ x ∈ ([] : List Addr), Safe Z own_EL s.vm Hj5 x := sf0
          have R94 := Rj5.trans (CHr.keep K94 sk94 Rj5.1)
          have z94 := K94.1
          refine own_by (fun _ k => XS.aload X94.here hx rfl (hb hby at_386) rfl rfl k) ?_
          refine own_by (fun _ k => Jvm.RoadKit.acmp (g := (mkF m 388 #[.val (.int sel), .val (.int pos), .val (.int chh), .val (.int lng), .val (.int aa), .val (.int bb), .val (.int bs), .val (.ref ob1), .val (.int nn), .val (.int (1 : Int32)), .val .null, .val .null, .unset, .unset, .unset, .unset] [.null, .null])) X94 hx rfl rfl rfl (pc0 := 388) (pc' := 391) (same := true) rfl (hb hby at_388) rfl (decide_eq_true rfl) (by decide) (by decide) k) ?_
          show own_Go p e below (T94.setTop (mkF m 391 #[.val (.int sel), .val (.int pos), .val (.int chh), .val (.int lng), .val (.int aa), .val (.int bb), .val (.int bs), .val (.ref ob1), .val (.int nn), .val (.int (1 : Int32)), .val .null, .val .null, .unset, .unset, .unset, .unset] [])) _
          refine own_by (fun _ k => XS.iconst X94.here hx rfl (hb hby at_391) k) ?_
          refine own_by (fun _ k => XS.goto X94.here hx rfl (pc0 := 392) (pc' := 396) rfl (hb hby at_392) (by decide) (by decide) k) ?_
          have K95 : Keep h0 T94.heap [] := (((Keep.refl h0 []).trans Kj5 all0).trans K94 all0)
          obtain ⟨fs, hr, hrun, hended, hW⟩ := X94.leaveW S0 (by first | omega | (rw [e0]; omega)) (v := some (.int (1 : Int32))) (fun h => by rw [Bd.returns] at h; cases h)
          have RR := R94.trans (CHv.at X94 hZ hEL R94.1)
          have RR' : CHr Z own_EL s.vm s.heap T94.vm T94.heap := by rw [hh]; exact RR
          refine ⟨_, _, retN X94 hx (t := .boolean) Bd.returns (by simp) (hb hby at_396) hr, hrun, hended, _, _, rfl, ?_, RR', ⟨_, rfl⟩, hW.2.1, hW.2.2.1, hW.2.2.2.mono (by decide) (by decide)⟩
          show Q_rm_law Z sel pos chh lng aa bb va kva a_LIVE a_TEST a_MANAGEMENT l_LIVE b_LIVE kb_LIVE l_TEST b_TEST kb_TEST l_MANAGEMENT b_MANAGEMENT kb_MANAGEMENT cs h0 n0 _ T94.heap _
          exact ⟨rfl, N94, K95⟩
      by_cases hc96 : (((sel.toUInt32 >>> ((3 : Int32) &&& 31).toUInt32).toInt32) &&& (7 : Int32)) = (0 : Int32)
      · skip
        refine own_by (fun _ k => XS.ifNo Xj5.here hx rfl (hb hby at_210) rfl ((if0 _ _).trans (teq hc96).2) k) ?_
        show own_Go p e below (Tj5.setTop (mkF m 213 #[.val (.int sel), .val (.int pos), .val (.int chh), .val (.int lng), .val (.int aa), .val (.int bb), .val (.int bs), .val (.ref ob1), .val (.int nn), .unset, .unset, .unset, .unset, .unset, .unset, .unset] [])) _
        refine own_by (fun _ k => XS.iconst Xj5.here hx rfl (hb hby at_213) k) ?_
        refine own_by (fun _ k => XS.goto Xj5.here hx rfl (pc0 := 214) (pc' := 218) rfl (hb hby at_214) (by decide) (by decide) k) ?_
        exact jn6 _ ⟨_, Xj5, Nj5⟩ ej5 (1 : Int32) (Or.inr rfl)
      · skip
        refine own_by (fun _ k => XS.ifYes Xj5.here hx rfl (pc0 := 210) (pc' := 217) rfl (hb hby at_210) rfl ((if0 _ _).trans (feq hc96).2) (by decide) (by decide) k) ?_
        show own_Go p e below (Tj5.setTop (mkF m 217 #[.val (.int sel), .val (.int pos), .val (.int chh), .val (.int lng), .val (.int aa), .val (.int bb), .val (.int bs), .val (.ref ob1), .val (.int nn), .unset, .unset, .unset, .unset, .unset, .unset, .unset] [])) _
        refine own_by (fun _ k => XS.iconst Xj5.here hx rfl (hb hby at_217) k) ?_
        show own_Go p e below (Tj5.setTop (mkF m 218 #[.val (.int sel), .val (.int pos), .val (.int chh), .val (.int lng), .val (.int aa), .val (.int bb), .val (.int bs), .val (.ref ob1), .val (.int nn), .unset, .unset, .unset, .unset, .unset, .unset, .unset] [(.int (0 : Int32))])) _
        exact jn6 _ ⟨_, Xj5, Nj5⟩ ej5 (0 : Int32) (Or.inl rfl)
    refine own_by (fun _ k => XS.iloadN X4.here hx rfl (hb hby at_172) rfl k) ?_
    refine own_by (fun _ k => XS.iconst X4.here hx rfl (hb hby at_173) k) ?_
    refine own_by (fun _ k => XS.iushr X4.here hx rfl (hb hby at_174) rfl k) ?_
    refine own_by (fun _ k => XS.iconst X4.here hx rfl (hb hby at_175) k) ?_
    refine own_by (fun _ k => XS.iand X4.here hx rfl (hb hby at_176) rfl k) ?_
    by_cases hc97 : (((sel.toUInt32 >>> ((2 : Int32) &&& 31).toUInt32).toInt32) &&& (1 : Int32)) = (0 : Int32)
    · skip
      refine own_by (fun _ k => XS.ifYes X4.here hx rfl (pc0 := 177) (pc' := 195) rfl (hb hby at_177) rfl ((if0 _ _).trans (teq hc97).1) (by decide) (by decide) k) ?_
      show own_Go p e below (T4.setTop (mkF m 195 #[.val (.int sel), .val (.int pos), .val (.int chh), .val (.int lng), .val (.int aa), .val (.int bb), .val (.int bs), .val (.ref ob1), .unset, .unset, .unset, .unset, .unset, .unset, .unset, .unset] [])) _
      have K98 : Keep h0 h4 [] := (((Keep.refl h0 []).trans Kj2 all0).wr W4 (Or.inr (by omega)))
      exact jn5 _ _ ⟨_, X4, N4⟩ e4 u1a u2a u3a u4a bb K98 R4 Vw4
    · skip
      refine own_by (fun _ k => XS.ifNo X4.here hx rfl (hb hby at_177) rfl ((if0 _ _).trans (feq hc97).1) k) ?_
      show own_Go p e below (T4.setTop (mkF m 180 #[.val (.int sel), .val (.int pos), .val (.int chh), .val (.int lng), .val (.int aa), .val (.int bb), .val (.int bs), .val (.ref ob1), .unset, .unset, .unset, .unset, .unset, .unset, .unset, .unset] [])) _
      refine own_by (fun _ k => XS.aload X4.here hx rfl (hb hby at_180) rfl rfl k) ?_
      refine own_by (fun _ k => XS.iloadN X4.here hx rfl (hb hby at_182) rfl k) ?_
      refine own_by (X4.ldcInt hx hown (mvT hZ (own_w hw 1 rfl)) (g := (mkF m 183 #[.val (.int sel), .val (.int pos), .val (.int chh), .val (.int lng), .val (.int aa), .val (.int bb), .val (.int bs), .val (.ref ob1), .unset, .unset, .unset, .unset, .unset, .unset, .unset, .unset] [(.int pos), (.ref ob1)])) rfl (hb hby at_183)) ?_
      refine own_by (fun _ k => XS.iand X4.here hx rfl (hb hby at_185) rfl k) ?_
      refine own_by (fun _ k => XS.iconst X4.here hx rfl (hb hby at_186) k) ?_
      refine own_by (fun _ k => iremM (g := (mkF m 187 #[.val (.int sel), .val (.int pos), .val (.int chh), .val (.int lng), .val (.int aa), .val (.int bb), .val (.int bs), .val (.ref ob1), .unset, .unset, .unset, .unset, .unset, .unset, .unset, .unset] [(.int (5 : Int32)), (.int (pos &&& (2147483647 : Int32))), (.ref ob1)])) X4 hx rfl (hb hby at_187) rfl (by decide : ¬ ((5 : Int32) = (0 : Int32))) k) ?_
      show own_Go p e below (T4.setTop (mkF m 188 #[.val (.int sel), .val (.int pos), .val (.int chh), .val (.int lng), .val (.int aa), .val (.int bb), .val (.int bs), .val (.ref ob1), .unset, .unset, .unset, .unset, .unset, .unset, .unset, .unset] [(.int ((pos &&& (2147483647 : Int32)) % (5 : Int32))), (.ref ob1)])) _
      obtain ⟨ix, e_ix⟩ : ∃ z, z = ((pos &&& (2147483647 : Int32)) % (5 : Int32)) := ⟨_, rfl⟩
      rw [← e_ix]
      have h_ix := own_rem5 e_ix
      rcases h_ix with rfl | rfl | rfl | rfl | rfl
      · skip
        show own_Go p e below (T4.setTop (mkF m 188 #[.val (.int sel), .val (.int pos), .val (.int chh), .val (.int lng), .val (.int aa), .val (.int bb), .val (.int bs), .val (.ref ob1), .unset, .unset, .unset, .unset, .unset, .unset, .unset, .unset] [(.int (0 : Int32)), (.ref ob1)])) _
        refine own_by (fun _ k => XS.iloadN X4.here hx rfl (hb hby at_188) rfl k) ?_
        refine own_by (fun _ k => XS.sipush X4.here hx rfl (hb hby at_189) k) ?_
        refine own_by (fun _ k => XS.iand X4.here hx rfl (hb hby at_192) rfl k) ?_
        refine own_by (fun _ k => XS.i2c X4.here hx rfl (hb hby at_193) rfl k) ?_
        show own_Go p e below (T4.setTop (mkF m 194 #[.val (.int sel), .val (.int pos), .val (.int chh), .val (.int lng), .val (.int aa), .val (.int bb), .val (.int bs), .val (.ref ob1), .unset, .unset, .unset, .unset, .unset, .unset, .unset, .unset] [(.int ((chh &&& (255 : Int32)).toUInt32.toUInt16.toUInt32.toInt32)), (.int (0 : Int32)), (.ref ob1)])) _
        rw [i2c_mask]
        obtain ⟨cl99, Ar99, q99, S99, M99, H99, G99⟩ := (id Vw4)
        have hin99 : ¬ ((0 : Int32) < 0 ∨ cl99.slots.size ≤ ((0 : Int32)).toNatClampNeg) := inb_of S99 ⟨by decide, by decide⟩
        obtain ⟨T99, h99, X99, e99, W99, st99⟩ := stC X4 hx hZ e4 Ar99 (j := (0 : Int32)) hin99 (g := (mkF m 194 #[.val (.int sel), .val (.int pos), .val (.int chh), .val (.int lng), .val (.int aa), .val (.int bb), .val (.int bs), .val (.ref ob1), .unset, .unset, .unset, .unset, .unset, .unset, .unset, .unset] [(.int (chh &&& (255 : Int32))), (.int (0 : Int32)), (.ref ob1)])) rfl rfl (hb hby at_194)
        refine own_by st99 ?_
        rw [own_mask_c] at W99
        have z99 := W99.size
        have N99 := Fr.snoc X99 N4 (by omega)
        have sw99 : Safe Z own_EL s.vm h4 ob1 := sf4_ob1
        have sf99_ob1 := Safe.wr W99 sw99 R4.1 sw99
        have R99 := R4.trans (CHr.wr W99 sw99 R4.1)
        have Vw99 : Arv Z h99 ob1 k1 .char (5 : Int32) [(.int (chh &&& (255 : Int32))), (.int (u2a &&& (255 : Int32))), (.int (u3a &&& (255 : Int32))), (.int (u4a &&& (255 : Int32))), (.int (bb &&& (255 : Int32)))] (.int (0 : Int32)) := Arv.set Ar99 q99 S99 M99 H99 G99 (own_fits_c _) W99 0 rfl (Nat.le_of_ble_eq_true rfl)
        show own_Go p e below (T99.setTop (mkF m 195 #[.val (.int sel), .val (.int pos), .val (.int chh), .val (.int lng), .val (.int aa), .val (.int bb), .val (.int bs), .val (.ref ob1), .unset, .unset, .unset, .unset, .unset, .unset, .unset, .unset] [])) _
        have K100 : Keep h0 h99 [] := ((((Keep.refl h0 []).trans Kj2 all0).wr W4 (Or.inr (by omega))).wr W99 (Or.inr (by omega)))
        exact jn5 _ _ ⟨_, X99, N99⟩ e99 chh u2a u3a u4a bb K100 R99 Vw99
      · skip
        show own_Go p e below (T4.setTop (mkF m 188 #[.val (.int sel), .val (.int pos), .val (.int chh), .val (.int lng), .val (.int aa), .val (.int bb), .val (.int bs), .val (.ref ob1), .unset, .unset, .unset, .unset, .unset, .unset, .unset, .unset] [(.int (1 : Int32)), (.ref ob1)])) _
        refine own_by (fun _ k => XS.iloadN X4.here hx rfl (hb hby at_188) rfl k) ?_
        refine own_by (fun _ k => XS.sipush X4.here hx rfl (hb hby at_189) k) ?_
        refine own_by (fun _ k => XS.iand X4.here hx rfl (hb hby at_192) rfl k) ?_
        refine own_by (fun _ k => XS.i2c X4.here hx rfl (hb hby at_193) rfl k) ?_
        show own_Go p e below (T4.setTop (mkF m 194 #[.val (.int sel), .val (.int pos), .val (.int chh), .val (.int lng), .val (.int aa), .val (.int bb), .val (.int bs), .val (.ref ob1), .unset, .unset, .unset, .unset, .unset, .unset, .unset, .unset] [(.int ((chh &&& (255 : Int32)).toUInt32.toUInt16.toUInt32.toInt32)), (.int (1 : Int32)), (.ref ob1)])) _
        rw [i2c_mask]
        obtain ⟨cl101, Ar101, q101, S101, M101, H101, G101⟩ := (id Vw4)
        have hin101 : ¬ ((1 : Int32) < 0 ∨ cl101.slots.size ≤ ((1 : Int32)).toNatClampNeg) := inb_of S101 ⟨by decide, by decide⟩
        obtain ⟨T101, h101, X101, e101, W101, st101⟩ := stC X4 hx hZ e4 Ar101 (j := (1 : Int32)) hin101 (g := (mkF m 194 #[.val (.int sel), .val (.int pos), .val (.int chh), .val (.int lng), .val (.int aa), .val (.int bb), .val (.int bs), .val (.ref ob1), .unset, .unset, .unset, .unset, .unset, .unset, .unset, .unset] [(.int (chh &&& (255 : Int32))), (.int (1 : Int32)), (.ref ob1)])) rfl rfl (hb hby at_194)
        refine own_by st101 ?_
        rw [own_mask_c] at W101
        have z101 := W101.size
        have N101 := Fr.snoc X101 N4 (by omega)
        have sw101 : Safe Z own_EL s.vm h4 ob1 := sf4_ob1
        have sf101_ob1 := Safe.wr W101 sw101 R4.1 sw101
        have R101 := R4.trans (CHr.wr W101 sw101 R4.1)
        have Vw101 : Arv Z h101 ob1 k1 .char (5 : Int32) [(.int (u1a &&& (255 : Int32))), (.int (chh &&& (255 : Int32))), (.int (u3a &&& (255 : Int32))), (.int (u4a &&& (255 : Int32))), (.int (bb &&& (255 : Int32)))] (.int (0 : Int32)) := Arv.set Ar101 q101 S101 M101 H101 G101 (own_fits_c _) W101 1 rfl (Nat.le_of_ble_eq_true rfl)
        show own_Go p e below (T101.setTop (mkF m 195 #[.val (.int sel), .val (.int pos), .val (.int chh), .val (.int lng), .val (.int aa), .val (.int bb), .val (.int bs), .val (.ref ob1), .unset, .unset, .unset, .unset, .unset, .unset, .unset, .unset] [])) _
        have K102 : Keep h0 h101 [] := ((((Keep.refl h0 []).trans Kj2 all0).wr W4 (Or.inr (by omega))).wr W101 (Or.inr (by omega)))
        exact jn5 _ _ ⟨_, X101, N101⟩ e101 u1a chh u3a u4a bb K102 R101 Vw101
      · skip
        show own_Go p e below (T4.setTop (mkF m 188 #[.val (.int sel), .val (.int pos), .val (.int chh), .val (.int lng), .val (.int aa), .val (.int bb), .val (.int bs), .val (.ref ob1), .unset, .unset, .unset, .unset, .unset, .unset, .unset, .unset] [(.int (2 : Int32)), (.ref ob1)])) _
        refine own_by (fun _ k => XS.iloadN X4.here hx rfl (hb hby at_188) rfl k) ?_
        refine own_by (fun _ k => XS.sipush X4.here hx rfl (hb hby at_189) k) ?_
        refine own_by (fun _ k => XS.iand X4.here hx rfl (hb hby at_192) rfl k) ?_
        refine own_by (fun _ k => XS.i2c X4.here hx rfl (hb hby at_193) rfl k) ?_
        show own_Go p e below (T4.setTop (mkF m 194 #[.val (.int sel), .val (.int pos), .val (.int chh), .val (.int lng), .val (.int aa), .val (.int bb), .val (.int bs), .val (.ref ob1), .unset, .unset, .unset, .unset, .unset, .unset, .unset, .unset] [(.int ((chh &&& (255 : Int32)).toUInt32.toUInt16.toUInt32.toInt32)), (.int (2 : Int32)), (.ref ob1)])) _
        rw [i2c_mask]
        obtain ⟨cl103, Ar103, q103, S103, M103, H103, G103⟩ := (id Vw4)
        have hin103 : ¬ ((2 : Int32) < 0 ∨ cl103.slots.size ≤ ((2 : Int32)).toNatClampNeg) := inb_of S103 ⟨by decide, by decide⟩
        obtain ⟨T103, h103, X103, e103, W103, st103⟩ := stC X4 hx hZ e4 Ar103 (j := (2 : Int32)) hin103 (g := (mkF m 194 #[.val (.int sel), .val (.int pos), .val (.int chh), .val (.int lng), .val (.int aa), .val (.int bb), .val (.int bs), .val (.ref ob1), .unset, .unset, .unset, .unset, .unset, .unset, .unset, .unset] [(.int (chh &&& (255 : Int32))), (.int (2 : Int32)), (.ref ob1)])) rfl rfl (hb hby at_194)
        refine own_by st103 ?_
        rw [own_mask_c] at W103
        have z103 := W103.size
        have N103 := Fr.snoc X103 N4 (by omega)
        have sw103 : Safe Z own_EL s.vm h4 ob1 := sf4_ob1
        have sf103_ob1 := Safe.wr W103 sw103 R4.1 sw103
        have R103 := R4.trans (CHr.wr W103 sw103 R4.1)
        have Vw103 : Arv Z h103 ob1 k1 .char (5 : Int32) [(.int (u1a &&& (255 : Int32))), (.int (u2a &&& (255 : Int32))), (.int (chh &&& (255 : Int32))), (.int (u4a &&& (255 : Int32))), (.int (bb &&& (255 : Int32)))] (.int (0 : Int32)) := Arv.set Ar103 q103 S103 M103 H103 G103 (own_fits_c _) W103 2 rfl (Nat.le_of_ble_eq_true rfl)
        show own_Go p e below (T103.setTop (mkF m 195 #[.val (.int sel), .val (.int pos), .val (.int chh), .val (.int lng), .val (.int aa), .val (.int bb), .val (.int bs), .val (.ref ob1), .unset, .unset, .unset, .unset, .unset, .unset, .unset, .unset] [])) _
        have K104 : Keep h0 h103 [] := ((((Keep.refl h0 []).trans Kj2 all0).wr W4 (Or.inr (by omega))).wr W103 (Or.inr (by omega)))
        exact jn5 _ _ ⟨_, X103, N103⟩ e103 u1a u2a chh u4a bb K104 R103 Vw103
      · skip
        show own_Go p e below (T4.setTop (mkF m 188 #[.val (.int sel), .val (.int pos), .val (.int chh), .val (.int lng), .val (.int aa), .val (.int bb), .val (.int bs), .val (.ref ob1), .unset, .unset, .unset, .unset, .unset, .unset, .unset, .unset] [(.int (3 : Int32)), (.ref ob1)])) _
        refine own_by (fun _ k => XS.iloadN X4.here hx rfl (hb hby at_188) rfl k) ?_
        refine own_by (fun _ k => XS.sipush X4.here hx rfl (hb hby at_189) k) ?_
        refine own_by (fun _ k => XS.iand X4.here hx rfl (hb hby at_192) rfl k) ?_
        refine own_by (fun _ k => XS.i2c X4.here hx rfl (hb hby at_193) rfl k) ?_
        show own_Go p e below (T4.setTop (mkF m 194 #[.val (.int sel), .val (.int pos), .val (.int chh), .val (.int lng), .val (.int aa), .val (.int bb), .val (.int bs), .val (.ref ob1), .unset, .unset, .unset, .unset, .unset, .unset, .unset, .unset] [(.int ((chh &&& (255 : Int32)).toUInt32.toUInt16.toUInt32.toInt32)), (.int (3 : Int32)), (.ref ob1)])) _
        rw [i2c_mask]
        obtain ⟨cl105, Ar105, q105, S105, M105, H105, G105⟩ := (id Vw4)
        have hin105 : ¬ ((3 : Int32) < 0 ∨ cl105.slots.size ≤ ((3 : Int32)).toNatClampNeg) := inb_of S105 ⟨by decide, by decide⟩
        obtain ⟨T105, h105, X105, e105, W105, st105⟩ := stC X4 hx hZ e4 Ar105 (j := (3 : Int32)) hin105 (g := (mkF m 194 #[.val (.int sel), .val (.int pos), .val (.int chh), .val (.int lng), .val (.int aa), .val (.int bb), .val (.int bs), .val (.ref ob1), .unset, .unset, .unset, .unset, .unset, .unset, .unset, .unset] [(.int (chh &&& (255 : Int32))), (.int (3 : Int32)), (.ref ob1)])) rfl rfl (hb hby at_194)
        refine own_by st105 ?_
        rw [own_mask_c] at W105
        have z105 := W105.size
        have N105 := Fr.snoc X105 N4 (by omega)
        have sw105 : Safe Z own_EL s.vm h4 ob1 := sf4_ob1
        have sf105_ob1 := Safe.wr W105 sw105 R4.1 sw105
        have R105 := R4.trans (CHr.wr W105 sw105 R4.1)
        have Vw105 : Arv Z h105 ob1 k1 .char (5 : Int32) [(.int (u1a &&& (255 : Int32))), (.int (u2a &&& (255 : Int32))), (.int (u3a &&& (255 : Int32))), (.int (chh &&& (255 : Int32))), (.int (bb &&& (255 : Int32)))] (.int (0 : Int32)) := Arv.set Ar105 q105 S105 M105 H105 G105 (own_fits_c _) W105 3 rfl (Nat.le_of_ble_eq_true rfl)
        show own_Go p e below (T105.setTop (mkF m 195 #[.val (.int sel), .val (.int pos), .val (.int chh), .val (.int lng), .val (.int aa), .val (.int bb), .val (.int bs), .val (.ref ob1), .unset, .unset, .unset, .unset, .unset, .unset, .unset, .unset] [])) _
        have K106 : Keep h0 h105 [] := ((((Keep.refl h0 []).trans Kj2 all0).wr W4 (Or.inr (by omega))).wr W105 (Or.inr (by omega)))
        exact jn5 _ _ ⟨_, X105, N105⟩ e105 u1a u2a u3a chh bb K106 R105 Vw105
      · skip
        show own_Go p e below (T4.setTop (mkF m 188 #[.val (.int sel), .val (.int pos), .val (.int chh), .val (.int lng), .val (.int aa), .val (.int bb), .val (.int bs), .val (.ref ob1), .unset, .unset, .unset, .unset, .unset, .unset, .unset, .unset] [(.int (4 : Int32)), (.ref ob1)])) _
        refine own_by (fun _ k => XS.iloadN X4.here hx rfl (hb hby at_188) rfl k) ?_
        refine own_by (fun _ k => XS.sipush X4.here hx rfl (hb hby at_189) k) ?_
        refine own_by (fun _ k => XS.iand X4.here hx rfl (hb hby at_192) rfl k) ?_
        refine own_by (fun _ k => XS.i2c X4.here hx rfl (hb hby at_193) rfl k) ?_
        show own_Go p e below (T4.setTop (mkF m 194 #[.val (.int sel), .val (.int pos), .val (.int chh), .val (.int lng), .val (.int aa), .val (.int bb), .val (.int bs), .val (.ref ob1), .unset, .unset, .unset, .unset, .unset, .unset, .unset, .unset] [(.int ((chh &&& (255 : Int32)).toUInt32.toUInt16.toUInt32.toInt32)), (.int (4 : Int32)), (.ref ob1)])) _
        rw [i2c_mask]
        obtain ⟨cl107, Ar107, q107, S107, M107, H107, G107⟩ := (id Vw4)
        have hin107 : ¬ ((4 : Int32) < 0 ∨ cl107.slots.size ≤ ((4 : Int32)).toNatClampNeg) := inb_of S107 ⟨by decide, by decide⟩
        obtain ⟨T107, h107, X107, e107, W107, st107⟩ := stC X4 hx hZ e4 Ar107 (j := (4 : Int32)) hin107 (g := (mkF m 194 #[.val (.int sel), .val (.int pos), .val (.int chh), .val (.int lng), .val (.int aa), .val (.int bb), .val (.int bs), .val (.ref ob1), .unset, .unset, .unset, .unset, .unset, .unset, .unset, .unset] [(.int (chh &&& (255 : Int32))), (.int (4 : Int32)), (.ref ob1)])) rfl rfl (hb hby at_194)
        refine own_by st107 ?_
        rw [own_mask_c] at W107
        have z107 := W107.size
        have N107 := Fr.snoc X107 N4 (by omega)
        have sw107 : Safe Z own_EL s.vm h4 ob1 := sf4_ob1
        have sf107_ob1 := Safe.wr W107 sw107 R4.1 sw107
        have R107 := R4.trans (CHr.wr W107 sw107 R4.1)
        have Vw107 : Arv Z h107 ob1 k1 .char (5 : Int32) [(.int (u1a &&& (255 : Int32))), (.int (u2a &&& (255 : Int32))), (.int (u3a &&& (255 : Int32))), (.int (u4a &&& (255 : Int32))), (.int (chh &&& (255 : Int32)))] (.int (0 : Int32)) := Arv.set Ar107 q107 S107 M107 H107 G107 (own_fits_c _) W107 4 rfl (Nat.le_of_ble_eq_true rfl)
        show own_Go p e below (T107.setTop (mkF m 195 #[.val (.int sel), .val (.int pos), .val (.int chh), .val (.int lng), .val (.int aa), .val (.int bb), .val (.int bs), .val (.ref ob1), .unset, .unset, .unset, .unset, .unset, .unset, .unset, .unset] [])) _
        have K108 : Keep h0 h107 [] := ((((Keep.refl h0 []).trans Kj2 all0).wr W4 (Or.inr (by omega))).wr W107 (Or.inr (by omega)))
        exact jn5 _ _ ⟨_, X107, N107⟩ e107 u1a u2a u3a u4a chh K108 R107 Vw107
  refine own_by (fun _ k => XS.iload X1.here hx rfl (hb hby at_10) rfl k) ?_
  by_cases hc109 : bs = (0 : Int32)
  · skip
    refine own_by (fun _ k => XS.ifNo X1.here hx rfl (hb hby at_12) rfl ((if0 _ _).trans (teq hc109).2) k) ?_
    show own_Go p e below (T1.setTop (mkF m 15 #[.val (.int sel), .val (.int pos), .val (.int chh), .val (.int lng), .val (.int aa), .val (.int bb), .val (.int bs), .val (.ref ob1), .unset, .unset, .unset, .unset, .unset, .unset, .unset, .unset] [])) _
    refine own_by (fun _ k => XS.aload X1.here hx rfl (hb hby at_15) rfl rfl k) ?_
    refine own_by (fun _ k => XS.iconst X1.here hx rfl (hb hby at_17) k) ?_
    refine own_by (fun _ k => XS.bipush X1.here hx rfl (hb hby at_18) k) ?_
    have Vw110 : Arv Z h1 ob1 k1 .char (5 : Int32) [(.int (0 : Int32))] (.int (0 : Int32)) := Vw1.pad (pad_rep [] (.int (0 : Int32)) 1)
    obtain ⟨cl111, Ar111, q111, S111, M111, H111, G111⟩ := (id Vw110)
    have hin111 : ¬ ((0 : Int32) < 0 ∨ cl111.slots.size ≤ ((0 : Int32)).toNatClampNeg) := inb_of S111 ⟨by decide, by decide⟩
    obtain ⟨T111, h111, X111, e111, W111, st111⟩ := stC X1 hx hZ e1 Ar111 (j := (0 : Int32)) hin111 (g := (mkF m 20 #[.val (.int sel), .val (.int pos), .val (.int chh), .val (.int lng), .val (.int aa), .val (.int bb), .val (.int bs), .val (.ref ob1), .unset, .unset, .unset, .unset, .unset, .unset, .unset, .unset] [(.int (108 : Int32)), (.int (0 : Int32)), (.ref ob1)])) rfl rfl (hb hby at_20)
    refine own_by st111 ?_
    have z111 := W111.size
    have N111 := Fr.snoc X111 N0 (by omega)
    have sw111 : Safe Z own_EL s.vm h1 ob1 := (Safe.arv hZ.alike Vw110 (by decide))
    have sf111_ob1 := Safe.wr W111 sw111 R1.1 sw111
    have R111 := R1.trans (CHr.wr W111 sw111 R1.1)
    have Vw111 : Arv Z h111 ob1 k1 .char (5 : Int32) [(.int (108 : Int32))] (.int (0 : Int32)) := Arv.set Ar111 q111 S111 M111 H111 G111 rfl W111 0 rfl (Nat.le_of_ble_eq_true rfl)
    refine own_by (fun _ k => XS.aload X111.here hx rfl (hb hby at_21) rfl rfl k) ?_
    refine own_by (fun _ k => XS.iconst X111.here hx rfl (hb hby at_23) k) ?_
    show own_Go p e below (T111.setTop (mkF m 24 #[.val (.int sel), .val (.int pos), .val (.int chh), .val (.int lng), .val (.int aa), .val (.int bb), .val (.int bs), .val (.ref ob1), .unset, .unset, .unset, .unset, .unset, .unset, .unset, .unset] [(.int (1 : Int32)), (.ref ob1)])) _
    refine own_by (fun _ k => XS.bipush X111.here hx rfl (hb hby at_24) k) ?_
    have Vw112 : Arv Z h111 ob1 k1 .char (5 : Int32) [(.int (108 : Int32)), (.int (0 : Int32))] (.int (0 : Int32)) := Vw111.pad (pad_rep [(.int (108 : Int32))] (.int (0 : Int32)) 1)
    obtain ⟨cl113, Ar113, q113, S113, M113, H113, G113⟩ := (id Vw112)
    have hin113 : ¬ ((1 : Int32) < 0 ∨ cl113.slots.size ≤ ((1 : Int32)).toNatClampNeg) := inb_of S113 ⟨by decide, by decide⟩
    obtain ⟨T113, h113, X113, e113, W113, st113⟩ := stC X111 hx hZ e111 Ar113 (j := (1 : Int32)) hin113 (g := (mkF m 26 #[.val (.int sel), .val (.int pos), .val (.int chh), .val (.int lng), .val (.int aa), .val (.int bb), .val (.int bs), .val (.ref ob1), .unset, .unset, .unset, .unset, .unset, .unset, .unset, .unset] [(.int (105 : Int32)), (.int (1 : Int32)), (.ref ob1)])) rfl rfl (hb hby at_26)
    refine own_by st113 ?_
    have z113 := W113.size
    have N113 := Fr.snoc X113 N111 (by omega)
    have sw113 : Safe Z own_EL s.vm h111 ob1 := sf111_ob1
    have sf113_ob1 := Safe.wr W113 sw113 R111.1 sw113
    have R113 := R111.trans (CHr.wr W113 sw113 R111.1)
    have Vw113 : Arv Z h113 ob1 k1 .char (5 : Int32) [(.int (108 : Int32)), (.int (105 : Int32))] (.int (0 : Int32)) := Arv.set Ar113 q113 S113 M113 H113 G113 rfl W113 1 rfl (Nat.le_of_ble_eq_true rfl)
    refine own_by (fun _ k => XS.aload X113.here hx rfl (hb hby at_27) rfl rfl k) ?_
    refine own_by (fun _ k => XS.iconst X113.here hx rfl (hb hby at_29) k) ?_
    refine own_by (fun _ k => XS.bipush X113.here hx rfl (hb hby at_30) k) ?_
    have Vw114 : Arv Z h113 ob1 k1 .char (5 : Int32) [(.int (108 : Int32)), (.int (105 : Int32)), (.int (0 : Int32))] (.int (0 : Int32)) := Vw113.pad (pad_rep [(.int (108 : Int32)), (.int (105 : Int32))] (.int (0 : Int32)) 1)
    obtain ⟨cl115, Ar115, q115, S115, M115, H115, G115⟩ := (id Vw114)
    have hin115 : ¬ ((2 : Int32) < 0 ∨ cl115.slots.size ≤ ((2 : Int32)).toNatClampNeg) := inb_of S115 ⟨by decide, by decide⟩
    obtain ⟨T115, h115, X115, e115, W115, st115⟩ := stC X113 hx hZ e113 Ar115 (j := (2 : Int32)) hin115 (g := (mkF m 32 #[.val (.int sel), .val (.int pos), .val (.int chh), .val (.int lng), .val (.int aa), .val (.int bb), .val (.int bs), .val (.ref ob1), .unset, .unset, .unset, .unset, .unset, .unset, .unset, .unset] [(.int (118 : Int32)), (.int (2 : Int32)), (.ref ob1)])) rfl rfl (hb hby at_32)
    refine own_by st115 ?_
    have z115 := W115.size
    have N115 := Fr.snoc X115 N113 (by omega)
    have sw115 : Safe Z own_EL s.vm h113 ob1 := sf113_ob1
    have sf115_ob1 := Safe.wr W115 sw115 R113.1 sw115
    have R115 := R113.trans (CHr.wr W115 sw115 R113.1)
    have Vw115 : Arv Z h115 ob1 k1 .char (5 : Int32) [(.int (108 : Int32)), (.int (105 : Int32)), (.int (118 : Int32))] (.int (0 : Int32)) := Arv.set Ar115 q115 S115 M115 H115 G115 rfl W115 2 rfl (Nat.le_of_ble_eq_true rfl)
    show own_Go p e below (T115.setTop (mkF m 33 #[.val (.int sel), .val (.int pos), .val (.int chh), .val (.int lng), .val (.int aa), .val (.int bb), .val (.int bs), .val (.ref ob1), .unset, .unset, .unset, .unset, .unset, .unset, .unset, .unset] [])) _
    refine own_by (fun _ k => XS.aload X115.here hx rfl (hb hby at_33) rfl rfl k) ?_
    refine own_by (fun _ k => XS.iconst X115.here hx rfl (hb hby at_35) k) ?_
    refine own_by (fun _ k => XS.bipush X115.here hx rfl (hb hby at_36) k) ?_
    have Vw116 : Arv Z h115 ob1 k1 .char (5 : Int32) [(.int (108 : Int32)), (.int (105 : Int32)), (.int (118 : Int32)), (.int (0 : Int32))] (.int (0 : Int32)) := Vw115.pad (pad_rep [(.int (108 : Int32)), (.int (105 : Int32)), (.int (118 : Int32))] (.int (0 : Int32)) 1)
    obtain ⟨cl117, Ar117, q117, S117, M117, H117, G117⟩ := (id Vw116)
    have hin117 : ¬ ((3 : Int32) < 0 ∨ cl117.slots.size ≤ ((3 : Int32)).toNatClampNeg) := inb_of S117 ⟨by decide, by decide⟩
    obtain ⟨T117, h117, X117, e117, W117, st117⟩ := stC X115 hx hZ e115 Ar117 (j := (3 : Int32)) hin117 (g := (mkF m 38 #[.val (.int sel), .val (.int pos), .val (.int chh), .val (.int lng), .val (.int aa), .val (.int bb), .val (.int bs), .val (.ref ob1), .unset, .unset, .unset, .unset, .unset, .unset, .unset, .unset] [(.int (101 : Int32)), (.int (3 : Int32)), (.ref ob1)])) rfl rfl (hb hby at_38)
    refine own_by st117 ?_
    have z117 := W117.size
    have N117 := Fr.snoc X117 N115 (by omega)
    have sw117 : Safe Z own_EL s.vm h115 ob1 := sf115_ob1
    have sf117_ob1 := Safe.wr W117 sw117 R115.1 sw117
    have R117 := R115.trans (CHr.wr W117 sw117 R115.1)
    have Vw117 : Arv Z h117 ob1 k1 .char (5 : Int32) [(.int (108 : Int32)), (.int (105 : Int32)), (.int (118 : Int32)), (.int (101 : Int32))] (.int (0 : Int32)) := Arv.set Ar117 q117 S117 M117 H117 G117 rfl W117 3 rfl (Nat.le_of_ble_eq_true rfl)
    refine own_by (fun _ k => XS.goto X117.here hx rfl (pc0 := 39) (pc' := 161) rfl (hb hby at_39) (by decide) (by decide) k) ?_
    have Vm118 : Arv Z h117 ob1 k1 .char (5 : Int32) [(.int ((108 : Int32) &&& (255 : Int32))), (.int ((105 : Int32) &&& (255 : Int32))), (.int ((118 : Int32) &&& (255 : Int32))), (.int ((101 : Int32) &&& (255 : Int32)))] (.int (0 : Int32)) := Vw117
    have K119 : Keep h0 h117 [] := ((((((Keep.refl h0 []).ext E1).wr W111 (Or.inr (by omega))).wr W113 (Or.inr (by omega))).wr W115 (Or.inr (by omega))).wr W117 (Or.inr (by omega)))
    exact jn2 _ _ ⟨_, X117, N117⟩ e117 (108 : Int32) (105 : Int32) (118 : Int32) (101 : Int32) K119 R117 Vm118
  · skip
    refine own_by (fun _ k => XS.ifYes X1.here hx rfl (pc0 := 12) (pc' := 42) rfl (hb hby at_12) rfl ((if0 _ _).trans (feq hc109).2) (by decide) (by decide) k) ?_
    show own_Go p e below (T1.setTop (mkF m 42 #[.val (.int sel), .val (.int pos), .val (.int chh), .val (.int lng), .val (.int aa), .val (.int bb), .val (.int bs), .val (.ref ob1), .unset, .unset, .unset, .unset, .unset, .unset, .unset, .unset] [])) _
    refine own_by (fun _ k => XS.iload X1.here hx rfl (hb hby at_42) rfl k) ?_
    refine own_by (fun _ k => XS.iconst X1.here hx rfl (hb hby at_44) k) ?_
    by_cases hc120 : bs = (1 : Int32)
    · skip
      refine own_by (fun _ k => XS.icmpNo X1.here hx rfl (hb hby at_45) rfl (teq hc120).2 k) ?_
      show own_Go p e below (T1.setTop (mkF m 48 #[.val (.int sel), .val (.int pos), .val (.int chh), .val (.int lng), .val (.int aa), .val (.int bb), .val (.int bs), .val (.ref ob1), .unset, .unset, .unset, .unset, .unset, .unset, .unset, .unset] [])) _
      refine own_by (fun _ k => XS.aload X1.here hx rfl (hb hby at_48) rfl rfl k) ?_
      refine own_by (fun _ k => XS.iconst X1.here hx rfl (hb hby at_50) k) ?_
      refine own_by (fun _ k => XS.bipush X1.here hx rfl (hb hby at_51) k) ?_
      have Vw121 : Arv Z h1 ob1 k1 .char (5 : Int32) [(.int (0 : Int32))] (.int (0 : Int32)) := Vw1.pad (pad_rep [] (.int (0 : Int32)) 1)
      obtain ⟨cl122, Ar122, q122, S122, M122, H122, G122⟩ := (id Vw121)
      have hin122 : ¬ ((0 : Int32) < 0 ∨ cl122.slots.size ≤ ((0 : Int32)).toNatClampNeg) := inb_of S122 ⟨by decide, by decide⟩
      obtain ⟨T122, h122, X122, e122, W122, st122⟩ := stC X1 hx hZ e1 Ar122 (j := (0 : Int32)) hin122 (g := (mkF m 53 #[.val (.int sel), .val (.int pos), .val (.int chh), .val (.int lng), .val (.int aa), .val (.int bb), .val (.int bs), .val (.ref ob1), .unset, .unset, .unset, .unset, .unset, .unset, .unset, .unset] [(.int (116 : Int32)), (.int (0 : Int32)), (.ref ob1)])) rfl rfl (hb hby at_53)
      refine own_by st122 ?_
      have z122 := W122.size
      have N122 := Fr.snoc X122 N0 (by omega)
      have sw122 : Safe Z own_EL s.vm h1 ob1 := (Safe.arv hZ.alike Vw121 (by decide))
      have sf122_ob1 := Safe.wr W122 sw122 R1.1 sw122
      have R122 := R1.trans (CHr.wr W122 sw122 R1.1)
      have Vw122 : Arv Z h122 ob1 k1 .char (5 : Int32) [(.int (116 : Int32))] (.int (0 : Int32)) := Arv.set Ar122 q122 S122 M122 H122 G122 rfl W122 0 rfl (Nat.le_of_ble_eq_true rfl)
      refine own_by (fun _ k => XS.aload X122.here hx rfl (hb hby at_54) rfl rfl k) ?_
      refine own_by (fun _ k => XS.iconst X122.here hx rfl (hb hby at_56) k) ?_
      show own_Go p e below (T122.setTop (mkF m 57 #[.val (.int sel), .val (.int pos), .val (.int chh), .val (.int lng), .val (.int aa), .val (.int bb), .val (.int bs), .val (.ref ob1), .unset, .unset, .unset, .unset, .unset, .unset, .unset, .unset] [(.int (1 : Int32)), (.ref ob1)])) _
      refine own_by (fun _ k => XS.bipush X122.here hx rfl (hb hby at_57) k) ?_
      have Vw123 : Arv Z h122 ob1 k1 .char (5 : Int32) [(.int (116 : Int32)), (.int (0 : Int32))] (.int (0 : Int32)) := Vw122.pad (pad_rep [(.int (116 : Int32))] (.int (0 : Int32)) 1)
      obtain ⟨cl124, Ar124, q124, S124, M124, H124, G124⟩ := (id Vw123)
      have hin124 : ¬ ((1 : Int32) < 0 ∨ cl124.slots.size ≤ ((1 : Int32)).toNatClampNeg) := inb_of S124 ⟨by decide, by decide⟩
      obtain ⟨T124, h124, X124, e124, W124, st124⟩ := stC X122 hx hZ e122 Ar124 (j := (1 : Int32)) hin124 (g := (mkF m 59 #[.val (.int sel), .val (.int pos), .val (.int chh), .val (.int lng), .val (.int aa), .val (.int bb), .val (.int bs), .val (.ref ob1), .unset, .unset, .unset, .unset, .unset, .unset, .unset, .unset] [(.int (101 : Int32)), (.int (1 : Int32)), (.ref ob1)])) rfl rfl (hb hby at_59)
      refine own_by st124 ?_
      have z124 := W124.size
      have N124 := Fr.snoc X124 N122 (by omega)
      have sw124 : Safe Z own_EL s.vm h122 ob1 := sf122_ob1
      have sf124_ob1 := Safe.wr W124 sw124 R122.1 sw124
      have R124 := R122.trans (CHr.wr W124 sw124 R122.1)
      have Vw124 : Arv Z h124 ob1 k1 .char (5 : Int32) [(.int (116 : Int32)), (.int (101 : Int32))] (.int (0 : Int32)) := Arv.set Ar124 q124 S124 M124 H124 G124 rfl W124 1 rfl (Nat.le_of_ble_eq_true rfl)
      refine own_by (fun _ k => XS.aload X124.here hx rfl (hb hby at_60) rfl rfl k) ?_
      refine own_by (fun _ k => XS.iconst X124.here hx rfl (hb hby at_62) k) ?_
      refine own_by (fun _ k => XS.bipush X124.here hx rfl (hb hby at_63) k) ?_
      have Vw125 : Arv Z h124 ob1 k1 .char (5 : Int32) [(.int (116 : Int32)), (.int (101 : Int32)), (.int (0 : Int32))] (.int (0 : Int32)) := Vw124.pad (pad_rep [(.int (116 : Int32)), (.int (101 : Int32))] (.int (0 : Int32)) 1)
      obtain ⟨cl126, Ar126, q126, S126, M126, H126, G126⟩ := (id Vw125)
      have hin126 : ¬ ((2 : Int32) < 0 ∨ cl126.slots.size ≤ ((2 : Int32)).toNatClampNeg) := inb_of S126 ⟨by decide, by decide⟩
      obtain ⟨T126, h126, X126, e126, W126, st126⟩ := stC X124 hx hZ e124 Ar126 (j := (2 : Int32)) hin126 (g := (mkF m 65 #[.val (.int sel), .val (.int pos), .val (.int chh), .val (.int lng), .val (.int aa), .val (.int bb), .val (.int bs), .val (.ref ob1), .unset, .unset, .unset, .unset, .unset, .unset, .unset, .unset] [(.int (115 : Int32)), (.int (2 : Int32)), (.ref ob1)])) rfl rfl (hb hby at_65)
      refine own_by st126 ?_
      have z126 := W126.size
      have N126 := Fr.snoc X126 N124 (by omega)
      have sw126 : Safe Z own_EL s.vm h124 ob1 := sf124_ob1
      have sf126_ob1 := Safe.wr W126 sw126 R124.1 sw126
      have R126 := R124.trans (CHr.wr W126 sw126 R124.1)
      have Vw126 : Arv Z h126 ob1 k1 .char (5 : Int32) [(.int (116 : Int32)), (.int (101 : Int32)), (.int (115 : Int32))] (.int (0 : Int32)) := Arv.set Ar126 q126 S126 M126 H126 G126 rfl W126 2 rfl (Nat.le_of_ble_eq_true rfl)
      show own_Go p e below (T126.setTop (mkF m 66 #[.val (.int sel), .val (.int pos), .val (.int chh), .val (.int lng), .val (.int aa), .val (.int bb), .val (.int bs), .val (.ref ob1), .unset, .unset, .unset, .unset, .unset, .unset, .unset, .unset] [])) _
      refine own_by (fun _ k => XS.aload X126.here hx rfl (hb hby at_66) rfl rfl k) ?_
      refine own_by (fun _ k => XS.iconst X126.here hx rfl (hb hby at_68) k) ?_
      refine own_by (fun _ k => XS.bipush X126.here hx rfl (hb hby at_69) k) ?_
      have Vw127 : Arv Z h126 ob1 k1 .char (5 : Int32) [(.int (116 : Int32)), (.int (101 : Int32)), (.int (115 : Int32)), (.int (0 : Int32))] (.int (0 : Int32)) := Vw126.pad (pad_rep [(.int (116 : Int32)), (.int (101 : Int32)), (.int (115 : Int32))] (.int (0 : Int32)) 1)
      obtain ⟨cl128, Ar128, q128, S128, M128, H128, G128⟩ := (id Vw127)
      have hin128 : ¬ ((3 : Int32) < 0 ∨ cl128.slots.size ≤ ((3 : Int32)).toNatClampNeg) := inb_of S128 ⟨by decide, by decide⟩
      obtain ⟨T128, h128, X128, e128, W128, st128⟩ := stC X126 hx hZ e126 Ar128 (j := (3 : Int32)) hin128 (g := (mkF m 71 #[.val (.int sel), .val (.int pos), .val (.int chh), .val (.int lng), .val (.int aa), .val (.int bb), .val (.int bs), .val (.ref ob1), .unset, .unset, .unset, .unset, .unset, .unset, .unset, .unset] [(.int (116 : Int32)), (.int (3 : Int32)), (.ref ob1)])) rfl rfl (hb hby at_71)
      refine own_by st128 ?_
      have z128 := W128.size
      have N128 := Fr.snoc X128 N126 (by omega)
      have sw128 : Safe Z own_EL s.vm h126 ob1 := sf126_ob1
      have sf128_ob1 := Safe.wr W128 sw128 R126.1 sw128
      have R128 := R126.trans (CHr.wr W128 sw128 R126.1)
      have Vw128 : Arv Z h128 ob1 k1 .char (5 : Int32) [(.int (116 : Int32)), (.int (101 : Int32)), (.int (115 : Int32)), (.int (116 : Int32))] (.int (0 : Int32)) := Arv.set Ar128 q128 S128 M128 H128 G128 rfl W128 3 rfl (Nat.le_of_ble_eq_true rfl)
      refine own_by (fun _ k => XS.goto X128.here hx rfl (pc0 := 72) (pc' := 161) rfl (hb hby at_72) (by decide) (by decide) k) ?_
      have Vm129 : Arv Z h128 ob1 k1 .char (5 : Int32) [(.int ((116 : Int32) &&& (255 : Int32))), (.int ((101 : Int32) &&& (255 : Int32))), (.int ((115 : Int32) &&& (255 : Int32))), (.int ((116 : Int32) &&& (255 : Int32)))] (.int (0 : Int32)) := Vw128
      have K130 : Keep h0 h128 [] := ((((((Keep.refl h0 []).ext E1).wr W122 (Or.inr (by omega))).wr W124 (Or.inr (by omega))).wr W126 (Or.inr (by omega))).wr W128 (Or.inr (by omega)))
      exact jn2 _ _ ⟨_, X128, N128⟩ e128 (116 : Int32) (101 : Int32) (115 : Int32) (116 : Int32) K130 R128 Vm129
    · skip
      refine own_by (fun _ k => XS.icmpYes X1.here hx rfl (pc0 := 45) (pc' := 75) rfl (hb hby at_45) rfl (feq hc120).2 (by decide) (by decide) k) ?_
      show own_Go p e below (T1.setTop (mkF m 75 #[.val (.int sel), .val (.int pos), .val (.int chh), .val (.int lng), .val (.int aa), .val (.int bb), .val (.int bs), .val (.ref ob1), .unset, .unset, .unset, .unset, .unset, .unset, .unset, .unset] [])) _
      refine own_by (fun _ k => XS.iload X1.here hx rfl (hb hby at_75) rfl k) ?_
      refine own_by (fun _ k => XS.iconst X1.here hx rfl (hb hby at_77) k) ?_
      by_cases hc131 : bs = (2 : Int32)
      · skip
        refine own_by (fun _ k => XS.icmpNo X1.here hx rfl (hb hby at_78) rfl (teq hc131).2 k) ?_
        show own_Go p e below (T1.setTop (mkF m 81 #[.val (.int sel), .val (.int pos), .val (.int chh), .val (.int lng), .val (.int aa), .val (.int bb), .val (.int bs), .val (.ref ob1), .unset, .unset, .unset, .unset, .unset, .unset, .unset, .unset] [])) _
        refine own_by (fun _ k => XS.aload X1.here hx rfl (hb hby at_81) rfl rfl k) ?_
        refine own_by (fun _ k => XS.iconst X1.here hx rfl (hb hby at_83) k) ?_
        refine own_by (fun _ k => XS.bipush X1.here hx rfl (hb hby at_84) k) ?_
        have Vw132 : Arv Z h1 ob1 k1 .char (5 : Int32) [(.int (0 : Int32))] (.int (0 : Int32)) := Vw1.pad (pad_rep [] (.int (0 : Int32)) 1)
        obtain ⟨cl133, Ar133, q133, S133, M133, H133, G133⟩ := (id Vw132)
        have hin133 : ¬ ((0 : Int32) < 0 ∨ cl133.slots.size ≤ ((0 : Int32)).toNatClampNeg) := inb_of S133 ⟨by decide, by decide⟩
        obtain ⟨T133, h133, X133, e133, W133, st133⟩ := stC X1 hx hZ e1 Ar133 (j := (0 : Int32)) hin133 (g := (mkF m 86 #[.val (.int sel), .val (.int pos), .val (.int chh), .val (.int lng), .val (.int aa), .val (.int bb), .val (.int bs), .val (.ref ob1), .unset, .unset, .unset, .unset, .unset, .unset, .unset, .unset] [(.int (109 : Int32)), (.int (0 : Int32)), (.ref ob1)])) rfl rfl (hb hby at_86)
        refine own_by st133 ?_
        have z133 := W133.size
        have N133 := Fr.snoc X133 N0 (by omega)
        have sw133 : Safe Z own_EL s.vm h1 ob1 := (Safe.arv hZ.alike Vw132 (by decide))
        have sf133_ob1 := Safe.wr W133 sw133 R1.1 sw133
        have R133 := R1.trans (CHr.wr W133 sw133 R1.1)
        have Vw133 : Arv Z h133 ob1 k1 .char (5 : Int32) [(.int (109 : Int32))] (.int (0 : Int32)) := Arv.set Ar133 q133 S133 M133 H133 G133 rfl W133 0 rfl (Nat.le_of_ble_eq_true rfl)
        refine own_by (fun _ k => XS.aload X133.here hx rfl (hb hby at_87) rfl rfl k) ?_
        refine own_by (fun _ k => XS.iconst X133.here hx rfl (hb hby at_89) k) ?_
        show own_Go p e below (T133.setTop (mkF m 90 #[.val (.int sel), .val (.int pos), .val (.int chh), .val (.int lng), .val (.int aa), .val (.int bb), .val (.int bs), .val (.ref ob1), .unset, .unset, .unset, .unset, .unset, .unset, .unset, .unset] [(.int (1 : Int32)), (.ref ob1)])) _
        refine own_by (fun _ k => XS.bipush X133.here hx rfl (hb hby at_90) k) ?_
        have Vw134 : Arv Z h133 ob1 k1 .char (5 : Int32) [(.int (109 : Int32)), (.int (0 : Int32))] (.int (0 : Int32)) := Vw133.pad (pad_rep [(.int (109 : Int32))] (.int (0 : Int32)) 1)
        obtain ⟨cl135, Ar135, q135, S135, M135, H135, G135⟩ := (id Vw134)
        have hin135 : ¬ ((1 : Int32) < 0 ∨ cl135.slots.size ≤ ((1 : Int32)).toNatClampNeg) := inb_of S135 ⟨by decide, by decide⟩
        obtain ⟨T135, h135, X135, e135, W135, st135⟩ := stC X133 hx hZ e133 Ar135 (j := (1 : Int32)) hin135 (g := (mkF m 92 #[.val (.int sel), .val (.int pos), .val (.int chh), .val (.int lng), .val (.int aa), .val (.int bb), .val (.int bs), .val (.ref ob1), .unset, .unset, .unset, .unset, .unset, .unset, .unset, .unset] [(.int (103 : Int32)), (.int (1 : Int32)), (.ref ob1)])) rfl rfl (hb hby at_92)
        refine own_by st135 ?_
        have z135 := W135.size
        have N135 := Fr.snoc X135 N133 (by omega)
        have sw135 : Safe Z own_EL s.vm h133 ob1 := sf133_ob1
        have sf135_ob1 := Safe.wr W135 sw135 R133.1 sw135
        have R135 := R133.trans (CHr.wr W135 sw135 R133.1)
        have Vw135 : Arv Z h135 ob1 k1 .char (5 : Int32) [(.int (109 : Int32)), (.int (103 : Int32))] (.int (0 : Int32)) := Arv.set Ar135 q135 S135 M135 H135 G135 rfl W135 1 rfl (Nat.le_of_ble_eq_true rfl)
        refine own_by (fun _ k => XS.aload X135.here hx rfl (hb hby at_93) rfl rfl k) ?_
        refine own_by (fun _ k => XS.iconst X135.here hx rfl (hb hby at_95) k) ?_
        refine own_by (fun _ k => XS.bipush X135.here hx rfl (hb hby at_96) k) ?_
        have Vw136 : Arv Z h135 ob1 k1 .char (5 : Int32) [(.int (109 : Int32)), (.int (103 : Int32)), (.int (0 : Int32))] (.int (0 : Int32)) := Vw135.pad (pad_rep [(.int (109 : Int32)), (.int (103 : Int32))] (.int (0 : Int32)) 1)
        obtain ⟨cl137, Ar137, q137, S137, M137, H137, G137⟩ := (id Vw136)
        have hin137 : ¬ ((2 : Int32) < 0 ∨ cl137.slots.size ≤ ((2 : Int32)).toNatClampNeg) := inb_of S137 ⟨by decide, by decide⟩
        obtain ⟨T137, h137, X137, e137, W137, st137⟩ := stC X135 hx hZ e135 Ar137 (j := (2 : Int32)) hin137 (g := (mkF m 98 #[.val (.int sel), .val (.int pos), .val (.int chh), .val (.int lng), .val (.int aa), .val (.int bb), .val (.int bs), .val (.ref ob1), .unset, .unset, .unset, .unset, .unset, .unset, .unset, .unset] [(.int (109 : Int32)), (.int (2 : Int32)), (.ref ob1)])) rfl rfl (hb hby at_98)
        refine own_by st137 ?_
        have z137 := W137.size
        have N137 := Fr.snoc X137 N135 (by omega)
        have sw137 : Safe Z own_EL s.vm h135 ob1 := sf135_ob1
        have sf137_ob1 := Safe.wr W137 sw137 R135.1 sw137
        have R137 := R135.trans (CHr.wr W137 sw137 R135.1)
        have Vw137 : Arv Z h137 ob1 k1 .char (5 : Int32) [(.int (109 : Int32)), (.int (103 : Int32)), (.int (109 : Int32))] (.int (0 : Int32)) := Arv.set Ar137 q137 S137 M137 H137 G137 rfl W137 2 rfl (Nat.le_of_ble_eq_true rfl)
        show own_Go p e below (T137.setTop (mkF m 99 #[.val (.int sel), .val (.int pos), .val (.int chh), .val (.int lng), .val (.int aa), .val (.int bb), .val (.int bs), .val (.ref ob1), .unset, .unset, .unset, .unset, .unset, .unset, .unset, .unset] [])) _
        refine own_by (fun _ k => XS.aload X137.here hx rfl (hb hby at_99) rfl rfl k) ?_
        refine own_by (fun _ k => XS.iconst X137.here hx rfl (hb hby at_101) k) ?_
        refine own_by (fun _ k => XS.bipush X137.here hx rfl (hb hby at_102) k) ?_
        have Vw138 : Arv Z h137 ob1 k1 .char (5 : Int32) [(.int (109 : Int32)), (.int (103 : Int32)), (.int (109 : Int32)), (.int (0 : Int32))] (.int (0 : Int32)) := Vw137.pad (pad_rep [(.int (109 : Int32)), (.int (103 : Int32)), (.int (109 : Int32))] (.int (0 : Int32)) 1)
        obtain ⟨cl139, Ar139, q139, S139, M139, H139, G139⟩ := (id Vw138)
        have hin139 : ¬ ((3 : Int32) < 0 ∨ cl139.slots.size ≤ ((3 : Int32)).toNatClampNeg) := inb_of S139 ⟨by decide, by decide⟩
        obtain ⟨T139, h139, X139, e139, W139, st139⟩ := stC X137 hx hZ e137 Ar139 (j := (3 : Int32)) hin139 (g := (mkF m 104 #[.val (.int sel), .val (.int pos), .val (.int chh), .val (.int lng), .val (.int aa), .val (.int bb), .val (.int bs), .val (.ref ob1), .unset, .unset, .unset, .unset, .unset, .unset, .unset, .unset] [(.int (116 : Int32)), (.int (3 : Int32)), (.ref ob1)])) rfl rfl (hb hby at_104)
        refine own_by st139 ?_
        have z139 := W139.size
        have N139 := Fr.snoc X139 N137 (by omega)
        have sw139 : Safe Z own_EL s.vm h137 ob1 := sf137_ob1
        have sf139_ob1 := Safe.wr W139 sw139 R137.1 sw139
        have R139 := R137.trans (CHr.wr W139 sw139 R137.1)
        have Vw139 : Arv Z h139 ob1 k1 .char (5 : Int32) [(.int (109 : Int32)), (.int (103 : Int32)), (.int (109 : Int32)), (.int (116 : Int32))] (.int (0 : Int32)) := Arv.set Ar139 q139 S139 M139 H139 G139 rfl W139 3 rfl (Nat.le_of_ble_eq_true rfl)
        refine own_by (fun _ k => XS.goto X139.here hx rfl (pc0 := 105) (pc' := 161) rfl (hb hby at_105) (by decide) (by decide) k) ?_
        have Vm140 : Arv Z h139 ob1 k1 .char (5 : Int32) [(.int ((109 : Int32) &&& (255 : Int32))), (.int ((103 : Int32) &&& (255 : Int32))), (.int ((109 : Int32) &&& (255 : Int32))), (.int ((116 : Int32) &&& (255 : Int32)))] (.int (0 : Int32)) := Vw139
        have K141 : Keep h0 h139 [] := ((((((Keep.refl h0 []).ext E1).wr W133 (Or.inr (by omega))).wr W135 (Or.inr (by omega))).wr W137 (Or.inr (by omega))).wr W139 (Or.inr (by omega)))
        exact jn2 _ _ ⟨_, X139, N139⟩ e139 (109 : Int32) (103 : Int32) (109 : Int32) (116 : Int32) K141 R139 Vm140
      · skip
        refine own_by (fun _ k => XS.icmpYes X1.here hx rfl (pc0 := 78) (pc' := 108) rfl (hb hby at_78) rfl (feq hc131).2 (by decide) (by decide) k) ?_
        show own_Go p e below (T1.setTop (mkF m 108 #[.val (.int sel), .val (.int pos), .val (.int chh), .val (.int lng), .val (.int aa), .val (.int bb), .val (.int bs), .val (.ref ob1), .unset, .unset, .unset, .unset, .unset, .unset, .unset, .unset] [])) _
        refine own_by (fun _ k => XS.aload X1.here hx rfl (hb hby at_108) rfl rfl k) ?_
        refine own_by (fun _ k => XS.iconst X1.here hx rfl (hb hby at_110) k) ?_
        refine own_by (fun _ k => XS.iload X1.here hx rfl (hb hby at_111) rfl k) ?_
        refine own_by (fun _ k => XS.sipush X1.here hx rfl (hb hby at_113) k) ?_
        refine own_by (fun _ k => XS.iand X1.here hx rfl (hb hby at_116) rfl k) ?_
        refine own_by (fun _ k => XS.i2c X1.here hx rfl (hb hby at_117) rfl k) ?_
        show own_Go p e below (T1.setTop (mkF m 118 #[.val (.int sel), .val (.int pos), .val (.int chh), .val (.int lng), .val (.int aa), .val (.int bb), .val (.int bs), .val (.ref ob1), .unset, .unset, .unset, .unset, .unset, .unset, .unset, .unset] [(.int ((aa &&& (255 : Int32)).toUInt32.toUInt16.toUInt32.toInt32)), (.int (0 : Int32)), (.ref ob1)])) _
        rw [i2c_mask]
        show own_Go p e below (T1.setTop (mkF m 118 #[.val (.int sel), .val (.int pos), .val (.int chh), .val (.int lng), .val (.int aa), .val (.int bb), .val (.int bs), .val (.ref ob1), .unset, .unset, .unset, .unset, .unset, .unset, .unset, .unset] [(.int (aa &&& (255 : Int32))), (.int (0 : Int32)), (.ref ob1)])) _
        have Vw142 : Arv Z h1 ob1 k1 .char (5 : Int32) [(.int (0 : Int32))] (.int (0 : Int32)) := Vw1.pad (pad_rep [] (.int (0 : Int32)) 1)
        obtain ⟨cl143, Ar143, q143, S143, M143, H143, G143⟩ := (id Vw142)
        have hin143 : ¬ ((0 : Int32) < 0 ∨ cl143.slots.size ≤ ((0 : Int32)).toNatClampNeg) := inb_of S143 ⟨by decide, by decide⟩
        obtain ⟨T143, h143, X143, e143, W143, st143⟩ := stC X1 hx hZ e1 Ar143 (j := (0 : Int32)) hin143 (g := (mkF m 118 #[.val (.int sel), .val (.int pos), .val (.int chh), .val (.int lng), .val (.int aa), .val (.int bb), .val (.int bs), .val (.ref ob1), .unset, .unset, .unset, .unset, .unset, .unset, .unset, .unset] [(.int (aa &&& (255 : Int32))), (.int (0 : Int32)), (.ref ob1)])) rfl rfl (hb hby at_118)
        refine own_by st143 ?_
        rw [own_mask_c] at W143
        have z143 := W143.size
        have N143 := Fr.snoc X143 N0 (by omega)
        have sw143 : Safe Z own_EL s.vm h1 ob1 := (Safe.arv hZ.alike Vw142 (by decide))
        have sf143_ob1 := Safe.wr W143 sw143 R1.1 sw143
        have R143 := R1.trans (CHr.wr W143 sw143 R1.1)
        have Vw143 : Arv Z h143 ob1 k1 .char (5 : Int32) [(.int (aa &&& (255 : Int32)))] (.int (0 : Int32)) := Arv.set Ar143 q143 S143 M143 H143 G143 (own_fits_c _) W143 0 rfl (Nat.le_of_ble_eq_true rfl)
        refine own_by (fun _ k => XS.aload X143.here hx rfl (hb hby at_119) rfl rfl k) ?_
        refine own_by (fun _ k => XS.iconst X143.here hx rfl (hb hby at_121) k) ?_
        refine own_by (fun _ k => XS.iload X143.here hx rfl (hb hby at_122) rfl k) ?_
        refine own_by (fun _ k => XS.bipush X143.here hx rfl (hb hby at_124) k) ?_
        refine own_by (fun _ k => XS.iushr X143.here hx rfl (hb hby at_126) rfl k) ?_
        show own_Go p e below (T143.setTop (mkF m 127 #[.val (.int sel), .val (.int pos), .val (.int chh), .val (.int lng), .val (.int aa), .val (.int bb), .val (.int bs), .val (.ref ob1), .unset, .unset, .unset, .unset, .unset, .unset, .unset, .unset] [(.int ((aa.toUInt32 >>> ((8 : Int32) &&& 31).toUInt32).toInt32)), (.int (1 : Int32)), (.ref ob1)])) _
        refine own_by (fun _ k => XS.sipush X143.here hx rfl (hb hby at_127) k) ?_
        refine own_by (fun _ k => XS.iand X143.here hx rfl (hb hby at_130) rfl k) ?_
        refine own_by (fun _ k => XS.i2c X143.here hx rfl (hb hby at_131) rfl k) ?_
        show own_Go p e below (T143.setTop (mkF m 132 #[.val (.int sel), .val (.int pos), .val (.int chh), .val (.int lng), .val (.int aa), .val (.int bb), .val (.int bs), .val (.ref ob1), .unset, .unset, .unset, .unset, .unset, .unset, .unset, .unset] [(.int ((((aa.toUInt32 >>> ((8 : Int32) &&& 31).toUInt32).toInt32) &&& (255 : Int32)).toUInt32.toUInt16.toUInt32.toInt32)), (.int (1 : Int32)), (.ref ob1)])) _
        rw [i2c_mask]
        have Vw144 : Arv Z h143 ob1 k1 .char (5 : Int32) [(.int (aa &&& (255 : Int32))), (.int (0 : Int32))] (.int (0 : Int32)) := Vw143.pad (pad_rep [(.int (aa &&& (255 : Int32)))] (.int (0 : Int32)) 1)
        obtain ⟨cl145, Ar145, q145, S145, M145, H145, G145⟩ := (id Vw144)
        have hin145 : ¬ ((1 : Int32) < 0 ∨ cl145.slots.size ≤ ((1 : Int32)).toNatClampNeg) := inb_of S145 ⟨by decide, by decide⟩
        obtain ⟨T145, h145, X145, e145, W145, st145⟩ := stC X143 hx hZ e143 Ar145 (j := (1 : Int32)) hin145 (g := (mkF m 132 #[.val (.int sel), .val (.int pos), .val (.int chh), .val (.int lng), .val (.int aa), .val (.int bb), .val (.int bs), .val (.ref ob1), .unset, .unset, .unset, .unset, .unset, .unset, .unset, .unset] [(.int (((aa.toUInt32 >>> ((8 : Int32) &&& 31).toUInt32).toInt32) &&& (255 : Int32))), (.int (1 : Int32)), (.ref ob1)])) rfl rfl (hb hby at_132)
        refine own_by st145 ?_
        rw [own_mask_c] at W145
        have z145 := W145.size
        have N145 := Fr.snoc X145 N143 (by omega)
        have sw145 : Safe Z own_EL s.vm h143 ob1 := sf143_ob1
        have sf145_ob1 := Safe.wr W145 sw145 R143.1 sw145
        have R145 := R143.trans (CHr.wr W145 sw145 R143.1)
        have Vw145 : Arv Z h145 ob1 k1 .char (5 : Int32) [(.int (aa &&& (255 : Int32))), (.int (((aa.toUInt32 >>> ((8 : Int32) &&& 31).toUInt32).toInt32) &&& (255 : Int32)))] (.int (0 : Int32)) := Arv.set Ar145 q145 S145 M145 H145 G145 (own_fits_c _) W145 1 rfl (Nat.le_of_ble_eq_true rfl)
        refine own_by (fun _ k => XS.aload X145.here hx rfl (hb hby at_133) rfl rfl k) ?_
        refine own_by (fun _ k => XS.iconst X145.here hx rfl (hb hby at_135) k) ?_
        show own_Go p e below (T145.setTop (mkF m 136 #[.val (.int sel), .val (.int pos), .val (.int chh), .val (.int lng), .val (.int aa), .val (.int bb), .val (.int bs), .val (.ref ob1), .unset, .unset, .unset, .unset, .unset, .unset, .unset, .unset] [(.int (2 : Int32)), (.ref ob1)])) _
        refine own_by (fun _ k => XS.iload X145.here hx rfl (hb hby at_136) rfl k) ?_
        refine own_by (fun _ k => XS.bipush X145.here hx rfl (hb hby at_138) k) ?_
        refine own_by (fun _ k => XS.iushr X145.here hx rfl (hb hby at_140) rfl k) ?_
        refine own_by (fun _ k => XS.sipush X145.here hx rfl (hb hby at_141) k) ?_
        refine own_by (fun _ k => XS.iand X145.here hx rfl (hb hby at_144) rfl k) ?_
        refine own_by (fun _ k => XS.i2c X145.here hx rfl (hb hby at_145) rfl k) ?_
        show own_Go p e below (T145.setTop (mkF m 146 #[.val (.int sel), .val (.int pos), .val (.int chh), .val (.int lng), .val (.int aa), .val (.int bb), .val (.int bs), .val (.ref ob1), .unset, .unset, .unset, .unset, .unset, .unset, .unset, .unset] [(.int ((((aa.toUInt32 >>> ((16 : Int32) &&& 31).toUInt32).toInt32) &&& (255 : Int32)).toUInt32.toUInt16.toUInt32.toInt32)), (.int (2 : Int32)), (.ref ob1)])) _
        rw [i2c_mask]
        show own_Go p e below (T145.setTop (mkF m 146 #[.val (.int sel), .val (.int pos), .val (.int chh), .val (.int lng), .val (.int aa), .val (.int bb), .val (.int bs), .val (.ref ob1), .unset, .unset, .unset, .unset, .unset, .unset, .unset, .unset] [(.int (((aa.toUInt32 >>> ((16 : Int32) &&& 31).toUInt32).toInt32) &&& (255 : Int32))), (.int (2 : Int32)), (.ref ob1)])) _
        have Vw146 : Arv Z h145 ob1 k1 .char (5 : Int32) [(.int (aa &&& (255 : Int32))), (.int (((aa.toUInt32 >>> ((8 : Int32) &&& 31).toUInt32).toInt32) &&& (255 : Int32))), (.int (0 : Int32))] (.int (0 : Int32)) := Vw145.pad (pad_rep [(.int (aa &&& (255 : Int32))), (.int (((aa.toUInt32 >>> ((8 : Int32) &&& 31).toUInt32).toInt32) &&& (255 : Int32)))] (.int (0 : Int32)) 1)
        obtain ⟨cl147, Ar147, q147, S147, M147, H147, G147⟩ := (id Vw146)
        have hin147 : ¬ ((2 : Int32) < 0 ∨ cl147.slots.size ≤ ((2 : Int32)).toNatClampNeg) := inb_of S147 ⟨by decide, by decide⟩
        obtain ⟨T147, h147, X147, e147, W147, st147⟩ := stC X145 hx hZ e145 Ar147 (j := (2 : Int32)) hin147 (g := (mkF m 146 #[.val (.int sel), .val (.int pos), .val (.int chh), .val (.int lng), .val (.int aa), .val (.int bb), .val (.int bs), .val (.ref ob1), .unset, .unset, .unset, .unset, .unset, .unset, .unset, .unset] [(.int (((aa.toUInt32 >>> ((16 : Int32) &&& 31).toUInt32).toInt32) &&& (255 : Int32))), (.int (2 : Int32)), (.ref ob1)])) rfl rfl (hb hby at_146)
        refine own_by st147 ?_
        rw [own_mask_c] at W147
        have z147 := W147.size
        have N147 := Fr.snoc X147 N145 (by omega)
        have sw147 : Safe Z own_EL s.vm h145 ob1 := sf145_ob1
        have sf147_ob1 := Safe.wr W147 sw147 R145.1 sw147
        have R147 := R145.trans (CHr.wr W147 sw147 R145.1)
        have Vw147 : Arv Z h147 ob1 k1 .char (5 : Int32) [(.int (aa &&& (255 : Int32))), (.int (((aa.toUInt32 >>> ((8 : Int32) &&& 31).toUInt32).toInt32) &&& (255 : Int32))), (.int (((aa.toUInt32 >>> ((16 : Int32) &&& 31).toUInt32).toInt32) &&& (255 : Int32)))] (.int (0 : Int32)) := Arv.set Ar147 q147 S147 M147 H147 G147 (own_fits_c _) W147 2 rfl (Nat.le_of_ble_eq_true rfl)
        refine own_by (fun _ k => XS.aload X147.here hx rfl (hb hby at_147) rfl rfl k) ?_
        refine own_by (fun _ k => XS.iconst X147.here hx rfl (hb hby at_149) k) ?_
        refine own_by (fun _ k => XS.iload X147.here hx rfl (hb hby at_150) rfl k) ?_
        refine own_by (fun _ k => XS.bipush X147.here hx rfl (hb hby at_152) k) ?_
        refine own_by (fun _ k => XS.iushr X147.here hx rfl (hb hby at_154) rfl k) ?_
        show own_Go p e below (T147.setTop (mkF m 155 #[.val (.int sel), .val (.int pos), .val (.int chh), .val (.int lng), .val (.int aa), .val (.int bb), .val (.int bs), .val (.ref ob1), .unset, .unset, .unset, .unset, .unset, .unset, .unset, .unset] [(.int ((aa.toUInt32 >>> ((24 : Int32) &&& 31).toUInt32).toInt32)), (.int (3 : Int32)), (.ref ob1)])) _
        refine own_by (fun _ k => XS.sipush X147.here hx rfl (hb hby at_155) k) ?_
        refine own_by (fun _ k => XS.iand X147.here hx rfl (hb hby at_158) rfl k) ?_
        refine own_by (fun _ k => XS.i2c X147.here hx rfl (hb hby at_159) rfl k) ?_
        show own_Go p e below (T147.setTop (mkF m 160 #[.val (.int sel), .val (.int pos), .val (.int chh), .val (.int lng), .val (.int aa), .val (.int bb), .val (.int bs), .val (.ref ob1), .unset, .unset, .unset, .unset, .unset, .unset, .unset, .unset] [(.int ((((aa.toUInt32 >>> ((24 : Int32) &&& 31).toUInt32).toInt32) &&& (255 : Int32)).toUInt32.toUInt16.toUInt32.toInt32)), (.int (3 : Int32)), (.ref ob1)])) _
        rw [i2c_mask]
        have Vw148 : Arv Z h147 ob1 k1 .char (5 : Int32) [(.int (aa &&& (255 : Int32))), (.int (((aa.toUInt32 >>> ((8 : Int32) &&& 31).toUInt32).toInt32) &&& (255 : Int32))), (.int (((aa.toUInt32 >>> ((16 : Int32) &&& 31).toUInt32).toInt32) &&& (255 : Int32))), (.int (0 : Int32))] (.int (0 : Int32)) := Vw147.pad (pad_rep [(.int (aa &&& (255 : Int32))), (.int (((aa.toUInt32 >>> ((8 : Int32) &&& 31).toUInt32).toInt32) &&& (255 : Int32))), (.int (((aa.toUInt32 >>> ((16 : Int32) &&& 31).toUInt32).toInt32) &&& (255 : Int32)))] (.int (0 : Int32)) 1)
        obtain ⟨cl149, Ar149, q149, S149, M149, H149, G149⟩ := (id Vw148)
        have hin149 : ¬ ((3 : Int32) < 0 ∨ cl149.slots.size ≤ ((3 : Int32)).toNatClampNeg) := inb_of S149 ⟨by decide, by decide⟩
        obtain ⟨T149, h149, X149, e149, W149, st149⟩ := stC X147 hx hZ e147 Ar149 (j := (3 : Int32)) hin149 (g := (mkF m 160 #[.val (.int sel), .val (.int pos), .val (.int chh), .val (.int lng), .val (.int aa), .val (.int bb), .val (.int bs), .val (.ref ob1), .unset, .unset, .unset, .unset, .unset, .unset, .unset, .unset] [(.int (((aa.toUInt32 >>> ((24 : Int32) &&& 31).toUInt32).toInt32) &&& (255 : Int32))), (.int (3 : Int32)), (.ref ob1)])) rfl rfl (hb hby at_160)
        refine own_by st149 ?_
        rw [own_mask_c] at W149
        have z149 := W149.size
        have N149 := Fr.snoc X149 N147 (by omega)
        have sw149 : Safe Z own_EL s.vm h147 ob1 := sf147_ob1
        have sf149_ob1 := Safe.wr W149 sw149 R147.1 sw149
        have R149 := R147.trans (CHr.wr W149 sw149 R147.1)
        have Vw149 : Arv Z h149 ob1 k1 .char (5 : Int32) [(.int (aa &&& (255 : Int32))), (.int (((aa.toUInt32 >>> ((8 : Int32) &&& 31).toUInt32).toInt32) &&& (255 : Int32))), (.int (((aa.toUInt32 >>> ((16 : Int32) &&& 31).toUInt32).toInt32) &&& (255 : Int32))), (.int (((aa.toUInt32 >>> ((24 : Int32) &&& 31).toUInt32).toInt32) &&& (255 : Int32)))] (.int (0 : Int32)) := Arv.set Ar149 q149 S149 M149 H149 G149 (own_fits_c _) W149 3 rfl (Nat.le_of_ble_eq_true rfl)
        show own_Go p e below (T149.setTop (mkF m 161 #[.val (.int sel), .val (.int pos), .val (.int chh), .val (.int lng), .val (.int aa), .val (.int bb), .val (.int bs), .val (.ref ob1), .unset, .unset, .unset, .unset, .unset, .unset, .unset, .unset] [])) _
        have K150 : Keep h0 h149 [] := ((((((Keep.refl h0 []).ext E1).wr W143 (Or.inr (by omega))).wr W145 (Or.inr (by omega))).wr W147 (Or.inr (by omega))).wr W149 (Or.inr (by omega)))
        exact jn2 _ _ ⟨_, X149, N149⟩ e149 aa ((aa.toUInt32 >>> ((8 : Int32) &&& 31).toUInt32).toInt32) ((aa.toUInt32 >>> ((16 : Int32) &&& 31).toUInt32).toInt32) ((aa.toUInt32 >>> ((24 : Int32) &&& 31).toUInt32).toInt32) K150 R149 Vw149
set_option maxRecDepth 65536 in
set_option maxHeartbeats 40000000 in
theorem comes_1 {Post : Tables → Env → Array Value → State → Outcome → State → Prop} (hpost : ∀ tb e args s v u, (limb_1_1.after args s (.returned v) u = true ∧ limb_1_2.after args s (.returned v) u = true ∧ True) → ReturnedEndW s (.returned v) u (Jvm.fieldLocs frame_1_writes args s ++ Jvm.arrayLocs frame_1_arrays args s ++ Jvm.staticLocs frame_1_statics s) 24 1152 → Post tb e args s (.returned v) u) :
    ArmFor flags0 classFile x code maxLocals ret World_1 tables_1 room_1 Calls_1 rest_1 Pre_1 Post := by
  intro l hfl _ _ p e ha hc hk s m args below hf hA hF happ hP
  obtain ⟨hcalls, hrest, hpre⟩ := hP
  obtain ⟨-, -, -, hnamed, -, -, -, hat⟩ := (Spec.applies_iff hf).mp happ
  obtain ⟨hg, hn⟩ := and_e (Cond.before_iff.mp (show (Jvm.Cond.and given_1 narrow_1).before args s = true from hpre))
  obtain ⟨hh0, hg0⟩ := and_e hg
  obtain ⟨hh1, hg1⟩ := and_e hg0
  obtain ⟨hh2, hg2⟩ := and_e hg1
  obtain ⟨hh3, hg3⟩ := and_e hg2
  obtain ⟨hh4, hg4⟩ := and_e hg3
  obtain ⟨hh5, hg5⟩ := and_e hg4
  obtain ⟨w0, w1, w2, w3, w4, w5, rfl⟩ : ∃ w0 w1 w2 w3 w4 w5 : Value, args = #[w0, w1, w2, w3, w4, w5] := by
    have hs : args.size = 6 := by simpa [Cond.value, given_1] using hh0
    obtain ⟨L⟩ := args
    match L, hs with
    | [w0, w1, w2, w3, w4, w5], _ => exact ⟨w0, w1, w2, w3, w4, w5, rfl⟩
  have hw := fun d (hd : d ∈ tables_1) => atoms_spec (ws := Jvm.Cond.code x code maxLocals ret :: tables_1) hat d (List.mem_cons_of_mem _ hd)
  have hfit : Fit s := fun {y c} hc i hi => by
    obtain ⟨ha, rfl⟩ := Array.getElem?_eq_some_iff.mp hc
    have q := List.all_eq_true.mp ((Array.all_eq_true_iff_forall_mem.mp hF) _ (Array.getElem_mem ha)) i (List.mem_range.mpr hi)
    simpa [Array.getElem?_eq_getElem hi] using q
  obtain ⟨hsets, hown0⟩ := atoms_of _ (rest_1_c_eq ▸ (show rest_1_c.before _ s = true from hrest))
  have hr0 := Cond.before_iff.mp hown0
  obtain ⟨i0, ea0⟩ := is_v hh1
  obtain rfl : w0 = (.int i0) := Option.some.inj ea0
  obtain ⟨i1, ea1⟩ := is_v hh2
  obtain rfl : w1 = (.int i1) := Option.some.inj ea1
  obtain ⟨i2, ea2⟩ := is_v hh3
  obtain rfl : w2 = (.int i2) := Option.some.inj ea2
  obtain ⟨i3, ea3⟩ := is_v hh4
  obtain rfl : w3 = (.int i3) := Option.some.inj ea3
  obtain ⟨i4, ea4⟩ := is_v hh5
  obtain rfl : w4 = (.int i4) := Option.some.inj ea4
  obtain ⟨i5, ea5⟩ := is_v hg5
  obtain rfl : w5 = (.int i5) := Option.some.inj ea5
  obtain ⟨cs, v_cs⟩ := is_v (Cond.before_iff.mp (hsets _ (List.mem_of_getElem? (i := 1) rfl)))
  have S_COMPACT := Sta.start v_cs (Or.inl (hsets _ (List.mem_of_getElem? (i := 0) rfl)))
  have hcs : ¬ (cs = (0 : Int32)) := gotF (Cond.eq_ints v_cs (Term.int_eval (0))) (not_v (Cond.before_iff.mp (hsets _ (List.mem_of_getElem? (i := 2) rfl))))
  obtain ⟨fmt, v_fmt, hfmt⟩ := isR_v (Cond.before_iff.mp (hsets _ (List.mem_of_getElem? (i := 8) rfl)))
  have S_FMT := Sta.start v_fmt (Or.inl (hsets _ (List.mem_of_getElem? (i := 7) rfl)))
  have hEL : EW s _ own_EL := (EW.cons (own_w hw 69 rfl) (by decide) EW.nil)
  have hCH : CHv s own_EL s.vm s.heap := CHv.start hEL (fun q hq => hcalls.1 q hq) (hsets _ (List.mem_of_getElem? (i := 2) rfl)) (own_w hw 53 rfl) (own_w hw 37 rfl)
  obtain ⟨m0, r0⟩ := and_e hn
  obtain ⟨m1, r1⟩ := and_e r0
  obtain ⟨m2, r2⟩ := and_e r1
  obtain ⟨m3, r3⟩ := and_e r2
  obtain ⟨m4, r4⟩ := and_e r3
  obtain ⟨m5, r5⟩ := and_e r4
  obtain ⟨m6, r6⟩ := and_e r5
  obtain ⟨m7, r7⟩ := and_e r6
  obtain ⟨m8, r8⟩ := and_e r7
  obtain ⟨m9, r9⟩ := and_e r8
  obtain ⟨m10, r10⟩ := and_e r9
  obtain ⟨m11, r11⟩ := and_e r10
  obtain ⟨m12, r12⟩ := and_e r11
  obtain ⟨m13, r13⟩ := and_e r12
  obtain ⟨m14, r14⟩ := and_e r13
  obtain ⟨m15, r15⟩ := and_e r14
  obtain ⟨m16, r16⟩ := and_e r15
  obtain ⟨m17, r17⟩ := and_e r16
  obtain ⟨m18, r18⟩ := and_e r17
  obtain ⟨m19, r19⟩ := and_e r18
  obtain ⟨m20, r20⟩ := and_e r19
  obtain ⟨m21, r21⟩ := and_e r20
  obtain ⟨m22, r22⟩ := and_e r21
  obtain ⟨m23, r23⟩ := and_e r22
  obtain ⟨m24, r24⟩ := and_e r23
  obtain ⟨m25, r25⟩ := and_e r24
  obtain ⟨m26, r26⟩ := and_e r25
  obtain ⟨m27, r27⟩ := and_e r26
  obtain ⟨m28, r28⟩ := and_e r27
  obtain ⟨m29, r29⟩ := and_e r28
  obtain ⟨m30, r30⟩ := and_e r29
  obtain ⟨m31, r31⟩ := and_e r30
  have m32 := r31
  obtain ⟨va, v_va⟩ := arr_v m0
  have E_va := Exa.start v_va m1
  have S_VALUES := Sta.start v_va (Or.inl (own_w hw 21 rfl))
  obtain ⟨cva, A_va⟩ := Arr.start v_va m0
  have len_va := own_len v_va A_va m2
  obtain ⟨a_LIVE, v_LIVE⟩ := exa_v m3
  have E_LIVE := Exa.start v_LIVE m3
  have S_LIVE := Sta.start v_LIVE (Or.inr ⟨(own_w hw 4 rfl), (own_w hw 18 rfl)⟩)
  obtain ⟨a_TEST, v_TEST⟩ := exa_v m5
  have E_TEST := Exa.start v_TEST m5
  have S_TEST := Sta.start v_TEST (Or.inr ⟨(own_w hw 4 rfl), (own_w hw 19 rfl)⟩)
  obtain ⟨a_MANAGEMENT, v_MANAGEMENT⟩ := exa_v m7
  have E_MANAGEMENT := Exa.start v_MANAGEMENT m7
  have S_MANAGEMENT := Sta.start v_MANAGEMENT (Or.inr ⟨(own_w hw 4 rfl), (own_w hw 20 rfl)⟩)
  have V_va : Arv s s.heap va cva.cls (.object s2_) (3 : Int32) [.ref a_LIVE, .ref a_TEST, .ref a_MANAGEMENT] .null := Arv.start hfit A_va len_va.1 len_va.2 (by decide) rfl ⟨(elem_in (own_eq_ref v_LIVE m4) v_va (Term.int_eval 0) A_va.1).2, (elem_in (own_eq_ref v_TEST m6) v_va (Term.int_eval 1) A_va.1).2, (elem_in (own_eq_ref v_MANAGEMENT m8) v_va (Term.int_eval 2) A_va.1).2, trivial⟩
  obtain ⟨l_LIVE, vl_LIVE⟩ := exa_v m9
  have Es_LIVE := Exa.start vl_LIVE m9
  have F_LIVE := Fld.start ((fld_at v_LIVE).symm.trans vl_LIVE)
  have Fc_LIVE := Fld.start ((fld_at vl_LIVE).symm.trans (own_eq_int m12))
  obtain ⟨b_LIVE, vb_LIVE⟩ := arr_v m13
  have Fv_LIVE := Fld.start ((fld_at vl_LIVE).symm.trans vb_LIVE)
  obtain ⟨cb_LIVE, A_LIVE⟩ := Arr.start vb_LIVE m13
  have len_LIVE := own_len vb_LIVE A_LIVE m14
  have V_LIVE : Arv s s.heap b_LIVE cb_LIVE.cls .byte (4 : Int32) [.int (108 : Int32), .int (105 : Int32), .int (118 : Int32), .int (101 : Int32)] (.int (0 : Int32)) := Arv.start hfit A_LIVE len_LIVE.1 len_LIVE.2 (by decide) (by decide) ⟨(elem_in (own_eq_int m21) vb_LIVE (Term.int_eval 0) A_LIVE.1).2, (elem_in (own_eq_int m30) vb_LIVE (Term.int_eval 1) A_LIVE.1).2, (elem_in (own_eq_int m31) vb_LIVE (Term.int_eval 2) A_LIVE.1).2, (elem_in (own_eq_int m32) vb_LIVE (Term.int_eval 3) A_LIVE.1).2, trivial⟩
  obtain ⟨l_TEST, vl_TEST⟩ := exa_v m10
  have Es_TEST := Exa.start vl_TEST m10
  have F_TEST := Fld.start ((fld_at v_TEST).symm.trans vl_TEST)
  have Fc_TEST := Fld.start ((fld_at vl_TEST).symm.trans (own_eq_int m15))
  obtain ⟨b_TEST, vb_TEST⟩ := arr_v m16
  have Fv_TEST := Fld.start ((fld_at vl_TEST).symm.trans vb_TEST)
  obtain ⟨cb_TEST, A_TEST⟩ := Arr.start vb_TEST m16
  have len_TEST := own_len vb_TEST A_TEST m17
  have V_TEST : Arv s s.heap b_TEST cb_TEST.cls .byte (4 : Int32) [.int (116 : Int32), .int (101 : Int32), .int (115 : Int32), .int (116 : Int32)] (.int (0 : Int32)) := Arv.start hfit A_TEST len_TEST.1 len_TEST.2 (by decide) (by decide) ⟨(elem_in (own_eq_int m22) vb_TEST (Term.int_eval 0) A_TEST.1).2, (elem_in (own_eq_int m27) vb_TEST (Term.int_eval 1) A_TEST.1).2, (elem_in (own_eq_int m28) vb_TEST (Term.int_eval 2) A_TEST.1).2, (elem_in (own_eq_int m29) vb_TEST (Term.int_eval 3) A_TEST.1).2, trivial⟩
  obtain ⟨l_MANAGEMENT, vl_MANAGEMENT⟩ := exa_v m11
  have Es_MANAGEMENT := Exa.start vl_MANAGEMENT m11
  have F_MANAGEMENT := Fld.start ((fld_at v_MANAGEMENT).symm.trans vl_MANAGEMENT)
  have Fc_MANAGEMENT := Fld.start ((fld_at vl_MANAGEMENT).symm.trans (own_eq_int m18))
  obtain ⟨b_MANAGEMENT, vb_MANAGEMENT⟩ := arr_v m19
  have Fv_MANAGEMENT := Fld.start ((fld_at vl_MANAGEMENT).symm.trans vb_MANAGEMENT)
  obtain ⟨cb_MANAGEMENT, A_MANAGEMENT⟩ := Arr.start vb_MANAGEMENT m19
  have len_MANAGEMENT := own_len vb_MANAGEMENT A_MANAGEMENT m20
  have V_MANAGEMENT : Arv s s.heap b_MANAGEMENT cb_MANAGEMENT.cls .byte (4 : Int32) [.int (109 : Int32), .int (103 : Int32), .int (109 : Int32), .int (116 : Int32)] (.int (0 : Int32)) := Arv.start hfit A_MANAGEMENT len_MANAGEMENT.1 len_MANAGEMENT.2 (by decide) (by decide) ⟨(elem_in (own_eq_int m23) vb_MANAGEMENT (Term.int_eval 0) A_MANAGEMENT.1).2, (elem_in (own_eq_int m24) vb_MANAGEMENT (Term.int_eval 1) A_MANAGEMENT.1).2, (elem_in (own_eq_int m25) vb_MANAGEMENT (Term.int_eval 2) A_MANAGEMENT.1).2, (elem_in (own_eq_int m26) vb_MANAGEMENT (Term.int_eval 3) A_MANAGEMENT.1).2, trivial⟩
  obtain ⟨n, o, h1, h2, h3, _, L, rfl, ⟨rfl, N, -⟩, -, hq⟩ := rm_law l s _ hw tables_1 i0 i1 i2 i3 i4 i5 va cva.cls a_LIVE a_TEST a_MANAGEMENT l_LIVE b_LIVE cb_LIVE.cls l_TEST b_TEST cb_TEST.cls l_MANAGEMENT b_MANAGEMENT cb_MANAGEMENT.cls cs s.heap s.heap.size (Old.start s) hEL S_VALUES E_va V_va E_LIVE F_LIVE Es_LIVE Fc_LIVE Fv_LIVE V_LIVE E_TEST F_TEST Es_TEST Fc_TEST Fv_TEST V_TEST E_MANAGEMENT F_MANAGEMENT Es_MANAGEMENT Fc_MANAGEMENT Fv_MANAGEMENT V_MANAGEMENT S_COMPACT S_LIVE S_TEST S_MANAGEMENT hcs p e ha hc hk s m _ below hf ((Spec.applies_iff_loose hf).mp happ).1 ⟨rfl, State.Warmed39.refl s, rfl, hCH⟩ trivial
  refine ⟨n, _, h1, h2, h3, hpost _ _ _ _ _ _ ⟨Cond.after_iff.mpr rfl, Cond.after_iff.mpr (eq_i res_at (Term.int_eval (1)) rfl), trivial⟩ ⟨hq.1, hq.2.1, hq.2.2.1, (hq.2.2.2.sift fun y hy => Or.inr (N y hy)).mono (by decide) (by decide)⟩⟩
theorem main_1_1 : Claimed_1_1 := comes_1 fun _ _ _ _ _ _ h hF => ⟨h.1, hF⟩
theorem main_1_2 : Claimed_1_2 := comes_1 fun _ _ _ _ _ _ h hF => ⟨h.2.1, hF⟩
end Jvm.Pilot.@@N@@
namespace Jvm.Pilot.@@N@@
open Jvm Jvm.ClassFile Sem Op Lib Jvm.Free Jvm.Stand Jvm.Pilot.@@N@@.Jvm.D
/-! MADE BY PROGRAM (witnessworld.py) out of the Statement's table words and the real class files: 22 classes; the members and pool entries that the words name. The judged class is class 1, her method 1. -/
namespace start1
open Jvm.ClassFile
def u (s : String) : CpInfo := .utf8 (stringToUtf16 s)
/-- a pool by its gaps: so many unusable entries, then the entry; so many at the end -/
def gap : Nat → List CpInfo → List CpInfo
  | 0, r => r
  | n + 1, r => .unusable :: gap n r
def poolList (es : List (Nat × CpInfo)) (last : Nat) : List CpInfo := es.foldr (fun e r => gap e.1 (e.2 :: r)) (gap last [])
def pool (es : List (Nat × CpInfo)) (last : Nat) : Array CpInfo := ⟨poolList es last⟩
def fileOf (pool : Array CpInfo) (this : Nat) (attrs : Array Attribute := #[]) (ms : Array MethodInfo := #[]) (fl : Nat := 33) (sup : Nat := 0) (ifs : Array Nat := #[]) (fds : Array FieldInfo := #[]) : ClassFile where
  minorVersion := 0
  majorVersion := 65
  constantPool := pool
  accessFlags := fl
  thisClass := this
  superClass := sup
  interfaces := ifs
  fields := fds
  methods := ms
  attributes := attrs
def plain (name : String) (sup : Option ClassId) : Class where
  name := name
  kind := .ordinary
  loader := none
  accessFlags := 33
  super := sup
  interfaces := #[]
  cf := none
  fields := #[]
  methods := #[]
  instanceTypes := #[]
  staticTypes := #[]
  resolved := #[]
  callSites := []
  init := .initialized
  statics := none
  mirror := none

def pool0 : Array CpInfo := pool [(5, u "<init>"), (0, u "()V"), (1, .class_ 10), (1, u "java/lang/Object"), (85, u "clone"), (0, u "()Ljava/lang/Object;")] 26

def k0c0 : Code := { maxStack := 0, maxLocals := 1, code := object_method_1_code, exceptionTable := #[], attributes := #[] }
def k0m0 : Method := { name := "<init>", desc := "()V", sig := { parameters := [], returnType := none }, accessFlags := 1, code := some k0c0 }
def k0m1 : Method := { name := "clone", desc := "()Ljava/lang/Object;", sig := { parameters := [], returnType := some (.object "java/lang/Object") }, accessFlags := 260, code := none }
/-- java/lang/Object -/
def k0 : Class := { plain "java/lang/Object" none with
  accessFlags := 33
  interfaces := #[]
  cf := some (fileOf pool0 8 #[] #[{ accessFlags := 1, nameIndex := 5, descriptorIndex := 6, attributes := #[] }, { accessFlags := 260, nameIndex := 96, descriptorIndex := 97, attributes := #[] }] 33 0 #[] #[])
  fields := #[]
  methods := #[k0m0, k0m1]
  instanceTypes := #[]
  staticTypes := #[]
  resolved := Array.replicate 124 none
  statics := none }

def pool1 : Array CpInfo := pool [(2, .class_ 4), (1, u "java/lang/Object"), (0, u "<init>"), (0, u "()V"), (0, .integer 2147483647), (0, .methodref 9 10), (0, .class_ 11), (0, .nameAndType 12 13), (0, u "com/example/ostiarius/ostiarius/key/KeyKindOfLabelPinLaw"), (0, u "prefix"), (0, u "([CI)Ljava/lang/String;"), (0, .fieldref 15 16), (0, .class_ 17), (0, .nameAndType 18 19), (0, u "com/example/ostiarius/ostiarius/key/KeyKind"), (0, u "LIVE"), (0, u "Lcom/example/ostiarius/ostiarius/key/KeyKind;"), (0, .fieldref 15 21), (0, .nameAndType 22 19), (0, u "TEST"), (0, .fieldref 15 24), (0, .nameAndType 25 19), (0, u "MANAGEMENT"), (0, .methodref 15 27), (0, .nameAndType 28 29), (0, u "ofLabel"), (0, u "(Ljava/lang/String;)Lcom/example/ostiarius/ostiarius/key/KeyKind;"), (0, .class_ 31), (0, u "java/lang/String"), (0, .methodref 30 33), (0, .nameAndType 5 34), (0, u "([C)V"), (2, u "law"), (0, u "(IIIIII)Z")] 5

def k1m0 : Method := { name := "<init>", desc := "()V", sig := { parameters := [], returnType := none }, accessFlags := 1, code := none }
def k1c1 : Code := { maxStack := 4, maxLocals := 16, code := code, exceptionTable := #[], attributes := #[] }
def k1m1 : Method := { name := "law", desc := "(IIIIII)Z", sig := { parameters := [.int, .int, .int, .int, .int, .int], returnType := some .boolean }, accessFlags := 9, code := some k1c1 }
def k1c2 : Code := { maxStack := 4, maxLocals := 3, code := method_3_code, exceptionTable := #[], attributes := #[] }
def k1m2 : Method := { name := "prefix", desc := "([CI)Ljava/lang/String;", sig := { parameters := [(.array .char), .int], returnType := some (.object "java/lang/String") }, accessFlags := 10, code := some k1c2 }
/-- com/example/ostiarius/ostiarius/key/KeyKindOfLabelPinLaw -/
def k1 : Class := { plain "com/example/ostiarius/ostiarius/key/KeyKindOfLabelPinLaw" (some 0) with
  accessFlags := 49
  interfaces := #[]
  cf := some (fileOf pool1 9 #[] #[{ accessFlags := 1, nameIndex := 5, descriptorIndex := 6, attributes := #[] }, { accessFlags := 9, nameIndex := 37, descriptorIndex := 38, attributes := #[] }, { accessFlags := 10, nameIndex := 12, descriptorIndex := 13, attributes := #[] }] 49 2 #[] #[])
  fields := #[]
  methods := #[k1m0, k1m1, k1m2]
  instanceTypes := #[]
  staticTypes := #[]
  resolved := Array.replicate 44 none
  statics := none }

def pool2 : Array CpInfo := pool [(1, .class_ 2), (0, u "java/lang/constant/Constable"), (0, .class_ 4), (0, u "java/lang/Object")] 6

/-- java/lang/constant/Constable -/
def k2 : Class := { plain "java/lang/constant/Constable" (some 0) with
  accessFlags := 1537
  interfaces := #[]
  cf := some (fileOf pool2 1 #[] #[] 1537 3 #[] #[])
  fields := #[]
  methods := #[]
  instanceTypes := #[]
  staticTypes := #[]
  resolved := Array.replicate 11 none
  statics := none }

def pool3 : Array CpInfo := pool [(1, .class_ 2), (0, u "java/lang/Comparable"), (0, .class_ 4), (0, u "java/lang/Object")] 7

/-- java/lang/Comparable -/
def k3 : Class := { plain "java/lang/Comparable" (some 0) with
  accessFlags := 1537
  interfaces := #[]
  cf := some (fileOf pool3 1 #[] #[] 1537 3 #[] #[])
  fields := #[]
  methods := #[]
  instanceTypes := #[]
  staticTypes := #[]
  resolved := Array.replicate 12 none
  statics := none }

def pool4 : Array CpInfo := pool [(1, .class_ 2), (0, u "java/io/Serializable"), (0, .class_ 4), (0, u "java/lang/Object")] 2

/-- java/io/Serializable -/
def k4 : Class := { plain "java/io/Serializable" (some 0) with
  accessFlags := 1537
  interfaces := #[]
  cf := some (fileOf pool4 1 #[] #[] 1537 3 #[] #[])
  fields := #[]
  methods := #[]
  instanceTypes := #[]
  staticTypes := #[]
  resolved := Array.replicate 7 none
  statics := none }

def pool5 : Array CpInfo := pool [(2, .class_ 4), (1, u "java/lang/Enum"), (0, u "name"), (0, u "Ljava/lang/String;"), (2, u "ordinal"), (0, u "I"), (1, .class_ 14), (1, u "java/lang/Object"), (4, u "hash"), (86, .class_ 108), (1, u "java/lang/Enum$EnumDesc"), (2, .class_ 112), (0, u "java/lang/constant/Constable"), (0, .class_ 114), (0, u "java/lang/Comparable"), (0, .class_ 116), (0, u "java/io/Serializable")] 87

/-- java/lang/Enum -/
def k5 : Class := { plain "java/lang/Enum" (some 0) with
  accessFlags := 1057
  interfaces := #[2, 3, 4]
  cf := some (fileOf pool5 2 #[.nestMembers #[106]] #[] 1057 12 #[111, 113, 115] #[{ accessFlags := 18, nameIndex := 5, descriptorIndex := 6, attributes := #[] }, { accessFlags := 18, nameIndex := 9, descriptorIndex := 10, attributes := #[] }, { accessFlags := 2, nameIndex := 19, descriptorIndex := 10, attributes := #[] }])
  fields := #[{ name := "name", type := (.object "java/lang/String"), accessFlags := 18, slot := 0, constantValue := 0 }, { name := "ordinal", type := .int, accessFlags := 18, slot := 1, constantValue := 0 }, { name := "hash", type := .int, accessFlags := 2, slot := 2, constantValue := 0 }]
  methods := #[]
  instanceTypes := #[(.object "java/lang/String"), .int, .int]
  staticTypes := #[]
  resolved := Array.replicate 204 none
  statics := none }

def pool6 : Array CpInfo := pool [(1, .class_ 2), (0, u "com/example/ostiarius/ostiarius/key/KeyKind"), (2, u "LIVE"), (0, u "Lcom/example/ostiarius/ostiarius/key/KeyKind;"), (2, u "TEST"), (2, u "MANAGEMENT"), (0, .fieldref 1 14), (0, .nameAndType 15 16), (0, u "$VALUES"), (0, u "[Lcom/example/ostiarius/ostiarius/key/KeyKind;"), (0, .methodref 18 19), (0, .class_ 16), (0, .nameAndType 20 21), (0, u "clone"), (0, u "()Ljava/lang/Object;"), (1, .class_ 25), (1, u "java/lang/Enum"), (6, .fieldref 1 33), (0, .nameAndType 34 35), (0, u "label"), (0, u "Ljava/lang/String;"), (0, .methodref 1 37), (0, .nameAndType 38 39), (0, u "values"), (0, u "()[Lcom/example/ostiarius/ostiarius/key/KeyKind;"), (0, .methodref 41 42), (0, .class_ 43), (0, .nameAndType 44 45), (0, u "java/lang/String"), (0, u "equals"), (0, u "(Ljava/lang/Object;)Z"), (17, u "(Ljava/lang/String;)Lcom/example/ostiarius/ostiarius/key/KeyKind;"), (7, u "ofLabel")] 5

def k6c0 : Code := { maxStack := 1, maxLocals := 0, code := prog_6_method_1_code, exceptionTable := #[], attributes := #[] }
def k6m0 : Method := { name := "values", desc := "()[Lcom/example/ostiarius/ostiarius/key/KeyKind;", sig := { parameters := [], returnType := some (.array (.object "com/example/ostiarius/ostiarius/key/KeyKind")) }, accessFlags := 9, code := some k6c0 }
def k6c1 : Code := { maxStack := 2, maxLocals := 5, code := prog_6_method_6_code, exceptionTable := #[], attributes := #[] }
def k6m1 : Method := { name := "ofLabel", desc := "(Ljava/lang/String;)Lcom/example/ostiarius/ostiarius/key/KeyKind;", sig := { parameters := [(.object "java/lang/String")], returnType := some (.object "com/example/ostiarius/ostiarius/key/KeyKind") }, accessFlags := 8, code := some k6c1 }
/-- com/example/ostiarius/ostiarius/key/KeyKind -/
def k6 : Class := { plain "com/example/ostiarius/ostiarius/key/KeyKind" (some 5) with
  accessFlags := 16433
  interfaces := #[]
  cf := some (fileOf pool6 1 #[] #[{ accessFlags := 9, nameIndex := 38, descriptorIndex := 39, attributes := #[] }, { accessFlags := 8, nameIndex := 71, descriptorIndex := 63, attributes := #[] }] 16433 23 #[] #[{ accessFlags := 16409, nameIndex := 5, descriptorIndex := 6, attributes := #[] }, { accessFlags := 16409, nameIndex := 9, descriptorIndex := 6, attributes := #[] }, { accessFlags := 16409, nameIndex := 12, descriptorIndex := 6, attributes := #[] }, { accessFlags := 18, nameIndex := 34, descriptorIndex := 35, attributes := #[] }, { accessFlags := 4122, nameIndex := 15, descriptorIndex := 16, attributes := #[] }])
  fields := #[{ name := "LIVE", type := (.object "com/example/ostiarius/ostiarius/key/KeyKind"), accessFlags := 16409, slot := 0, constantValue := 0 }, { name := "TEST", type := (.object "com/example/ostiarius/ostiarius/key/KeyKind"), accessFlags := 16409, slot := 1, constantValue := 0 }, { name := "MANAGEMENT", type := (.object "com/example/ostiarius/ostiarius/key/KeyKind"), accessFlags := 16409, slot := 2, constantValue := 0 }, { name := "label", type := (.object "java/lang/String"), accessFlags := 18, slot := 3, constantValue := 0 }, { name := "$VALUES", type := (.array (.object "com/example/ostiarius/ostiarius/key/KeyKind")), accessFlags := 4122, slot := 3, constantValue := 0 }]
  methods := #[k6m0, k6m1]
  instanceTypes := #[(.object "java/lang/String"), .int, .int, (.object "java/lang/String")]
  staticTypes := #[(.object "com/example/ostiarius/ostiarius/key/KeyKind"), (.object "com/example/ostiarius/ostiarius/key/KeyKind"), (.object "com/example/ostiarius/ostiarius/key/KeyKind"), (.array (.object "com/example/ostiarius/ostiarius/key/KeyKind"))]
  resolved := Array.replicate 77 none
  statics := some 0 }

def pool7 : Array CpInfo := pool [(1, .class_ 2), (0, u "java/lang/Cloneable"), (0, .class_ 4), (0, u "java/lang/Object")] 2

/-- java/lang/Cloneable -/
def k7 : Class := { plain "java/lang/Cloneable" (some 0) with
  accessFlags := 1537
  interfaces := #[]
  cf := some (fileOf pool7 1 #[] #[] 1537 3 #[] #[])
  fields := #[]
  methods := #[]
  instanceTypes := #[]
  staticTypes := #[]
  resolved := Array.replicate 7 none
  statics := none }

def pool8 : Array CpInfo := pool [(2, .class_ 4), (1, u "java/lang/CharSequence"), (42, .class_ 48), (0, u "java/lang/CharSequence$1CodePointIterator"), (10, .class_ 60), (0, u "java/lang/CharSequence$1CharIterator"), (5, .class_ 67), (0, u "java/lang/Object")] 63

/-- java/lang/CharSequence -/
def k8 : Class := { plain "java/lang/CharSequence" (some 0) with
  accessFlags := 1537
  interfaces := #[]
  cf := some (fileOf pool8 2 #[.nestMembers #[47, 59]] #[] 1537 66 #[] #[])
  fields := #[]
  methods := #[]
  instanceTypes := #[]
  staticTypes := #[]
  resolved := Array.replicate 131 none
  statics := none }

def pool9 : Array CpInfo := pool [(1, .class_ 2), (0, u "java/lang/constant/ConstantDesc"), (0, .class_ 4), (0, u "java/lang/Object")] 32

/-- java/lang/constant/ConstantDesc -/
def k9 : Class := { plain "java/lang/constant/ConstantDesc" (some 0) with
  accessFlags := 1537
  interfaces := #[]
  cf := some (fileOf pool9 1 #[] #[] 1537 3 #[] #[])
  fields := #[]
  methods := #[]
  instanceTypes := #[]
  staticTypes := #[]
  resolved := Array.replicate 37 none
  statics := none }

def pool10 : Array CpInfo := pool [(1, .methodref 2 3), (0, .class_ 4), (0, .nameAndType 5 6), (0, u "java/lang/Object"), (0, u "<init>"), (0, u "()V"), (0, .string 8), (0, u ""), (0, .fieldref 10 11), (0, .class_ 12), (0, .nameAndType 13 14), (0, u "java/lang/String"), (0, u "value"), (0, u "[B"), (0, .fieldref 10 16), (0, .nameAndType 17 18), (0, u "coder"), (0, u "B"), (2, u "hash"), (0, u "I"), (2, u "hashIsZero"), (0, u "Z"), (0, .methodref 10 28), (0, .nameAndType 5 29), (0, u "([CIILjava/lang/Void;)V"), (8, .fieldref 10 39), (0, .nameAndType 40 26), (0, u "COMPACT_STRINGS"), (1, .class_ 44), (1, u "java/lang/StringUTF16"), (0, u "compress"), (1, .methodref 42 48), (0, .nameAndType 49 50), (0, u "coderFromArrayLen"), (0, u "([BI)B"), (56, .class_ 109), (1, u "java/lang/StringLatin1"), (67, .methodref 42 178), (0, .nameAndType 45 179), (0, u "([CII)[B"), (361, .methodref 107 542), (0, .nameAndType 543 544), (0, u "equals"), (0, u "([B[B)Z"), (28, u "(Ljava/lang/Object;)Z"), (1, .class_ 576), (0, u "java/lang/CharSequence"), (22, u "CASE_INSENSITIVE_ORDER"), (0, u "Ljava/util/Comparator;"), (409, u "([C)V"), (90, u "serialPersistentFields"), (0, u "[Ljava/io/ObjectStreamField;"), (0, .class_ 1104), (0, u "java/lang/String$CaseInsensitiveComparator"), (1, .class_ 1107), (0, u "java/io/Serializable"), (0, .class_ 1109), (0, u "java/lang/Comparable"), (0, .class_ 1111), (0, u "java/lang/constant/Constable"), (0, .class_ 1113), (0, u "java/lang/constant/ConstantDesc"), (2, u "serialVersionUID"), (0, u "J"), (3, u "REPL"), (0, u "C"), (2, u "LATIN1"), (1, u "UTF16")] 323

def k10m0 : Method := { name := "<init>", desc := "()V", sig := { parameters := [], returnType := none }, accessFlags := 1, code := none }
def k10c1 : Code := { maxStack := 5, maxLocals := 2, code := jdk_42_method_3_code, exceptionTable := #[], attributes := #[] }
def k10m1 : Method := { name := "<init>", desc := "([C)V", sig := { parameters := [(.array .char)], returnType := none }, accessFlags := 1, code := some k10c1 }
def k10c2 : Code := { maxStack := 2, maxLocals := 3, code := jdk_42_method_66_code, exceptionTable := #[], attributes := #[] }
def k10m2 : Method := { name := "equals", desc := "(Ljava/lang/Object;)Z", sig := { parameters := [(.object "java/lang/Object")], returnType := some .boolean }, accessFlags := 1, code := some k10c2 }
def k10c3 : Code := { maxStack := 4, maxLocals := 6, code := jdk_42_method_149_code, exceptionTable := #[], attributes := #[] }
def k10m3 : Method := { name := "<init>", desc := "([CIILjava/lang/Void;)V", sig := { parameters := [(.array .char), .int, .int, (.object "java/lang/Void")], returnType := none }, accessFlags := 2, code := some k10c3 }
/-- java/lang/String -/
def k10 : Class := { plain "java/lang/String" (some 0) with
  accessFlags := 49
  interfaces := #[4, 3, 8, 2, 9]
  cf := some (fileOf pool10 10 #[.nestMembers #[1103]] #[{ accessFlags := 1, nameIndex := 5, descriptorIndex := 6, attributes := #[] }, { accessFlags := 1, nameIndex := 5, descriptorIndex := 1010, attributes := #[] }, { accessFlags := 1, nameIndex := 543, descriptorIndex := 573, attributes := #[] }, { accessFlags := 2, nameIndex := 5, descriptorIndex := 29, attributes := #[] }] 49 2 #[1106, 1108, 575, 1110, 1112] #[{ accessFlags := 18, nameIndex := 13, descriptorIndex := 14, attributes := #[] }, { accessFlags := 18, nameIndex := 17, descriptorIndex := 18, attributes := #[] }, { accessFlags := 2, nameIndex := 21, descriptorIndex := 22, attributes := #[] }, { accessFlags := 2, nameIndex := 25, descriptorIndex := 26, attributes := #[] }, { accessFlags := 26, nameIndex := 1116, descriptorIndex := 1117, attributes := #[] }, { accessFlags := 24, nameIndex := 40, descriptorIndex := 26, attributes := #[] }, { accessFlags := 26, nameIndex := 1101, descriptorIndex := 1102, attributes := #[] }, { accessFlags := 26, nameIndex := 1121, descriptorIndex := 1122, attributes := #[] }, { accessFlags := 25, nameIndex := 599, descriptorIndex := 600, attributes := #[] }, { accessFlags := 24, nameIndex := 1125, descriptorIndex := 18, attributes := #[] }, { accessFlags := 24, nameIndex := 1127, descriptorIndex := 18, attributes := #[] }])
  fields := #[{ name := "value", type := (.array .byte), accessFlags := 18, slot := 0, constantValue := 0 }, { name := "coder", type := .byte, accessFlags := 18, slot := 1, constantValue := 0 }, { name := "hash", type := .int, accessFlags := 2, slot := 2, constantValue := 0 }, { name := "hashIsZero", type := .boolean, accessFlags := 2, slot := 3, constantValue := 0 }, { name := "serialVersionUID", type := .long, accessFlags := 26, slot := 0, constantValue := 0 }, { name := "COMPACT_STRINGS", type := .boolean, accessFlags := 24, slot := 1, constantValue := 0 }, { name := "serialPersistentFields", type := (.array (.object "java/io/ObjectStreamField")), accessFlags := 26, slot := 2, constantValue := 0 }, { name := "REPL", type := .char, accessFlags := 26, slot := 3, constantValue := 0 }, { name := "CASE_INSENSITIVE_ORDER", type := (.object "java/util/Comparator"), accessFlags := 25, slot := 4, constantValue := 0 }, { name := "LATIN1", type := .byte, accessFlags := 24, slot := 5, constantValue := 0 }, { name := "UTF16", type := .byte, accessFlags := 24, slot := 6, constantValue := 0 }]
  methods := #[k10m0, k10m1, k10m2, k10m3]
  instanceTypes := #[(.array .byte), .byte, .int, .boolean]
  staticTypes := #[.long, .boolean, (.array (.object "java/io/ObjectStreamField")), .char, (.object "java/util/Comparator"), .byte, .byte]
  resolved := Array.replicate 1451 none
  statics := some 1 }

def pool11 : Array CpInfo := pool [(6, .class_ 8), (1, u "java/lang/Object"), (0, u "<init>"), (0, u "()V"), (1, .class_ 14), (1, u "java/lang/StringUTF16"), (31, u "$assertionsDisabled"), (0, u "Z"), (13, u "HI_BYTE_SHIFT"), (0, u "I"), (2, u "LO_BYTE_SHIFT"), (49, .methodref 12 116), (0, .nameAndType 117 118), (0, u "compress"), (0, u "([CI[BII)I"), (3, u "([CII)[B"), (138, u "coderFromArrayLen"), (0, u "([BI)B"), (106, .class_ 371), (1, u "java/lang/StringUTF16$LinesSpliterator"), (58, u "MAX_LENGTH"), (196, .class_ 628), (0, u "java/lang/StringUTF16$CodePointsSpliterator"), (0, .class_ 630), (0, u "java/lang/StringUTF16$CharsSpliterator")] 4

def k11m0 : Method := { name := "<init>", desc := "()V", sig := { parameters := [], returnType := none }, accessFlags := 0, code := none }
def k11c1 : Code := { maxStack := 2, maxLocals := 2, code := jdk_52_method_15_code, exceptionTable := #[], attributes := #[] }
def k11m1 : Method := { name := "coderFromArrayLen", desc := "([BI)B", sig := { parameters := [(.array .byte), .int], returnType := some .byte }, accessFlags := 8, code := some k11c1 }
def k11c2 : Code := { maxStack := 5, maxLocals := 6, code := jdk_52_method_16_code, exceptionTable := #[], attributes := #[] }
def k11m2 : Method := { name := "compress", desc := "([CII)[B", sig := { parameters := [(.array .char), .int, .int], returnType := some (.array .byte) }, accessFlags := 9, code := some k11c2 }
def k11c3 : Code := { maxStack := 3, maxLocals := 7, code := jdk_52_method_21_code, exceptionTable := #[], attributes := #[] }
def k11m3 : Method := { name := "compress", desc := "([CI[BII)I", sig := { parameters := [(.array .char), .int, (.array .byte), .int, .int], returnType := some .int }, accessFlags := 9, code := some k11c3 }
/-- java/lang/StringUTF16 -/
def k11 : Class := { plain "java/lang/StringUTF16" (some 0) with
  accessFlags := 48
  interfaces := #[]
  cf := some (fileOf pool11 12 #[.nestMembers #[627, 629, 369]] #[{ accessFlags := 0, nameIndex := 9, descriptorIndex := 10, attributes := #[] }, { accessFlags := 8, nameIndex := 261, descriptorIndex := 262, attributes := #[] }, { accessFlags := 9, nameIndex := 117, descriptorIndex := 122, attributes := #[] }, { accessFlags := 9, nameIndex := 117, descriptorIndex := 118, attributes := #[] }] 48 6 #[] #[{ accessFlags := 26, nameIndex := 61, descriptorIndex := 62, attributes := #[] }, { accessFlags := 26, nameIndex := 65, descriptorIndex := 62, attributes := #[] }, { accessFlags := 24, nameIndex := 430, descriptorIndex := 62, attributes := #[] }, { accessFlags := 4120, nameIndex := 46, descriptorIndex := 47, attributes := #[] }])
  fields := #[{ name := "HI_BYTE_SHIFT", type := .int, accessFlags := 26, slot := 0, constantValue := 0 }, { name := "LO_BYTE_SHIFT", type := .int, accessFlags := 26, slot := 1, constantValue := 0 }, { name := "MAX_LENGTH", type := .int, accessFlags := 24, slot := 2, constantValue := 0 }, { name := "$assertionsDisabled", type := .boolean, accessFlags := 4120, slot := 3, constantValue := 0 }]
  methods := #[k11m0, k11m1, k11m2, k11m3]
  instanceTypes := #[]
  staticTypes := #[.int, .int, .int, .boolean]
  resolved := Array.replicate 635 none
  statics := none }

def pool12 : Array CpInfo := pool [(4, .class_ 6), (1, u "java/lang/Object"), (0, u "<init>"), (0, u "()V"), (5, .class_ 16), (1, u "java/lang/StringLatin1"), (104, u "$assertionsDisabled"), (0, u "Z"), (98, .class_ 223), (1, u "java/lang/StringLatin1$LinesSpliterator"), (57, u "equals"), (0, u "([B[B)Z"), (107, .class_ 391), (0, u "java/lang/StringLatin1$CharsSpliterator")] 3

def k12m0 : Method := { name := "<init>", desc := "()V", sig := { parameters := [], returnType := none }, accessFlags := 0, code := none }
def k12c1 : Code := { maxStack := 3, maxLocals := 3, code := jdk_43_method_13_code, exceptionTable := #[], attributes := #[] }
def k12m1 : Method := { name := "equals", desc := "([B[B)Z", sig := { parameters := [(.array .byte), (.array .byte)], returnType := some .boolean }, accessFlags := 9, code := some k12c1 }
/-- java/lang/StringLatin1 -/
def k12 : Class := { plain "java/lang/StringLatin1" (some 0) with
  accessFlags := 48
  interfaces := #[]
  cf := some (fileOf pool12 14 #[.nestMembers #[390, 221]] #[{ accessFlags := 0, nameIndex := 7, descriptorIndex := 8, attributes := #[] }, { accessFlags := 9, nameIndex := 281, descriptorIndex := 282, attributes := #[] }] 48 4 #[] #[{ accessFlags := 4120, nameIndex := 121, descriptorIndex := 122, attributes := #[] }])
  fields := #[{ name := "$assertionsDisabled", type := .boolean, accessFlags := 4120, slot := 0, constantValue := 0 }]
  methods := #[k12m0, k12m1]
  instanceTypes := #[]
  staticTypes := #[.boolean]
  resolved := Array.replicate 395 none
  statics := none }

def pool13 : Array CpInfo := pool [(2, .class_ 4), (1, u "java/lang/Object"), (0, u "<init>"), (0, u "()V"), (17, .class_ 26), (1, u "jdk/internal/util/Preconditions"), (28, .class_ 56), (0, u "jdk/internal/util/Preconditions$4"), (57, .class_ 115), (0, u "jdk/internal/util/Preconditions$1"), (7, u "SIOOBE_FORMATTER"), (0, u "Ljava/util/function/BiFunction;"), (0, .class_ 126), (0, u "jdk/internal/util/Preconditions$2"), (3, u "AIOOBE_FORMATTER"), (0, .class_ 132), (0, u "jdk/internal/util/Preconditions$3"), (3, u "IOOBE_FORMATTER")] 57

def k13m0 : Method := { name := "<init>", desc := "()V", sig := { parameters := [], returnType := none }, accessFlags := 1, code := none }
/-- jdk/internal/util/Preconditions -/
def k13 : Class := { plain "jdk/internal/util/Preconditions" (some 0) with
  accessFlags := 33
  interfaces := #[]
  cf := some (fileOf pool13 24 #[.nestMembers #[55, 131, 125, 114]] #[{ accessFlags := 1, nameIndex := 5, descriptorIndex := 6, attributes := #[] }] 33 2 #[] #[{ accessFlags := 25, nameIndex := 123, descriptorIndex := 124, attributes := #[] }, { accessFlags := 25, nameIndex := 130, descriptorIndex := 124, attributes := #[] }, { accessFlags := 25, nameIndex := 136, descriptorIndex := 124, attributes := #[] }])
  fields := #[{ name := "SIOOBE_FORMATTER", type := (.object "java/util/function/BiFunction"), accessFlags := 25, slot := 0, constantValue := 0 }, { name := "AIOOBE_FORMATTER", type := (.object "java/util/function/BiFunction"), accessFlags := 25, slot := 1, constantValue := 0 }, { name := "IOOBE_FORMATTER", type := (.object "java/util/function/BiFunction"), accessFlags := 25, slot := 2, constantValue := 0 }]
  methods := #[k13m0]
  instanceTypes := #[]
  staticTypes := #[(.object "java/util/function/BiFunction"), (.object "java/util/function/BiFunction"), (.object "java/util/function/BiFunction")]
  resolved := Array.replicate 194 none
  statics := some 2 }

def pool14 : Array CpInfo := pool [(9, u "<init>"), (6, .class_ 18), (1, u "java/lang/Object"), (0, u "()V"), (1, .class_ 23), (1, u "jdk/internal/util/ArraysSupport"), (0, u "LOG2_ARRAY_LONG_INDEX_SCALE"), (0, u "I"), (2, u "U"), (0, u "Ljdk/internal/misc/Unsafe;"), (8, u "BIG_ENDIAN"), (0, u "Z"), (8, u "LOG2_BYTE_BIT_SIZE"), (4, u "LOG2_ARRAY_INT_INDEX_SCALE"), (54, u "JLA"), (0, u "Ljdk/internal/access/JavaLangAccess;"), (11, u "LOG2_ARRAY_BOOLEAN_INDEX_SCALE"), (9, u "LOG2_ARRAY_BYTE_INDEX_SCALE"), (5, u "LOG2_ARRAY_CHAR_INDEX_SCALE"), (5, u "LOG2_ARRAY_SHORT_INDEX_SCALE"), (18, u "LOG2_ARRAY_FLOAT_INDEX_SCALE"), (24, u "LOG2_ARRAY_DOUBLE_INDEX_SCALE"), (89, u "T_BOOLEAN"), (2, u "T_CHAR"), (1, u "T_FLOAT"), (1, u "T_DOUBLE"), (1, u "T_BYTE"), (1, u "T_SHORT"), (1, u "T_INT"), (1, u "T_LONG"), (1, u "SOFT_MAX_ARRAY_LENGTH")] 83

def k14m0 : Method := { name := "<init>", desc := "()V", sig := { parameters := [], returnType := none }, accessFlags := 2, code := none }
/-- jdk/internal/util/ArraysSupport -/
def k14 : Class := { plain "jdk/internal/util/ArraysSupport" (some 0) with
  accessFlags := 33
  interfaces := #[]
  cf := some (fileOf pool14 21 #[] #[{ accessFlags := 2, nameIndex := 9, descriptorIndex := 19, attributes := #[] }] 33 16 #[] #[{ accessFlags := 24, nameIndex := 28, descriptorIndex := 29, attributes := #[] }, { accessFlags := 26, nameIndex := 38, descriptorIndex := 39, attributes := #[] }, { accessFlags := 25, nameIndex := 121, descriptorIndex := 25, attributes := #[] }, { accessFlags := 25, nameIndex := 131, descriptorIndex := 25, attributes := #[] }, { accessFlags := 25, nameIndex := 137, descriptorIndex := 25, attributes := #[] }, { accessFlags := 25, nameIndex := 143, descriptorIndex := 25, attributes := #[] }, { accessFlags := 25, nameIndex := 53, descriptorIndex := 25, attributes := #[] }, { accessFlags := 25, nameIndex := 24, descriptorIndex := 25, attributes := #[] }, { accessFlags := 25, nameIndex := 162, descriptorIndex := 25, attributes := #[] }, { accessFlags := 25, nameIndex := 187, descriptorIndex := 25, attributes := #[] }, { accessFlags := 26, nameIndex := 48, descriptorIndex := 25, attributes := #[] }, { accessFlags := 25, nameIndex := 277, descriptorIndex := 25, attributes := #[] }, { accessFlags := 25, nameIndex := 280, descriptorIndex := 25, attributes := #[] }, { accessFlags := 25, nameIndex := 282, descriptorIndex := 25, attributes := #[] }, { accessFlags := 25, nameIndex := 284, descriptorIndex := 25, attributes := #[] }, { accessFlags := 25, nameIndex := 286, descriptorIndex := 25, attributes := #[] }, { accessFlags := 25, nameIndex := 288, descriptorIndex := 25, attributes := #[] }, { accessFlags := 25, nameIndex := 290, descriptorIndex := 25, attributes := #[] }, { accessFlags := 25, nameIndex := 292, descriptorIndex := 25, attributes := #[] }, { accessFlags := 26, nameIndex := 108, descriptorIndex := 109, attributes := #[] }, { accessFlags := 25, nameIndex := 294, descriptorIndex := 25, attributes := #[] }])
  fields := #[{ name := "U", type := (.object "jdk/internal/misc/Unsafe"), accessFlags := 24, slot := 0, constantValue := 0 }, { name := "BIG_ENDIAN", type := .boolean, accessFlags := 26, slot := 1, constantValue := 0 }, { name := "LOG2_ARRAY_BOOLEAN_INDEX_SCALE", type := .int, accessFlags := 25, slot := 2, constantValue := 0 }, { name := "LOG2_ARRAY_BYTE_INDEX_SCALE", type := .int, accessFlags := 25, slot := 3, constantValue := 0 }, { name := "LOG2_ARRAY_CHAR_INDEX_SCALE", type := .int, accessFlags := 25, slot := 4, constantValue := 0 }, { name := "LOG2_ARRAY_SHORT_INDEX_SCALE", type := .int, accessFlags := 25, slot := 5, constantValue := 0 }, { name := "LOG2_ARRAY_INT_INDEX_SCALE", type := .int, accessFlags := 25, slot := 6, constantValue := 0 }, { name := "LOG2_ARRAY_LONG_INDEX_SCALE", type := .int, accessFlags := 25, slot := 7, constantValue := 0 }, { name := "LOG2_ARRAY_FLOAT_INDEX_SCALE", type := .int, accessFlags := 25, slot := 8, constantValue := 0 }, { name := "LOG2_ARRAY_DOUBLE_INDEX_SCALE", type := .int, accessFlags := 25, slot := 9, constantValue := 0 }, { name := "LOG2_BYTE_BIT_SIZE", type := .int, accessFlags := 26, slot := 10, constantValue := 0 }, { name := "T_BOOLEAN", type := .int, accessFlags := 25, slot := 11, constantValue := 0 }, { name := "T_CHAR", type := .int, accessFlags := 25, slot := 12, constantValue := 0 }, { name := "T_FLOAT", type := .int, accessFlags := 25, slot := 13, constantValue := 0 }, { name := "T_DOUBLE", type := .int, accessFlags := 25, slot := 14, constantValue := 0 }, { name := "T_BYTE", type := .int, accessFlags := 25, slot := 15, constantValue := 0 }, { name := "T_SHORT", type := .int, accessFlags := 25, slot := 16, constantValue := 0 }, { name := "T_INT", type := .int, accessFlags := 25, slot := 17, constantValue := 0 }, { name := "T_LONG", type := .int, accessFlags := 25, slot := 18, constantValue := 0 }, { name := "JLA", type := (.object "jdk/internal/access/JavaLangAccess"), accessFlags := 26, slot := 19, constantValue := 0 }, { name := "SOFT_MAX_ARRAY_LENGTH", type := .int, accessFlags := 25, slot := 20, constantValue := 0 }]
  methods := #[k14m0]
  instanceTypes := #[]
  staticTypes := #[(.object "jdk/internal/misc/Unsafe"), .boolean, .int, .int, .int, .int, .int, .int, .int, .int, .int, .int, .int, .int, .int, .int, .int, .int, .int, (.object "jdk/internal/access/JavaLangAccess"), .int]
  resolved := Array.replicate 378 none
  statics := none }

/-- the primitive byte -/
def k15 : Class := { plain "byte" none with kind := .primitive 'B', accessFlags := 0x411 }
/-- [B -/
def k16 : Class := { plain "[B" (some 0) with kind := .array 15 .byte, interfaces := #[7, 4], accessFlags := 1041 }

/-- the primitive char -/
def k17 : Class := { plain "char" none with kind := .primitive 'C', accessFlags := 0x411 }
/-- [C -/
def k18 : Class := { plain "[C" (some 0) with kind := .array 17 .char, interfaces := #[7, 4], accessFlags := 1041 }

/-- the primitive int -/
def k19 : Class := { plain "int" none with kind := .primitive 'I', accessFlags := 0x411 }
/-- [I -/
def k20 : Class := { plain "[I" (some 0) with kind := .array 19 .int, interfaces := #[7, 4], accessFlags := 1041 }

/-- [Lcom/example/ostiarius/ostiarius/key/KeyKind; -/
def k21 : Class := { plain "[Lcom/example/ostiarius/ostiarius/key/KeyKind;" (some 0) with kind := .array 6 (.object "com/example/ostiarius/ostiarius/key/KeyKind"), interfaces := #[7, 4], accessFlags := 1041 }

def heap : Heap := #[{ cls := 6, slots := #[.ref 4, .ref 5, .ref 6, .ref 3], vm := .statics 6 },
  { cls := 10, slots := #[.long 0, .int 1, .null, .int 0, .null, .int 0, .int 0], vm := .statics 10 },
  { cls := 13, slots := #[.null, .null, .null], vm := .statics 13 },
  { cls := 21, slots := #[.ref 4, .ref 5, .ref 6], vm := .none },
  { cls := 6, slots := #[.null, .int 0, .int 0, .ref 7], vm := .none },
  { cls := 6, slots := #[.null, .int 1, .int 0, .ref 8], vm := .none },
  { cls := 6, slots := #[.null, .int 2, .int 0, .ref 9], vm := .none },
  { cls := 10, slots := #[.ref 10, .int 0, .int 0, .int 0], vm := .none },
  { cls := 10, slots := #[.ref 11, .int 0, .int 0, .int 0], vm := .none },
  { cls := 10, slots := #[.ref 12, .int 0, .int 0, .int 0], vm := .none },
  { cls := 16, slots := #[.int 108, .int 105, .int 118, .int 101], vm := .none },
  { cls := 16, slots := #[.int 116, .int 101, .int 115, .int 116], vm := .none },
  { cls := 16, slots := #[.int 109, .int 103, .int 109, .int 116], vm := .none }]
def classes : Array Class := #[k0, k1, k2, k3, k4, k5, k6, k7, k8, k9, k10, k11, k12, k13, k14, k15, k16, k17, k18, k19, k20, k21]
def interned : List (Array UInt16 × Addr) := []
def slotsUsed : Nat := 53
def theMethod : MethodId := ⟨1, 1⟩
def args0 : Array Value := #[.int 9, .int 1, .int 65, .int 4, .int 7, .int 8]
def aboutOver (below : List Frame) : State where
  vm := { classes := classes, interned := interned.toArray }
  heap := heap
  slotsUsed := slotsUsed
  threads := #[{ frames := .invoking theMethod args0 :: below }]
def below0 : List Frame := [.native { method := ⟨0, 0⟩, args := #[] }]
def about1 : State := aboutOver below0
def p0 : Program := .bare "" "" ""
def e0 : Env := launch0.env 0 0 0
theorem w_frames : about1.frames = Frame.invoking theMethod args0 :: below0 := rfl
set_option maxRecDepth 65536 in
theorem w_args : argsFit about1.vm theMethod args0 = true := by decide +kernel
set_option maxRecDepth 65536 in
theorem w_heap : heapFits about1 = true := by decide +kernel
set_option maxRecDepth 65536 in
theorem w_runnable : about1.curStatus? = some .runnable := by decide +kernel
set_option maxRecDepth 65536 in
theorem w_alone : about1.alone = true := by decide +kernel
set_option maxRecDepth 65536 in
theorem w_named : about1.methodNamed? x = some theMethod := by decide +kernel
set_option maxRecDepth 65536 in
theorem w_hears : about1.hears theMethod below0 = true := by decide +kernel
set_option maxRecDepth 65536 in
theorem w_ripe : about1.ripe theMethod args0 below0 = true := by decide +kernel
theorem w_running : about1.status = .running := rfl
set_option maxRecDepth 65536 in
theorem w_room : about1.hasRoom e0.platform room_1 = true :=
  launch0.hasRoom_least _ room_1 (by decide +kernel) (by decide +kernel) (by decide +kernel) (by decide +kernel) (by decide +kernel) (by decide +kernel)
theorem allAtoms_all (ts : List Jvm.Cond) (a : Array Jvm.Value) (st : Jvm.State) : (allAtoms ts).before a st = ts.all (fun c => c.before a st) := by
  induction ts with
  | nil => rfl
  | cons c t ih =>
    show (Jvm.Cond.and c (allAtoms t)).before a st = _
    rw [Jvm.Cond.before_and, ih, List.all_cons]
def words1 : List Jvm.Cond := Jvm.Cond.code x code maxLocals ret :: tables_1
/-- a 'code' word, met by the world's own term for the bytes: nothing is compared byte by byte -/
theorem code_word {y : MethodName} {bytes : ByteArray} {mx : Nat} {rt : Option FieldType} {a : Array Value} {s : State} {m : MethodId} {meth : Method} {c : Code} (h1 : s.methodNamed? y = some m) (h2 : s.vm.method? m = some meth) (h3 : meth.code = some c) (h4 : c.code = bytes)
    (h5 : (c.maxLocals == mx && c.exceptionTable.isEmpty && decide (c.maxStack ≤ mostOperands) && decide (meth.sig.returnType = rt) && !meth.locks && decide (parseMethodDescriptor y.desc = some meth.sig)) = true) : (Jvm.Cond.code y bytes mx rt).before a s = true := by
  simp only [Bool.and_eq_true, beq_iff_eq, Bool.not_eq_true', decide_eq_true_eq] at h5
  obtain ⟨⟨⟨⟨⟨g1, g2⟩, g3⟩, g4⟩, g5⟩, g6⟩ := h5
  simp [Cond.before, Cond.holds, Cond.value, h1, h2, h3, h4, g1, g2, g3, g4, g5, g6]
def isCode : Jvm.Cond → Bool
  | .code _ _ _ _ => true
  | _ => false
theorem all_split {L : List Jvm.Cond} {P : Jvm.Cond → Bool} (h1 : L.all (fun c => isCode c || P c) = true) (h2 : ∀ c ∈ L.filter isCode, P c = true) : L.all P = true := by
  refine List.all_eq_true.mpr fun c hc => ?_
  have h := List.all_eq_true.mp h1 c hc
  rcases Bool.eq_false_or_eq_true (isCode c) with hi | hi
  · exact h2 c (List.mem_filter.mpr ⟨hc, hi⟩)
  · simpa [hi] using h
set_option maxRecDepth 65536 in
theorem w_c0 : (Jvm.Cond.code x code maxLocals ret).before args0 about1 = true := code_word (m := ⟨1, 1⟩) (meth := k1m1) (c := k1c1) (by decide +kernel) rfl rfl rfl (by decide +kernel)
set_option maxRecDepth 65536 in
theorem w_c1 : (Jvm.Cond.code ({ cls := "com/example/ostiarius/ostiarius/key/KeyKind", name := "ofLabel", desc := "(Ljava/lang/String;)Lcom/example/ostiarius/ostiarius/key/KeyKind;" } : Jvm.MethodName) prog_6_method_6_code (5 : Nat) (Option.some (Jvm.ClassFile.FieldType.object "com/example/ostiarius/ostiarius/key/KeyKind"))).before args0 about1 = true := code_word (m := ⟨6, 1⟩) (meth := k6m1) (c := k6c1) (by decide +kernel) rfl rfl rfl (by decide +kernel)
set_option maxRecDepth 65536 in
theorem w_c2 : (Jvm.Cond.code ({ cls := "com/example/ostiarius/ostiarius/key/KeyKind", name := "values", desc := "()[Lcom/example/ostiarius/ostiarius/key/KeyKind;" } : Jvm.MethodName) prog_6_method_1_code (0 : Nat) (Option.some (Jvm.ClassFile.FieldType.array (Jvm.ClassFile.FieldType.object "com/example/ostiarius/ostiarius/key/KeyKind")))).before args0 about1 = true := code_word (m := ⟨6, 0⟩) (meth := k6m0) (c := k6c0) (by decide +kernel) rfl rfl rfl (by decide +kernel)
set_option maxRecDepth 65536 in
theorem w_c3 : (Jvm.Cond.code ({ cls := "java/lang/String", name := "equals", desc := "(Ljava/lang/Object;)Z" } : Jvm.MethodName) jdk_42_method_66_code (3 : Nat) (Option.some Jvm.ClassFile.FieldType.boolean)).before args0 about1 = true := code_word (m := ⟨10, 2⟩) (meth := k10m2) (c := k10c2) (by decide +kernel) rfl rfl rfl (by decide +kernel)
set_option maxRecDepth 65536 in
theorem w_c4 : (Jvm.Cond.code ({ cls := "com/example/ostiarius/ostiarius/key/KeyKindOfLabelPinLaw", name := "prefix", desc := "([CI)Ljava/lang/String;" } : Jvm.MethodName) method_3_code (3 : Nat) (Option.some (Jvm.ClassFile.FieldType.object "java/lang/String"))).before args0 about1 = true := code_word (m := ⟨1, 2⟩) (meth := k1m2) (c := k1c2) (by decide +kernel) rfl rfl rfl (by decide +kernel)
set_option maxRecDepth 65536 in
theorem w_c5 : (Jvm.Cond.code ({ cls := "java/lang/String", name := "<init>", desc := "([C)V" } : Jvm.MethodName) jdk_42_method_3_code (2 : Nat) (Option.none : Option Jvm.ClassFile.FieldType)).before args0 about1 = true := code_word (m := ⟨10, 1⟩) (meth := k10m1) (c := k10c1) (by decide +kernel) rfl rfl rfl (by decide +kernel)
set_option maxRecDepth 65536 in
theorem w_c6 : (Jvm.Cond.code ({ cls := "java/lang/String", name := "<init>", desc := "([CIILjava/lang/Void;)V" } : Jvm.MethodName) jdk_42_method_149_code (6 : Nat) (Option.none : Option Jvm.ClassFile.FieldType)).before args0 about1 = true := code_word (m := ⟨10, 3⟩) (meth := k10m3) (c := k10c3) (by decide +kernel) rfl rfl rfl (by decide +kernel)
set_option maxRecDepth 65536 in
theorem w_c7 : (Jvm.Cond.code ({ cls := "java/lang/Object", name := "<init>", desc := "()V" } : Jvm.MethodName) object_method_1_code (1 : Nat) (Option.none : Option Jvm.ClassFile.FieldType)).before args0 about1 = true := code_word (m := ⟨0, 0⟩) (meth := k0m0) (c := k0c0) (by decide +kernel) rfl rfl rfl (by decide +kernel)
set_option maxRecDepth 65536 in
theorem w_c8 : (Jvm.Cond.code ({ cls := "java/lang/StringUTF16", name := "compress", desc := "([CII)[B" } : Jvm.MethodName) jdk_52_method_16_code (6 : Nat) (Option.some (Jvm.ClassFile.FieldType.array Jvm.ClassFile.FieldType.byte))).before args0 about1 = true := code_word (m := ⟨11, 2⟩) (meth := k11m2) (c := k11c2) (by decide +kernel) rfl rfl rfl (by decide +kernel)
set_option maxRecDepth 65536 in
theorem w_c9 : (Jvm.Cond.code ({ cls := "java/lang/StringUTF16", name := "compress", desc := "([CI[BII)I" } : Jvm.MethodName) jdk_52_method_21_code (7 : Nat) (Option.some Jvm.ClassFile.FieldType.int)).before args0 about1 = true := code_word (m := ⟨11, 3⟩) (meth := k11m3) (c := k11c3) (by decide +kernel) rfl rfl rfl (by decide +kernel)
set_option maxRecDepth 65536 in
theorem w_c10 : (Jvm.Cond.code ({ cls := "java/lang/StringUTF16", name := "coderFromArrayLen", desc := "([BI)B" } : Jvm.MethodName) jdk_52_method_15_code (2 : Nat) (Option.some Jvm.ClassFile.FieldType.byte)).before args0 about1 = true := code_word (m := ⟨11, 1⟩) (meth := k11m1) (c := k11c1) (by decide +kernel) rfl rfl rfl (by decide +kernel)
set_option maxRecDepth 65536 in
theorem w_c11 : (Jvm.Cond.code ({ cls := "java/lang/StringLatin1", name := "equals", desc := "([B[B)Z" } : Jvm.MethodName) jdk_43_method_13_code (3 : Nat) (Option.some Jvm.ClassFile.FieldType.boolean)).before args0 about1 = true := code_word (m := ⟨12, 1⟩) (meth := k12m1) (c := k12c1) (by decide +kernel) rfl rfl rfl (by decide +kernel)
def codes1 : List Jvm.Cond := [Jvm.Cond.code x code maxLocals ret, Jvm.Cond.code ({ cls := "com/example/ostiarius/ostiarius/key/KeyKind", name := "ofLabel", desc := "(Ljava/lang/String;)Lcom/example/ostiarius/ostiarius/key/KeyKind;" } : Jvm.MethodName) prog_6_method_6_code (5 : Nat) (Option.some (Jvm.ClassFile.FieldType.object "com/example/ostiarius/ostiarius/key/KeyKind")), Jvm.Cond.code ({ cls := "com/example/ostiarius/ostiarius/key/KeyKind", name := "values", desc := "()[Lcom/example/ostiarius/ostiarius/key/KeyKind;" } : Jvm.MethodName) prog_6_method_1_code (0 : Nat) (Option.some (Jvm.ClassFile.FieldType.array (Jvm.ClassFile.FieldType.object "com/example/ostiarius/ostiarius/key/KeyKind"))), Jvm.Cond.code ({ cls := "java/lang/String", name := "equals", desc := "(Ljava/lang/Object;)Z" } : Jvm.MethodName) jdk_42_method_66_code (3 : Nat) (Option.some Jvm.ClassFile.FieldType.boolean), Jvm.Cond.code ({ cls := "com/example/ostiarius/ostiarius/key/KeyKindOfLabelPinLaw", name := "prefix", desc := "([CI)Ljava/lang/String;" } : Jvm.MethodName) method_3_code (3 : Nat) (Option.some (Jvm.ClassFile.FieldType.object "java/lang/String")), Jvm.Cond.code ({ cls := "java/lang/String", name := "<init>", desc := "([C)V" } : Jvm.MethodName) jdk_42_method_3_code (2 : Nat) (Option.none : Option Jvm.ClassFile.FieldType), Jvm.Cond.code ({ cls := "java/lang/String", name := "<init>", desc := "([CIILjava/lang/Void;)V" } : Jvm.MethodName) jdk_42_method_149_code (6 : Nat) (Option.none : Option Jvm.ClassFile.FieldType), Jvm.Cond.code ({ cls := "java/lang/Object", name := "<init>", desc := "()V" } : Jvm.MethodName) object_method_1_code (1 : Nat) (Option.none : Option Jvm.ClassFile.FieldType), Jvm.Cond.code ({ cls := "java/lang/StringUTF16", name := "compress", desc := "([CII)[B" } : Jvm.MethodName) jdk_52_method_16_code (6 : Nat) (Option.some (Jvm.ClassFile.FieldType.array Jvm.ClassFile.FieldType.byte)), Jvm.Cond.code ({ cls := "java/lang/StringUTF16", name := "compress", desc := "([CI[BII)I" } : Jvm.MethodName) jdk_52_method_21_code (7 : Nat) (Option.some Jvm.ClassFile.FieldType.int), Jvm.Cond.code ({ cls := "java/lang/StringUTF16", name := "coderFromArrayLen", desc := "([BI)B" } : Jvm.MethodName) jdk_52_method_15_code (2 : Nat) (Option.some Jvm.ClassFile.FieldType.byte), Jvm.Cond.code ({ cls := "java/lang/StringLatin1", name := "equals", desc := "([B[B)Z" } : Jvm.MethodName) jdk_43_method_13_code (3 : Nat) (Option.some Jvm.ClassFile.FieldType.boolean)]
set_option maxRecDepth 65536 in
theorem codes_eq : words1.filter isCode = codes1 := rfl
theorem w_codes : ∀ c ∈ words1.filter isCode, c.before args0 about1 = true := by
  rw [codes_eq]
  intro c hc
  simp only [codes1, List.mem_cons, List.not_mem_nil, or_false] at hc
  rcases hc with rfl | rfl | rfl | rfl | rfl | rfl | rfl | rfl | rfl | rfl | rfl | rfl
  · exact w_c0
  · exact w_c1
  · exact w_c2
  · exact w_c3
  · exact w_c4
  · exact w_c5
  · exact w_c6
  · exact w_c7
  · exact w_c8
  · exact w_c9
  · exact w_c10
  · exact w_c11
set_option maxRecDepth 65536 in
theorem w_t1 : (words1.take 24).all (fun c => isCode c || c.before args0 about1) = true := by decide +kernel
set_option maxRecDepth 65536 in
theorem w_t2 : ((words1.drop 24).take 24).all (fun c => isCode c || c.before args0 about1) = true := by decide +kernel
set_option maxRecDepth 65536 in
theorem w_t3 : (((words1.drop 24).drop 24).take 24).all (fun c => isCode c || c.before args0 about1) = true := by decide +kernel
set_option maxRecDepth 65536 in
theorem w_t4 : (((words1.drop 24).drop 24).drop 24).all (fun c => isCode c || c.before args0 about1) = true := by decide +kernel
theorem w_tables : (allAtoms (Jvm.Cond.code x code maxLocals ret :: tables_1)).before args0 about1 = true := by
  rw [allAtoms_all]
  show words1.all (fun c => c.before args0 about1) = true
  refine all_split ?_ w_codes
  rw [← List.take_append_drop 24 words1, List.all_append, w_t1, ← List.take_append_drop 24 (words1.drop 24), List.all_append, w_t2, ← List.take_append_drop 24 ((words1.drop 24).drop 24), List.all_append, w_t3, w_t4]
  rfl
set_option maxRecDepth 65536 in
theorem w_rest : rest_1_c.before args0 about1 = true := by decide +kernel
set_option maxRecDepth 65536 in
theorem w_case : (Jvm.Cond.and given_1 narrow_1).before args0 about1 = true := by decide +kernel
set_option maxRecDepth 65536 in
theorem w_consts : constsHeld consts_1 about1 := Jvm.Lit.constsHeldB_iff.mp (by decide +kernel)
theorem w_applies : (headSpec (Jvm.Cond.code x code maxLocals ret :: tables_1) room_1).applies x e0.platform about1 = true :=
  (Spec.applies_iff w_frames).mpr ⟨w_running, w_runnable, w_alone, w_named, w_hears, w_ripe, w_room, w_tables⟩
theorem atStart : AtStart classFile x code maxLocals ret World_1 tables_1 room_1 Calls_1 rest_1 Pre_1 launch0 p0 e0 about1 theMethod args0 below0 :=
  ⟨lists_1, trivial, launch0.admits_env _ _ _, launch0.least_env, fairChoices_fair.cas, fairChoices_fair.clock, w_frames, w_args, w_heap, w_applies, ⟨w_consts, trivial⟩, w_rest, w_case⟩
end start1
theorem witness_1 : WitnessClaimed_1 := ⟨start1.p0, start1.e0, start1.about1, start1.theMethod, start1.args0, start1.below0, start1.atStart⟩
end Jvm.Pilot.@@N@@
