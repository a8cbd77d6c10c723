import JvmDerived
import JvmDerived.Pilot.@@N@@Statement
import JvmDerived.Pilot.@@N@@Code
set_option linter.unusedVariables false
set_option linter.unusedSimpArgs false
namespace Jvm.RoadKit
open Sem ClassFile Op Lib Jvm.Stand Jvm.Free Jvm.LawKit
section New
variable {p : Program} {l : Launch} {e : Env} {R : Room} {s : State} {m : MethodId} {args : Array Value} {below : List Frame} {meth : Method} {c : Code} {T : State} {locs : List Loc} {cells slots : Nat}
theorem retI (X : Stand p l e R s m args below meth c T locs cells slots) (hx : p.tables.exec = Jvm.exec) {pc : Nat} {Ls : Array Slot} {z : Int32} {rest : List Value} (hret : meth.sig.returnType = some .int) (hd : decode c.code pc = .ok (.ireturn, 1)) {fs : List Frame}
    (hl : ∀ (f : JFrame) (acts : List Action), f.method = m → f.locked = none → f.entered = [] → (doReturn e (T.setTop f) acts (some (.int z))).1 = T.setFrames fs) : Steps p.tables e below (T.setTop (mkF m pc Ls (.int z :: rest))) (T.setFrames fs) :=
  retOut X hx hret rfl (Or.inl ⟨rfl, Or.inl rfl, _, rfl⟩) hd hl
end New
end Jvm.RoadKit
namespace Jvm.Pilot.@@N@@
open Jvm Jvm.ClassFile Sem Op Lib Jvm.Free Jvm.Stand Jvm.LawKit Jvm.RoadKit Bundle Jvm.Pilot.@@N@@.Jvm.D
/-- the run goes on from A and comes to an end of which R holds -/
def own_Go (p : Program) (e : Env) (below : List Frame) (A : State) (R : State → Outcome → Prop) : Prop := ∃ s₂ o, Steps p.tables e below A s₂ ∧ s₂.status = .running ∧ Ended s₂ below o ∧ R s₂ o
theorem own_by {p : Program} {e : Env} {below : List Frame} {A B : State} {R : State → Outcome → Prop} (k : ∀ t, Steps p.tables e below B t → Steps p.tables e below A t) (h : own_Go p e below B R) : own_Go p e below A R := by
  obtain ⟨s₂, o, h1, h2⟩ := h
  exact ⟨s₂, o, k _ h1, h2⟩
theorem own_ne {x y : Nat} (h : x ≠ y) : x ≠ y := h
theorem own_cat {v : Value} (h : v.isRef = true) : v.category = 1 := by rcases ref_cases h with rfl | ⟨_, rfl⟩ <;> rfl
theorem own_w {Z : State} {a0 : Array Value} (hw : ∀ d ∈ tables_1, d.before a0 Z = true) {d : Jvm.Cond} (i : Nat) (h : tables_1[i]? = some d) : d.before a0 Z = true := hw _ (List.mem_of_getElem? h)
theorem own_Ins_keep {Z : State} {h h' : Heap} {a : Addr} {C : String} {bo : Bool} {ws : List Addr} (F : Ins Z h a C bo) (K : Keep h h' ws) : Ins Z h' a C bo := by
  obtain ⟨cell, cT, h1, h2, h3⟩ := F
  obtain ⟨c', q, r1, r2, -⟩ := K.2.2 a cell h1
  exact ⟨c', cT, q, h2, by rw [r1, r2]; exact h3⟩
theorem own_narrow_ref {t : FieldType} {v : Value} (ht : t.isReference = true) (hv : v.isRef = true) : narrow t v = v := by
  cases t <;> first | (cases ht; done) | (cases v <;> first | rfl | (cases hv; done))
theorem own_fits_ref {t : FieldType} {v : Value} (hv : v.isRef = true) (ht : t.isReference = true := by rfl) : fits t v = true := by
  cases t <;> first | (cases ht; done) | (cases v <;> first | rfl | (cases hv; done))
theorem own_eq_int {args : Array Value} {first s : State} {o : Option Outcome} {idx : List Nat} {t : Term} {n : Int32} (h : (Cond.eq t (.int n)).value args first o s idx = some true) : t.eval args first o idx s = some (.int n) := by
  simp only [Cond.value, Term.eval] at h
  cases ht : t.eval args first o idx s with
  | none => simp [ht] at h
  | some x => cases x <;> simp [ht] at h ⊢; exact h
def own_b (x : Int32) : Int32 := nar .byte (x.toInt8.toInt32)
def own_ch (x : Int32) : Int32 := (x &&& 255)
theorem fits_nar_byte2 (x : Int32) : fits .byte (.int (own_b x)) = true := fits_nar_byte _
theorem own_mask_c (x : Int32) : nar .char (x &&& 255) = x &&& 255 := i2c_mask x
theorem own_ret_char (x : Int32) : some (Value.int (nar .char (x &&& 255))) = some (.int (x &&& 255)) := by rw [own_mask_c]
theorem own_ret_ch (x : Int32) : some (Value.int (nar .char (own_ch x))) = some (.int (own_ch x)) := own_ret_char x
theorem own_fits_c (x : Int32) : fits .char (.int (x &&& 255)) = true := by rw [← own_mask_c]; exact fits_nar_char _
theorem own_mask_nat (x : Int32) : ∃ i : Fin 256, x &&& 255 = Int32.ofNat i.1 := by
  have h : (x &&& 255).toBitVec.toNat < 256 := by
    show (x.toBitVec &&& 255#32).toNat < 256
    rw [BitVec.toNat_and]
    exact Nat.lt_of_le_of_lt Nat.and_le_right (by decide)
  refine ⟨⟨_, h⟩, ?_⟩
  apply Int32.toBitVec_inj.mp
  show _ = BitVec.ofNat 32 _
  simp
theorem own_ch_all : ∀ i : Fin 256, own_ch (own_b (Int32.ofNat i.1)) = Int32.ofNat i.1 ∧ ¬ ((255 : Int32) < Int32.ofNat i.1) := by decide +kernel
theorem own_mask_hi (x : Int32) : ¬ ((255 : Int32) < x &&& 255) := by obtain ⟨i, e⟩ := own_mask_nat x; rw [e]; exact (own_ch_all i).2
theorem own_ch_mask (x : Int32) : own_ch (own_b (x &&& 255)) = x &&& 255 := by obtain ⟨i, e⟩ := own_mask_nat x; rw [e]; exact (own_ch_all i).1
def own_all : List (Int32 × Int32) → Int32
  | [] => 1
  | (x, y) :: r => if x = y then own_all r else 0
theorem own_all_pos {x y : Int32} {r : List (Int32 × Int32)} (h : x = y) : own_all ((x, y) :: r) = own_all r := if_pos h
theorem own_all_neg {x y : Int32} {r : List (Int32 × Int32)} (h : ¬ (x = y)) : own_all ((x, y) :: r) = 0 := if_neg h
theorem own_all_01 : ∀ l, own_all l = 0 ∨ own_all l = 1
  | [] => Or.inr rfl
  | (x, y) :: r => by
    by_cases h : x = y
    · simp only [own_all, h, if_true]; exact own_all_01 r
    · exact Or.inl (by simp [own_all, h])
theorem own_all_ret0 {l : List (Int32 × Int32)} (h : own_all l = (0 : Int32)) : some (Value.int (0 : Int32)) = some (.int (own_all l)) := by rw [h]
theorem own_all_ret1 {l : List (Int32 × Int32)} (h : ¬ (own_all l = (0 : Int32))) : some (Value.int (1 : Int32)) = some (.int (own_all l)) := by rcases own_all_01 l with q | q; exact absurd q h; rw [q]
theorem own_b_inj {x y : Int32} : own_b (x &&& 255) = own_b (y &&& 255) ↔ x &&& 255 = y &&& 255 := by
  constructor
  · intro h
    rw [← own_ch_mask x, ← own_ch_mask y, h]
  · intro h; rw [h]
theorem own_wS {Z : State} {a0 : Array Value} (hw : ∀ d ∈ tables_1, d.before a0 Z = true) : ∀ a ∈ Bundle.stringAtoms, a.before a0 Z = true := fun a ha => by
  simp only [Bundle.stringAtoms, List.mem_cons, List.not_mem_nil, or_false] at ha
  rcases ha with rfl | rfl | rfl | rfl | rfl | rfl | rfl
  · exact own_w hw 6 rfl
  · exact own_w hw 5 rfl
  · exact own_w hw 26 rfl
  · exact own_w hw 36 rfl
  · exact own_w hw 34 rfl
  · exact own_w hw 38 rfl
  · exact own_w hw 39 rfl
theorem own_CHr_safe {Z : State} {EL : List (String × Nat)} {vm vm1 : Vm} {h h' : Heap} (A : CHr Z EL vm h vm1 h') {x : Nat} (hx : h.size > x) (S : Safe Z EL vm h x) : Safe Z EL vm1 h' x := A.safe hx S
theorem own_safe_null {Z : State} {EL : List (String × Nat)} {vm : Vm} {h : Heap} {x : Addr} (hal : Z.vm.Alike vm) (E : Exa Z h x "java/lang/String") (F : Fld Z h x "java/lang/String" "value" "[B" .null) : Safe Z EL vm h x := fun B => by
  obtain ⟨p, hp, u, a, hb, q, hq, G, hy⟩ := B
  rcases hy with rfl | rfl
  · obtain ⟨cell, cf, k, i, f, h1, h2, -, -, -, -, h7⟩ := F
    cases (show h[q.sa]? = some q.sC from G.ha).symm.trans h1
    obtain ⟨cS, ⟨⟨-, -, -, ⟨c1, k1, i1, f1, -⟩, -, -, -, v1, -⟩, -⟩, -⟩ := G
    obtain ⟨k3, e3, -⟩ := State.fieldFound?_setVm (s := Z) hal h2
    have e4 := (show (Wst Z vm h).fieldFound? _ _ _ = _ from e3).symm.trans f1
    simp only [Option.some.injEq, Prod.mk.injEq] at e4
    rw [e4.2.2.2, v1] at h7; cases h7
  · obtain ⟨cell, k, e1, e2, e3, -, -⟩ := E
    cases (show h[q.sd]? = some q.SA from G.hd).symm.trans e1
    obtain ⟨cS, -, -, f, -⟩ := G
    have f' : vm.findClass "[B" = some q.SA.cls := f
    rw [hal.findClass] at f'
    obtain ⟨k1, q1, q2⟩ := Vm.findClass_spec f'
    obtain ⟨k2, q3, q4⟩ := Vm.findClass_spec e2
    cases q1.symm.trans q3
    exact absurd (q2.symm.trans q4) (by decide)
abbrev own_EL : List (String × Nat) := consts_1
theorem own_not_sub {Z : State} {a0 : Array Value} {C S K : String} {n : Nat} (w : (Cond.superclass C S).before a0 Z = true) (wr : (Cond.noSuperclass S).before a0 Z = true) (wk : (Cond.instantiable K n).before a0 Z = true) (h1 : C ≠ K) (h2 : S ≠ K) : ∃ c t, Z.vm.findClass C = some c ∧ Z.vm.findClass K = some t ∧ Z.vm.assignable c t = false := by
  obtain ⟨t, k', g0, g2, g5, g7, -, -⟩ := Cond.instantiable_spec wk
  obtain ⟨c', kr, r1, r2, r3, -, -⟩ := Cond.noSuperclass_spec wr
  obtain ⟨c, h0⟩ := found_sup w
  obtain ⟨p, k, kp, e1, e2, e3, e4, e5, -, e7⟩ := Cond.superclass_spec h0 w
  cases r1.symm.trans e1
  have ne := ids_ne h0 g0 h1
  have ne2 := ids_ne r1 g0 h2
  have g8 : k'.isInterface = false := (Bool.or_eq_false_iff.mp g7).1
  have n2 : ∀ fuel, Z.vm.isSubclassAux fuel c' t = false := fun fuel => by
    cases fuel with
    | zero => rfl
    | succ f => simp [Vm.isSubclassAux, ne2, r2, r3]
  have n3 : ∀ fuel, Z.vm.isSubclassAux fuel c t = false := fun fuel => by
    cases fuel with
    | zero => rfl
    | succ f => simp [Vm.isSubclassAux, ne, e2, e4, n2]
  refine ⟨c, t, h0, g0, ?_⟩
  show Z.vm.assignableAux (255 + 1) c t = false
  simp [Vm.assignableAux, ne, e2, g2, e5, g5, g8, Vm.isSubclass, n3]
def own_pk0 (p : Int32) : Int32 := (p.toUInt32 >>> ((0 : Int32) &&& 31).toUInt32).toInt32
def own_pk1 (p : Int32) : Int32 := (p.toUInt32 >>> ((8 : Int32) &&& 31).toUInt32).toInt32
def own_pk2 (p : Int32) : Int32 := (p.toUInt32 >>> ((16 : Int32) &&& 31).toUInt32).toInt32
def own_bs (x n : Int32) : List Value := if n = 0 then [] else if n = 1 then [.int (own_b (own_pk0 x &&& 255))] else if n = 2 then [.int (own_b (own_pk0 x &&& 255)), .int (own_b (own_pk1 x &&& 255))] else [.int (own_b (own_pk0 x &&& 255)), .int (own_b (own_pk1 x &&& 255)), .int (own_b (own_pk2 x &&& 255))]
theorem own_bs_0 (x : Int32) : own_bs x 0 = [] := by rw [own_bs, if_pos rfl]
theorem own_bs_1 (x : Int32) : own_bs x 1 = [.int (own_b (own_pk0 x &&& 255))] := by rw [own_bs, if_neg (by decide), if_pos rfl]
theorem own_bs_2 (x : Int32) : own_bs x 2 = [.int (own_b (own_pk0 x &&& 255)), .int (own_b (own_pk1 x &&& 255))] := by rw [own_bs, if_neg (by decide), if_neg (by decide), if_pos rfl]
theorem own_bs_3 (x : Int32) : own_bs x 3 = [.int (own_b (own_pk0 x &&& 255)), .int (own_b (own_pk1 x &&& 255)), .int (own_b (own_pk2 x &&& 255))] := by rw [own_bs, if_neg (by decide), if_neg (by decide), if_neg (by decide)]
def own_pre (x y n : Int32) : Int32 := if n = 0 then 1 else if n = 1 then own_all [(own_b (own_pk0 x &&& 255), own_b (own_pk0 y &&& 255))] else if n = 2 then own_all [(own_b (own_pk0 x &&& 255), own_b (own_pk0 y &&& 255)), (own_b (own_pk1 x &&& 255), own_b (own_pk1 y &&& 255))] else own_all [(own_b (own_pk0 x &&& 255), own_b (own_pk0 y &&& 255)), (own_b (own_pk1 x &&& 255), own_b (own_pk1 y &&& 255)), (own_b (own_pk2 x &&& 255), own_b (own_pk2 y &&& 255))]
theorem own_pre_0 (x y : Int32) : own_pre x y 0 = 1 := by rw [own_pre, if_pos rfl]
theorem own_pre_1 (x y : Int32) : own_pre x y 1 = own_all [(own_b (own_pk0 x &&& 255), own_b (own_pk0 y &&& 255))] := by rw [own_pre, if_neg (by decide), if_pos rfl]
theorem own_pre_2 (x y : Int32) : own_pre x y 2 = own_all [(own_b (own_pk0 x &&& 255), own_b (own_pk0 y &&& 255)), (own_b (own_pk1 x &&& 255), own_b (own_pk1 y &&& 255))] := by rw [own_pre, if_neg (by decide), if_neg (by decide), if_pos rfl]
theorem own_pre_3 (x y : Int32) : own_pre x y 3 = own_all [(own_b (own_pk0 x &&& 255), own_b (own_pk0 y &&& 255)), (own_b (own_pk1 x &&& 255), own_b (own_pk1 y &&& 255)), (own_b (own_pk2 x &&& 255), own_b (own_pk2 y &&& 255))] := by rw [own_pre, if_neg (by decide), if_neg (by decide), if_neg (by decide)]
def own_eqs (x n y k : Int32) : Int32 := if n = k then own_pre x y n else 0
theorem own_eqs_ne {x n y k : Int32} (h : ¬ (n = k)) : own_eqs x n y k = 0 := if_neg h
theorem own_eqs_eq {x n y k : Int32} (h : n = k) : own_eqs x n y k = own_pre x y n := if_pos h
theorem own_pre_01 (x y n : Int32) : own_pre x y n = 0 ∨ own_pre x y n = 1 := by
  unfold own_pre
  split
  · exact Or.inr rfl
  · split
    · exact own_all_01 _
    · split <;> exact own_all_01 _
theorem own_eqs_01 (x n y k : Int32) : own_eqs x n y k = 0 ∨ own_eqs x n y k = 1 := by
  unfold own_eqs
  split
  · exact own_pre_01 _ _ _
  · exact Or.inl rfl
theorem own_eqs_ret0 {x n y k : Int32} (h : own_eqs x n y k = (0 : Int32)) : some (Value.int (0 : Int32)) = some (.int (own_eqs x n y k)) := by rw [h]
theorem own_eqs_ret1 {x n y k : Int32} (h : ¬ (own_eqs x n y k = (0 : Int32))) : some (Value.int (1 : Int32)) = some (.int (own_eqs x n y k)) := by rcases own_eqs_01 x n y k with q | q; exact absurd q h; rw [q]
theorem own_sym {x y : Int32} (h : x = y) : y = x := h.symm
theorem own_and3_all : ∀ i : Fin 4, Int32.ofNat i.1 = 0 ∨ Int32.ofNat i.1 = 1 ∨ Int32.ofNat i.1 = 2 ∨ Int32.ofNat i.1 = 3 := by decide +kernel
theorem own_and3 {x r : Int32} (e : r = x &&& 3) : r = 0 ∨ r = 1 ∨ r = 2 ∨ r = 3 := by
  have h : (x &&& 3).toBitVec.toNat < 4 := by
    show (x.toBitVec &&& 3#32).toNat < 4
    rw [BitVec.toNat_and]
    exact Nat.lt_of_le_of_lt Nat.and_le_right (by decide)
  have q : x &&& 3 = Int32.ofNat (x &&& 3).toBitVec.toNat := by
    apply Int32.toBitVec_inj.mp
    show _ = BitVec.ofNat 32 _
    simp
  rw [e, q]; exact own_and3_all ⟨_, h⟩
theorem own_pn_com_example_living_lease_livinglease_redis_ErrorEqualsPinLaw : plainName "com/example/living_lease/livinglease/redis/ErrorEqualsPinLaw" = true := by first | (simp [plainName, overriddenIn]; done) | decide +kernel
theorem own_pn_java_lang_String : plainName "java/lang/String" = true := by first | (simp [plainName, overriddenIn]; done) | decide +kernel
theorem own_pn_java_lang_StringUTF16 : plainName "java/lang/StringUTF16" = true := by first | (simp [plainName, overriddenIn]; done) | decide +kernel
theorem own_pn_java_lang_StringLatin1 : plainName "java/lang/StringLatin1" = true := by first | (simp [plainName, overriddenIn]; done) | decide +kernel
theorem own_pn_com_example_living_lease_livinglease_redis_Resp_Error : plainName "com/example/living_lease/livinglease/redis/Resp$Error" = true := by first | (simp [plainName, overriddenIn]; done) | decide +kernel
theorem own_pd__28_5bCIILjava_2flang_2fVoid_3b_29V : parseMethodDescriptor "([CIILjava/lang/Void;)V" = some ⟨[(.array .char), .int, .int, (.object "java/lang/Void")], none⟩ := by decide +kernel
theorem own_pd__28_5bCI_5bBII_29I : parseMethodDescriptor "([CI[BII)I" = some ⟨[(.array .char), .int, (.array .byte), .int, .int], some .int⟩ := by decide +kernel
theorem own_pd__28_5bCII_29_5bB : parseMethodDescriptor "([CII)[B" = some ⟨[(.array .char), .int, .int], some (.array .byte)⟩ := by decide +kernel
theorem own_pd__28_5bBI_29B : parseMethodDescriptor "([BI)B" = some ⟨[(.array .byte), .int], some .byte⟩ := by decide +kernel
theorem own_pd__28_5bC_29V : parseMethodDescriptor "([C)V" = some ⟨[(.array .char)], none⟩ := by decide +kernel
theorem own_pd__28II_29C : parseMethodDescriptor "(II)C" = some ⟨[.int, .int], some .char⟩ := by decide +kernel
theorem own_pd__28_5bB_5bB_29Z : parseMethodDescriptor "([B[B)Z" = some ⟨[(.array .byte), (.array .byte)], some .boolean⟩ := by decide +kernel
theorem own_pd__28Ljava_2flang_2fObject_3b_29Z : parseMethodDescriptor "(Ljava/lang/Object;)Z" = some ⟨[(.object "java/lang/Object")], some .boolean⟩ := by decide +kernel
theorem own_pd__28II_29Ljava_2flang_2fString_3b : parseMethodDescriptor "(II)Ljava/lang/String;" = some ⟨[.int, .int], some (.object "java/lang/String")⟩ := by decide +kernel
theorem own_pd__28Ljava_2flang_2fString_3b_29V : parseMethodDescriptor "(Ljava/lang/String;)V" = some ⟨[(.object "java/lang/String")], none⟩ := by decide +kernel
theorem d_rm_chr0_0 : decode method_2_code 0 = .ok (.iload_n 0, 1) := by decide +kernel
theorem d_rm_chr0_1 : decode method_2_code 1 = .ok (.bipush 8, 2) := by decide +kernel
theorem d_rm_chr0_3 : decode method_2_code 3 = .ok (.iload_n 1, 1) := by decide +kernel
theorem d_rm_chr0_4 : decode method_2_code 4 = .ok (.imul, 1) := by decide +kernel
theorem d_rm_chr0_5 : decode method_2_code 5 = .ok (.iushr, 1) := by decide +kernel
theorem d_rm_chr0_6 : decode method_2_code 6 = .ok (.sipush 255, 3) := by decide +kernel
theorem d_rm_chr0_9 : decode method_2_code 9 = .ok (.iand, 1) := by decide +kernel
theorem d_rm_chr0_10 : decode method_2_code 10 = .ok (.i2c, 1) := by decide +kernel
theorem d_rm_chr0_11 : decode method_2_code 11 = .ok (.ireturn, 1) := by decide +kernel
def Q_rm_chr0 (Z : State) (p1 : Int32) (h0 : Heap) (n0 : Nat) (v : Option Value) (h : Heap) (L : List Loc) : Prop := v = some (.int (own_pk0 p1 &&& (255 : Int32))) ∧ Fr n0 L ∧ h = h0
theorem ef_rm_chr0 (m : MethodId) (p1 : Int32) : entryFrame m #[(.int p1), (.int (0 : Int32))] 2 = mkF m 0 #[.val (.int p1), .val (.int (0 : Int32))] [] := by first | (simp [entryFrame, mkF, argsToLocals, Value.category]; done) | rfl
set_option maxRecDepth 65536 in
set_option maxHeartbeats 40000000 in
theorem rm_chr0 (l : Launch) (Z : State) (a0 : Array Value) (hw : ∀ d ∈ tables_1, d.before a0 Z = true) (ws : List Jvm.Cond) (p1 : Int32) (h0 : Heap) (n0 : Nat) (O0 : Old Z n0 h0) :
    MetFree l (⟨"com/example/living_lease/livinglease/redis/ErrorEqualsPinLaw", "ch", "(II)C"⟩ : MethodName) (head1 (Jvm.Cond.code (⟨"com/example/living_lease/livinglease/redis/ErrorEqualsPinLaw", "ch", "(II)C"⟩ : MethodName) method_2_code 2 (some .char) :: ws) ({ frames := 0, cells := 0, slots := 0, locals := 0 } : Room)) (fun a U => a = #[(.int p1), (.int (0 : Int32))] ∧ Z.Warmed39 U.vm ∧ U.heap = h0) (fun _ _ _ _ _ => True) (fun _ U o U' => ∃ v L, o = .returned v ∧ Q_rm_chr0 Z p1 h0 n0 v U'.heap L ∧ FrameEnd U o U' L ({ frames := 0, cells := 0, slots := 0, locals := 0 } : Room).cells ({ frames := 0, cells := 0, slots := 0, locals := 0 } : Room).slots) := by
  refine MetFree.of_bodySF (plainFor_of_name own_pn_com_example_living_lease_livinglease_redis_ErrorEqualsPinLaw) hisR ?_
  intro p e s m args below meth c s₁ Bd hml0 hP hK
  obtain ⟨rfl, hZ, hh⟩ := hP
  have hx := Bd.exec
  have hby := Bd.bytes
  have hml : c.maxLocals = 2 := hml0
  have hown : s.vm.findClass "com/example/living_lease/livinglease/redis/ErrorEqualsPinLaw" = some m.cls := findClass_of_methodNamed Bd.named
  have hnm := (name_of_methodNamed Bd.named Bd.method).1
  have X0 : Stand p l e ({ frames := 0, cells := 0, slots := 0, locals := 0 } : Room) s m #[(.int p1), (.int (0 : Int32))] below meth c s₁ [] 0 0 := Stand.of_body Bd
  have e0 : s₁.heap = h0 := by rw [← hh, Bd.state]; rfl
  have N0 := Fr.nil n0
  have Z0 : n0 ≤ h0.size := by rw [← O0.1]; exact O0.2.1
  show own_Go p e below (s₁.setTop (entryFrame m #[(.int p1), (.int (0 : Int32))] 2)) (fun t o => ∃ v L, o = .returned v ∧ Q_rm_chr0 Z p1 h0 n0 v t.heap L ∧ FrameEnd s o t L ({ frames := 0, cells := 0, slots := 0, locals := 0 } : Room).cells ({ frames := 0, cells := 0, slots := 0, locals := 0 } : Room).slots)
  rw [ef_rm_chr0 m p1]
  refine own_by (fun _ k => XS.iloadN X0.here hx rfl (hb hby d_rm_chr0_0) rfl k) ?_
  refine own_by (fun _ k => XS.bipush X0.here hx rfl (hb hby d_rm_chr0_1) k) ?_
  refine own_by (fun _ k => XS.iloadN X0.here hx rfl (hb hby d_rm_chr0_3) rfl k) ?_
  refine own_by (fun _ k => XS.imul X0.here hx rfl (hb hby d_rm_chr0_4) rfl k) ?_
  show own_Go p e below (s₁.setTop (mkF m 5 #[.val (.int p1), .val (.int (0 : Int32))] [(.int (0 : Int32)), (.int p1)])) _
  refine own_by (fun _ k => XS.iushr X0.here hx rfl (hb hby d_rm_chr0_5) rfl k) ?_
  refine own_by (fun _ k => XS.sipush X0.here hx rfl (hb hby d_rm_chr0_6) k) ?_
  refine own_by (fun _ k => XS.iand X0.here hx rfl (hb hby d_rm_chr0_9) rfl k) ?_
  refine own_by (fun _ k => XS.i2c X0.here hx rfl (hb hby d_rm_chr0_10) rfl k) ?_
  show own_Go p e below (s₁.setTop (mkF m 11 #[.val (.int p1), .val (.int (0 : Int32))] [(.int ((((p1.toUInt32 >>> ((0 : Int32) &&& 31).toUInt32).toInt32) &&& (255 : Int32)).toUInt32.toUInt16.toUInt32.toInt32))])) _
  rw [i2c_mask]
  show own_Go p e below (s₁.setTop (mkF m 11 #[.val (.int p1), .val (.int (0 : Int32))] [(.int (((p1.toUInt32 >>> ((0 : Int32) &&& 31).toUInt32).toInt32) &&& (255 : Int32)))])) _
  obtain ⟨fs, hr, hrun, hended, hW, hsame⟩ := X0.leave (v := some (.int (nar .char (((p1.toUInt32 >>> ((0 : Int32) &&& 31).toUInt32).toInt32) &&& (255 : Int32))))) (fun h => by rw [Bd.returns] at h; cases h)
  refine ⟨_, _, retN X0 hx (t := .char) Bd.returns (by simp) (hb hby d_rm_chr0_11) hr, hrun, hended, _, _, rfl, ?_, ⟨_, rfl⟩, hW, hsame.mono (by decide) (by decide)⟩
  show Q_rm_chr0 Z p1 h0 n0 _ s₁.heap _
  rw [e0]
  exact ⟨(own_ret_char _), N0, rfl⟩
theorem d_rm_chr1_0 : decode method_2_code 0 = .ok (.iload_n 0, 1) := by decide +kernel
theorem d_rm_chr1_1 : decode method_2_code 1 = .ok (.bipush 8, 2) := by decide +kernel
theorem d_rm_chr1_3 : decode method_2_code 3 = .ok (.iload_n 1, 1) := by decide +kernel
theorem d_rm_chr1_4 : decode method_2_code 4 = .ok (.imul, 1) := by decide +kernel
theorem d_rm_chr1_5 : decode method_2_code 5 = .ok (.iushr, 1) := by decide +kernel
theorem d_rm_chr1_6 : decode method_2_code 6 = .ok (.sipush 255, 3) := by decide +kernel
theorem d_rm_chr1_9 : decode method_2_code 9 = .ok (.iand, 1) := by decide +kernel
theorem d_rm_chr1_10 : decode method_2_code 10 = .ok (.i2c, 1) := by decide +kernel
theorem d_rm_chr1_11 : decode method_2_code 11 = .ok (.ireturn, 1) := by decide +kernel
def Q_rm_chr1 (Z : State) (p1 : Int32) (h0 : Heap) (n0 : Nat) (v : Option Value) (h : Heap) (L : List Loc) : Prop := v = some (.int (own_pk1 p1 &&& (255 : Int32))) ∧ Fr n0 L ∧ h = h0
theorem ef_rm_chr1 (m : MethodId) (p1 : Int32) : entryFrame m #[(.int p1), (.int (1 : Int32))] 2 = mkF m 0 #[.val (.int p1), .val (.int (1 : Int32))] [] := by first | (simp [entryFrame, mkF, argsToLocals, Value.category]; done) | rfl
set_option maxRecDepth 65536 in
set_option maxHeartbeats 40000000 in
theorem rm_chr1 (l : Launch) (Z : State) (a0 : Array Value) (hw : ∀ d ∈ tables_1, d.before a0 Z = true) (ws : List Jvm.Cond) (p1 : Int32) (h0 : Heap) (n0 : Nat) (O0 : Old Z n0 h0) :
    MetFree l (⟨"com/example/living_lease/livinglease/redis/ErrorEqualsPinLaw", "ch", "(II)C"⟩ : MethodName) (head1 (Jvm.Cond.code (⟨"com/example/living_lease/livinglease/redis/ErrorEqualsPinLaw", "ch", "(II)C"⟩ : MethodName) method_2_code 2 (some .char) :: ws) ({ frames := 0, cells := 0, slots := 0, locals := 0 } : Room)) (fun a U => a = #[(.int p1), (.int (1 : Int32))] ∧ Z.Warmed39 U.vm ∧ U.heap = h0) (fun _ _ _ _ _ => True) (fun _ U o U' => ∃ v L, o = .returned v ∧ Q_rm_chr1 Z p1 h0 n0 v U'.heap L ∧ FrameEnd U o U' L ({ frames := 0, cells := 0, slots := 0, locals := 0 } : Room).cells ({ frames := 0, cells := 0, slots := 0, locals := 0 } : Room).slots) := by
  refine MetFree.of_bodySF (plainFor_of_name own_pn_com_example_living_lease_livinglease_redis_ErrorEqualsPinLaw) hisR ?_
  intro p e s m args below meth c s₁ Bd hml0 hP hK
  obtain ⟨rfl, hZ, hh⟩ := hP
  have hx := Bd.exec
  have hby := Bd.bytes
  have hml : c.maxLocals = 2 := hml0
  have hown : s.vm.findClass "com/example/living_lease/livinglease/redis/ErrorEqualsPinLaw" = some m.cls := findClass_of_methodNamed Bd.named
  have hnm := (name_of_methodNamed Bd.named Bd.method).1
  have X0 : Stand p l e ({ frames := 0, cells := 0, slots := 0, locals := 0 } : Room) s m #[(.int p1), (.int (1 : Int32))] below meth c s₁ [] 0 0 := Stand.of_body Bd
  have e0 : s₁.heap = h0 := by rw [← hh, Bd.state]; rfl
  have N0 := Fr.nil n0
  have Z0 : n0 ≤ h0.size := by rw [← O0.1]; exact O0.2.1
  show own_Go p e below (s₁.setTop (entryFrame m #[(.int p1), (.int (1 : Int32))] 2)) (fun t o => ∃ v L, o = .returned v ∧ Q_rm_chr1 Z p1 h0 n0 v t.heap L ∧ FrameEnd s o t L ({ frames := 0, cells := 0, slots := 0, locals := 0 } : Room).cells ({ frames := 0, cells := 0, slots := 0, locals := 0 } : Room).slots)
  rw [ef_rm_chr1 m p1]
  refine own_by (fun _ k => XS.iloadN X0.here hx rfl (hb hby d_rm_chr1_0) rfl k) ?_
  refine own_by (fun _ k => XS.bipush X0.here hx rfl (hb hby d_rm_chr1_1) k) ?_
  refine own_by (fun _ k => XS.iloadN X0.here hx rfl (hb hby d_rm_chr1_3) rfl k) ?_
  refine own_by (fun _ k => XS.imul X0.here hx rfl (hb hby d_rm_chr1_4) rfl k) ?_
  show own_Go p e below (s₁.setTop (mkF m 5 #[.val (.int p1), .val (.int (1 : Int32))] [(.int (8 : Int32)), (.int p1)])) _
  refine own_by (fun _ k => XS.iushr X0.here hx rfl (hb hby d_rm_chr1_5) rfl k) ?_
  refine own_by (fun _ k => XS.sipush X0.here hx rfl (hb hby d_rm_chr1_6) k) ?_
  refine own_by (fun _ k => XS.iand X0.here hx rfl (hb hby d_rm_chr1_9) rfl k) ?_
  refine own_by (fun _ k => XS.i2c X0.here hx rfl (hb hby d_rm_chr1_10) rfl k) ?_
  show own_Go p e below (s₁.setTop (mkF m 11 #[.val (.int p1), .val (.int (1 : Int32))] [(.int ((((p1.toUInt32 >>> ((8 : Int32) &&& 31).toUInt32).toInt32) &&& (255 : Int32)).toUInt32.toUInt16.toUInt32.toInt32))])) _
  rw [i2c_mask]
  show own_Go p e below (s₁.setTop (mkF m 11 #[.val (.int p1), .val (.int (1 : Int32))] [(.int (((p1.toUInt32 >>> ((8 : Int32) &&& 31).toUInt32).toInt32) &&& (255 : Int32)))])) _
  obtain ⟨fs, hr, hrun, hended, hW, hsame⟩ := X0.leave (v := some (.int (nar .char (((p1.toUInt32 >>> ((8 : Int32) &&& 31).toUInt32).toInt32) &&& (255 : Int32))))) (fun h => by rw [Bd.returns] at h; cases h)
  refine ⟨_, _, retN X0 hx (t := .char) Bd.returns (by simp) (hb hby d_rm_chr1_11) hr, hrun, hended, _, _, rfl, ?_, ⟨_, rfl⟩, hW, hsame.mono (by decide) (by decide)⟩
  show Q_rm_chr1 Z p1 h0 n0 _ s₁.heap _
  rw [e0]
  exact ⟨(own_ret_char _), N0, rfl⟩
theorem d_rm_chr2_0 : decode method_2_code 0 = .ok (.iload_n 0, 1) := by decide +kernel
theorem d_rm_chr2_1 : decode method_2_code 1 = .ok (.bipush 8, 2) := by decide +kernel
theorem d_rm_chr2_3 : decode method_2_code 3 = .ok (.iload_n 1, 1) := by decide +kernel
theorem d_rm_chr2_4 : decode method_2_code 4 = .ok (.imul, 1) := by decide +kernel
theorem d_rm_chr2_5 : decode method_2_code 5 = .ok (.iushr, 1) := by decide +kernel
theorem d_rm_chr2_6 : decode method_2_code 6 = .ok (.sipush 255, 3) := by decide +kernel
theorem d_rm_chr2_9 : decode method_2_code 9 = .ok (.iand, 1) := by decide +kernel
theorem d_rm_chr2_10 : decode method_2_code 10 = .ok (.i2c, 1) := by decide +kernel
theorem d_rm_chr2_11 : decode method_2_code 11 = .ok (.ireturn, 1) := by decide +kernel
def Q_rm_chr2 (Z : State) (p1 : Int32) (h0 : Heap) (n0 : Nat) (v : Option Value) (h : Heap) (L : List Loc) : Prop := v = some (.int (own_pk2 p1 &&& (255 : Int32))) ∧ Fr n0 L ∧ h = h0
theorem ef_rm_chr2 (m : MethodId) (p1 : Int32) : entryFrame m #[(.int p1), (.int (2 : Int32))] 2 = mkF m 0 #[.val (.int p1), .val (.int (2 : Int32))] [] := by first | (simp [entryFrame, mkF, argsToLocals, Value.category]; done) | rfl
set_option maxRecDepth 65536 in
set_option maxHeartbeats 40000000 in
theorem rm_chr2 (l : Launch) (Z : State) (a0 : Array Value) (hw : ∀ d ∈ tables_1, d.before a0 Z = true) (ws : List Jvm.Cond) (p1 : Int32) (h0 : Heap) (n0 : Nat) (O0 : Old Z n0 h0) :
    MetFree l (⟨"com/example/living_lease/livinglease/redis/ErrorEqualsPinLaw", "ch", "(II)C"⟩ : MethodName) (head1 (Jvm.Cond.code (⟨"com/example/living_lease/livinglease/redis/ErrorEqualsPinLaw", "ch", "(II)C"⟩ : MethodName) method_2_code 2 (some .char) :: ws) ({ frames := 0, cells := 0, slots := 0, locals := 0 } : Room)) (fun a U => a = #[(.int p1), (.int (2 : Int32))] ∧ Z.Warmed39 U.vm ∧ U.heap = h0) (fun _ _ _ _ _ => True) (fun _ U o U' => ∃ v L, o = .returned v ∧ Q_rm_chr2 Z p1 h0 n0 v U'.heap L ∧ FrameEnd U o U' L ({ frames := 0, cells := 0, slots := 0, locals := 0 } : Room).cells ({ frames := 0, cells := 0, slots := 0, locals := 0 } : Room).slots) := by
  refine MetFree.of_bodySF (plainFor_of_name own_pn_com_example_living_lease_livinglease_redis_ErrorEqualsPinLaw) hisR ?_
  intro p e s m args below meth c s₁ Bd hml0 hP hK
  obtain ⟨rfl, hZ, hh⟩ := hP
  have hx := Bd.exec
  have hby := Bd.bytes
  have hml : c.maxLocals = 2 := hml0
  have hown : s.vm.findClass "com/example/living_lease/livinglease/redis/ErrorEqualsPinLaw" = some m.cls := findClass_of_methodNamed Bd.named
  have hnm := (name_of_methodNamed Bd.named Bd.method).1
  have X0 : Stand p l e ({ frames := 0, cells := 0, slots := 0, locals := 0 } : Room) s m #[(.int p1), (.int (2 : Int32))] below meth c s₁ [] 0 0 := Stand.of_body Bd
  have e0 : s₁.heap = h0 := by rw [← hh, Bd.state]; rfl
  have N0 := Fr.nil n0
  have Z0 : n0 ≤ h0.size := by rw [← O0.1]; exact O0.2.1
  show own_Go p e below (s₁.setTop (entryFrame m #[(.int p1), (.int (2 : Int32))] 2)) (fun t o => ∃ v L, o = .returned v ∧ Q_rm_chr2 Z p1 h0 n0 v t.heap L ∧ FrameEnd s o t L ({ frames := 0, cells := 0, slots := 0, locals := 0 } : Room).cells ({ frames := 0, cells := 0, slots := 0, locals := 0 } : Room).slots)
  rw [ef_rm_chr2 m p1]
  refine own_by (fun _ k => XS.iloadN X0.here hx rfl (hb hby d_rm_chr2_0) rfl k) ?_
  refine own_by (fun _ k => XS.bipush X0.here hx rfl (hb hby d_rm_chr2_1) k) ?_
  refine own_by (fun _ k => XS.iloadN X0.here hx rfl (hb hby d_rm_chr2_3) rfl k) ?_
  refine own_by (fun _ k => XS.imul X0.here hx rfl (hb hby d_rm_chr2_4) rfl k) ?_
  show own_Go p e below (s₁.setTop (mkF m 5 #[.val (.int p1), .val (.int (2 : Int32))] [(.int (16 : Int32)), (.int p1)])) _
  refine own_by (fun _ k => XS.iushr X0.here hx rfl (hb hby d_rm_chr2_5) rfl k) ?_
  refine own_by (fun _ k => XS.sipush X0.here hx rfl (hb hby d_rm_chr2_6) k) ?_
  refine own_by (fun _ k => XS.iand X0.here hx rfl (hb hby d_rm_chr2_9) rfl k) ?_
  refine own_by (fun _ k => XS.i2c X0.here hx rfl (hb hby d_rm_chr2_10) rfl k) ?_
  show own_Go p e below (s₁.setTop (mkF m 11 #[.val (.int p1), .val (.int (2 : Int32))] [(.int ((((p1.toUInt32 >>> ((16 : Int32) &&& 31).toUInt32).toInt32) &&& (255 : Int32)).toUInt32.toUInt16.toUInt32.toInt32))])) _
  rw [i2c_mask]
  show own_Go p e below (s₁.setTop (mkF m 11 #[.val (.int p1), .val (.int (2 : Int32))] [(.int (((p1.toUInt32 >>> ((16 : Int32) &&& 31).toUInt32).toInt32) &&& (255 : Int32)))])) _
  obtain ⟨fs, hr, hrun, hended, hW, hsame⟩ := X0.leave (v := some (.int (nar .char (((p1.toUInt32 >>> ((16 : Int32) &&& 31).toUInt32).toInt32) &&& (255 : Int32))))) (fun h => by rw [Bd.returns] at h; cases h)
  refine ⟨_, _, retN X0 hx (t := .char) Bd.returns (by simp) (hb hby d_rm_chr2_11) hr, hrun, hended, _, _, rfl, ?_, ⟨_, rfl⟩, hW, hsame.mono (by decide) (by decide)⟩
  show Q_rm_chr2 Z p1 h0 n0 _ s₁.heap _
  rw [e0]
  exact ⟨(own_ret_char _), N0, rfl⟩
theorem d_rm_sinit4_0_0 : decode jdk_42_method_149_code 0 = .ok (.aload_n 0, 1) := by decide +kernel
theorem d_rm_sinit4_0_1 : decode jdk_42_method_149_code 1 = .ok (.invokespecial 1, 3) := by decide +kernel
theorem d_rm_sinit4_0_4 : decode jdk_42_method_149_code 4 = .ok (.iload_n 3, 1) := by decide +kernel
theorem d_rm_sinit4_0_5 : decode jdk_42_method_149_code 5 = .ok (.ifCond .ne 22, 3) := by decide +kernel
theorem d_rm_sinit4_0_8 : decode jdk_42_method_149_code 8 = .ok (.aload_n 0, 1) := by decide +kernel
theorem d_rm_sinit4_0_9 : decode jdk_42_method_149_code 9 = .ok (.ldc 7, 2) := by decide +kernel
theorem d_rm_sinit4_0_11 : decode jdk_42_method_149_code 11 = .ok (.getfield 9, 3) := by decide +kernel
theorem d_rm_sinit4_0_14 : decode jdk_42_method_149_code 14 = .ok (.putfield 9, 3) := by decide +kernel
theorem d_rm_sinit4_0_17 : decode jdk_42_method_149_code 17 = .ok (.aload_n 0, 1) := by decide +kernel
theorem d_rm_sinit4_0_18 : decode jdk_42_method_149_code 18 = .ok (.ldc 7, 2) := by decide +kernel
theorem d_rm_sinit4_0_20 : decode jdk_42_method_149_code 20 = .ok (.getfield 15, 3) := by decide +kernel
theorem d_rm_sinit4_0_23 : decode jdk_42_method_149_code 23 = .ok (.putfield 15, 3) := by decide +kernel
theorem d_rm_sinit4_0_26 : decode jdk_42_method_149_code 26 = .ok (.return_, 1) := by decide +kernel
def Q_rm_sinit4_0 (Z : State) (t1 : Addr) (a1 : Addr) (h0 : Heap) (n0 : Nat) (v : Option Value) (h : Heap) (L : List Loc) : Prop := ∃ (b : Addr), ∃ (kb : ClassId), v = none ∧ Fr n0 L ∧ Keep h0 h [t1] ∧ Exa Z h t1 "java/lang/String" ∧ Fld Z h t1 "java/lang/String" "coder" "B" (.int (0 : Int32)) ∧ Fld Z h t1 "java/lang/String" "value" "[B" (.ref b) ∧ Arv Z h b kb .byte (0 : Int32) [] (.int (0 : Int32))
theorem ef_rm_sinit4_0 (m : MethodId) (t1 : Addr) (a1 : Addr) : entryFrame m #[(.ref t1), (.ref a1), (.int (0 : Int32)), (.int (0 : Int32)), .null] 6 = mkF m 0 #[.val (.ref t1), .val (.ref a1), .val (.int (0 : Int32)), .val (.int (0 : Int32)), .val .null, .unset] [] := by first | (simp [entryFrame, mkF, argsToLocals, Value.category]; done) | rfl
set_option maxRecDepth 65536 in
set_option maxHeartbeats 40000000 in
theorem rm_sinit4_0 (l : Launch) (Z : State) (a0 : Array Value) (hw : ∀ d ∈ tables_1, d.before a0 Z = true) (ws : List Jvm.Cond) (t1 : Addr) (a1 : Addr) (h0 : Heap) (n0 : Nat) (O0 : Old Z n0 h0) (hEL : EW Z a0 own_EL) (Et : Exa Z h0 t1 "java/lang/String") (Fv : Fld Z h0 t1 "java/lang/String" "value" "[B" .null) (Fc : Fld Z h0 t1 "java/lang/String" "coder" "B" (.int (0 : Int32))) (gt : n0 ≤ t1) :
    MetFree l (⟨"java/lang/String", "<init>", "([CIILjava/lang/Void;)V"⟩ : MethodName) (head1 (Jvm.Cond.code (⟨"java/lang/String", "<init>", "([CIILjava/lang/Void;)V"⟩ : MethodName) jdk_42_method_149_code 6 none :: ws) ({ frames := 1, cells := 4, slots := 8, locals := 12 } : Room)) (fun a U => a = #[(.ref t1), (.ref a1), (.int (0 : Int32)), (.int (0 : Int32)), .null] ∧ Z.Warmed39 U.vm ∧ U.heap = h0 ∧ CHv Z own_EL U.vm h0) (fun _ _ _ _ _ => True) (fun _ U o U' => ∃ v L, o = .returned v ∧ Q_rm_sinit4_0 Z t1 a1 h0 n0 v U'.heap L ∧ CHr Z own_EL U.vm U.heap U'.vm U'.heap ∧ ReturnedEndW U o U' L ({ frames := 1, cells := 4, slots := 8, locals := 12 } : Room).cells ({ frames := 1, cells := 4, slots := 8, locals := 12 } : Room).slots) := by
  refine MetFree.of_bodySF (plainFor_of_name own_pn_java_lang_String) hisR ?_
  intro p e s m args below meth c s₁ Bd hml0 hP hK
  obtain ⟨rfl, hZ, hh, hC⟩ := hP
  have hx := Bd.exec
  have hby := Bd.bytes
  have hml : c.maxLocals = 6 := hml0
  have hown : s.vm.findClass "java/lang/String" = some m.cls := findClass_of_methodNamed Bd.named
  have hnm := (name_of_methodNamed Bd.named Bd.method).1
  have X0 : Stand p l e ({ frames := 1, cells := 4, slots := 8, locals := 12 } : Room) (s.setVm s.vm) m #[(.ref t1), (.ref a1), (.int (0 : Int32)), (.int (0 : Int32)), .null] below meth c s₁ [] 0 0 := Stand.of_body Bd
  have S0 : s.Since s.vm h0.size := (State.WarmedH.refl s).since _
  have hZ : Z.Warmed39 (s.setVm s.vm).vm := hZ
  have hown : (s.setVm s.vm).vm.findClass "java/lang/String" = some m.cls := hown
  have R0 : CHr Z own_EL s.vm h0 s.vm h0 := CHr.refl hC
  have e0 : s₁.heap = h0 := by rw [← hh, Bd.state]; rfl
  have N0 := Fr.nil n0
  have Z0 : n0 ≤ h0.size := by rw [← O0.1]; exact O0.2.1
  show own_Go p e below (s₁.setTop (entryFrame m #[(.ref t1), (.ref a1), (.int (0 : Int32)), (.int (0 : Int32)), .null] 6)) (fun t o => ∃ v L, o = .returned v ∧ Q_rm_sinit4_0 Z t1 a1 h0 n0 v t.heap L ∧ CHr Z own_EL s.vm s.heap t.vm t.heap ∧ ReturnedEndW s o t L ({ frames := 1, cells := 4, slots := 8, locals := 12 } : Room).cells ({ frames := 1, cells := 4, slots := 8, locals := 12 } : Room).slots)
  rw [ef_rm_sinit4_0 m t1 a1]
  have lt_Et : h0.size > t1 := Et.lt
  have lt_Fv : h0.size > t1 := Fv.lt
  have lt_Fc : h0.size > t1 := Fc.lt
  refine own_by (fun _ k => XS.aloadN X0.here hx rfl (hb hby d_rm_sinit4_0_0) rfl rfl k) ?_
  obtain ⟨T1, X1, e1, st1⟩ := initO X0 hx hZ hown (own_w hw 18 rfl) (own_w hw 19 rfl) (own_w hw 20 rfl) e0 (g := (mkF m 1 #[.val (.ref t1), .val (.ref a1), .val (.int (0 : Int32)), .val (.int (0 : Int32)), .val .null, .unset] [(.ref t1)])) rfl (by rw [hml]; rfl) rfl (hb hby d_rm_sinit4_0_1) (by decide) (W := 0) (by show 2 * 0 + _ ≤ _; exact Nat.le_of_eq rfl) (by decide)
  refine own_by st1 ?_
  refine own_by (fun _ k => XS.iloadN X1.here hx rfl (hb hby d_rm_sinit4_0_4) rfl k) ?_
  refine own_by (fun _ k => XS.ifNo X1.here hx rfl (hb hby d_rm_sinit4_0_5) rfl ((if0 _ _).trans (teq (by decide : (0 : Int32) = (0 : Int32))).2) k) ?_
  show own_Go p e below (T1.setTop (mkF m 8 #[.val (.ref t1), .val (.ref a1), .val (.int (0 : Int32)), .val (.int (0 : Int32)), .val .null, .unset] [])) _
  refine own_by (fun _ k => XS.aloadN X1.here hx rfl (hb hby d_rm_sinit4_0_8) rfl rfl k) ?_
  obtain ⟨b2, T2, h2, k2, c2, kb2, X2, e2, E2, S2, kk2, hZ2, ho2, A2, Fc2, Fv2, V2, la2, lb2, C2, -, sn2, st2⟩ := ldcCH X1 hx hZ hown (own_w hw 37 rfl) (own_wS hw) e1 S0 (by omega) hEL (by decide) R0.1 (vs := []) (z := (0 : Int32)) (by decide) (by decide) (by decide) (g := (mkF m 9 #[.val (.ref t1), .val (.ref a1), .val (.int (0 : Int32)), .val (.int (0 : Int32)), .val .null, .unset] [(.ref t1)])) rfl (hb hby d_rm_sinit4_0_9) (n := 0) (by decide) (by decide) (by decide) (by decide)
  refine own_by st2 ?_
  have z2 := E2.1
  have nl2_0 := sn2 _ (own_CHr_safe C2 (by omega) (show Safe Z own_EL _ _ t1 from (own_safe_null hZ.alike Et Fv)))
  have ml2_0 : ¬ (@Eq Nat t1 b2) ∧ ¬ (@Eq Nat t1 c2) := nl2_0
  have R2 := R0.trans C2
  obtain ⟨T3, X3, e3, st3⟩ := getF X2 hx hZ2 ho2 (host := "") (Or.inl (own_w hw 35 rfl)) Via.refl e2 Fv2 (g := (mkF m 11 #[.val (.ref t1), .val (.ref a1), .val (.int (0 : Int32)), .val (.int (0 : Int32)), .val .null, .unset] [(.ref b2), (.ref t1)])) rfl rfl (hb hby d_rm_sinit4_0_11)
  refine own_by st3 ?_
  have fc4 : Fld Z h2 t1 "java/lang/String" "value" "[B" .null := (Fv.ext E2)
  have fc5 : Exa Z h2 t1 "java/lang/String" := (Et.ext E2)
  obtain ⟨T6, h6, X6, e6, W6, st6⟩ := putF X3 hx hZ2 ho2 (host := "") (Or.inl (own_w hw 35 rfl)) Via.refl e3 fc4 fc5 (Or.inr ⟨(own_w hw 36 rfl), rfl, hnm⟩) (own_w hw 5 rfl) (ty := (.array .byte)) (by decide) rfl rfl (g := (mkF m 14 #[.val (.ref t1), .val (.ref a1), .val (.int (0 : Int32)), .val (.int (0 : Int32)), .val .null, .unset] [(.ref c2), (.ref t1)])) rfl rfl (hb hby d_rm_sinit4_0_14)
  refine own_by st6 ?_
  have z6 := W6.size
  have N6 := Fr.snoc X6 N0 (by omega)
  have sw6 : Safe Z own_EL T2.vm h2 t1 := (own_safe_null hZ2.alike fc5 fc4)
  have sf6_t1 := Safe.wr W6 sw6 R2.1 sw6
  have R6 := R2.trans (CHr.wr W6 sw6 R2.1)
  have Fw6 : Fld Z h6 t1 "java/lang/String" "value" "[B" (.ref c2) := fc4.same W6
  show own_Go p e below (T6.setTop (mkF m 17 #[.val (.ref t1), .val (.ref a1), .val (.int (0 : Int32)), .val (.int (0 : Int32)), .val .null, .unset] [])) _
  refine own_by (fun _ k => XS.aloadN X6.here hx rfl (hb hby d_rm_sinit4_0_17) rfl rfl k) ?_
  obtain ⟨b7, T7, h7, k7, c7, kb7, X7, e7, E7, S7, kk7, hZ7, ho7, A7, Fc7, Fv7, V7, la7, lb7, C7, -, sn7, st7⟩ := ldcCH X6 hx hZ2 ho2 (own_w hw 37 rfl) (own_wS hw) e6 S2 (by omega) hEL (by decide) R6.1 (vs := []) (z := (0 : Int32)) (by decide) (by decide) (by decide) (g := (mkF m 18 #[.val (.ref t1), .val (.ref a1), .val (.int (0 : Int32)), .val (.int (0 : Int32)), .val .null, .unset] [(.ref t1)])) rfl (hb hby d_rm_sinit4_0_18) (n := 0) (by decide) (by decide) (by decide) (by decide)
  refine own_by st7 ?_
  have z7 := E7.1
  have nl7_0 := sn7 _ (own_CHr_safe C7 (by omega) (show Safe Z own_EL _ _ t1 from sf6_t1))
  have ml7_0 : ¬ (@Eq Nat t1 b7) ∧ ¬ (@Eq Nat t1 c7) := nl7_0
  have sf7_t1 := own_CHr_safe C7 (x := t1) (by omega) sf6_t1
  have R7 := R6.trans C7
  obtain ⟨T8, X8, e8, st8⟩ := getF X7 hx hZ7 ho7 (host := "") (Or.inl (own_w hw 33 rfl)) Via.refl e7 Fc7 (g := (mkF m 20 #[.val (.ref t1), .val (.ref a1), .val (.int (0 : Int32)), .val (.int (0 : Int32)), .val .null, .unset] [(.ref b7), (.ref t1)])) rfl rfl (hb hby d_rm_sinit4_0_20)
  refine own_by st8 ?_
  have fc9 : Fld Z h7 t1 "java/lang/String" "coder" "B" (.int (0 : Int32)) := (((Fc.ext E2).other W6 (Or.inr (slot_ne (a0 := a0) (Or.inr (own_w hw 34 rfl)) (Or.inr (own_w hw 36 rfl)) (by decide) (t := .byte) (by decide) (t' := (.array .byte)) (by decide)))).ext E7)
  have fc10 : Exa Z h7 t1 "java/lang/String" := ((fc5.wr W6).ext E7)
  obtain ⟨T11, h11, X11, e11, W11, st11⟩ := putFN X8 hx hZ7 ho7 (own_w hw 33 rfl) Via.refl e8 fc9 fc10 (Or.inr ⟨(own_w hw 34 rfl), rfl, hnm⟩) (own_w hw 5 rfl) (ty := .byte) (v' := (.int (0 : Int32))) (by decide) rfl rfl (g := (mkF m 23 #[.val (.ref t1), .val (.ref a1), .val (.int (0 : Int32)), .val (.int (0 : Int32)), .val .null, .unset] [(.int (0 : Int32)), (.ref t1)])) rfl rfl (hb hby d_rm_sinit4_0_23)
  refine own_by st11 ?_
  have z11 := W11.size
  have N11 := Fr.snoc X11 N6 (by omega)
  have sw11 : Safe Z own_EL T7.vm h7 t1 := sf7_t1
  have sf11_t1 := Safe.wr W11 sw11 R7.1 sw11
  have R11 := R7.trans (CHr.wr W11 sw11 R7.1)
  have Fw11 : Fld Z h11 t1 "java/lang/String" "coder" "B" (.int (0 : Int32)) := fc9.same W11
  show own_Go p e below (T11.setTop (mkF m 26 #[.val (.ref t1), .val (.ref a1), .val (.int (0 : Int32)), .val (.int (0 : Int32)), .val .null, .unset] [])) _
  have fc12 : Exa Z h11 t1 "java/lang/String" := (fc10.wr W11)
  have fc13 : Fld Z h11 t1 "java/lang/String" "value" "[B" (.ref c2) := ((Fw6.ext E7).other W11 (Or.inr (slot_ne (a0 := a0) (Or.inr (own_w hw 36 rfl)) (Or.inr (own_w hw 34 rfl)) (by decide) (t := (.array .byte)) (by decide) (t' := .byte) (by decide))))
  have fc14 : Arv Z h11 c2 kb2 .byte (0 : Int32) [] (.int (0 : Int32)) := (((V2.other W6 (own_ne (by omega))).ext E7).other W11 (own_ne (by omega)))
  have K15 : Keep h0 h11 [t1] := (((((Keep.refl h0 [t1]).ext E2).wr W6 (Or.inl (List.mem_of_getElem? (i := 0) rfl))).ext E7).wr W11 (Or.inl (List.mem_of_getElem? (i := 0) rfl)))
  obtain ⟨fs, hr, hrun, hended, hW⟩ := X11.leaveW S7 (by first | omega | (rw [e11]; omega)) (v := none) (fun h => rfl)
  have RR := R11.trans (CHv.at X11 hZ7 hEL R11.1)
  have RR' : CHr Z own_EL s.vm s.heap T11.vm T11.heap := by rw [hh, e11]; exact RR
  refine ⟨_, _, X11.returnOut hx Bd.returns (hb hby d_rm_sinit4_0_26) hr, hrun, hended, _, _, rfl, ?_, RR', ⟨_, rfl⟩, hW.2.1, hW.2.2.1, hW.2.2.2.mono (by decide) (by decide)⟩
  show Q_rm_sinit4_0 Z t1 a1 h0 n0 _ T11.heap _
  rw [e11]
  exact ⟨c2, kb2, rfl, N11, K15, fc12, Fw11, fc13, fc14⟩
theorem d_rm_sinit_0_0 : decode jdk_42_method_3_code 0 = .ok (.aload_n 0, 1) := by decide +kernel
theorem d_rm_sinit_0_1 : decode jdk_42_method_3_code 1 = .ok (.aload_n 1, 1) := by decide +kernel
theorem d_rm_sinit_0_2 : decode jdk_42_method_3_code 2 = .ok (.iconst 0, 1) := by decide +kernel
theorem d_rm_sinit_0_3 : decode jdk_42_method_3_code 3 = .ok (.aload_n 1, 1) := by decide +kernel
theorem d_rm_sinit_0_4 : decode jdk_42_method_3_code 4 = .ok (.arraylength, 1) := by decide +kernel
theorem d_rm_sinit_0_5 : decode jdk_42_method_3_code 5 = .ok (.aconst_null, 1) := by decide +kernel
theorem d_rm_sinit_0_6 : decode jdk_42_method_3_code 6 = .ok (.invokespecial 27, 3) := by decide +kernel
theorem d_rm_sinit_0_9 : decode jdk_42_method_3_code 9 = .ok (.return_, 1) := by decide +kernel
def Q_rm_sinit_0 (Z : State) (t1 : Addr) (a1 : Addr) (ka : ClassId) (h0 : Heap) (n0 : Nat) (v : Option Value) (h : Heap) (L : List Loc) : Prop := ∃ (b : Addr), ∃ (kb : ClassId), v = none ∧ Fr n0 L ∧ Keep h0 h [t1] ∧ Exa Z h t1 "java/lang/String" ∧ Fld Z h t1 "java/lang/String" "coder" "B" (.int (0 : Int32)) ∧ Fld Z h t1 "java/lang/String" "value" "[B" (.ref b) ∧ Arv Z h b kb .byte (0 : Int32) [] (.int (0 : Int32))
theorem ef_rm_sinit_0 (m : MethodId) (t1 : Addr) (a1 : Addr) (ka : ClassId) : entryFrame m #[(.ref t1), (.ref a1)] 2 = mkF m 0 #[.val (.ref t1), .val (.ref a1)] [] := by first | (simp [entryFrame, mkF, argsToLocals, Value.category]; done) | rfl
set_option maxRecDepth 65536 in
set_option maxHeartbeats 40000000 in
theorem rm_sinit_0 (l : Launch) (Z : State) (a0 : Array Value) (hw : ∀ d ∈ tables_1, d.before a0 Z = true) (ws : List Jvm.Cond) (t1 : Addr) (a1 : Addr) (ka : ClassId) (h0 : Heap) (n0 : Nat) (O0 : Old Z n0 h0) (hEL : EW Z a0 own_EL) (Et : Exa Z h0 t1 "java/lang/String") (Fv : Fld Z h0 t1 "java/lang/String" "value" "[B" .null) (Fc : Fld Z h0 t1 "java/lang/String" "coder" "B" (.int (0 : Int32))) (Va : Arv Z h0 a1 ka .char (0 : Int32) [] (.int (0 : Int32))) (gt : n0 ≤ t1) :
    MetFree l (⟨"java/lang/String", "<init>", "([C)V"⟩ : MethodName) (head1 (Jvm.Cond.code (⟨"java/lang/String", "<init>", "([C)V"⟩ : MethodName) jdk_42_method_3_code 2 none :: ws) ({ frames := 2, cells := 4, slots := 8, locals := 29 } : Room)) (fun a U => a = #[(.ref t1), (.ref a1)] ∧ Z.Warmed39 U.vm ∧ U.heap = h0 ∧ CHv Z own_EL U.vm h0) (fun _ _ _ _ _ => True) (fun _ U o U' => ∃ v L, o = .returned v ∧ Q_rm_sinit_0 Z t1 a1 ka h0 n0 v U'.heap L ∧ CHr Z own_EL U.vm U.heap U'.vm U'.heap ∧ ReturnedEndW U o U' L ({ frames := 2, cells := 4, slots := 8, locals := 29 } : Room).cells ({ frames := 2, cells := 4, slots := 8, locals := 29 } : Room).slots) := by
  refine MetFree.of_bodySF (plainFor_of_name own_pn_java_lang_String) hisR ?_
  intro p e s m args below meth c s₁ Bd hml0 hP hK
  obtain ⟨rfl, hZ, hh, hC⟩ := hP
  have hx := Bd.exec
  have hby := Bd.bytes
  have hml : c.maxLocals = 2 := hml0
  have hown : s.vm.findClass "java/lang/String" = some m.cls := findClass_of_methodNamed Bd.named
  have hnm := (name_of_methodNamed Bd.named Bd.method).1
  have X0 : Stand p l e ({ frames := 2, cells := 4, slots := 8, locals := 29 } : Room) (s.setVm s.vm) m #[(.ref t1), (.ref a1)] below meth c s₁ [] 0 0 := Stand.of_body Bd
  have S0 : s.Since s.vm h0.size := (State.WarmedH.refl s).since _
  have hZ : Z.Warmed39 (s.setVm s.vm).vm := hZ
  have hown : (s.setVm s.vm).vm.findClass "java/lang/String" = some m.cls := hown
  have R0 : CHr Z own_EL s.vm h0 s.vm h0 := CHr.refl hC
  have e0 : s₁.heap = h0 := by rw [← hh, Bd.state]; rfl
  have N0 := Fr.nil n0
  have Z0 : n0 ≤ h0.size := by rw [← O0.1]; exact O0.2.1
  show own_Go p e below (s₁.setTop (entryFrame m #[(.ref t1), (.ref a1)] 2)) (fun t o => ∃ v L, o = .returned v ∧ Q_rm_sinit_0 Z t1 a1 ka h0 n0 v t.heap L ∧ CHr Z own_EL s.vm s.heap t.vm t.heap ∧ ReturnedEndW s o t L ({ frames := 2, cells := 4, slots := 8, locals := 29 } : Room).cells ({ frames := 2, cells := 4, slots := 8, locals := 29 } : Room).slots)
  rw [ef_rm_sinit_0 m t1 a1 ka]
  have lt_Et : h0.size > t1 := Et.lt
  have lt_Fv : h0.size > t1 := Fv.lt
  have lt_Fc : h0.size > t1 := Fc.lt
  have lt_Va : h0.size > a1 := Va.lt
  refine own_by (fun _ k => XS.aloadN X0.here hx rfl (hb hby d_rm_sinit_0_0) rfl rfl k) ?_
  refine own_by (fun _ k => XS.aloadN X0.here hx rfl (hb hby d_rm_sinit_0_1) rfl rfl k) ?_
  refine own_by (fun _ k => XS.iconst X0.here hx rfl (hb hby d_rm_sinit_0_2) k) ?_
  refine own_by (fun _ k => XS.aloadN X0.here hx rfl (hb hby d_rm_sinit_0_3) rfl rfl k) ?_
  show own_Go p e below (s₁.setTop (mkF m 4 #[.val (.ref t1), .val (.ref a1)] [(.ref a1), (.int (0 : Int32)), (.ref a1), (.ref t1)])) _
  obtain ⟨cl1, Ar1, q1, S1, M1, H1, G1⟩ := (id Va)
  refine own_by (X0.arraylength hx (by rw [e0]; exact Ar1.1) (State.isArrayOf_alike hZ.alike Ar1.2.1) (g := (mkF m 4 #[.val (.ref t1), .val (.ref a1)] [(.ref a1), (.int (0 : Int32)), (.ref a1), (.ref t1)])) rfl rfl (hb hby d_rm_sinit_0_4)) ?_
  rw [len_of S1 M1]
  refine own_by (fun _ k => XS.aconstNull X0.here hx rfl (hb hby d_rm_sinit_0_5) k) ?_
  obtain ⟨_, _, ⟨T2, L2, k2, n2⟩, -, X2, S'2, gr2, ⟨Lc2, hQ2, l2, y2, z2, C2⟩, st2⟩ := X0.specialBackS hx (y := (⟨"java/lang/String", "<init>", "([CIILjava/lang/Void;)V"⟩ : MethodName)) rfl hown (mvT hZ (own_w hw 14 rfl)) (mvT hZ (own_w hw 15 rfl)) (mvT hZ (own_w hw 17 rfl)) (by decide) (backOfSH (W := 0) (rm_sinit4_0 l Z a0 hw [] t1 a1 h0 n0 O0 hEL Et Fv Fc gt) hZ (own_w hw 17 rfl) (own_w hw 6 rfl) (by decide) (by decide) hEL R0.1) (g := (mkF m 6 #[.val (.ref t1), .val (.ref a1)] [.null, (.int (0 : Int32)), (.int (0 : Int32)), (.ref a1), (.ref t1)])) rfl (by rw [hml]; rfl) (Steps.refl _) (a := t1) (argsL := [(.ref a1), (.int (0 : Int32)), (.int (0 : Int32)), .null]) (rest := []) (lenOf own_pd__28_5bCIILjava_2flang_2fVoid_3b_29V rfl) rfl (by show 2 * 0 + _ ≤ _; exact Nat.le_of_eq rfl) (hb hby d_rm_sinit_0_6) (fun _ _ => ⟨rfl, e0, (by decide : 0 + 4 ≤ _), (by decide : 0 + 8 ≤ _)⟩)
  dsimp only [Pt.U, Pt.locs, Pt.cells, Pt.slots] at X2 l2 y2 z2 st2 hQ2 S'2 gr2 C2
  subst l2 y2 z2
  obtain ⟨X2, S2, hZ2, ho2⟩ := rebS S0 (by first | omega | (rw [e0]; omega)) X2 S'2 gr2 hZ hown
  obtain ⟨b_2, kb_2, rfl, M2, K2, g2_0, g2_1, g2_2, g2_3⟩ := hQ2
  have N2 := Fr.app N0 M2
  refine own_by (fun _ k => st2.trans k) ?_
  have R2 := R0.trans C2
  have z2 := K2.1
  have lt_g2_0 : T2.heap.size > t1 := g2_0.lt
  have lt_g2_1 : T2.heap.size > t1 := g2_1.lt
  have lt_g2_2 : T2.heap.size > t1 := g2_2.lt
  have lt_g2_3 : T2.heap.size > b_2 := g2_3.lt
  have K3 : Keep h0 T2.heap [t1] := ((Keep.refl h0 [t1]).trans K2 (allS (P := fun x => x ∈ [t1] ∨ h0.size ≤ x) (Or.inl (List.mem_of_getElem? (i := 0) rfl)) all0))
  obtain ⟨fs, hr, hrun, hended, hW⟩ := X2.leaveW S2 (by first | omega | (rw [e0]; omega)) (v := none) (fun h => rfl)
  have RR := R2.trans (CHv.at X2 hZ2 hEL R2.1)
  have RR' : CHr Z own_EL s.vm s.heap T2.vm T2.heap := by rw [hh]; exact RR
  refine ⟨_, _, X2.returnOut hx Bd.returns (hb hby d_rm_sinit_0_9) hr, hrun, hended, _, _, rfl, ?_, RR', ⟨_, rfl⟩, hW.2.1, hW.2.2.1, hW.2.2.2.mono (by decide) (by decide)⟩
  show Q_rm_sinit_0 Z t1 a1 ka h0 n0 _ T2.heap _
  exact ⟨b_2, kb_2, rfl, N2, K3, g2_0, g2_1, g2_2, g2_3⟩
theorem d_rm_comp5_1_0 : decode jdk_52_method_21_code 0 = .ok (.iconst 0, 1) := by decide +kernel
theorem d_rm_comp5_1_1 : decode jdk_52_method_21_code 1 = .ok (.istore 5, 2) := by decide +kernel
theorem d_rm_comp5_1_3 : decode jdk_52_method_21_code 3 = .ok (.iload 5, 2) := by decide +kernel
theorem d_rm_comp5_1_5 : decode jdk_52_method_21_code 5 = .ok (.iload 4, 2) := by decide +kernel
theorem d_rm_comp5_1_7 : decode jdk_52_method_21_code 7 = .ok (.if_icmp .ge 37, 3) := by decide +kernel
theorem d_rm_comp5_1_10 : decode jdk_52_method_21_code 10 = .ok (.aload_n 0, 1) := by decide +kernel
theorem d_rm_comp5_1_11 : decode jdk_52_method_21_code 11 = .ok (.iload_n 1, 1) := by decide +kernel
theorem d_rm_comp5_1_12 : decode jdk_52_method_21_code 12 = .ok (.caload, 1) := by decide +kernel
theorem d_rm_comp5_1_13 : decode jdk_52_method_21_code 13 = .ok (.istore 6, 2) := by decide +kernel
theorem d_rm_comp5_1_15 : decode jdk_52_method_21_code 15 = .ok (.iload 6, 2) := by decide +kernel
theorem d_rm_comp5_1_17 : decode jdk_52_method_21_code 17 = .ok (.sipush 255, 3) := by decide +kernel
theorem d_rm_comp5_1_20 : decode jdk_52_method_21_code 20 = .ok (.if_icmp .le 6, 3) := by decide +kernel
theorem d_rm_comp5_1_26 : decode jdk_52_method_21_code 26 = .ok (.aload_n 2, 1) := by decide +kernel
theorem d_rm_comp5_1_27 : decode jdk_52_method_21_code 27 = .ok (.iload_n 3, 1) := by decide +kernel
theorem d_rm_comp5_1_28 : decode jdk_52_method_21_code 28 = .ok (.iload 6, 2) := by decide +kernel
theorem d_rm_comp5_1_30 : decode jdk_52_method_21_code 30 = .ok (.i2b, 1) := by decide +kernel
theorem d_rm_comp5_1_31 : decode jdk_52_method_21_code 31 = .ok (.bastore, 1) := by decide +kernel
theorem d_rm_comp5_1_32 : decode jdk_52_method_21_code 32 = .ok (.iinc 1 1, 3) := by decide +kernel
theorem d_rm_comp5_1_35 : decode jdk_52_method_21_code 35 = .ok (.iinc 3 1, 3) := by decide +kernel
theorem d_rm_comp5_1_38 : decode jdk_52_method_21_code 38 = .ok (.iinc 5 1, 3) := by decide +kernel
theorem d_rm_comp5_1_41 : decode jdk_52_method_21_code 41 = .ok (.goto (-38), 3) := by decide +kernel
theorem d_rm_comp5_1_44 : decode jdk_52_method_21_code 44 = .ok (.iload 4, 2) := by decide +kernel
theorem d_rm_comp5_1_46 : decode jdk_52_method_21_code 46 = .ok (.ireturn, 1) := by decide +kernel
def Q_rm_comp5_1 (Z : State) (a1 : Addr) (b : Addr) (ka : ClassId) (kb : ClassId) (c1 : Int32) (h0 : Heap) (n0 : Nat) (v : Option Value) (h : Heap) (L : List Loc) : Prop := v = some (.int (1 : Int32)) ∧ Fr n0 L ∧ Keep h0 h [b] ∧ Arv Z h b kb .byte (1 : Int32) [(.int (own_b c1))] (.int (0 : Int32))
theorem ef_rm_comp5_1 (m : MethodId) (a1 : Addr) (b : Addr) (ka : ClassId) (kb : ClassId) (c1 : Int32) : entryFrame m #[(.ref a1), (.int (0 : Int32)), (.ref b), (.int (0 : Int32)), (.int (1 : Int32))] 7 = mkF m 0 #[.val (.ref a1), .val (.int (0 : Int32)), .val (.ref b), .val (.int (0 : Int32)), .val (.int (1 : Int32)), .unset, .unset] [] := by first | (simp [entryFrame, mkF, argsToLocals, Value.category]; done) | rfl
set_option maxRecDepth 65536 in
set_option maxHeartbeats 40000000 in
theorem rm_comp5_1 (l : Launch) (Z : State) (a0 : Array Value) (hw : ∀ d ∈ tables_1, d.before a0 Z = true) (ws : List Jvm.Cond) (a1 : Addr) (b : Addr) (ka : ClassId) (kb : ClassId) (c1 : Int32) (h0 : Heap) (n0 : Nat) (O0 : Old Z n0 h0) (Va : Arv Z h0 a1 ka .char (1 : Int32) [(.int c1)] (.int (0 : Int32))) (Vb : Arv Z h0 b kb .byte (1 : Int32) [] (.int (0 : Int32))) (rc1 : ¬ ((255 : Int32) < c1)) (gb : n0 ≤ b) (nab : ¬ (@Eq Nat a1 b)) :
    MetFree l (⟨"java/lang/StringUTF16", "compress", "([CI[BII)I"⟩ : MethodName) (head1 (Jvm.Cond.code (⟨"java/lang/StringUTF16", "compress", "([CI[BII)I"⟩ : MethodName) jdk_52_method_21_code 7 (some .int) :: ws) ({ frames := 0, cells := 0, slots := 0, locals := 0 } : Room)) (fun a U => a = #[(.ref a1), (.int (0 : Int32)), (.ref b), (.int (0 : Int32)), (.int (1 : Int32))] ∧ Z.Warmed39 U.vm ∧ U.heap = h0) (fun _ _ _ _ _ => True) (fun _ U o U' => ∃ v L, o = .returned v ∧ Q_rm_comp5_1 Z a1 b ka kb c1 h0 n0 v U'.heap L ∧ FrameEnd U o U' L ({ frames := 0, cells := 0, slots := 0, locals := 0 } : Room).cells ({ frames := 0, cells := 0, slots := 0, locals := 0 } : Room).slots) := by
  refine MetFree.of_bodySF (plainFor_of_name own_pn_java_lang_StringUTF16) hisR ?_
  intro p e s m args below meth c s₁ Bd hml0 hP hK
  obtain ⟨rfl, hZ, hh⟩ := hP
  have hx := Bd.exec
  have hby := Bd.bytes
  have hml : c.maxLocals = 7 := hml0
  have hown : s.vm.findClass "java/lang/StringUTF16" = some m.cls := findClass_of_methodNamed Bd.named
  have hnm := (name_of_methodNamed Bd.named Bd.method).1
  have X0 : Stand p l e ({ frames := 0, cells := 0, slots := 0, locals := 0 } : Room) s m #[(.ref a1), (.int (0 : Int32)), (.ref b), (.int (0 : Int32)), (.int (1 : Int32))] below meth c s₁ [] 0 0 := Stand.of_body Bd
  have e0 : s₁.heap = h0 := by rw [← hh, Bd.state]; rfl
  have N0 := Fr.nil n0
  have Z0 : n0 ≤ h0.size := by rw [← O0.1]; exact O0.2.1
  show own_Go p e below (s₁.setTop (entryFrame m #[(.ref a1), (.int (0 : Int32)), (.ref b), (.int (0 : Int32)), (.int (1 : Int32))] 7)) (fun t o => ∃ v L, o = .returned v ∧ Q_rm_comp5_1 Z a1 b ka kb c1 h0 n0 v t.heap L ∧ FrameEnd s o t L ({ frames := 0, cells := 0, slots := 0, locals := 0 } : Room).cells ({ frames := 0, cells := 0, slots := 0, locals := 0 } : Room).slots)
  rw [ef_rm_comp5_1 m a1 b ka kb c1]
  have lt_Va : h0.size > a1 := Va.lt
  have lt_Vb : h0.size > b := Vb.lt
  refine own_by (fun _ k => XS.iconst X0.here hx rfl (hb hby d_rm_comp5_1_0) k) ?_
  refine own_by (fun _ k => XS.istore X0.here hx rfl (hb hby d_rm_comp5_1_1) rfl (l' := #[.val (.ref a1), .val (.int (0 : Int32)), .val (.ref b), .val (.int (0 : Int32)), .val (.int (1 : Int32)), .val (.int (0 : Int32)), .unset]) rfl k) ?_
  refine own_by (fun _ k => XS.iload X0.here hx rfl (hb hby d_rm_comp5_1_3) rfl k) ?_
  refine own_by (fun _ k => XS.iload X0.here hx rfl (hb hby d_rm_comp5_1_5) rfl k) ?_
  show own_Go p e below (s₁.setTop (mkF m 7 #[.val (.ref a1), .val (.int (0 : Int32)), .val (.ref b), .val (.int (0 : Int32)), .val (.int (1 : Int32)), .val (.int (0 : Int32)), .unset] [(.int (1 : Int32)), (.int (0 : Int32))])) _
  refine own_by (fun _ k => XS.icmpNo X0.here hx rfl (hb hby d_rm_comp5_1_7) rfl (tlt (by decide : (0 : Int32) < (1 : Int32))).2.1 k) ?_
  show own_Go p e below (s₁.setTop (mkF m 10 #[.val (.ref a1), .val (.int (0 : Int32)), .val (.ref b), .val (.int (0 : Int32)), .val (.int (1 : Int32)), .val (.int (0 : Int32)), .unset] [])) _
  refine own_by (fun _ k => XS.aloadN X0.here hx rfl (hb hby d_rm_comp5_1_10) rfl rfl k) ?_
  refine own_by (fun _ k => XS.iloadN X0.here hx rfl (hb hby d_rm_comp5_1_11) rfl k) ?_
  obtain ⟨cl1, Ar1, q1, S1, M1, H1, G1⟩ := (id Va)
  have hin1 : ¬ ((0 : Int32) < 0 ∨ cl1.slots.size ≤ ((0 : Int32)).toNatClampNeg) := inb_of S1 ⟨by decide, by decide⟩
  refine own_by (X0.caload hx (j := (0 : Int32)) (v := (.int c1)) (by rw [e0]; exact Ar1.1) (State.isArrayOf_alike hZ.alike Ar1.2.1) Ar1.2.2 hin1 (H1.at hin1 rfl) (g := (mkF m 12 #[.val (.ref a1), .val (.int (0 : Int32)), .val (.ref b), .val (.int (0 : Int32)), .val (.int (1 : Int32)), .val (.int (0 : Int32)), .unset] [(.int (0 : Int32)), (.ref a1)])) rfl rfl (hb hby d_rm_comp5_1_12)) ?_
  refine own_by (fun _ k => XS.istore X0.here hx rfl (hb hby d_rm_comp5_1_13) rfl (l' := #[.val (.ref a1), .val (.int (0 : Int32)), .val (.ref b), .val (.int (0 : Int32)), .val (.int (1 : Int32)), .val (.int (0 : Int32)), .val (.int c1)]) rfl k) ?_
  show own_Go p e below (s₁.setTop (mkF m 15 #[.val (.ref a1), .val (.int (0 : Int32)), .val (.ref b), .val (.int (0 : Int32)), .val (.int (1 : Int32)), .val (.int (0 : Int32)), .val (.int c1)] [])) _
  refine own_by (fun _ k => XS.iload X0.here hx rfl (hb hby d_rm_comp5_1_15) rfl k) ?_
  refine own_by (fun _ k => XS.sipush X0.here hx rfl (hb hby d_rm_comp5_1_17) k) ?_
  refine own_by (fun _ k => XS.icmpYes X0.here hx rfl (pc0 := 20) (pc' := 26) rfl (hb hby d_rm_comp5_1_20) rfl (flt rc1).2.2.2 (by decide) (by decide) k) ?_
  show own_Go p e below (s₁.setTop (mkF m 26 #[.val (.ref a1), .val (.int (0 : Int32)), .val (.ref b), .val (.int (0 : Int32)), .val (.int (1 : Int32)), .val (.int (0 : Int32)), .val (.int c1)] [])) _
  refine own_by (fun _ k => XS.aloadN X0.here hx rfl (hb hby d_rm_comp5_1_26) rfl rfl k) ?_
  refine own_by (fun _ k => XS.iloadN X0.here hx rfl (hb hby d_rm_comp5_1_27) rfl k) ?_
  refine own_by (fun _ k => XS.iload X0.here hx rfl (hb hby d_rm_comp5_1_28) rfl k) ?_
  refine own_by (fun _ k => XS.i2b X0.here hx rfl (hb hby d_rm_comp5_1_30) rfl k) ?_
  show own_Go p e below (s₁.setTop (mkF m 31 #[.val (.ref a1), .val (.int (0 : Int32)), .val (.ref b), .val (.int (0 : Int32)), .val (.int (1 : Int32)), .val (.int (0 : Int32)), .val (.int c1)] [(.int (c1.toInt8.toInt32)), (.int (0 : Int32)), (.ref b)])) _
  have Vw2 : Arv Z h0 b kb .byte (1 : Int32) [(.int (0 : Int32))] (.int (0 : Int32)) := Vb.pad (pad_rep [] (.int (0 : Int32)) 1)
  obtain ⟨cl3, Ar3, q3, S3, M3, H3, G3⟩ := (id Vw2)
  have hin3 : ¬ ((0 : Int32) < 0 ∨ cl3.slots.size ≤ ((0 : Int32)).toNatClampNeg) := inb_of S3 ⟨by decide, by decide⟩
  obtain ⟨T3, h3, X3, e3, W3, st3⟩ := stB X0 hx hZ e0 Ar3 (j := (0 : Int32)) hin3 (g := (mkF m 31 #[.val (.ref a1), .val (.int (0 : Int32)), .val (.ref b), .val (.int (0 : Int32)), .val (.int (1 : Int32)), .val (.int (0 : Int32)), .val (.int c1)] [(.int (c1.toInt8.toInt32)), (.int (0 : Int32)), (.ref b)])) rfl rfl (hb hby d_rm_comp5_1_31)
  refine own_by st3 ?_
  have z3 := W3.size
  have N3 := Fr.snoc X3 N0 (by omega)
  have Vw3 : Arv Z h3 b kb .byte (1 : Int32) [(.int (own_b c1))] (.int (0 : Int32)) := Arv.set Ar3 q3 S3 M3 H3 G3 (fits_nar_byte2 _) W3 0 rfl (Nat.le_of_ble_eq_true rfl)
  refine own_by (fun _ k => XS.iinc X3.here hx rfl (hb hby d_rm_comp5_1_32) rfl (l' := #[.val (.ref a1), .val (.int (1 : Int32)), .val (.ref b), .val (.int (0 : Int32)), .val (.int (1 : Int32)), .val (.int (0 : Int32)), .val (.int c1)]) rfl k) ?_
  refine own_by (fun _ k => XS.iinc X3.here hx rfl (hb hby d_rm_comp5_1_35) rfl (l' := #[.val (.ref a1), .val (.int (1 : Int32)), .val (.ref b), .val (.int (1 : Int32)), .val (.int (1 : Int32)), .val (.int (0 : Int32)), .val (.int c1)]) rfl k) ?_
  refine own_by (fun _ k => XS.iinc X3.here hx rfl (hb hby d_rm_comp5_1_38) rfl (l' := #[.val (.ref a1), .val (.int (1 : Int32)), .val (.ref b), .val (.int (1 : Int32)), .val (.int (1 : Int32)), .val (.int (1 : Int32)), .val (.int c1)]) rfl k) ?_
  show own_Go p e below (T3.setTop (mkF m 41 #[.val (.ref a1), .val (.int (1 : Int32)), .val (.ref b), .val (.int (1 : Int32)), .val (.int (1 : Int32)), .val (.int (1 : Int32)), .val (.int c1)] [])) _
  refine own_by (fun _ k => XS.goto X3.here hx rfl (pc0 := 41) (pc' := 3) rfl (hb hby d_rm_comp5_1_41) (by decide) (by decide) k) ?_
  refine own_by (fun _ k => XS.iload X3.here hx rfl (hb hby d_rm_comp5_1_3) rfl k) ?_
  refine own_by (fun _ k => XS.iload X3.here hx rfl (hb hby d_rm_comp5_1_5) rfl k) ?_
  refine own_by (fun _ k => XS.icmpYes X3.here hx rfl (pc0 := 7) (pc' := 44) rfl (hb hby d_rm_comp5_1_7) rfl (flt (by decide : ¬ ((1 : Int32) < (1 : Int32)))).2.1 (by decide) (by decide) k) ?_
  show own_Go p e below (T3.setTop (mkF m 44 #[.val (.ref a1), .val (.int (1 : Int32)), .val (.ref b), .val (.int (1 : Int32)), .val (.int (1 : Int32)), .val (.int (1 : Int32)), .val (.int c1)] [])) _
  refine own_by (fun _ k => XS.iload X3.here hx rfl (hb hby d_rm_comp5_1_44) rfl k) ?_
  have K4 : Keep h0 h3 [b] := ((Keep.refl h0 [b]).wr W3 (Or.inl (List.mem_of_getElem? (i := 0) rfl)))
  obtain ⟨fs, hr, hrun, hended, hW, hsame⟩ := X3.leave (v := some (.int (1 : Int32))) (fun h => by rw [Bd.returns] at h; cases h)
  refine ⟨_, _, retI X3 hx Bd.returns (hb hby d_rm_comp5_1_46) hr, hrun, hended, _, _, rfl, ?_, ⟨_, rfl⟩, hW, hsame.mono (by decide) (by decide)⟩
  show Q_rm_comp5_1 Z a1 b ka kb c1 h0 n0 _ T3.heap _
  rw [e3]
  exact ⟨rfl, N3, K4, Vw3⟩
theorem d_rm_comp3_1_0 : decode jdk_52_method_16_code 0 = .ok (.iload_n 2, 1) := by decide +kernel
theorem d_rm_comp3_1_1 : decode jdk_52_method_16_code 1 = .ok (.newarray .byte, 2) := by decide +kernel
theorem d_rm_comp3_1_3 : decode jdk_52_method_16_code 3 = .ok (.astore_n 3, 1) := by decide +kernel
theorem d_rm_comp3_1_4 : decode jdk_52_method_16_code 4 = .ok (.aload_n 0, 1) := by decide +kernel
theorem d_rm_comp3_1_5 : decode jdk_52_method_16_code 5 = .ok (.iload_n 1, 1) := by decide +kernel
theorem d_rm_comp3_1_6 : decode jdk_52_method_16_code 6 = .ok (.aload_n 3, 1) := by decide +kernel
theorem d_rm_comp3_1_7 : decode jdk_52_method_16_code 7 = .ok (.iconst 0, 1) := by decide +kernel
theorem d_rm_comp3_1_8 : decode jdk_52_method_16_code 8 = .ok (.iload_n 2, 1) := by decide +kernel
theorem d_rm_comp3_1_9 : decode jdk_52_method_16_code 9 = .ok (.invokestatic 115, 3) := by decide +kernel
theorem d_rm_comp3_1_12 : decode jdk_52_method_16_code 12 = .ok (.istore 4, 2) := by decide +kernel
theorem d_rm_comp3_1_14 : decode jdk_52_method_16_code 14 = .ok (.iload 4, 2) := by decide +kernel
theorem d_rm_comp3_1_16 : decode jdk_52_method_16_code 16 = .ok (.iload_n 2, 1) := by decide +kernel
theorem d_rm_comp3_1_17 : decode jdk_52_method_16_code 17 = .ok (.if_icmp .eq 40, 3) := by decide +kernel
theorem d_rm_comp3_1_57 : decode jdk_52_method_16_code 57 = .ok (.aload_n 3, 1) := by decide +kernel
theorem d_rm_comp3_1_58 : decode jdk_52_method_16_code 58 = .ok (.areturn, 1) := by decide +kernel
def Q_rm_comp3_1 (Z : State) (a1 : Addr) (ka : ClassId) (c1 : Int32) (h0 : Heap) (n0 : Nat) (v : Option Value) (h : Heap) (L : List Loc) : Prop := ∃ (b : Addr), ∃ (kb : ClassId), v = some (.ref b) ∧ Fr n0 L ∧ Keep h0 h [] ∧ Arv Z h b kb .byte (1 : Int32) [(.int (own_b c1))] (.int (0 : Int32)) ∧ h0.size ≤ b
theorem ef_rm_comp3_1 (m : MethodId) (a1 : Addr) (ka : ClassId) (c1 : Int32) : entryFrame m #[(.ref a1), (.int (0 : Int32)), (.int (1 : Int32))] 6 = mkF m 0 #[.val (.ref a1), .val (.int (0 : Int32)), .val (.int (1 : Int32)), .unset, .unset, .unset] [] := by first | (simp [entryFrame, mkF, argsToLocals, Value.category]; done) | rfl
set_option maxRecDepth 65536 in
set_option maxHeartbeats 40000000 in
theorem rm_comp3_1 (l : Launch) (Z : State) (a0 : Array Value) (hw : ∀ d ∈ tables_1, d.before a0 Z = true) (ws : List Jvm.Cond) (a1 : Addr) (ka : ClassId) (c1 : Int32) (h0 : Heap) (n0 : Nat) (O0 : Old Z n0 h0) (Va : Arv Z h0 a1 ka .char (1 : Int32) [(.int c1)] (.int (0 : Int32))) (rc1 : ¬ ((255 : Int32) < c1)) :
    MetFree l (⟨"java/lang/StringUTF16", "compress", "([CII)[B"⟩ : MethodName) (head1 (Jvm.Cond.code (⟨"java/lang/StringUTF16", "compress", "([CII)[B"⟩ : MethodName) jdk_52_method_16_code 6 (some (.array .byte)) :: ws) ({ frames := 1, cells := 1, slots := 1, locals := 18 } : Room)) (fun a U => a = #[(.ref a1), (.int (0 : Int32)), (.int (1 : Int32))] ∧ Z.Warmed39 U.vm ∧ U.heap = h0) (fun _ _ _ _ _ => True) (fun _ U o U' => ∃ v L, o = .returned v ∧ Q_rm_comp3_1 Z a1 ka c1 h0 n0 v U'.heap L ∧ FrameEnd U o U' L ({ frames := 1, cells := 1, slots := 1, locals := 18 } : Room).cells ({ frames := 1, cells := 1, slots := 1, locals := 18 } : Room).slots) := by
  refine MetFree.of_bodySF (plainFor_of_name own_pn_java_lang_StringUTF16) hisR ?_
  intro p e s m args below meth c s₁ Bd hml0 hP hK
  obtain ⟨rfl, hZ, hh⟩ := hP
  have hx := Bd.exec
  have hby := Bd.bytes
  have hml : c.maxLocals = 6 := hml0
  have hown : s.vm.findClass "java/lang/StringUTF16" = some m.cls := findClass_of_methodNamed Bd.named
  have hnm := (name_of_methodNamed Bd.named Bd.method).1
  have X0 : Stand p l e ({ frames := 1, cells := 1, slots := 1, locals := 18 } : Room) s m #[(.ref a1), (.int (0 : Int32)), (.int (1 : Int32))] below meth c s₁ [] 0 0 := Stand.of_body Bd
  have e0 : s₁.heap = h0 := by rw [← hh, Bd.state]; rfl
  have N0 := Fr.nil n0
  have Z0 : n0 ≤ h0.size := by rw [← O0.1]; exact O0.2.1
  show own_Go p e below (s₁.setTop (entryFrame m #[(.ref a1), (.int (0 : Int32)), (.int (1 : Int32))] 6)) (fun t o => ∃ v L, o = .returned v ∧ Q_rm_comp3_1 Z a1 ka c1 h0 n0 v t.heap L ∧ FrameEnd s o t L ({ frames := 1, cells := 1, slots := 1, locals := 18 } : Room).cells ({ frames := 1, cells := 1, slots := 1, locals := 18 } : Room).slots)
  rw [ef_rm_comp3_1 m a1 ka c1]
  have lt_Va : h0.size > a1 := Va.lt
  refine own_by (fun _ k => XS.iloadN X0.here hx rfl (hb hby d_rm_comp3_1_0) rfl k) ?_
  obtain ⟨T1, h1, k1, X1, e1, E1, A1, st1⟩ := newP X0 hx hZ (own_w hw 26 rfl) e0 (g := (mkF m 1 #[.val (.ref a1), .val (.int (0 : Int32)), .val (.int (1 : Int32)), .unset, .unset, .unset] [(.int (1 : Int32))])) rfl (hb hby d_rm_comp3_1_1) rfl (by decide) (cap := 1) (by decide) (by decide) (by decide) (by decide)
  obtain ⟨ob1, g1⟩ : ∃ z, z = h0.size := ⟨_, rfl⟩
  rw [← g1] at A1 st1
  refine own_by st1 ?_
  have z1 := E1.1
  have Vw1 : Arv Z h1 ob1 k1 .byte (1 : Int32) [] (.int (0 : Int32)) := Arv.new A1 (by decide)
  have lt1 : h1.size > ob1 := Vw1.lt
  refine own_by (fun _ k => XS.astoreN X1.here hx rfl (hb hby d_rm_comp3_1_3) rfl rfl (l' := #[.val (.ref a1), .val (.int (0 : Int32)), .val (.int (1 : Int32)), .val (.ref ob1), .unset, .unset]) rfl k) ?_
  refine own_by (fun _ k => XS.aloadN X1.here hx rfl (hb hby d_rm_comp3_1_4) rfl rfl k) ?_
  show own_Go p e below (T1.setTop (mkF m 5 #[.val (.ref a1), .val (.int (0 : Int32)), .val (.int (1 : Int32)), .val (.ref ob1), .unset, .unset] [(.ref a1)])) _
  refine own_by (fun _ k => XS.iloadN X1.here hx rfl (hb hby d_rm_comp3_1_5) rfl k) ?_
  refine own_by (fun _ k => XS.aloadN X1.here hx rfl (hb hby d_rm_comp3_1_6) rfl rfl k) ?_
  refine own_by (fun _ k => XS.iconst X1.here hx rfl (hb hby d_rm_comp3_1_7) k) ?_
  refine own_by (fun _ k => XS.iloadN X1.here hx rfl (hb hby d_rm_comp3_1_8) rfl k) ?_
  show own_Go p e below (T1.setTop (mkF m 9 #[.val (.ref a1), .val (.int (0 : Int32)), .val (.int (1 : Int32)), .val (.ref ob1), .unset, .unset] [(.int (1 : Int32)), (.int (0 : Int32)), (.ref ob1), (.int (0 : Int32)), (.ref a1)])) _
  have fc2 : Arv Z h1 a1 ka .char (1 : Int32) [(.int c1)] (.int (0 : Int32)) := (Va.ext E1)
  have O3 : Old Z n0 h1 := (O0.ext E1)
  obtain ⟨_, _, ⟨T4, L4, k4, n4⟩, -, X4, ⟨Lc4, hQ4, l4, y4, z4⟩, st4⟩ := Jvm.LawKit.callS X1 hx (y := (⟨"java/lang/StringUTF16", "compress", "([CI[BII)I"⟩ : MethodName)) hown (mvT hZ (own_w hw 27 rfl)) (mvT hZ (own_w hw 28 rfl)) (mvT hZ (own_w hw 24 rfl)) (mvT hZ (own_w hw 29 rfl)) (by decide) (backOf (W := 0) (rm_comp5_1 l Z a0 hw [] a1 ob1 ka k1 c1 h1 n0 O3 fc2 Vw1 rc1 (by first | assumption | omega | decide) (by first | assumption | omega | decide)) hZ (own_w hw 29 rfl) (own_w hw 24 rfl) (by decide) (by decide)) (g := (mkF m 9 #[.val (.ref a1), .val (.int (0 : Int32)), .val (.int (1 : Int32)), .val (.ref ob1), .unset, .unset] [(.int (1 : Int32)), (.int (0 : Int32)), (.ref ob1), (.int (0 : Int32)), (.ref a1)])) rfl (by rw [hml]; rfl) (argsL := [(.ref a1), (.int (0 : Int32)), (.ref ob1), (.int (0 : Int32)), (.int (1 : Int32))]) (rest := []) (lenOf own_pd__28_5bCI_5bBII_29I rfl) rfl (by show 2 * 0 + _ ≤ _; exact Nat.le_of_eq rfl) (hb hby d_rm_comp3_1_9) (fun _ _ => ⟨rfl, e1, (by decide : 1 + 0 ≤ _), (by decide : 1 + 0 ≤ _)⟩)
  dsimp only [Pt.U, Pt.locs, Pt.cells, Pt.slots] at X4 l4 y4 z4 st4 hQ4
  subst l4 y4 z4
  obtain ⟨rfl, M4, K4, g4_0⟩ := hQ4
  have N4 := Fr.app N0 M4
  refine own_by st4 ?_
  have z4 := K4.1
  have lt_g4_0 : T4.heap.size > ob1 := g4_0.lt
  refine own_by (fun _ k => XS.istore X4.here hx rfl (hb hby d_rm_comp3_1_12) rfl (l' := #[.val (.ref a1), .val (.int (0 : Int32)), .val (.int (1 : Int32)), .val (.ref ob1), .val (.int (1 : Int32)), .unset]) rfl k) ?_
  refine own_by (fun _ k => XS.iload X4.here hx rfl (hb hby d_rm_comp3_1_14) rfl k) ?_
  refine own_by (fun _ k => XS.iloadN X4.here hx rfl (hb hby d_rm_comp3_1_16) rfl k) ?_
  show own_Go p e below (T4.setTop (mkF m 17 #[.val (.ref a1), .val (.int (0 : Int32)), .val (.int (1 : Int32)), .val (.ref ob1), .val (.int (1 : Int32)), .unset] [(.int (1 : Int32)), (.int (1 : Int32))])) _
  refine own_by (fun _ k => XS.icmpYes X4.here hx rfl (pc0 := 17) (pc' := 57) rfl (hb hby d_rm_comp3_1_17) rfl (teq (by decide : (1 : Int32) = (1 : Int32))).1 (by decide) (by decide) k) ?_
  show own_Go p e below (T4.setTop (mkF m 57 #[.val (.ref a1), .val (.int (0 : Int32)), .val (.int (1 : Int32)), .val (.ref ob1), .val (.int (1 : Int32)), .unset] [])) _
  refine own_by (fun _ k => XS.aloadN X4.here hx rfl (hb hby d_rm_comp3_1_57) rfl rfl k) ?_
  have K5 : Keep h0 T4.heap [] := (((Keep.refl h0 []).ext E1).trans K4 (allS (P := fun x => x ∈ [] ∨ h0.size ≤ x) (Or.inr (by omega)) all0))
  obtain ⟨fs, hr, hrun, hended, hW, hsame⟩ := X4.leave (v := some (.ref ob1)) (fun h => by rw [Bd.returns] at h; cases h)
  refine ⟨_, _, retOut X4 hx Bd.returns (own_narrow_ref (by decide) rfl) (Or.inr (Or.inr (Or.inr (Or.inr ⟨rfl, by decide, rfl⟩)))) (hb hby d_rm_comp3_1_58) hr, hrun, hended, _, _, rfl, ?_, ⟨_, rfl⟩, hW, hsame.mono (by decide) (by decide)⟩
  show Q_rm_comp3_1 Z a1 ka c1 h0 n0 _ T4.heap _
  exact ⟨ob1, k1, rfl, N4, K5, g4_0, (by first | assumption | omega)⟩
theorem d_rm_cfal_1_0 : decode jdk_52_method_15_code 0 = .ok (.iload_n 1, 1) := by decide +kernel
theorem d_rm_cfal_1_1 : decode jdk_52_method_15_code 1 = .ok (.aload_n 0, 1) := by decide +kernel
theorem d_rm_cfal_1_2 : decode jdk_52_method_15_code 2 = .ok (.arraylength, 1) := by decide +kernel
theorem d_rm_cfal_1_3 : decode jdk_52_method_15_code 3 = .ok (.isub, 1) := by decide +kernel
theorem d_rm_cfal_1_4 : decode jdk_52_method_15_code 4 = .ok (.bipush 31, 2) := by decide +kernel
theorem d_rm_cfal_1_6 : decode jdk_52_method_15_code 6 = .ok (.iushr, 1) := by decide +kernel
theorem d_rm_cfal_1_7 : decode jdk_52_method_15_code 7 = .ok (.i2b, 1) := by decide +kernel
theorem d_rm_cfal_1_8 : decode jdk_52_method_15_code 8 = .ok (.ireturn, 1) := by decide +kernel
def Q_rm_cfal_1 (Z : State) (b : Addr) (kb : ClassId) (d1 : Int32) (h0 : Heap) (n0 : Nat) (v : Option Value) (h : Heap) (L : List Loc) : Prop := v = some (.int (0 : Int32)) ∧ Fr n0 L ∧ h = h0
theorem ef_rm_cfal_1 (m : MethodId) (b : Addr) (kb : ClassId) (d1 : Int32) : entryFrame m #[(.ref b), (.int (1 : Int32))] 2 = mkF m 0 #[.val (.ref b), .val (.int (1 : Int32))] [] := by first | (simp [entryFrame, mkF, argsToLocals, Value.category]; done) | rfl
set_option maxRecDepth 65536 in
set_option maxHeartbeats 40000000 in
theorem rm_cfal_1 (l : Launch) (Z : State) (a0 : Array Value) (hw : ∀ d ∈ tables_1, d.before a0 Z = true) (ws : List Jvm.Cond) (b : Addr) (kb : ClassId) (d1 : Int32) (h0 : Heap) (n0 : Nat) (O0 : Old Z n0 h0) (Vb : Arv Z h0 b kb .byte (1 : Int32) [(.int d1)] (.int (0 : Int32))) :
    MetFree l (⟨"java/lang/StringUTF16", "coderFromArrayLen", "([BI)B"⟩ : MethodName) (head1 (Jvm.Cond.code (⟨"java/lang/StringUTF16", "coderFromArrayLen", "([BI)B"⟩ : MethodName) jdk_52_method_15_code 2 (some .byte) :: ws) ({ frames := 0, cells := 0, slots := 0, locals := 0 } : Room)) (fun a U => a = #[(.ref b), (.int (1 : Int32))] ∧ Z.Warmed39 U.vm ∧ U.heap = h0) (fun _ _ _ _ _ => True) (fun _ U o U' => ∃ v L, o = .returned v ∧ Q_rm_cfal_1 Z b kb d1 h0 n0 v U'.heap L ∧ FrameEnd U o U' L ({ frames := 0, cells := 0, slots := 0, locals := 0 } : Room).cells ({ frames := 0, cells := 0, slots := 0, locals := 0 } : Room).slots) := by
  refine MetFree.of_bodySF (plainFor_of_name own_pn_java_lang_StringUTF16) hisR ?_
  intro p e s m args below meth c s₁ Bd hml0 hP hK
  obtain ⟨rfl, hZ, hh⟩ := hP
  have hx := Bd.exec
  have hby := Bd.bytes
  have hml : c.maxLocals = 2 := hml0
  have hown : s.vm.findClass "java/lang/StringUTF16" = some m.cls := findClass_of_methodNamed Bd.named
  have hnm := (name_of_methodNamed Bd.named Bd.method).1
  have X0 : Stand p l e ({ frames := 0, cells := 0, slots := 0, locals := 0 } : Room) s m #[(.ref b), (.int (1 : Int32))] below meth c s₁ [] 0 0 := Stand.of_body Bd
  have e0 : s₁.heap = h0 := by rw [← hh, Bd.state]; rfl
  have N0 := Fr.nil n0
  have Z0 : n0 ≤ h0.size := by rw [← O0.1]; exact O0.2.1
  show own_Go p e below (s₁.setTop (entryFrame m #[(.ref b), (.int (1 : Int32))] 2)) (fun t o => ∃ v L, o = .returned v ∧ Q_rm_cfal_1 Z b kb d1 h0 n0 v t.heap L ∧ FrameEnd s o t L ({ frames := 0, cells := 0, slots := 0, locals := 0 } : Room).cells ({ frames := 0, cells := 0, slots := 0, locals := 0 } : Room).slots)
  rw [ef_rm_cfal_1 m b kb d1]
  have lt_Vb : h0.size > b := Vb.lt
  refine own_by (fun _ k => XS.iloadN X0.here hx rfl (hb hby d_rm_cfal_1_0) rfl k) ?_
  refine own_by (fun _ k => XS.aloadN X0.here hx rfl (hb hby d_rm_cfal_1_1) rfl rfl k) ?_
  obtain ⟨cl1, Ar1, q1, S1, M1, H1, G1⟩ := (id Vb)
  refine own_by (X0.arraylength hx (by rw [e0]; exact Ar1.1) (State.isArrayOf_alike hZ.alike Ar1.2.1) (g := (mkF m 2 #[.val (.ref b), .val (.int (1 : Int32))] [(.ref b), (.int (1 : Int32))])) rfl rfl (hb hby d_rm_cfal_1_2)) ?_
  rw [len_of S1 M1]
  refine own_by (fun _ k => XS.isub X0.here hx rfl (hb hby d_rm_cfal_1_3) rfl k) ?_
  show own_Go p e below (s₁.setTop (mkF m 4 #[.val (.ref b), .val (.int (1 : Int32))] [(.int (0 : Int32))])) _
  refine own_by (fun _ k => XS.bipush X0.here hx rfl (hb hby d_rm_cfal_1_4) k) ?_
  refine own_by (fun _ k => XS.iushr X0.here hx rfl (hb hby d_rm_cfal_1_6) rfl k) ?_
  refine own_by (fun _ k => XS.i2b X0.here hx rfl (hb hby d_rm_cfal_1_7) rfl k) ?_
  obtain ⟨fs, hr, hrun, hended, hW, hsame⟩ := X0.leave (v := some (.int (0 : Int32))) (fun h => by rw [Bd.returns] at h; cases h)
  refine ⟨_, _, retN X0 hx (t := .byte) Bd.returns (by simp) (hb hby d_rm_cfal_1_8) hr, hrun, hended, _, _, rfl, ?_, ⟨_, rfl⟩, hW, hsame.mono (by decide) (by decide)⟩
  show Q_rm_cfal_1 Z b kb d1 h0 n0 _ s₁.heap _
  rw [e0]
  exact ⟨rfl, N0, rfl⟩
theorem d_rm_sinit4_1_0 : decode jdk_42_method_149_code 0 = .ok (.aload_n 0, 1) := by decide +kernel
theorem d_rm_sinit4_1_1 : decode jdk_42_method_149_code 1 = .ok (.invokespecial 1, 3) := by decide +kernel
theorem d_rm_sinit4_1_4 : decode jdk_42_method_149_code 4 = .ok (.iload_n 3, 1) := by decide +kernel
theorem d_rm_sinit4_1_5 : decode jdk_42_method_149_code 5 = .ok (.ifCond .ne 22, 3) := by decide +kernel
theorem d_rm_sinit4_1_27 : decode jdk_42_method_149_code 27 = .ok (.getstatic 38, 3) := by decide +kernel
theorem d_rm_sinit4_1_30 : decode jdk_42_method_149_code 30 = .ok (.ifCond .eq 28, 3) := by decide +kernel
theorem d_rm_sinit4_1_33 : decode jdk_42_method_149_code 33 = .ok (.aload_n 1, 1) := by decide +kernel
theorem d_rm_sinit4_1_34 : decode jdk_42_method_149_code 34 = .ok (.iload_n 2, 1) := by decide +kernel
theorem d_rm_sinit4_1_35 : decode jdk_42_method_149_code 35 = .ok (.iload_n 3, 1) := by decide +kernel
theorem d_rm_sinit4_1_36 : decode jdk_42_method_149_code 36 = .ok (.invokestatic 177, 3) := by decide +kernel
theorem d_rm_sinit4_1_39 : decode jdk_42_method_149_code 39 = .ok (.astore 5, 2) := by decide +kernel
theorem d_rm_sinit4_1_41 : decode jdk_42_method_149_code 41 = .ok (.aload_n 0, 1) := by decide +kernel
theorem d_rm_sinit4_1_42 : decode jdk_42_method_149_code 42 = .ok (.aload 5, 2) := by decide +kernel
theorem d_rm_sinit4_1_44 : decode jdk_42_method_149_code 44 = .ok (.iload_n 3, 1) := by decide +kernel
theorem d_rm_sinit4_1_45 : decode jdk_42_method_149_code 45 = .ok (.invokestatic 47, 3) := by decide +kernel
theorem d_rm_sinit4_1_48 : decode jdk_42_method_149_code 48 = .ok (.putfield 15, 3) := by decide +kernel
theorem d_rm_sinit4_1_51 : decode jdk_42_method_149_code 51 = .ok (.aload_n 0, 1) := by decide +kernel
theorem d_rm_sinit4_1_52 : decode jdk_42_method_149_code 52 = .ok (.aload 5, 2) := by decide +kernel
theorem d_rm_sinit4_1_54 : decode jdk_42_method_149_code 54 = .ok (.putfield 9, 3) := by decide +kernel
theorem d_rm_sinit4_1_57 : decode jdk_42_method_149_code 57 = .ok (.return_, 1) := by decide +kernel
def Q_rm_sinit4_1 (Z : State) (t1 : Addr) (a1 : Addr) (ka : ClassId) (cs : Int32) (c1 : Int32) (h0 : Heap) (n0 : Nat) (v : Option Value) (h : Heap) (L : List Loc) : Prop := ∃ (b : Addr), ∃ (kb : ClassId), v = none ∧ Fr n0 L ∧ Keep h0 h [t1] ∧ Exa Z h t1 "java/lang/String" ∧ Fld Z h t1 "java/lang/String" "coder" "B" (.int (0 : Int32)) ∧ Fld Z h t1 "java/lang/String" "value" "[B" (.ref b) ∧ Arv Z h b kb .byte (1 : Int32) [(.int (own_b c1))] (.int (0 : Int32)) ∧ h0.size ≤ b
theorem ef_rm_sinit4_1 (m : MethodId) (t1 : Addr) (a1 : Addr) (ka : ClassId) (cs : Int32) (c1 : Int32) : entryFrame m #[(.ref t1), (.ref a1), (.int (0 : Int32)), (.int (1 : Int32)), .null] 6 = mkF m 0 #[.val (.ref t1), .val (.ref a1), .val (.int (0 : Int32)), .val (.int (1 : Int32)), .val .null, .unset] [] := by first | (simp [entryFrame, mkF, argsToLocals, Value.category]; done) | rfl
set_option maxRecDepth 65536 in
set_option maxHeartbeats 40000000 in
theorem rm_sinit4_1 (l : Launch) (Z : State) (a0 : Array Value) (hw : ∀ d ∈ tables_1, d.before a0 Z = true) (ws : List Jvm.Cond) (t1 : Addr) (a1 : Addr) (ka : ClassId) (cs : Int32) (c1 : Int32) (h0 : Heap) (n0 : Nat) (O0 : Old Z n0 h0) (S_COMPACT : Sta Z Z.heap "java/lang/String" "COMPACT_STRINGS" "Z" (.int cs)) (Et : Exa Z h0 t1 "java/lang/String") (Fv : Fld Z h0 t1 "java/lang/String" "value" "[B" .null) (Fc : Fld Z h0 t1 "java/lang/String" "coder" "B" (.int (0 : Int32))) (Va : Arv Z h0 a1 ka .char (1 : Int32) [(.int c1)] (.int (0 : Int32))) (rc1 : ¬ ((255 : Int32) < c1)) (gt : n0 ≤ t1) (hcs : ¬ (cs = (0 : Int32))) (nta : ¬ (@Eq Nat a1 t1)) :
    MetFree l (⟨"java/lang/String", "<init>", "([CIILjava/lang/Void;)V"⟩ : MethodName) (head1 (Jvm.Cond.code (⟨"java/lang/String", "<init>", "([CIILjava/lang/Void;)V"⟩ : MethodName) jdk_42_method_149_code 6 none :: ws) ({ frames := 2, cells := 1, slots := 1, locals := 35 } : Room)) (fun a U => a = #[(.ref t1), (.ref a1), (.int (0 : Int32)), (.int (1 : Int32)), .null] ∧ Z.Warmed39 U.vm ∧ U.heap = h0) (fun _ _ _ _ _ => True) (fun _ U o U' => ∃ v L, o = .returned v ∧ Q_rm_sinit4_1 Z t1 a1 ka cs c1 h0 n0 v U'.heap L ∧ FrameEnd U o U' L ({ frames := 2, cells := 1, slots := 1, locals := 35 } : Room).cells ({ frames := 2, cells := 1, slots := 1, locals := 35 } : Room).slots) := by
  refine MetFree.of_bodySF (plainFor_of_name own_pn_java_lang_String) hisR ?_
  intro p e s m args below meth c s₁ Bd hml0 hP hK
  obtain ⟨rfl, hZ, hh⟩ := hP
  have hx := Bd.exec
  have hby := Bd.bytes
  have hml : c.maxLocals = 6 := hml0
  have hown : s.vm.findClass "java/lang/String" = some m.cls := findClass_of_methodNamed Bd.named
  have hnm := (name_of_methodNamed Bd.named Bd.method).1
  have X0 : Stand p l e ({ frames := 2, cells := 1, slots := 1, locals := 35 } : Room) s m #[(.ref t1), (.ref a1), (.int (0 : Int32)), (.int (1 : Int32)), .null] below meth c s₁ [] 0 0 := Stand.of_body Bd
  have e0 : s₁.heap = h0 := by rw [← hh, Bd.state]; rfl
  have N0 := Fr.nil n0
  have Z0 : n0 ≤ h0.size := by rw [← O0.1]; exact O0.2.1
  show own_Go p e below (s₁.setTop (entryFrame m #[(.ref t1), (.ref a1), (.int (0 : Int32)), (.int (1 : Int32)), .null] 6)) (fun t o => ∃ v L, o = .returned v ∧ Q_rm_sinit4_1 Z t1 a1 ka cs c1 h0 n0 v t.heap L ∧ FrameEnd s o t L ({ frames := 2, cells := 1, slots := 1, locals := 35 } : Room).cells ({ frames := 2, cells := 1, slots := 1, locals := 35 } : Room).slots)
  rw [ef_rm_sinit4_1 m t1 a1 ka cs c1]
  have lt_Et : h0.size > t1 := Et.lt
  have lt_Fv : h0.size > t1 := Fv.lt
  have lt_Fc : h0.size > t1 := Fc.lt
  have lt_Va : h0.size > a1 := Va.lt
  refine own_by (fun _ k => XS.aloadN X0.here hx rfl (hb hby d_rm_sinit4_1_0) rfl rfl k) ?_
  obtain ⟨T1, X1, e1, st1⟩ := initO X0 hx hZ hown (own_w hw 18 rfl) (own_w hw 19 rfl) (own_w hw 20 rfl) e0 (g := (mkF m 1 #[.val (.ref t1), .val (.ref a1), .val (.int (0 : Int32)), .val (.int (1 : Int32)), .val .null, .unset] [(.ref t1)])) rfl (by rw [hml]; rfl) rfl (hb hby d_rm_sinit4_1_1) (by decide) (W := 0) (by show 2 * 0 + _ ≤ _; exact Nat.le_of_eq rfl) (by decide)
  refine own_by st1 ?_
  refine own_by (fun _ k => XS.iloadN X1.here hx rfl (hb hby d_rm_sinit4_1_4) rfl k) ?_
  refine own_by (fun _ k => XS.ifYes X1.here hx rfl (pc0 := 5) (pc' := 27) rfl (hb hby d_rm_sinit4_1_5) rfl ((if0 _ _).trans (feq (by decide : ¬ ((1 : Int32) = (0 : Int32)))).2) (by decide) (by decide) k) ?_
  show own_Go p e below (T1.setTop (mkF m 27 #[.val (.ref t1), .val (.ref a1), .val (.int (0 : Int32)), .val (.int (1 : Int32)), .val .null, .unset] [])) _
  obtain ⟨T2, X2, e2, st2⟩ := getS2 X1 hx hZ hown (host := "") (Or.inl (own_w hw 21 rfl)) Via.refl e1 (S_COMPACT.ext O0.2) (g := (mkF m 27 #[.val (.ref t1), .val (.ref a1), .val (.int (0 : Int32)), .val (.int (1 : Int32)), .val .null, .unset] [])) rfl (hb hby d_rm_sinit4_1_27)
  refine own_by st2 ?_
  refine own_by (fun _ k => XS.ifNo X2.here hx rfl (hb hby d_rm_sinit4_1_30) rfl ((if0 _ _).trans (feq hcs).1) k) ?_
  show own_Go p e below (T2.setTop (mkF m 33 #[.val (.ref t1), .val (.ref a1), .val (.int (0 : Int32)), .val (.int (1 : Int32)), .val .null, .unset] [])) _
  refine own_by (fun _ k => XS.aloadN X2.here hx rfl (hb hby d_rm_sinit4_1_33) rfl rfl k) ?_
  refine own_by (fun _ k => XS.iloadN X2.here hx rfl (hb hby d_rm_sinit4_1_34) rfl k) ?_
  refine own_by (fun _ k => XS.iloadN X2.here hx rfl (hb hby d_rm_sinit4_1_35) rfl k) ?_
  obtain ⟨_, _, ⟨T3, L3, k3, n3⟩, -, X3, ⟨Lc3, hQ3, l3, y3, z3⟩, st3⟩ := Jvm.LawKit.callS X2 hx (y := (⟨"java/lang/StringUTF16", "compress", "([CII)[B"⟩ : MethodName)) hown (mvT hZ (own_w hw 22 rfl)) (mvT hZ (own_w hw 23 rfl)) (mvT hZ (own_w hw 24 rfl)) (mvT hZ (own_w hw 25 rfl)) (by decide) (backOf (W := 0) (rm_comp3_1 l Z a0 hw [] a1 ka c1 h0 n0 O0 Va rc1) hZ (own_w hw 25 rfl) (own_w hw 24 rfl) (by decide) (by decide)) (g := (mkF m 36 #[.val (.ref t1), .val (.ref a1), .val (.int (0 : Int32)), .val (.int (1 : Int32)), .val .null, .unset] [(.int (1 : Int32)), (.int (0 : Int32)), (.ref a1)])) rfl (by rw [hml]; rfl) (argsL := [(.ref a1), (.int (0 : Int32)), (.int (1 : Int32))]) (rest := []) (lenOf own_pd__28_5bCII_29_5bB rfl) rfl (by show 2 * 0 + _ ≤ _; exact Nat.le_of_eq rfl) (hb hby d_rm_sinit4_1_36) (fun _ _ => ⟨rfl, e2, (by decide : 0 + 1 ≤ _), (by decide : 0 + 1 ≤ _)⟩)
  dsimp only [Pt.U, Pt.locs, Pt.cells, Pt.slots] at X3 l3 y3 z3 st3 hQ3
  subst l3 y3 z3
  obtain ⟨b_3, kb_3, rfl, M3, K3, g3_0, r3_0⟩ := hQ3
  have N3 := Fr.app N0 M3
  refine own_by st3 ?_
  have z3 := K3.1
  have lt_g3_0 : T3.heap.size > b_3 := g3_0.lt
  show own_Go p e below (T3.setTop (mkF m 39 #[.val (.ref t1), .val (.ref a1), .val (.int (0 : Int32)), .val (.int (1 : Int32)), .val .null, .unset] [(.ref b_3)])) _
  refine own_by (fun _ k => XS.astore X3.here hx rfl (hb hby d_rm_sinit4_1_39) rfl rfl (l' := #[.val (.ref t1), .val (.ref a1), .val (.int (0 : Int32)), .val (.int (1 : Int32)), .val .null, .val (.ref b_3)]) rfl k) ?_
  refine own_by (fun _ k => XS.aloadN X3.here hx rfl (hb hby d_rm_sinit4_1_41) rfl rfl k) ?_
  refine own_by (fun _ k => XS.aload X3.here hx rfl (hb hby d_rm_sinit4_1_42) rfl rfl k) ?_
  refine own_by (fun _ k => XS.iloadN X3.here hx rfl (hb hby d_rm_sinit4_1_44) rfl k) ?_
  show own_Go p e below (T3.setTop (mkF m 45 #[.val (.ref t1), .val (.ref a1), .val (.int (0 : Int32)), .val (.int (1 : Int32)), .val .null, .val (.ref b_3)] [(.int (1 : Int32)), (.ref b_3), (.ref t1)])) _
  have O4 : Old Z n0 T3.heap := (O0.keep K3 all0)
  obtain ⟨_, _, ⟨T5, L5, k5, n5⟩, -, X5, ⟨Lc5, hQ5, l5, y5, z5⟩, st5⟩ := Jvm.LawKit.callS X3 hx (y := (⟨"java/lang/StringUTF16", "coderFromArrayLen", "([BI)B"⟩ : MethodName)) hown (mvT hZ (own_w hw 30 rfl)) (mvT hZ (own_w hw 31 rfl)) (mvT hZ (own_w hw 24 rfl)) (mvT hZ (own_w hw 32 rfl)) (by decide) (backOf (W := 1) (rm_cfal_1 l Z a0 hw [] b_3 kb_3 (own_b c1) T3.heap n0 O4 g3_0) hZ (own_w hw 32 rfl) (own_w hw 24 rfl) (by decide) (by decide)) (g := (mkF m 45 #[.val (.ref t1), .val (.ref a1), .val (.int (0 : Int32)), .val (.int (1 : Int32)), .val .null, .val (.ref b_3)] [(.int (1 : Int32)), (.ref b_3), (.ref t1)])) rfl (by rw [hml]; rfl) (argsL := [(.ref b_3), (.int (1 : Int32))]) (rest := [(.ref t1)]) (lenOf own_pd__28_5bBI_29B rfl) rfl (by show 2 * 0 + _ ≤ _; exact Nat.le_of_eq rfl) (hb hby d_rm_sinit4_1_45) (fun _ _ => ⟨rfl, rfl, (by decide : 1 + 0 ≤ _), (by decide : 1 + 0 ≤ _)⟩)
  dsimp only [Pt.U, Pt.locs, Pt.cells, Pt.slots] at X5 l5 y5 z5 st5 hQ5
  subst l5 y5 z5
  obtain ⟨rfl, M5, K5⟩ := hQ5
  have N5 := Fr.app N3 M5
  refine own_by st5 ?_
  have fc6 : Fld Z T3.heap t1 "java/lang/String" "coder" "B" (.int (0 : Int32)) := (Fc.keep K3 nin0)
  have fc7 : Exa Z T3.heap t1 "java/lang/String" := (Et.keep K3)
  obtain ⟨T8, h8, X8, e8, W8, st8⟩ := putFN X5 hx hZ hown (own_w hw 33 rfl) Via.refl K5 fc6 fc7 (Or.inr ⟨(own_w hw 34 rfl), rfl, hnm⟩) (own_w hw 5 rfl) (ty := .byte) (v' := (.int (0 : Int32))) (by decide) rfl rfl (g := (mkF m 48 #[.val (.ref t1), .val (.ref a1), .val (.int (0 : Int32)), .val (.int (1 : Int32)), .val .null, .val (.ref b_3)] [(.int (0 : Int32)), (.ref t1)])) rfl rfl (hb hby d_rm_sinit4_1_48)
  refine own_by st8 ?_
  have z8 := W8.size
  have N8 := Fr.snoc X8 N5 (by omega)
  have Fw8 : Fld Z h8 t1 "java/lang/String" "coder" "B" (.int (0 : Int32)) := fc6.same W8
  refine own_by (fun _ k => XS.aloadN X8.here hx rfl (hb hby d_rm_sinit4_1_51) rfl rfl k) ?_
  refine own_by (fun _ k => XS.aload X8.here hx rfl (hb hby d_rm_sinit4_1_52) rfl rfl k) ?_
  show own_Go p e below (T8.setTop (mkF m 54 #[.val (.ref t1), .val (.ref a1), .val (.int (0 : Int32)), .val (.int (1 : Int32)), .val .null, .val (.ref b_3)] [(.ref b_3), (.ref t1)])) _
  have fc9 : Fld Z h8 t1 "java/lang/String" "value" "[B" .null := ((Fv.keep K3 nin0).other W8 (Or.inr (slot_ne (a0 := a0) (Or.inr (own_w hw 36 rfl)) (Or.inr (own_w hw 34 rfl)) (by decide) (t := (.array .byte)) (by decide) (t' := .byte) (by decide))))
  have fc10 : Exa Z h8 t1 "java/lang/String" := (fc7.wr W8)
  obtain ⟨T11, h11, X11, e11, W11, st11⟩ := putF X8 hx hZ hown (host := "") (Or.inl (own_w hw 35 rfl)) Via.refl e8 fc9 fc10 (Or.inr ⟨(own_w hw 36 rfl), rfl, hnm⟩) (own_w hw 5 rfl) (ty := (.array .byte)) (by decide) rfl rfl (g := (mkF m 54 #[.val (.ref t1), .val (.ref a1), .val (.int (0 : Int32)), .val (.int (1 : Int32)), .val .null, .val (.ref b_3)] [(.ref b_3), (.ref t1)])) rfl rfl (hb hby d_rm_sinit4_1_54)
  refine own_by st11 ?_
  have z11 := W11.size
  have N11 := Fr.snoc X11 N8 (by omega)
  have Fw11 : Fld Z h11 t1 "java/lang/String" "value" "[B" (.ref b_3) := fc9.same W11
  have fc12 : Exa Z h11 t1 "java/lang/String" := (fc10.wr W11)
  have fc13 : Fld Z h11 t1 "java/lang/String" "coder" "B" (.int (0 : Int32)) := (Fw8.other W11 (Or.inr (slot_ne (a0 := a0) (Or.inr (own_w hw 34 rfl)) (Or.inr (own_w hw 36 rfl)) (by decide) (t := .byte) (by decide) (t' := (.array .byte)) (by decide))))
  have fc14 : Arv Z h11 b_3 kb_3 .byte (1 : Int32) [(.int (own_b c1))] (.int (0 : Int32)) := ((g3_0.other W8 (own_ne (by omega))).other W11 (own_ne (by omega)))
  have K15 : Keep h0 h11 [t1] := ((((Keep.refl h0 [t1]).trans K3 all0).wr W8 (Or.inl (List.mem_of_getElem? (i := 0) rfl))).wr W11 (Or.inl (List.mem_of_getElem? (i := 0) rfl)))
  obtain ⟨fs, hr, hrun, hended, hW, hsame⟩ := X11.leave (v := none) (fun h => rfl)
  refine ⟨_, _, X11.returnOut hx Bd.returns (hb hby d_rm_sinit4_1_57) hr, hrun, hended, _, _, rfl, ?_, ⟨_, rfl⟩, hW, hsame.mono (by decide) (by decide)⟩
  show Q_rm_sinit4_1 Z t1 a1 ka cs c1 h0 n0 _ T11.heap _
  rw [e11]
  exact ⟨b_3, kb_3, rfl, N11, K15, fc12, fc13, Fw11, fc14, (by first | assumption | omega)⟩
theorem d_rm_sinit_1_0 : decode jdk_42_method_3_code 0 = .ok (.aload_n 0, 1) := by decide +kernel
theorem d_rm_sinit_1_1 : decode jdk_42_method_3_code 1 = .ok (.aload_n 1, 1) := by decide +kernel
theorem d_rm_sinit_1_2 : decode jdk_42_method_3_code 2 = .ok (.iconst 0, 1) := by decide +kernel
theorem d_rm_sinit_1_3 : decode jdk_42_method_3_code 3 = .ok (.aload_n 1, 1) := by decide +kernel
theorem d_rm_sinit_1_4 : decode jdk_42_method_3_code 4 = .ok (.arraylength, 1) := by decide +kernel
theorem d_rm_sinit_1_5 : decode jdk_42_method_3_code 5 = .ok (.aconst_null, 1) := by decide +kernel
theorem d_rm_sinit_1_6 : decode jdk_42_method_3_code 6 = .ok (.invokespecial 27, 3) := by decide +kernel
theorem d_rm_sinit_1_9 : decode jdk_42_method_3_code 9 = .ok (.return_, 1) := by decide +kernel
def Q_rm_sinit_1 (Z : State) (t1 : Addr) (a1 : Addr) (ka : ClassId) (cs : Int32) (c1 : Int32) (h0 : Heap) (n0 : Nat) (v : Option Value) (h : Heap) (L : List Loc) : Prop := ∃ (b : Addr), ∃ (kb : ClassId), v = none ∧ Fr n0 L ∧ Keep h0 h [t1] ∧ Exa Z h t1 "java/lang/String" ∧ Fld Z h t1 "java/lang/String" "coder" "B" (.int (0 : Int32)) ∧ Fld Z h t1 "java/lang/String" "value" "[B" (.ref b) ∧ Arv Z h b kb .byte (1 : Int32) [(.int (own_b c1))] (.int (0 : Int32)) ∧ h0.size ≤ b
theorem ef_rm_sinit_1 (m : MethodId) (t1 : Addr) (a1 : Addr) (ka : ClassId) (cs : Int32) (c1 : Int32) : entryFrame m #[(.ref t1), (.ref a1)] 2 = mkF m 0 #[.val (.ref t1), .val (.ref a1)] [] := by first | (simp [entryFrame, mkF, argsToLocals, Value.category]; done) | rfl
set_option maxRecDepth 65536 in
set_option maxHeartbeats 40000000 in
theorem rm_sinit_1 (l : Launch) (Z : State) (a0 : Array Value) (hw : ∀ d ∈ tables_1, d.before a0 Z = true) (ws : List Jvm.Cond) (t1 : Addr) (a1 : Addr) (ka : ClassId) (cs : Int32) (c1 : Int32) (h0 : Heap) (n0 : Nat) (O0 : Old Z n0 h0) (S_COMPACT : Sta Z Z.heap "java/lang/String" "COMPACT_STRINGS" "Z" (.int cs)) (Et : Exa Z h0 t1 "java/lang/String") (Fv : Fld Z h0 t1 "java/lang/String" "value" "[B" .null) (Fc : Fld Z h0 t1 "java/lang/String" "coder" "B" (.int (0 : Int32))) (Va : Arv Z h0 a1 ka .char (1 : Int32) [(.int c1)] (.int (0 : Int32))) (rc1 : ¬ ((255 : Int32) < c1)) (gt : n0 ≤ t1) (hcs : ¬ (cs = (0 : Int32))) (nta : ¬ (@Eq Nat a1 t1)) :
    MetFree l (⟨"java/lang/String", "<init>", "([C)V"⟩ : MethodName) (head1 (Jvm.Cond.code (⟨"java/lang/String", "<init>", "([C)V"⟩ : MethodName) jdk_42_method_3_code 2 none :: ws) ({ frames := 3, cells := 1, slots := 1, locals := 52 } : Room)) (fun a U => a = #[(.ref t1), (.ref a1)] ∧ Z.Warmed39 U.vm ∧ U.heap = h0) (fun _ _ _ _ _ => True) (fun _ U o U' => ∃ v L, o = .returned v ∧ Q_rm_sinit_1 Z t1 a1 ka cs c1 h0 n0 v U'.heap L ∧ FrameEnd U o U' L ({ frames := 3, cells := 1, slots := 1, locals := 52 } : Room).cells ({ frames := 3, cells := 1, slots := 1, locals := 52 } : Room).slots) := by
  refine MetFree.of_bodySF (plainFor_of_name own_pn_java_lang_String) hisR ?_
  intro p e s m args below meth c s₁ Bd hml0 hP hK
  obtain ⟨rfl, hZ, hh⟩ := hP
  have hx := Bd.exec
  have hby := Bd.bytes
  have hml : c.maxLocals = 2 := hml0
  have hown : s.vm.findClass "java/lang/String" = some m.cls := findClass_of_methodNamed Bd.named
  have hnm := (name_of_methodNamed Bd.named Bd.method).1
  have X0 : Stand p l e ({ frames := 3, cells := 1, slots := 1, locals := 52 } : Room) s m #[(.ref t1), (.ref a1)] below meth c s₁ [] 0 0 := Stand.of_body Bd
  have e0 : s₁.heap = h0 := by rw [← hh, Bd.state]; rfl
  have N0 := Fr.nil n0
  have Z0 : n0 ≤ h0.size := by rw [← O0.1]; exact O0.2.1
  show own_Go p e below (s₁.setTop (entryFrame m #[(.ref t1), (.ref a1)] 2)) (fun t o => ∃ v L, o = .returned v ∧ Q_rm_sinit_1 Z t1 a1 ka cs c1 h0 n0 v t.heap L ∧ FrameEnd s o t L ({ frames := 3, cells := 1, slots := 1, locals := 52 } : Room).cells ({ frames := 3, cells := 1, slots := 1, locals := 52 } : Room).slots)
  rw [ef_rm_sinit_1 m t1 a1 ka cs c1]
  have lt_Et : h0.size > t1 := Et.lt
  have lt_Fv : h0.size > t1 := Fv.lt
  have lt_Fc : h0.size > t1 := Fc.lt
  have lt_Va : h0.size > a1 := Va.lt
  refine own_by (fun _ k => XS.aloadN X0.here hx rfl (hb hby d_rm_sinit_1_0) rfl rfl k) ?_
  refine own_by (fun _ k => XS.aloadN X0.here hx rfl (hb hby d_rm_sinit_1_1) rfl rfl k) ?_
  refine own_by (fun _ k => XS.iconst X0.here hx rfl (hb hby d_rm_sinit_1_2) k) ?_
  refine own_by (fun _ k => XS.aloadN X0.here hx rfl (hb hby d_rm_sinit_1_3) rfl rfl k) ?_
  show own_Go p e below (s₁.setTop (mkF m 4 #[.val (.ref t1), .val (.ref a1)] [(.ref a1), (.int (0 : Int32)), (.ref a1), (.ref t1)])) _
  obtain ⟨cl1, Ar1, q1, S1, M1, H1, G1⟩ := (id Va)
  refine own_by (X0.arraylength hx (by rw [e0]; exact Ar1.1) (State.isArrayOf_alike hZ.alike Ar1.2.1) (g := (mkF m 4 #[.val (.ref t1), .val (.ref a1)] [(.ref a1), (.int (0 : Int32)), (.ref a1), (.ref t1)])) rfl rfl (hb hby d_rm_sinit_1_4)) ?_
  rw [len_of S1 M1]
  refine own_by (fun _ k => XS.aconstNull X0.here hx rfl (hb hby d_rm_sinit_1_5) k) ?_
  obtain ⟨_, _, ⟨T2, L2, k2, n2⟩, -, X2, ⟨Lc2, hQ2, l2, y2, z2⟩, st2⟩ := X0.specialBack hx (y := (⟨"java/lang/String", "<init>", "([CIILjava/lang/Void;)V"⟩ : MethodName)) rfl hown (mvT hZ (own_w hw 14 rfl)) (mvT hZ (own_w hw 15 rfl)) (mvT hZ (own_w hw 17 rfl)) (by decide) (backOf (W := 0) (rm_sinit4_1 l Z a0 hw [] t1 a1 ka cs c1 h0 n0 O0 S_COMPACT Et Fv Fc Va rc1 gt hcs nta) hZ (own_w hw 17 rfl) (own_w hw 6 rfl) (by decide) (by decide)) (g := (mkF m 6 #[.val (.ref t1), .val (.ref a1)] [.null, (.int (1 : Int32)), (.int (0 : Int32)), (.ref a1), (.ref t1)])) rfl (by rw [hml]; rfl) (Steps.refl _) (a := t1) (argsL := [(.ref a1), (.int (0 : Int32)), (.int (1 : Int32)), .null]) (rest := []) (lenOf own_pd__28_5bCIILjava_2flang_2fVoid_3b_29V rfl) rfl (by show 2 * 0 + _ ≤ _; exact Nat.le_of_eq rfl) (hb hby d_rm_sinit_1_6) (fun _ _ => ⟨rfl, e0, (by decide : 0 + 1 ≤ _), (by decide : 0 + 1 ≤ _)⟩)
  dsimp only [Pt.U, Pt.locs, Pt.cells, Pt.slots] at X2 l2 y2 z2 st2 hQ2
  subst l2 y2 z2
  obtain ⟨b_2, kb_2, rfl, M2, K2, g2_0, g2_1, g2_2, g2_3, r2_0⟩ := hQ2
  have N2 := Fr.app N0 M2
  refine own_by (fun _ k => st2.trans k) ?_
  have z2 := K2.1
  have lt_g2_0 : T2.heap.size > t1 := g2_0.lt
  have lt_g2_1 : T2.heap.size > t1 := g2_1.lt
  have lt_g2_2 : T2.heap.size > t1 := g2_2.lt
  have lt_g2_3 : T2.heap.size > b_2 := g2_3.lt
  have K3 : Keep h0 T2.heap [t1] := ((Keep.refl h0 [t1]).trans K2 (allS (P := fun x => x ∈ [t1] ∨ h0.size ≤ x) (Or.inl (List.mem_of_getElem? (i := 0) rfl)) all0))
  obtain ⟨fs, hr, hrun, hended, hW, hsame⟩ := X2.leave (v := none) (fun h => rfl)
  refine ⟨_, _, X2.returnOut hx Bd.returns (hb hby d_rm_sinit_1_9) hr, hrun, hended, _, _, rfl, ?_, ⟨_, rfl⟩, hW, hsame.mono (by decide) (by decide)⟩
  show Q_rm_sinit_1 Z t1 a1 ka cs c1 h0 n0 _ T2.heap _
  exact ⟨b_2, kb_2, rfl, N2, K3, g2_0, g2_1, g2_2, g2_3, (by first | assumption | omega)⟩
theorem d_rm_comp5_2_0 : decode jdk_52_method_21_code 0 = .ok (.iconst 0, 1) := by decide +kernel
theorem d_rm_comp5_2_1 : decode jdk_52_method_21_code 1 = .ok (.istore 5, 2) := by decide +kernel
theorem d_rm_comp5_2_3 : decode jdk_52_method_21_code 3 = .ok (.iload 5, 2) := by decide +kernel
theorem d_rm_comp5_2_5 : decode jdk_52_method_21_code 5 = .ok (.iload 4, 2) := by decide +kernel
theorem d_rm_comp5_2_7 : decode jdk_52_method_21_code 7 = .ok (.if_icmp .ge 37, 3) := by decide +kernel
theorem d_rm_comp5_2_10 : decode jdk_52_method_21_code 10 = .ok (.aload_n 0, 1) := by decide +kernel
theorem d_rm_comp5_2_11 : decode jdk_52_method_21_code 11 = .ok (.iload_n 1, 1) := by decide +kernel
theorem d_rm_comp5_2_12 : decode jdk_52_method_21_code 12 = .ok (.caload, 1) := by decide +kernel
theorem d_rm_comp5_2_13 : decode jdk_52_method_21_code 13 = .ok (.istore 6, 2) := by decide +kernel
theorem d_rm_comp5_2_15 : decode jdk_52_method_21_code 15 = .ok (.iload 6, 2) := by decide +kernel
theorem d_rm_comp5_2_17 : decode jdk_52_method_21_code 17 = .ok (.sipush 255, 3) := by decide +kernel
theorem d_rm_comp5_2_20 : decode jdk_52_method_21_code 20 = .ok (.if_icmp .le 6, 3) := by decide +kernel
theorem d_rm_comp5_2_26 : decode jdk_52_method_21_code 26 = .ok (.aload_n 2, 1) := by decide +kernel
theorem d_rm_comp5_2_27 : decode jdk_52_method_21_code 27 = .ok (.iload_n 3, 1) := by decide +kernel
theorem d_rm_comp5_2_28 : decode jdk_52_method_21_code 28 = .ok (.iload 6, 2) := by decide +kernel
theorem d_rm_comp5_2_30 : decode jdk_52_method_21_code 30 = .ok (.i2b, 1) := by decide +kernel
theorem d_rm_comp5_2_31 : decode jdk_52_method_21_code 31 = .ok (.bastore, 1) := by decide +kernel
theorem d_rm_comp5_2_32 : decode jdk_52_method_21_code 32 = .ok (.iinc 1 1, 3) := by decide +kernel
theorem d_rm_comp5_2_35 : decode jdk_52_method_21_code 35 = .ok (.iinc 3 1, 3) := by decide +kernel
theorem d_rm_comp5_2_38 : decode jdk_52_method_21_code 38 = .ok (.iinc 5 1, 3) := by decide +kernel
theorem d_rm_comp5_2_41 : decode jdk_52_method_21_code 41 = .ok (.goto (-38), 3) := by decide +kernel
theorem d_rm_comp5_2_44 : decode jdk_52_method_21_code 44 = .ok (.iload 4, 2) := by decide +kernel
theorem d_rm_comp5_2_46 : decode jdk_52_method_21_code 46 = .ok (.ireturn, 1) := by decide +kernel
def Q_rm_comp5_2 (Z : State) (a1 : Addr) (b : Addr) (ka : ClassId) (kb : ClassId) (c1 : Int32) (c2 : Int32) (h0 : Heap) (n0 : Nat) (v : Option Value) (h : Heap) (L : List Loc) : Prop := v = some (.int (2 : Int32)) ∧ Fr n0 L ∧ Keep h0 h [b] ∧ Arv Z h b kb .byte (2 : Int32) [(.int (own_b c1)), (.int (own_b c2))] (.int (0 : Int32))
theorem ef_rm_comp5_2 (m : MethodId) (a1 : Addr) (b : Addr) (ka : ClassId) (kb : ClassId) (c1 : Int32) (c2 : Int32) : entryFrame m #[(.ref a1), (.int (0 : Int32)), (.ref b), (.int (0 : Int32)), (.int (2 : Int32))] 7 = mkF m 0 #[.val (.ref a1), .val (.int (0 : Int32)), .val (.ref b), .val (.int (0 : Int32)), .val (.int (2 : Int32)), .unset, .unset] [] := by first | (simp [entryFrame, mkF, argsToLocals, Value.category]; done) | rfl
set_option maxRecDepth 65536 in
set_option maxHeartbeats 40000000 in
theorem rm_comp5_2 (l : Launch) (Z : State) (a0 : Array Value) (hw : ∀ d ∈ tables_1, d.before a0 Z = true) (ws : List Jvm.Cond) (a1 : Addr) (b : Addr) (ka : ClassId) (kb : ClassId) (c1 : Int32) (c2 : Int32) (h0 : Heap) (n0 : Nat) (O0 : Old Z n0 h0) (Va : Arv Z h0 a1 ka .char (2 : Int32) [(.int c1), (.int c2)] (.int (0 : Int32))) (Vb : Arv Z h0 b kb .byte (2 : Int32) [] (.int (0 : Int32))) (rc1 : ¬ ((255 : Int32) < c1)) (rc2 : ¬ ((255 : Int32) < c2)) (gb : n0 ≤ b) (nab : ¬ (@Eq Nat a1 b)) :
    MetFree l (⟨"java/lang/StringUTF16", "compress", "([CI[BII)I"⟩ : MethodName) (head1 (Jvm.Cond.code (⟨"java/lang/StringUTF16", "compress", "([CI[BII)I"⟩ : MethodName) jdk_52_method_21_code 7 (some .int) :: ws) ({ frames := 0, cells := 0, slots := 0, locals := 0 } : Room)) (fun a U => a = #[(.ref a1), (.int (0 : Int32)), (.ref b), (.int (0 : Int32)), (.int (2 : Int32))] ∧ Z.Warmed39 U.vm ∧ U.heap = h0) (fun _ _ _ _ _ => True) (fun _ U o U' => ∃ v L, o = .returned v ∧ Q_rm_comp5_2 Z a1 b ka kb c1 c2 h0 n0 v U'.heap L ∧ FrameEnd U o U' L ({ frames := 0, cells := 0, slots := 0, locals := 0 } : Room).cells ({ frames := 0, cells := 0, slots := 0, locals := 0 } : Room).slots) := by
  refine MetFree.of_bodySF (plainFor_of_name own_pn_java_lang_StringUTF16) hisR ?_
  intro p e s m args below meth c s₁ Bd hml0 hP hK
  obtain ⟨rfl, hZ, hh⟩ := hP
  have hx := Bd.exec
  have hby := Bd.bytes
  have hml : c.maxLocals = 7 := hml0
  have hown : s.vm.findClass "java/lang/StringUTF16" = some m.cls := findClass_of_methodNamed Bd.named
  have hnm := (name_of_methodNamed Bd.named Bd.method).1
  have X0 : Stand p l e ({ frames := 0, cells := 0, slots := 0, locals := 0 } : Room) s m #[(.ref a1), (.int (0 : Int32)), (.ref b), (.int (0 : Int32)), (.int (2 : Int32))] below meth c s₁ [] 0 0 := Stand.of_body Bd
  have e0 : s₁.heap = h0 := by rw [← hh, Bd.state]; rfl
  have N0 := Fr.nil n0
  have Z0 : n0 ≤ h0.size := by rw [← O0.1]; exact O0.2.1
  show own_Go p e below (s₁.setTop (entryFrame m #[(.ref a1), (.int (0 : Int32)), (.ref b), (.int (0 : Int32)), (.int (2 : Int32))] 7)) (fun t o => ∃ v L, o = .returned v ∧ Q_rm_comp5_2 Z a1 b ka kb c1 c2 h0 n0 v t.heap L ∧ FrameEnd s o t L ({ frames := 0, cells := 0, slots := 0, locals := 0 } : Room).cells ({ frames := 0, cells := 0, slots := 0, locals := 0 } : Room).slots)
  rw [ef_rm_comp5_2 m a1 b ka kb c1 c2]
  have lt_Va : h0.size > a1 := Va.lt
  have lt_Vb : h0.size > b := Vb.lt
  refine own_by (fun _ k => XS.iconst X0.here hx rfl (hb hby d_rm_comp5_2_0) k) ?_
  refine own_by (fun _ k => XS.istore X0.here hx rfl (hb hby d_rm_comp5_2_1) rfl (l' := #[.val (.ref a1), .val (.int (0 : Int32)), .val (.ref b), .val (.int (0 : Int32)), .val (.int (2 : Int32)), .val (.int (0 : Int32)), .unset]) rfl k) ?_
  refine own_by (fun _ k => XS.iload X0.here hx rfl (hb hby d_rm_comp5_2_3) rfl k) ?_
  refine own_by (fun _ k => XS.iload X0.here hx rfl (hb hby d_rm_comp5_2_5) rfl k) ?_
  show own_Go p e below (s₁.setTop (mkF m 7 #[.val (.ref a1), .val (.int (0 : Int32)), .val (.ref b), .val (.int (0 : Int32)), .val (.int (2 : Int32)), .val (.int (0 : Int32)), .unset] [(.int (2 : Int32)), (.int (0 : Int32))])) _
  refine own_by (fun _ k => XS.icmpNo X0.here hx rfl (hb hby d_rm_comp5_2_7) rfl (tlt (by decide : (0 : Int32) < (2 : Int32))).2.1 k) ?_
  show own_Go p e below (s₁.setTop (mkF m 10 #[.val (.ref a1), .val (.int (0 : Int32)), .val (.ref b), .val (.int (0 : Int32)), .val (.int (2 : Int32)), .val (.int (0 : Int32)), .unset] [])) _
  refine own_by (fun _ k => XS.aloadN X0.here hx rfl (hb hby d_rm_comp5_2_10) rfl rfl k) ?_
  refine own_by (fun _ k => XS.iloadN X0.here hx rfl (hb hby d_rm_comp5_2_11) rfl k) ?_
  obtain ⟨cl1, Ar1, q1, S1, M1, H1, G1⟩ := (id Va)
  have hin1 : ¬ ((0 : Int32) < 0 ∨ cl1.slots.size ≤ ((0 : Int32)).toNatClampNeg) := inb_of S1 ⟨by decide, by decide⟩
  refine own_by (X0.caload hx (j := (0 : Int32)) (v := (.int c1)) (by rw [e0]; exact Ar1.1) (State.isArrayOf_alike hZ.alike Ar1.2.1) Ar1.2.2 hin1 (H1.at hin1 rfl) (g := (mkF m 12 #[.val (.ref a1), .val (.int (0 : Int32)), .val (.ref b), .val (.int (0 : Int32)), .val (.int (2 : Int32)), .val (.int (0 : Int32)), .unset] [(.int (0 : Int32)), (.ref a1)])) rfl rfl (hb hby d_rm_comp5_2_12)) ?_
  refine own_by (fun _ k => XS.istore X0.here hx rfl (hb hby d_rm_comp5_2_13) rfl (l' := #[.val (.ref a1), .val (.int (0 : Int32)), .val (.ref b), .val (.int (0 : Int32)), .val (.int (2 : Int32)), .val (.int (0 : Int32)), .val (.int c1)]) rfl k) ?_
  show own_Go p e below (s₁.setTop (mkF m 15 #[.val (.ref a1), .val (.int (0 : Int32)), .val (.ref b), .val (.int (0 : Int32)), .val (.int (2 : Int32)), .val (.int (0 : Int32)), .val (.int c1)] [])) _
  refine own_by (fun _ k => XS.iload X0.here hx rfl (hb hby d_rm_comp5_2_15) rfl k) ?_
  refine own_by (fun _ k => XS.sipush X0.here hx rfl (hb hby d_rm_comp5_2_17) k) ?_
  refine own_by (fun _ k => XS.icmpYes X0.here hx rfl (pc0 := 20) (pc' := 26) rfl (hb hby d_rm_comp5_2_20) rfl (flt rc1).2.2.2 (by decide) (by decide) k) ?_
  show own_Go p e below (s₁.setTop (mkF m 26 #[.val (.ref a1), .val (.int (0 : Int32)), .val (.ref b), .val (.int (0 : Int32)), .val (.int (2 : Int32)), .val (.int (0 : Int32)), .val (.int c1)] [])) _
  refine own_by (fun _ k => XS.aloadN X0.here hx rfl (hb hby d_rm_comp5_2_26) rfl rfl k) ?_
  refine own_by (fun _ k => XS.iloadN X0.here hx rfl (hb hby d_rm_comp5_2_27) rfl k) ?_
  refine own_by (fun _ k => XS.iload X0.here hx rfl (hb hby d_rm_comp5_2_28) rfl k) ?_
  refine own_by (fun _ k => XS.i2b X0.here hx rfl (hb hby d_rm_comp5_2_30) rfl k) ?_
  show own_Go p e below (s₁.setTop (mkF m 31 #[.val (.ref a1), .val (.int (0 : Int32)), .val (.ref b), .val (.int (0 : Int32)), .val (.int (2 : Int32)), .val (.int (0 : Int32)), .val (.int c1)] [(.int (c1.toInt8.toInt32)), (.int (0 : Int32)), (.ref b)])) _
  have Vw2 : Arv Z h0 b kb .byte (2 : Int32) [(.int (0 : Int32))] (.int (0 : Int32)) := Vb.pad (pad_rep [] (.int (0 : Int32)) 1)
  obtain ⟨cl3, Ar3, q3, S3, M3, H3, G3⟩ := (id Vw2)
  have hin3 : ¬ ((0 : Int32) < 0 ∨ cl3.slots.size ≤ ((0 : Int32)).toNatClampNeg) := inb_of S3 ⟨by decide, by decide⟩
  obtain ⟨T3, h3, X3, e3, W3, st3⟩ := stB X0 hx hZ e0 Ar3 (j := (0 : Int32)) hin3 (g := (mkF m 31 #[.val (.ref a1), .val (.int (0 : Int32)), .val (.ref b), .val (.int (0 : Int32)), .val (.int (2 : Int32)), .val (.int (0 : Int32)), .val (.int c1)] [(.int (c1.toInt8.toInt32)), (.int (0 : Int32)), (.ref b)])) rfl rfl (hb hby d_rm_comp5_2_31)
  refine own_by st3 ?_
  have z3 := W3.size
  have N3 := Fr.snoc X3 N0 (by omega)
  have Vw3 : Arv Z h3 b kb .byte (2 : Int32) [(.int (own_b c1))] (.int (0 : Int32)) := Arv.set Ar3 q3 S3 M3 H3 G3 (fits_nar_byte2 _) W3 0 rfl (Nat.le_of_ble_eq_true rfl)
  refine own_by (fun _ k => XS.iinc X3.here hx rfl (hb hby d_rm_comp5_2_32) rfl (l' := #[.val (.ref a1), .val (.int (1 : Int32)), .val (.ref b), .val (.int (0 : Int32)), .val (.int (2 : Int32)), .val (.int (0 : Int32)), .val (.int c1)]) rfl k) ?_
  refine own_by (fun _ k => XS.iinc X3.here hx rfl (hb hby d_rm_comp5_2_35) rfl (l' := #[.val (.ref a1), .val (.int (1 : Int32)), .val (.ref b), .val (.int (1 : Int32)), .val (.int (2 : Int32)), .val (.int (0 : Int32)), .val (.int c1)]) rfl k) ?_
  refine own_by (fun _ k => XS.iinc X3.here hx rfl (hb hby d_rm_comp5_2_38) rfl (l' := #[.val (.ref a1), .val (.int (1 : Int32)), .val (.ref b), .val (.int (1 : Int32)), .val (.int (2 : Int32)), .val (.int (1 : Int32)), .val (.int c1)]) rfl k) ?_
  show own_Go p e below (T3.setTop (mkF m 41 #[.val (.ref a1), .val (.int (1 : Int32)), .val (.ref b), .val (.int (1 : Int32)), .val (.int (2 : Int32)), .val (.int (1 : Int32)), .val (.int c1)] [])) _
  refine own_by (fun _ k => XS.goto X3.here hx rfl (pc0 := 41) (pc' := 3) rfl (hb hby d_rm_comp5_2_41) (by decide) (by decide) k) ?_
  refine own_by (fun _ k => XS.iload X3.here hx rfl (hb hby d_rm_comp5_2_3) rfl k) ?_
  refine own_by (fun _ k => XS.iload X3.here hx rfl (hb hby d_rm_comp5_2_5) rfl k) ?_
  refine own_by (fun _ k => XS.icmpNo X3.here hx rfl (hb hby d_rm_comp5_2_7) rfl (tlt (by decide : (1 : Int32) < (2 : Int32))).2.1 k) ?_
  show own_Go p e below (T3.setTop (mkF m 10 #[.val (.ref a1), .val (.int (1 : Int32)), .val (.ref b), .val (.int (1 : Int32)), .val (.int (2 : Int32)), .val (.int (1 : Int32)), .val (.int c1)] [])) _
  refine own_by (fun _ k => XS.aloadN X3.here hx rfl (hb hby d_rm_comp5_2_10) rfl rfl k) ?_
  refine own_by (fun _ k => XS.iloadN X3.here hx rfl (hb hby d_rm_comp5_2_11) rfl k) ?_
  have fc4 : Arv Z h3 a1 ka .char (2 : Int32) [(.int c1), (.int c2)] (.int (0 : Int32)) := (Va.other W3 (own_ne (by omega)))
  obtain ⟨cl5, Ar5, q5, S5, M5, H5, G5⟩ := (id fc4)
  have hin5 : ¬ ((1 : Int32) < 0 ∨ cl5.slots.size ≤ ((1 : Int32)).toNatClampNeg) := inb_of S5 ⟨by decide, by decide⟩
  refine own_by (X3.caload hx (j := (1 : Int32)) (v := (.int c2)) (by rw [e3]; exact Ar5.1) (State.isArrayOf_alike hZ.alike Ar5.2.1) Ar5.2.2 hin5 (H5.at hin5 rfl) (g := (mkF m 12 #[.val (.ref a1), .val (.int (1 : Int32)), .val (.ref b), .val (.int (1 : Int32)), .val (.int (2 : Int32)), .val (.int (1 : Int32)), .val (.int c1)] [(.int (1 : Int32)), (.ref a1)])) rfl rfl (hb hby d_rm_comp5_2_12)) ?_
  refine own_by (fun _ k => XS.istore X3.here hx rfl (hb hby d_rm_comp5_2_13) rfl (l' := #[.val (.ref a1), .val (.int (1 : Int32)), .val (.ref b), .val (.int (1 : Int32)), .val (.int (2 : Int32)), .val (.int (1 : Int32)), .val (.int c2)]) rfl k) ?_
  show own_Go p e below (T3.setTop (mkF m 15 #[.val (.ref a1), .val (.int (1 : Int32)), .val (.ref b), .val (.int (1 : Int32)), .val (.int (2 : Int32)), .val (.int (1 : Int32)), .val (.int c2)] [])) _
  refine own_by (fun _ k => XS.iload X3.here hx rfl (hb hby d_rm_comp5_2_15) rfl k) ?_
  refine own_by (fun _ k => XS.sipush X3.here hx rfl (hb hby d_rm_comp5_2_17) k) ?_
  refine own_by (fun _ k => XS.icmpYes X3.here hx rfl (pc0 := 20) (pc' := 26) rfl (hb hby d_rm_comp5_2_20) rfl (flt rc2).2.2.2 (by decide) (by decide) k) ?_
  show own_Go p e below (T3.setTop (mkF m 26 #[.val (.ref a1), .val (.int (1 : Int32)), .val (.ref b), .val (.int (1 : Int32)), .val (.int (2 : Int32)), .val (.int (1 : Int32)), .val (.int c2)] [])) _
  refine own_by (fun _ k => XS.aloadN X3.here hx rfl (hb hby d_rm_comp5_2_26) rfl rfl k) ?_
  refine own_by (fun _ k => XS.iloadN X3.here hx rfl (hb hby d_rm_comp5_2_27) rfl k) ?_
  refine own_by (fun _ k => XS.iload X3.here hx rfl (hb hby d_rm_comp5_2_28) rfl k) ?_
  refine own_by (fun _ k => XS.i2b X3.here hx rfl (hb hby d_rm_comp5_2_30) rfl k) ?_
  show own_Go p e below (T3.setTop (mkF m 31 #[.val (.ref a1), .val (.int (1 : Int32)), .val (.ref b), .val (.int (1 : Int32)), .val (.int (2 : Int32)), .val (.int (1 : Int32)), .val (.int c2)] [(.int (c2.toInt8.toInt32)), (.int (1 : Int32)), (.ref b)])) _
  have Vw6 : Arv Z h3 b kb .byte (2 : Int32) [(.int (own_b c1)), (.int (0 : Int32))] (.int (0 : Int32)) := Vw3.pad (pad_rep [(.int (own_b c1))] (.int (0 : Int32)) 1)
  obtain ⟨cl7, Ar7, q7, S7, M7, H7, G7⟩ := (id Vw6)
  have hin7 : ¬ ((1 : Int32) < 0 ∨ cl7.slots.size ≤ ((1 : Int32)).toNatClampNeg) := inb_of S7 ⟨by decide, by decide⟩
  obtain ⟨T7, h7, X7, e7, W7, st7⟩ := stB X3 hx hZ e3 Ar7 (j := (1 : Int32)) hin7 (g := (mkF m 31 #[.val (.ref a1), .val (.int (1 : Int32)), .val (.ref b), .val (.int (1 : Int32)), .val (.int (2 : Int32)), .val (.int (1 : Int32)), .val (.int c2)] [(.int (c2.toInt8.toInt32)), (.int (1 : Int32)), (.ref b)])) rfl rfl (hb hby d_rm_comp5_2_31)
  refine own_by st7 ?_
  have z7 := W7.size
  have N7 := Fr.snoc X7 N3 (by omega)
  have Vw7 : Arv Z h7 b kb .byte (2 : Int32) [(.int (own_b c1)), (.int (own_b c2))] (.int (0 : Int32)) := Arv.set Ar7 q7 S7 M7 H7 G7 (fits_nar_byte2 _) W7 1 rfl (Nat.le_of_ble_eq_true rfl)
  refine own_by (fun _ k => XS.iinc X7.here hx rfl (hb hby d_rm_comp5_2_32) rfl (l' := #[.val (.ref a1), .val (.int (2 : Int32)), .val (.ref b), .val (.int (1 : Int32)), .val (.int (2 : Int32)), .val (.int (1 : Int32)), .val (.int c2)]) rfl k) ?_
  refine own_by (fun _ k => XS.iinc X7.here hx rfl (hb hby d_rm_comp5_2_35) rfl (l' := #[.val (.ref a1), .val (.int (2 : Int32)), .val (.ref b), .val (.int (2 : Int32)), .val (.int (2 : Int32)), .val (.int (1 : Int32)), .val (.int c2)]) rfl k) ?_
  refine own_by (fun _ k => XS.iinc X7.here hx rfl (hb hby d_rm_comp5_2_38) rfl (l' := #[.val (.ref a1), .val (.int (2 : Int32)), .val (.ref b), .val (.int (2 : Int32)), .val (.int (2 : Int32)), .val (.int (2 : Int32)), .val (.int c2)]) rfl k) ?_
  show own_Go p e below (T7.setTop (mkF m 41 #[.val (.ref a1), .val (.int (2 : Int32)), .val (.ref b), .val (.int (2 : Int32)), .val (.int (2 : Int32)), .val (.int (2 : Int32)), .val (.int c2)] [])) _
  refine own_by (fun _ k => XS.goto X7.here hx rfl (pc0 := 41) (pc' := 3) rfl (hb hby d_rm_comp5_2_41) (by decide) (by decide) k) ?_
  refine own_by (fun _ k => XS.iload X7.here hx rfl (hb hby d_rm_comp5_2_3) rfl k) ?_
  refine own_by (fun _ k => XS.iload X7.here hx rfl (hb hby d_rm_comp5_2_5) rfl k) ?_
  refine own_by (fun _ k => XS.icmpYes X7.here hx rfl (pc0 := 7) (pc' := 44) rfl (hb hby d_rm_comp5_2_7) rfl (flt (by decide : ¬ ((2 : Int32) < (2 : Int32)))).2.1 (by decide) (by decide) k) ?_
  show own_Go p e below (T7.setTop (mkF m 44 #[.val (.ref a1), .val (.int (2 : Int32)), .val (.ref b), .val (.int (2 : Int32)), .val (.int (2 : Int32)), .val (.int (2 : Int32)), .val (.int c2)] [])) _
  refine own_by (fun _ k => XS.iload X7.here hx rfl (hb hby d_rm_comp5_2_44) rfl k) ?_
  have K8 : Keep h0 h7 [b] := (((Keep.refl h0 [b]).wr W3 (Or.inl (List.mem_of_getElem? (i := 0) rfl))).wr W7 (Or.inl (List.mem_of_getElem? (i := 0) rfl)))
  obtain ⟨fs, hr, hrun, hended, hW, hsame⟩ := X7.leave (v := some (.int (2 : Int32))) (fun h => by rw [Bd.returns] at h; cases h)
  refine ⟨_, _, retI X7 hx Bd.returns (hb hby d_rm_comp5_2_46) hr, hrun, hended, _, _, rfl, ?_, ⟨_, rfl⟩, hW, hsame.mono (by decide) (by decide)⟩
  show Q_rm_comp5_2 Z a1 b ka kb c1 c2 h0 n0 _ T7.heap _
  rw [e7]
  exact ⟨rfl, N7, K8, Vw7⟩
theorem d_rm_comp3_2_0 : decode jdk_52_method_16_code 0 = .ok (.iload_n 2, 1) := by decide +kernel
theorem d_rm_comp3_2_1 : decode jdk_52_method_16_code 1 = .ok (.newarray .byte, 2) := by decide +kernel
theorem d_rm_comp3_2_3 : decode jdk_52_method_16_code 3 = .ok (.astore_n 3, 1) := by decide +kernel
theorem d_rm_comp3_2_4 : decode jdk_52_method_16_code 4 = .ok (.aload_n 0, 1) := by decide +kernel
theorem d_rm_comp3_2_5 : decode jdk_52_method_16_code 5 = .ok (.iload_n 1, 1) := by decide +kernel
theorem d_rm_comp3_2_6 : decode jdk_52_method_16_code 6 = .ok (.aload_n 3, 1) := by decide +kernel
theorem d_rm_comp3_2_7 : decode jdk_52_method_16_code 7 = .ok (.iconst 0, 1) := by decide +kernel
theorem d_rm_comp3_2_8 : decode jdk_52_method_16_code 8 = .ok (.iload_n 2, 1) := by decide +kernel
theorem d_rm_comp3_2_9 : decode jdk_52_method_16_code 9 = .ok (.invokestatic 115, 3) := by decide +kernel
theorem d_rm_comp3_2_12 : decode jdk_52_method_16_code 12 = .ok (.istore 4, 2) := by decide +kernel
theorem d_rm_comp3_2_14 : decode jdk_52_method_16_code 14 = .ok (.iload 4, 2) := by decide +kernel
theorem d_rm_comp3_2_16 : decode jdk_52_method_16_code 16 = .ok (.iload_n 2, 1) := by decide +kernel
theorem d_rm_comp3_2_17 : decode jdk_52_method_16_code 17 = .ok (.if_icmp .eq 40, 3) := by decide +kernel
theorem d_rm_comp3_2_57 : decode jdk_52_method_16_code 57 = .ok (.aload_n 3, 1) := by decide +kernel
theorem d_rm_comp3_2_58 : decode jdk_52_method_16_code 58 = .ok (.areturn, 1) := by decide +kernel
def Q_rm_comp3_2 (Z : State) (a1 : Addr) (ka : ClassId) (c1 : Int32) (c2 : Int32) (h0 : Heap) (n0 : Nat) (v : Option Value) (h : Heap) (L : List Loc) : Prop := ∃ (b : Addr), ∃ (kb : ClassId), v = some (.ref b) ∧ Fr n0 L ∧ Keep h0 h [] ∧ Arv Z h b kb .byte (2 : Int32) [(.int (own_b c1)), (.int (own_b c2))] (.int (0 : Int32)) ∧ h0.size ≤ b
theorem ef_rm_comp3_2 (m : MethodId) (a1 : Addr) (ka : ClassId) (c1 : Int32) (c2 : Int32) : entryFrame m #[(.ref a1), (.int (0 : Int32)), (.int (2 : Int32))] 6 = mkF m 0 #[.val (.ref a1), .val (.int (0 : Int32)), .val (.int (2 : Int32)), .unset, .unset, .unset] [] := by first | (simp [entryFrame, mkF, argsToLocals, Value.category]; done) | rfl
set_option maxRecDepth 65536 in
set_option maxHeartbeats 40000000 in
theorem rm_comp3_2 (l : Launch) (Z : State) (a0 : Array Value) (hw : ∀ d ∈ tables_1, d.before a0 Z = true) (ws : List Jvm.Cond) (a1 : Addr) (ka : ClassId) (c1 : Int32) (c2 : Int32) (h0 : Heap) (n0 : Nat) (O0 : Old Z n0 h0) (Va : Arv Z h0 a1 ka .char (2 : Int32) [(.int c1), (.int c2)] (.int (0 : Int32))) (rc1 : ¬ ((255 : Int32) < c1)) (rc2 : ¬ ((255 : Int32) < c2)) :
    MetFree l (⟨"java/lang/StringUTF16", "compress", "([CII)[B"⟩ : MethodName) (head1 (Jvm.Cond.code (⟨"java/lang/StringUTF16", "compress", "([CII)[B"⟩ : MethodName) jdk_52_method_16_code 6 (some (.array .byte)) :: ws) ({ frames := 1, cells := 1, slots := 2, locals := 18 } : Room)) (fun a U => a = #[(.ref a1), (.int (0 : Int32)), (.int (2 : Int32))] ∧ Z.Warmed39 U.vm ∧ U.heap = h0) (fun _ _ _ _ _ => True) (fun _ U o U' => ∃ v L, o = .returned v ∧ Q_rm_comp3_2 Z a1 ka c1 c2 h0 n0 v U'.heap L ∧ FrameEnd U o U' L ({ frames := 1, cells := 1, slots := 2, locals := 18 } : Room).cells ({ frames := 1, cells := 1, slots := 2, locals := 18 } : Room).slots) := by
  refine MetFree.of_bodySF (plainFor_of_name own_pn_java_lang_StringUTF16) hisR ?_
  intro p e s m args below meth c s₁ Bd hml0 hP hK
  obtain ⟨rfl, hZ, hh⟩ := hP
  have hx := Bd.exec
  have hby := Bd.bytes
  have hml : c.maxLocals = 6 := hml0
  have hown : s.vm.findClass "java/lang/StringUTF16" = some m.cls := findClass_of_methodNamed Bd.named
  have hnm := (name_of_methodNamed Bd.named Bd.method).1
  have X0 : Stand p l e ({ frames := 1, cells := 1, slots := 2, locals := 18 } : Room) s m #[(.ref a1), (.int (0 : Int32)), (.int (2 : Int32))] below meth c s₁ [] 0 0 := Stand.of_body Bd
  have e0 : s₁.heap = h0 := by rw [← hh, Bd.state]; rfl
  have N0 := Fr.nil n0
  have Z0 : n0 ≤ h0.size := by rw [← O0.1]; exact O0.2.1
  show own_Go p e below (s₁.setTop (entryFrame m #[(.ref a1), (.int (0 : Int32)), (.int (2 : Int32))] 6)) (fun t o => ∃ v L, o = .returned v ∧ Q_rm_comp3_2 Z a1 ka c1 c2 h0 n0 v t.heap L ∧ FrameEnd s o t L ({ frames := 1, cells := 1, slots := 2, locals := 18 } : Room).cells ({ frames := 1, cells := 1, slots := 2, locals := 18 } : Room).slots)
  rw [ef_rm_comp3_2 m a1 ka c1 c2]
  have lt_Va : h0.size > a1 := Va.lt
  refine own_by (fun _ k => XS.iloadN X0.here hx rfl (hb hby d_rm_comp3_2_0) rfl k) ?_
  obtain ⟨T1, h1, k1, X1, e1, E1, A1, st1⟩ := newP X0 hx hZ (own_w hw 26 rfl) e0 (g := (mkF m 1 #[.val (.ref a1), .val (.int (0 : Int32)), .val (.int (2 : Int32)), .unset, .unset, .unset] [(.int (2 : Int32))])) rfl (hb hby d_rm_comp3_2_1) rfl (by decide) (cap := 2) (by decide) (by decide) (by decide) (by decide)
  obtain ⟨ob1, g1⟩ : ∃ z, z = h0.size := ⟨_, rfl⟩
  rw [← g1] at A1 st1
  refine own_by st1 ?_
  have z1 := E1.1
  have Vw1 : Arv Z h1 ob1 k1 .byte (2 : Int32) [] (.int (0 : Int32)) := Arv.new A1 (by decide)
  have lt1 : h1.size > ob1 := Vw1.lt
  refine own_by (fun _ k => XS.astoreN X1.here hx rfl (hb hby d_rm_comp3_2_3) rfl rfl (l' := #[.val (.ref a1), .val (.int (0 : Int32)), .val (.int (2 : Int32)), .val (.ref ob1), .unset, .unset]) rfl k) ?_
  refine own_by (fun _ k => XS.aloadN X1.here hx rfl (hb hby d_rm_comp3_2_4) rfl rfl k) ?_
  show own_Go p e below (T1.setTop (mkF m 5 #[.val (.ref a1), .val (.int (0 : Int32)), .val (.int (2 : Int32)), .val (.ref ob1), .unset, .unset] [(.ref a1)])) _
  refine own_by (fun _ k => XS.iloadN X1.here hx rfl (hb hby d_rm_comp3_2_5) rfl k) ?_
  refine own_by (fun _ k => XS.aloadN X1.here hx rfl (hb hby d_rm_comp3_2_6) rfl rfl k) ?_
  refine own_by (fun _ k => XS.iconst X1.here hx rfl (hb hby d_rm_comp3_2_7) k) ?_
  refine own_by (fun _ k => XS.iloadN X1.here hx rfl (hb hby d_rm_comp3_2_8) rfl k) ?_
  show own_Go p e below (T1.setTop (mkF m 9 #[.val (.ref a1), .val (.int (0 : Int32)), .val (.int (2 : Int32)), .val (.ref ob1), .unset, .unset] [(.int (2 : Int32)), (.int (0 : Int32)), (.ref ob1), (.int (0 : Int32)), (.ref a1)])) _
  have fc2 : Arv Z h1 a1 ka .char (2 : Int32) [(.int c1), (.int c2)] (.int (0 : Int32)) := (Va.ext E1)
  have O3 : Old Z n0 h1 := (O0.ext E1)
  obtain ⟨_, _, ⟨T4, L4, k4, n4⟩, -, X4, ⟨Lc4, hQ4, l4, y4, z4⟩, st4⟩ := Jvm.LawKit.callS X1 hx (y := (⟨"java/lang/StringUTF16", "compress", "([CI[BII)I"⟩ : MethodName)) hown (mvT hZ (own_w hw 27 rfl)) (mvT hZ (own_w hw 28 rfl)) (mvT hZ (own_w hw 24 rfl)) (mvT hZ (own_w hw 29 rfl)) (by decide) (backOf (W := 0) (rm_comp5_2 l Z a0 hw [] a1 ob1 ka k1 c1 c2 h1 n0 O3 fc2 Vw1 rc1 rc2 (by first | assumption | omega | decide) (by first | assumption | omega | decide)) hZ (own_w hw 29 rfl) (own_w hw 24 rfl) (by decide) (by decide)) (g := (mkF m 9 #[.val (.ref a1), .val (.int (0 : Int32)), .val (.int (2 : Int32)), .val (.ref ob1), .unset, .unset] [(.int (2 : Int32)), (.int (0 : Int32)), (.ref ob1), (.int (0 : Int32)), (.ref a1)])) rfl (by rw [hml]; rfl) (argsL := [(.ref a1), (.int (0 : Int32)), (.ref ob1), (.int (0 : Int32)), (.int (2 : Int32))]) (rest := []) (lenOf own_pd__28_5bCI_5bBII_29I rfl) rfl (by show 2 * 0 + _ ≤ _; exact Nat.le_of_eq rfl) (hb hby d_rm_comp3_2_9) (fun _ _ => ⟨rfl, e1, (by decide : 1 + 0 ≤ _), (by decide : 2 + 0 ≤ _)⟩)
  dsimp only [Pt.U, Pt.locs, Pt.cells, Pt.slots] at X4 l4 y4 z4 st4 hQ4
  subst l4 y4 z4
  obtain ⟨rfl, M4, K4, g4_0⟩ := hQ4
  have N4 := Fr.app N0 M4
  refine own_by st4 ?_
  have z4 := K4.1
  have lt_g4_0 : T4.heap.size > ob1 := g4_0.lt
  refine own_by (fun _ k => XS.istore X4.here hx rfl (hb hby d_rm_comp3_2_12) rfl (l' := #[.val (.ref a1), .val (.int (0 : Int32)), .val (.int (2 : Int32)), .val (.ref ob1), .val (.int (2 : Int32)), .unset]) rfl k) ?_
  refine own_by (fun _ k => XS.iload X4.here hx rfl (hb hby d_rm_comp3_2_14) rfl k) ?_
  refine own_by (fun _ k => XS.iloadN X4.here hx rfl (hb hby d_rm_comp3_2_16) rfl k) ?_
  show own_Go p e below (T4.setTop (mkF m 17 #[.val (.ref a1), .val (.int (0 : Int32)), .val (.int (2 : Int32)), .val (.ref ob1), .val (.int (2 : Int32)), .unset] [(.int (2 : Int32)), (.int (2 : Int32))])) _
  refine own_by (fun _ k => XS.icmpYes X4.here hx rfl (pc0 := 17) (pc' := 57) rfl (hb hby d_rm_comp3_2_17) rfl (teq (by decide : (2 : Int32) = (2 : Int32))).1 (by decide) (by decide) k) ?_
  show own_Go p e below (T4.setTop (mkF m 57 #[.val (.ref a1), .val (.int (0 : Int32)), .val (.int (2 : Int32)), .val (.ref ob1), .val (.int (2 : Int32)), .unset] [])) _
  refine own_by (fun _ k => XS.aloadN X4.here hx rfl (hb hby d_rm_comp3_2_57) rfl rfl k) ?_
  have K5 : Keep h0 T4.heap [] := (((Keep.refl h0 []).ext E1).trans K4 (allS (P := fun x => x ∈ [] ∨ h0.size ≤ x) (Or.inr (by omega)) all0))
  obtain ⟨fs, hr, hrun, hended, hW, hsame⟩ := X4.leave (v := some (.ref ob1)) (fun h => by rw [Bd.returns] at h; cases h)
  refine ⟨_, _, retOut X4 hx Bd.returns (own_narrow_ref (by decide) rfl) (Or.inr (Or.inr (Or.inr (Or.inr ⟨rfl, by decide, rfl⟩)))) (hb hby d_rm_comp3_2_58) hr, hrun, hended, _, _, rfl, ?_, ⟨_, rfl⟩, hW, hsame.mono (by decide) (by decide)⟩
  show Q_rm_comp3_2 Z a1 ka c1 c2 h0 n0 _ T4.heap _
  exact ⟨ob1, k1, rfl, N4, K5, g4_0, (by first | assumption | omega)⟩
theorem d_rm_cfal_2_0 : decode jdk_52_method_15_code 0 = .ok (.iload_n 1, 1) := by decide +kernel
theorem d_rm_cfal_2_1 : decode jdk_52_method_15_code 1 = .ok (.aload_n 0, 1) := by decide +kernel
theorem d_rm_cfal_2_2 : decode jdk_52_method_15_code 2 = .ok (.arraylength, 1) := by decide +kernel
theorem d_rm_cfal_2_3 : decode jdk_52_method_15_code 3 = .ok (.isub, 1) := by decide +kernel
theorem d_rm_cfal_2_4 : decode jdk_52_method_15_code 4 = .ok (.bipush 31, 2) := by decide +kernel
theorem d_rm_cfal_2_6 : decode jdk_52_method_15_code 6 = .ok (.iushr, 1) := by decide +kernel
theorem d_rm_cfal_2_7 : decode jdk_52_method_15_code 7 = .ok (.i2b, 1) := by decide +kernel
theorem d_rm_cfal_2_8 : decode jdk_52_method_15_code 8 = .ok (.ireturn, 1) := by decide +kernel
def Q_rm_cfal_2 (Z : State) (b : Addr) (kb : ClassId) (d1 : Int32) (d2 : Int32) (h0 : Heap) (n0 : Nat) (v : Option Value) (h : Heap) (L : List Loc) : Prop := v = some (.int (0 : Int32)) ∧ Fr n0 L ∧ h = h0
theorem ef_rm_cfal_2 (m : MethodId) (b : Addr) (kb : ClassId) (d1 : Int32) (d2 : Int32) : entryFrame m #[(.ref b), (.int (2 : Int32))] 2 = mkF m 0 #[.val (.ref b), .val (.int (2 : Int32))] [] := by first | (simp [entryFrame, mkF, argsToLocals, Value.category]; done) | rfl
set_option maxRecDepth 65536 in
set_option maxHeartbeats 40000000 in
theorem rm_cfal_2 (l : Launch) (Z : State) (a0 : Array Value) (hw : ∀ d ∈ tables_1, d.before a0 Z = true) (ws : List Jvm.Cond) (b : Addr) (kb : ClassId) (d1 : Int32) (d2 : Int32) (h0 : Heap) (n0 : Nat) (O0 : Old Z n0 h0) (Vb : Arv Z h0 b kb .byte (2 : Int32) [(.int d1), (.int d2)] (.int (0 : Int32))) :
    MetFree l (⟨"java/lang/StringUTF16", "coderFromArrayLen", "([BI)B"⟩ : MethodName) (head1 (Jvm.Cond.code (⟨"java/lang/StringUTF16", "coderFromArrayLen", "([BI)B"⟩ : MethodName) jdk_52_method_15_code 2 (some .byte) :: ws) ({ frames := 0, cells := 0, slots := 0, locals := 0 } : Room)) (fun a U => a = #[(.ref b), (.int (2 : Int32))] ∧ Z.Warmed39 U.vm ∧ U.heap = h0) (fun _ _ _ _ _ => True) (fun _ U o U' => ∃ v L, o = .returned v ∧ Q_rm_cfal_2 Z b kb d1 d2 h0 n0 v U'.heap L ∧ FrameEnd U o U' L ({ frames := 0, cells := 0, slots := 0, locals := 0 } : Room).cells ({ frames := 0, cells := 0, slots := 0, locals := 0 } : Room).slots) := by
  refine MetFree.of_bodySF (plainFor_of_name own_pn_java_lang_StringUTF16) hisR ?_
  intro p e s m args below meth c s₁ Bd hml0 hP hK
  obtain ⟨rfl, hZ, hh⟩ := hP
  have hx := Bd.exec
  have hby := Bd.bytes
  have hml : c.maxLocals = 2 := hml0
  have hown : s.vm.findClass "java/lang/StringUTF16" = some m.cls := findClass_of_methodNamed Bd.named
  have hnm := (name_of_methodNamed Bd.named Bd.method).1
  have X0 : Stand p l e ({ frames := 0, cells := 0, slots := 0, locals := 0 } : Room) s m #[(.ref b), (.int (2 : Int32))] below meth c s₁ [] 0 0 := Stand.of_body Bd
  have e0 : s₁.heap = h0 := by rw [← hh, Bd.state]; rfl
  have N0 := Fr.nil n0
  have Z0 : n0 ≤ h0.size := by rw [← O0.1]; exact O0.2.1
  show own_Go p e below (s₁.setTop (entryFrame m #[(.ref b), (.int (2 : Int32))] 2)) (fun t o => ∃ v L, o = .returned v ∧ Q_rm_cfal_2 Z b kb d1 d2 h0 n0 v t.heap L ∧ FrameEnd s o t L ({ frames := 0, cells := 0, slots := 0, locals := 0 } : Room).cells ({ frames := 0, cells := 0, slots := 0, locals := 0 } : Room).slots)
  rw [ef_rm_cfal_2 m b kb d1 d2]
  have lt_Vb : h0.size > b := Vb.lt
  refine own_by (fun _ k => XS.iloadN X0.here hx rfl (hb hby d_rm_cfal_2_0) rfl k) ?_
  refine own_by (fun _ k => XS.aloadN X0.here hx rfl (hb hby d_rm_cfal_2_1) rfl rfl k) ?_
  obtain ⟨cl1, Ar1, q1, S1, M1, H1, G1⟩ := (id Vb)
  refine own_by (X0.arraylength hx (by rw [e0]; exact Ar1.1) (State.isArrayOf_alike hZ.alike Ar1.2.1) (g := (mkF m 2 #[.val (.ref b), .val (.int (2 : Int32))] [(.ref b), (.int (2 : Int32))])) rfl rfl (hb hby d_rm_cfal_2_2)) ?_
  rw [len_of S1 M1]
  refine own_by (fun _ k => XS.isub X0.here hx rfl (hb hby d_rm_cfal_2_3) rfl k) ?_
  show own_Go p e below (s₁.setTop (mkF m 4 #[.val (.ref b), .val (.int (2 : Int32))] [(.int (0 : Int32))])) _
  refine own_by (fun _ k => XS.bipush X0.here hx rfl (hb hby d_rm_cfal_2_4) k) ?_
  refine own_by (fun _ k => XS.iushr X0.here hx rfl (hb hby d_rm_cfal_2_6) rfl k) ?_
  refine own_by (fun _ k => XS.i2b X0.here hx rfl (hb hby d_rm_cfal_2_7) rfl k) ?_
  obtain ⟨fs, hr, hrun, hended, hW, hsame⟩ := X0.leave (v := some (.int (0 : Int32))) (fun h => by rw [Bd.returns] at h; cases h)
  refine ⟨_, _, retN X0 hx (t := .byte) Bd.returns (by simp) (hb hby d_rm_cfal_2_8) hr, hrun, hended, _, _, rfl, ?_, ⟨_, rfl⟩, hW, hsame.mono (by decide) (by decide)⟩
  show Q_rm_cfal_2 Z b kb d1 d2 h0 n0 _ s₁.heap _
  rw [e0]
  exact ⟨rfl, N0, rfl⟩
theorem d_rm_sinit4_2_0 : decode jdk_42_method_149_code 0 = .ok (.aload_n 0, 1) := by decide +kernel
theorem d_rm_sinit4_2_1 : decode jdk_42_method_149_code 1 = .ok (.invokespecial 1, 3) := by decide +kernel
theorem d_rm_sinit4_2_4 : decode jdk_42_method_149_code 4 = .ok (.iload_n 3, 1) := by decide +kernel
theorem d_rm_sinit4_2_5 : decode jdk_42_method_149_code 5 = .ok (.ifCond .ne 22, 3) := by decide +kernel
theorem d_rm_sinit4_2_27 : decode jdk_42_method_149_code 27 = .ok (.getstatic 38, 3) := by decide +kernel
theorem d_rm_sinit4_2_30 : decode jdk_42_method_149_code 30 = .ok (.ifCond .eq 28, 3) := by decide +kernel
theorem d_rm_sinit4_2_33 : decode jdk_42_method_149_code 33 = .ok (.aload_n 1, 1) := by decide +kernel
theorem d_rm_sinit4_2_34 : decode jdk_42_method_149_code 34 = .ok (.iload_n 2, 1) := by decide +kernel
theorem d_rm_sinit4_2_35 : decode jdk_42_method_149_code 35 = .ok (.iload_n 3, 1) := by decide +kernel
theorem d_rm_sinit4_2_36 : decode jdk_42_method_149_code 36 = .ok (.invokestatic 177, 3) := by decide +kernel
theorem d_rm_sinit4_2_39 : decode jdk_42_method_149_code 39 = .ok (.astore 5, 2) := by decide +kernel
theorem d_rm_sinit4_2_41 : decode jdk_42_method_149_code 41 = .ok (.aload_n 0, 1) := by decide +kernel
theorem d_rm_sinit4_2_42 : decode jdk_42_method_149_code 42 = .ok (.aload 5, 2) := by decide +kernel
theorem d_rm_sinit4_2_44 : decode jdk_42_method_149_code 44 = .ok (.iload_n 3, 1) := by decide +kernel
theorem d_rm_sinit4_2_45 : decode jdk_42_method_149_code 45 = .ok (.invokestatic 47, 3) := by decide +kernel
theorem d_rm_sinit4_2_48 : decode jdk_42_method_149_code 48 = .ok (.putfield 15, 3) := by decide +kernel
theorem d_rm_sinit4_2_51 : decode jdk_42_method_149_code 51 = .ok (.aload_n 0, 1) := by decide +kernel
theorem d_rm_sinit4_2_52 : decode jdk_42_method_149_code 52 = .ok (.aload 5, 2) := by decide +kernel
theorem d_rm_sinit4_2_54 : decode jdk_42_method_149_code 54 = .ok (.putfield 9, 3) := by decide +kernel
theorem d_rm_sinit4_2_57 : decode jdk_42_method_149_code 57 = .ok (.return_, 1) := by decide +kernel
def Q_rm_sinit4_2 (Z : State) (t1 : Addr) (a1 : Addr) (ka : ClassId) (cs : Int32) (c1 : Int32) (c2 : Int32) (h0 : Heap) (n0 : Nat) (v : Option Value) (h : Heap) (L : List Loc) : Prop := ∃ (b : Addr), ∃ (kb : ClassId), v = none ∧ Fr n0 L ∧ Keep h0 h [t1] ∧ Exa Z h t1 "java/lang/String" ∧ Fld Z h t1 "java/lang/String" "coder" "B" (.int (0 : Int32)) ∧ Fld Z h t1 "java/lang/String" "value" "[B" (.ref b) ∧ Arv Z h b kb .byte (2 : Int32) [(.int (own_b c1)), (.int (own_b c2))] (.int (0 : Int32)) ∧ h0.size ≤ b
theorem ef_rm_sinit4_2 (m : MethodId) (t1 : Addr) (a1 : Addr) (ka : ClassId) (cs : Int32) (c1 : Int32) (c2 : Int32) : entryFrame m #[(.ref t1), (.ref a1), (.int (0 : Int32)), (.int (2 : Int32)), .null] 6 = mkF m 0 #[.val (.ref t1), .val (.ref a1), .val (.int (0 : Int32)), .val (.int (2 : Int32)), .val .null, .unset] [] := by first | (simp [entryFrame, mkF, argsToLocals, Value.category]; done) | rfl
set_option maxRecDepth 65536 in
set_option maxHeartbeats 40000000 in
theorem rm_sinit4_2 (l : Launch) (Z : State) (a0 : Array Value) (hw : ∀ d ∈ tables_1, d.before a0 Z = true) (ws : List Jvm.Cond) (t1 : Addr) (a1 : Addr) (ka : ClassId) (cs : Int32) (c1 : Int32) (c2 : Int32) (h0 : Heap) (n0 : Nat) (O0 : Old Z n0 h0) (S_COMPACT : Sta Z Z.heap "java/lang/String" "COMPACT_STRINGS" "Z" (.int cs)) (Et : Exa Z h0 t1 "java/lang/String") (Fv : Fld Z h0 t1 "java/lang/String" "value" "[B" .null) (Fc : Fld Z h0 t1 "java/lang/String" "coder" "B" (.int (0 : Int32))) (Va : Arv Z h0 a1 ka .char (2 : Int32) [(.int c1), (.int c2)] (.int (0 : Int32))) (rc1 : ¬ ((255 : Int32) < c1)) (rc2 : ¬ ((255 : Int32) < c2)) (gt : n0 ≤ t1) (hcs : ¬ (cs = (0 : Int32))) (nta : ¬ (@Eq Nat a1 t1)) :
    MetFree l (⟨"java/lang/String", "<init>", "([CIILjava/lang/Void;)V"⟩ : MethodName) (head1 (Jvm.Cond.code (⟨"java/lang/String", "<init>", "([CIILjava/lang/Void;)V"⟩ : MethodName) jdk_42_method_149_code 6 none :: ws) ({ frames := 2, cells := 1, slots := 2, locals := 35 } : Room)) (fun a U => a = #[(.ref t1), (.ref a1), (.int (0 : Int32)), (.int (2 : Int32)), .null] ∧ Z.Warmed39 U.vm ∧ U.heap = h0) (fun _ _ _ _ _ => True) (fun _ U o U' => ∃ v L, o = .returned v ∧ Q_rm_sinit4_2 Z t1 a1 ka cs c1 c2 h0 n0 v U'.heap L ∧ FrameEnd U o U' L ({ frames := 2, cells := 1, slots := 2, locals := 35 } : Room).cells ({ frames := 2, cells := 1, slots := 2, locals := 35 } : Room).slots) := by
  refine MetFree.of_bodySF (plainFor_of_name own_pn_java_lang_String) hisR ?_
  intro p e s m args below meth c s₁ Bd hml0 hP hK
  obtain ⟨rfl, hZ, hh⟩ := hP
  have hx := Bd.exec
  have hby := Bd.bytes
  have hml : c.maxLocals = 6 := hml0
  have hown : s.vm.findClass "java/lang/String" = some m.cls := findClass_of_methodNamed Bd.named
  have hnm := (name_of_methodNamed Bd.named Bd.method).1
  have X0 : Stand p l e ({ frames := 2, cells := 1, slots := 2, locals := 35 } : Room) s m #[(.ref t1), (.ref a1), (.int (0 : Int32)), (.int (2 : Int32)), .null] below meth c s₁ [] 0 0 := Stand.of_body Bd
  have e0 : s₁.heap = h0 := by rw [← hh, Bd.state]; rfl
  have N0 := Fr.nil n0
  have Z0 : n0 ≤ h0.size := by rw [← O0.1]; exact O0.2.1
  show own_Go p e below (s₁.setTop (entryFrame m #[(.ref t1), (.ref a1), (.int (0 : Int32)), (.int (2 : Int32)), .null] 6)) (fun t o => ∃ v L, o = .returned v ∧ Q_rm_sinit4_2 Z t1 a1 ka cs c1 c2 h0 n0 v t.heap L ∧ FrameEnd s o t L ({ frames := 2, cells := 1, slots := 2, locals := 35 } : Room).cells ({ frames := 2, cells := 1, slots := 2, locals := 35 } : Room).slots)
  rw [ef_rm_sinit4_2 m t1 a1 ka cs c1 c2]
  have lt_Et : h0.size > t1 := Et.lt
  have lt_Fv : h0.size > t1 := Fv.lt
  have lt_Fc : h0.size > t1 := Fc.lt
  have lt_Va : h0.size > a1 := Va.lt
  refine own_by (fun _ k => XS.aloadN X0.here hx rfl (hb hby d_rm_sinit4_2_0) rfl rfl k) ?_
  obtain ⟨T1, X1, e1, st1⟩ := initO X0 hx hZ hown (own_w hw 18 rfl) (own_w hw 19 rfl) (own_w hw 20 rfl) e0 (g := (mkF m 1 #[.val (.ref t1), .val (.ref a1), .val (.int (0 : Int32)), .val (.int (2 : Int32)), .val .null, .unset] [(.ref t1)])) rfl (by rw [hml]; rfl) rfl (hb hby d_rm_sinit4_2_1) (by decide) (W := 0) (by show 2 * 0 + _ ≤ _; exact Nat.le_of_eq rfl) (by decide)
  refine own_by st1 ?_
  refine own_by (fun _ k => XS.iloadN X1.here hx rfl (hb hby d_rm_sinit4_2_4) rfl k) ?_
  refine own_by (fun _ k => XS.ifYes X1.here hx rfl (pc0 := 5) (pc' := 27) rfl (hb hby d_rm_sinit4_2_5) rfl ((if0 _ _).trans (feq (by decide : ¬ ((2 : Int32) = (0 : Int32)))).2) (by decide) (by decide) k) ?_
  show own_Go p e below (T1.setTop (mkF m 27 #[.val (.ref t1), .val (.ref a1), .val (.int (0 : Int32)), .val (.int (2 : Int32)), .val .null, .unset] [])) _
  obtain ⟨T2, X2, e2, st2⟩ := getS2 X1 hx hZ hown (host := "") (Or.inl (own_w hw 21 rfl)) Via.refl e1 (S_COMPACT.ext O0.2) (g := (mkF m 27 #[.val (.ref t1), .val (.ref a1), .val (.int (0 : Int32)), .val (.int (2 : Int32)), .val .null, .unset] [])) rfl (hb hby d_rm_sinit4_2_27)
  refine own_by st2 ?_
  refine own_by (fun _ k => XS.ifNo X2.here hx rfl (hb hby d_rm_sinit4_2_30) rfl ((if0 _ _).trans (feq hcs).1) k) ?_
  show own_Go p e below (T2.setTop (mkF m 33 #[.val (.ref t1), .val (.ref a1), .val (.int (0 : Int32)), .val (.int (2 : Int32)), .val .null, .unset] [])) _
  refine own_by (fun _ k => XS.aloadN X2.here hx rfl (hb hby d_rm_sinit4_2_33) rfl rfl k) ?_
  refine own_by (fun _ k => XS.iloadN X2.here hx rfl (hb hby d_rm_sinit4_2_34) rfl k) ?_
  refine own_by (fun _ k => XS.iloadN X2.here hx rfl (hb hby d_rm_sinit4_2_35) rfl k) ?_
  obtain ⟨_, _, ⟨T3, L3, k3, n3⟩, -, X3, ⟨Lc3, hQ3, l3, y3, z3⟩, st3⟩ := Jvm.LawKit.callS X2 hx (y := (⟨"java/lang/StringUTF16", "compress", "([CII)[B"⟩ : MethodName)) hown (mvT hZ (own_w hw 22 rfl)) (mvT hZ (own_w hw 23 rfl)) (mvT hZ (own_w hw 24 rfl)) (mvT hZ (own_w hw 25 rfl)) (by decide) (backOf (W := 0) (rm_comp3_2 l Z a0 hw [] a1 ka c1 c2 h0 n0 O0 Va rc1 rc2) hZ (own_w hw 25 rfl) (own_w hw 24 rfl) (by decide) (by decide)) (g := (mkF m 36 #[.val (.ref t1), .val (.ref a1), .val (.int (0 : Int32)), .val (.int (2 : Int32)), .val .null, .unset] [(.int (2 : Int32)), (.int (0 : Int32)), (.ref a1)])) rfl (by rw [hml]; rfl) (argsL := [(.ref a1), (.int (0 : Int32)), (.int (2 : Int32))]) (rest := []) (lenOf own_pd__28_5bCII_29_5bB rfl) rfl (by show 2 * 0 + _ ≤ _; exact Nat.le_of_eq rfl) (hb hby d_rm_sinit4_2_36) (fun _ _ => ⟨rfl, e2, (by decide : 0 + 1 ≤ _), (by decide : 0 + 2 ≤ _)⟩)
  dsimp only [Pt.U, Pt.locs, Pt.cells, Pt.slots] at X3 l3 y3 z3 st3 hQ3
  subst l3 y3 z3
  obtain ⟨b_3, kb_3, rfl, M3, K3, g3_0, r3_0⟩ := hQ3
  have N3 := Fr.app N0 M3
  refine own_by st3 ?_
  have z3 := K3.1
  have lt_g3_0 : T3.heap.size > b_3 := g3_0.lt
  show own_Go p e below (T3.setTop (mkF m 39 #[.val (.ref t1), .val (.ref a1), .val (.int (0 : Int32)), .val (.int (2 : Int32)), .val .null, .unset] [(.ref b_3)])) _
  refine own_by (fun _ k => XS.astore X3.here hx rfl (hb hby d_rm_sinit4_2_39) rfl rfl (l' := #[.val (.ref t1), .val (.ref a1), .val (.int (0 : Int32)), .val (.int (2 : Int32)), .val .null, .val (.ref b_3)]) rfl k) ?_
  refine own_by (fun _ k => XS.aloadN X3.here hx rfl (hb hby d_rm_sinit4_2_41) rfl rfl k) ?_
  refine own_by (fun _ k => XS.aload X3.here hx rfl (hb hby d_rm_sinit4_2_42) rfl rfl k) ?_
  refine own_by (fun _ k => XS.iloadN X3.here hx rfl (hb hby d_rm_sinit4_2_44) rfl k) ?_
  show own_Go p e below (T3.setTop (mkF m 45 #[.val (.ref t1), .val (.ref a1), .val (.int (0 : Int32)), .val (.int (2 : Int32)), .val .null, .val (.ref b_3)] [(.int (2 : Int32)), (.ref b_3), (.ref t1)])) _
  have O4 : Old Z n0 T3.heap := (O0.keep K3 all0)
  obtain ⟨_, _, ⟨T5, L5, k5, n5⟩, -, X5, ⟨Lc5, hQ5, l5, y5, z5⟩, st5⟩ := Jvm.LawKit.callS X3 hx (y := (⟨"java/lang/StringUTF16", "coderFromArrayLen", "([BI)B"⟩ : MethodName)) hown (mvT hZ (own_w hw 30 rfl)) (mvT hZ (own_w hw 31 rfl)) (mvT hZ (own_w hw 24 rfl)) (mvT hZ (own_w hw 32 rfl)) (by decide) (backOf (W := 1) (rm_cfal_2 l Z a0 hw [] b_3 kb_3 (own_b c1) (own_b c2) T3.heap n0 O4 g3_0) hZ (own_w hw 32 rfl) (own_w hw 24 rfl) (by decide) (by decide)) (g := (mkF m 45 #[.val (.ref t1), .val (.ref a1), .val (.int (0 : Int32)), .val (.int (2 : Int32)), .val .null, .val (.ref b_3)] [(.int (2 : Int32)), (.ref b_3), (.ref t1)])) rfl (by rw [hml]; rfl) (argsL := [(.ref b_3), (.int (2 : Int32))]) (rest := [(.ref t1)]) (lenOf own_pd__28_5bBI_29B rfl) rfl (by show 2 * 0 + _ ≤ _; exact Nat.le_of_eq rfl) (hb hby d_rm_sinit4_2_45) (fun _ _ => ⟨rfl, rfl, (by decide : 1 + 0 ≤ _), (by decide : 2 + 0 ≤ _)⟩)
  dsimp only [Pt.U, Pt.locs, Pt.cells, Pt.slots] at X5 l5 y5 z5 st5 hQ5
  subst l5 y5 z5
  obtain ⟨rfl, M5, K5⟩ := hQ5
  have N5 := Fr.app N3 M5
  refine own_by st5 ?_
  have fc6 : Fld Z T3.heap t1 "java/lang/String" "coder" "B" (.int (0 : Int32)) := (Fc.keep K3 nin0)
  have fc7 : Exa Z T3.heap t1 "java/lang/String" := (Et.keep K3)
  obtain ⟨T8, h8, X8, e8, W8, st8⟩ := putFN X5 hx hZ hown (own_w hw 33 rfl) Via.refl K5 fc6 fc7 (Or.inr ⟨(own_w hw 34 rfl), rfl, hnm⟩) (own_w hw 5 rfl) (ty := .byte) (v' := (.int (0 : Int32))) (by decide) rfl rfl (g := (mkF m 48 #[.val (.ref t1), .val (.ref a1), .val (.int (0 : Int32)), .val (.int (2 : Int32)), .val .null, .val (.ref b_3)] [(.int (0 : Int32)), (.ref t1)])) rfl rfl (hb hby d_rm_sinit4_2_48)
  refine own_by st8 ?_
  have z8 := W8.size
  have N8 := Fr.snoc X8 N5 (by omega)
  have Fw8 : Fld Z h8 t1 "java/lang/String" "coder" "B" (.int (0 : Int32)) := fc6.same W8
  refine own_by (fun _ k => XS.aloadN X8.here hx rfl (hb hby d_rm_sinit4_2_51) rfl rfl k) ?_
  refine own_by (fun _ k => XS.aload X8.here hx rfl (hb hby d_rm_sinit4_2_52) rfl rfl k) ?_
  show own_Go p e below (T8.setTop (mkF m 54 #[.val (.ref t1), .val (.ref a1), .val (.int (0 : Int32)), .val (.int (2 : Int32)), .val .null, .val (.ref b_3)] [(.ref b_3), (.ref t1)])) _
  have fc9 : Fld Z h8 t1 "java/lang/String" "value" "[B" .null := ((Fv.keep K3 nin0).other W8 (Or.inr (slot_ne (a0 := a0) (Or.inr (own_w hw 36 rfl)) (Or.inr (own_w hw 34 rfl)) (by decide) (t := (.array .byte)) (by decide) (t' := .byte) (by decide))))
  have fc10 : Exa Z h8 t1 "java/lang/String" := (fc7.wr W8)
  obtain ⟨T11, h11, X11, e11, W11, st11⟩ := putF X8 hx hZ hown (host := "") (Or.inl (own_w hw 35 rfl)) Via.refl e8 fc9 fc10 (Or.inr ⟨(own_w hw 36 rfl), rfl, hnm⟩) (own_w hw 5 rfl) (ty := (.array .byte)) (by decide) rfl rfl (g := (mkF m 54 #[.val (.ref t1), .val (.ref a1), .val (.int (0 : Int32)), .val (.int (2 : Int32)), .val .null, .val (.ref b_3)] [(.ref b_3), (.ref t1)])) rfl rfl (hb hby d_rm_sinit4_2_54)
  refine own_by st11 ?_
  have z11 := W11.size
  have N11 := Fr.snoc X11 N8 (by omega)
  have Fw11 : Fld Z h11 t1 "java/lang/String" "value" "[B" (.ref b_3) := fc9.same W11
  have fc12 : Exa Z h11 t1 "java/lang/String" := (fc10.wr W11)
  have fc13 : Fld Z h11 t1 "java/lang/String" "coder" "B" (.int (0 : Int32)) := (Fw8.other W11 (Or.inr (slot_ne (a0 := a0) (Or.inr (own_w hw 34 rfl)) (Or.inr (own_w hw 36 rfl)) (by decide) (t := .byte) (by decide) (t' := (.array .byte)) (by decide))))
  have fc14 : Arv Z h11 b_3 kb_3 .byte (2 : Int32) [(.int (own_b c1)), (.int (own_b c2))] (.int (0 : Int32)) := ((g3_0.other W8 (own_ne (by omega))).other W11 (own_ne (by omega)))
  have K15 : Keep h0 h11 [t1] := ((((Keep.refl h0 [t1]).trans K3 all0).wr W8 (Or.inl (List.mem_of_getElem? (i := 0) rfl))).wr W11 (Or.inl (List.mem_of_getElem? (i := 0) rfl)))
  obtain ⟨fs, hr, hrun, hended, hW, hsame⟩ := X11.leave (v := none) (fun h => rfl)
  refine ⟨_, _, X11.returnOut hx Bd.returns (hb hby d_rm_sinit4_2_57) hr, hrun, hended, _, _, rfl, ?_, ⟨_, rfl⟩, hW, hsame.mono (by decide) (by decide)⟩
  show Q_rm_sinit4_2 Z t1 a1 ka cs c1 c2 h0 n0 _ T11.heap _
  rw [e11]
  exact ⟨b_3, kb_3, rfl, N11, K15, fc12, fc13, Fw11, fc14, (by first | assumption | omega)⟩
theorem d_rm_sinit_2_0 : decode jdk_42_method_3_code 0 = .ok (.aload_n 0, 1) := by decide +kernel
theorem d_rm_sinit_2_1 : decode jdk_42_method_3_code 1 = .ok (.aload_n 1, 1) := by decide +kernel
theorem d_rm_sinit_2_2 : decode jdk_42_method_3_code 2 = .ok (.iconst 0, 1) := by decide +kernel
theorem d_rm_sinit_2_3 : decode jdk_42_method_3_code 3 = .ok (.aload_n 1, 1) := by decide +kernel
theorem d_rm_sinit_2_4 : decode jdk_42_method_3_code 4 = .ok (.arraylength, 1) := by decide +kernel
theorem d_rm_sinit_2_5 : decode jdk_42_method_3_code 5 = .ok (.aconst_null, 1) := by decide +kernel
theorem d_rm_sinit_2_6 : decode jdk_42_method_3_code 6 = .ok (.invokespecial 27, 3) := by decide +kernel
theorem d_rm_sinit_2_9 : decode jdk_42_method_3_code 9 = .ok (.return_, 1) := by decide +kernel
def Q_rm_sinit_2 (Z : State) (t1 : Addr) (a1 : Addr) (ka : ClassId) (cs : Int32) (c1 : Int32) (c2 : Int32) (h0 : Heap) (n0 : Nat) (v : Option Value) (h : Heap) (L : List Loc) : Prop := ∃ (b : Addr), ∃ (kb : ClassId), v = none ∧ Fr n0 L ∧ Keep h0 h [t1] ∧ Exa Z h t1 "java/lang/String" ∧ Fld Z h t1 "java/lang/String" "coder" "B" (.int (0 : Int32)) ∧ Fld Z h t1 "java/lang/String" "value" "[B" (.ref b) ∧ Arv Z h b kb .byte (2 : Int32) [(.int (own_b c1)), (.int (own_b c2))] (.int (0 : Int32)) ∧ h0.size ≤ b
theorem ef_rm_sinit_2 (m : MethodId) (t1 : Addr) (a1 : Addr) (ka : ClassId) (cs : Int32) (c1 : Int32) (c2 : Int32) : entryFrame m #[(.ref t1), (.ref a1)] 2 = mkF m 0 #[.val (.ref t1), .val (.ref a1)] [] := by first | (simp [entryFrame, mkF, argsToLocals, Value.category]; done) | rfl
set_option maxRecDepth 65536 in
set_option maxHeartbeats 40000000 in
theorem rm_sinit_2 (l : Launch) (Z : State) (a0 : Array Value) (hw : ∀ d ∈ tables_1, d.before a0 Z = true) (ws : List Jvm.Cond) (t1 : Addr) (a1 : Addr) (ka : ClassId) (cs : Int32) (c1 : Int32) (c2 : Int32) (h0 : Heap) (n0 : Nat) (O0 : Old Z n0 h0) (S_COMPACT : Sta Z Z.heap "java/lang/String" "COMPACT_STRINGS" "Z" (.int cs)) (Et : Exa Z h0 t1 "java/lang/String") (Fv : Fld Z h0 t1 "java/lang/String" "value" "[B" .null) (Fc : Fld Z h0 t1 "java/lang/String" "coder" "B" (.int (0 : Int32))) (Va : Arv Z h0 a1 ka .char (2 : Int32) [(.int c1), (.int c2)] (.int (0 : Int32))) (rc1 : ¬ ((255 : Int32) < c1)) (rc2 : ¬ ((255 : Int32) < c2)) (gt : n0 ≤ t1) (hcs : ¬ (cs = (0 : Int32))) (nta : ¬ (@Eq Nat a1 t1)) :
    MetFree l (⟨"java/lang/String", "<init>", "([C)V"⟩ : MethodName) (head1 (Jvm.Cond.code (⟨"java/lang/String", "<init>", "([C)V"⟩ : MethodName) jdk_42_method_3_code 2 none :: ws) ({ frames := 3, cells := 1, slots := 2, locals := 52 } : Room)) (fun a U => a = #[(.ref t1), (.ref a1)] ∧ Z.Warmed39 U.vm ∧ U.heap = h0) (fun _ _ _ _ _ => True) (fun _ U o U' => ∃ v L, o = .returned v ∧ Q_rm_sinit_2 Z t1 a1 ka cs c1 c2 h0 n0 v U'.heap L ∧ FrameEnd U o U' L ({ frames := 3, cells := 1, slots := 2, locals := 52 } : Room).cells ({ frames := 3, cells := 1, slots := 2, locals := 52 } : Room).slots) := by
  refine MetFree.of_bodySF (plainFor_of_name own_pn_java_lang_String) hisR ?_
  intro p e s m args below meth c s₁ Bd hml0 hP hK
  obtain ⟨rfl, hZ, hh⟩ := hP
  have hx := Bd.exec
  have hby := Bd.bytes
  have hml : c.maxLocals = 2 := hml0
  have hown : s.vm.findClass "java/lang/String" = some m.cls := findClass_of_methodNamed Bd.named
  have hnm := (name_of_methodNamed Bd.named Bd.method).1
  have X0 : Stand p l e ({ frames := 3, cells := 1, slots := 2, locals := 52 } : Room) s m #[(.ref t1), (.ref a1)] below meth c s₁ [] 0 0 := Stand.of_body Bd
  have e0 : s₁.heap = h0 := by rw [← hh, Bd.state]; rfl
  have N0 := Fr.nil n0
  have Z0 : n0 ≤ h0.size := by rw [← O0.1]; exact O0.2.1
  show own_Go p e below (s₁.setTop (entryFrame m #[(.ref t1), (.ref a1)] 2)) (fun t o => ∃ v L, o = .returned v ∧ Q_rm_sinit_2 Z t1 a1 ka cs c1 c2 h0 n0 v t.heap L ∧ FrameEnd s o t L ({ frames := 3, cells := 1, slots := 2, locals := 52 } : Room).cells ({ frames := 3, cells := 1, slots := 2, locals := 52 } : Room).slots)
  rw [ef_rm_sinit_2 m t1 a1 ka cs c1 c2]
  have lt_Et : h0.size > t1 := Et.lt
  have lt_Fv : h0.size > t1 := Fv.lt
  have lt_Fc : h0.size > t1 := Fc.lt
  have lt_Va : h0.size > a1 := Va.lt
  refine own_by (fun _ k => XS.aloadN X0.here hx rfl (hb hby d_rm_sinit_2_0) rfl rfl k) ?_
  refine own_by (fun _ k => XS.aloadN X0.here hx rfl (hb hby d_rm_sinit_2_1) rfl rfl k) ?_
  refine own_by (fun _ k => XS.iconst X0.here hx rfl (hb hby d_rm_sinit_2_2) k) ?_
  refine own_by (fun _ k => XS.aloadN X0.here hx rfl (hb hby d_rm_sinit_2_3) rfl rfl k) ?_
  show own_Go p e below (s₁.setTop (mkF m 4 #[.val (.ref t1), .val (.ref a1)] [(.ref a1), (.int (0 : Int32)), (.ref a1), (.ref t1)])) _
  obtain ⟨cl1, Ar1, q1, S1, M1, H1, G1⟩ := (id Va)
  refine own_by (X0.arraylength hx (by rw [e0]; exact Ar1.1) (State.isArrayOf_alike hZ.alike Ar1.2.1) (g := (mkF m 4 #[.val (.ref t1), .val (.ref a1)] [(.ref a1), (.int (0 : Int32)), (.ref a1), (.ref t1)])) rfl rfl (hb hby d_rm_sinit_2_4)) ?_
  rw [len_of S1 M1]
  refine own_by (fun _ k => XS.aconstNull X0.here hx rfl (hb hby d_rm_sinit_2_5) k) ?_
  obtain ⟨_, _, ⟨T2, L2, k2, n2⟩, -, X2, ⟨Lc2, hQ2, l2, y2, z2⟩, st2⟩ := X0.specialBack hx (y := (⟨"java/lang/String", "<init>", "([CIILjava/lang/Void;)V"⟩ : MethodName)) rfl hown (mvT hZ (own_w hw 14 rfl)) (mvT hZ (own_w hw 15 rfl)) (mvT hZ (own_w hw 17 rfl)) (by decide) (backOf (W := 0) (rm_sinit4_2 l Z a0 hw [] t1 a1 ka cs c1 c2 h0 n0 O0 S_COMPACT Et Fv Fc Va rc1 rc2 gt hcs nta) hZ (own_w hw 17 rfl) (own_w hw 6 rfl) (by decide) (by decide)) (g := (mkF m 6 #[.val (.ref t1), .val (.ref a1)] [.null, (.int (2 : Int32)), (.int (0 : Int32)), (.ref a1), (.ref t1)])) rfl (by rw [hml]; rfl) (Steps.refl _) (a := t1) (argsL := [(.ref a1), (.int (0 : Int32)), (.int (2 : Int32)), .null]) (rest := []) (lenOf own_pd__28_5bCIILjava_2flang_2fVoid_3b_29V rfl) rfl (by show 2 * 0 + _ ≤ _; exact Nat.le_of_eq rfl) (hb hby d_rm_sinit_2_6) (fun _ _ => ⟨rfl, e0, (by decide : 0 + 1 ≤ _), (by decide : 0 + 2 ≤ _)⟩)
  dsimp only [Pt.U, Pt.locs, Pt.cells, Pt.slots] at X2 l2 y2 z2 st2 hQ2
  subst l2 y2 z2
  obtain ⟨b_2, kb_2, rfl, M2, K2, g2_0, g2_1, g2_2, g2_3, r2_0⟩ := hQ2
  have N2 := Fr.app N0 M2
  refine own_by (fun _ k => st2.trans k) ?_
  have z2 := K2.1
  have lt_g2_0 : T2.heap.size > t1 := g2_0.lt
  have lt_g2_1 : T2.heap.size > t1 := g2_1.lt
  have lt_g2_2 : T2.heap.size > t1 := g2_2.lt
  have lt_g2_3 : T2.heap.size > b_2 := g2_3.lt
  have K3 : Keep h0 T2.heap [t1] := ((Keep.refl h0 [t1]).trans K2 (allS (P := fun x => x ∈ [t1] ∨ h0.size ≤ x) (Or.inl (List.mem_of_getElem? (i := 0) rfl)) all0))
  obtain ⟨fs, hr, hrun, hended, hW, hsame⟩ := X2.leave (v := none) (fun h => rfl)
  refine ⟨_, _, X2.returnOut hx Bd.returns (hb hby d_rm_sinit_2_9) hr, hrun, hended, _, _, rfl, ?_, ⟨_, rfl⟩, hW, hsame.mono (by decide) (by decide)⟩
  show Q_rm_sinit_2 Z t1 a1 ka cs c1 c2 h0 n0 _ T2.heap _
  exact ⟨b_2, kb_2, rfl, N2, K3, g2_0, g2_1, g2_2, g2_3, (by first | assumption | omega)⟩
theorem d_rm_comp5_3_0 : decode jdk_52_method_21_code 0 = .ok (.iconst 0, 1) := by decide +kernel
theorem d_rm_comp5_3_1 : decode jdk_52_method_21_code 1 = .ok (.istore 5, 2) := by decide +kernel
theorem d_rm_comp5_3_3 : decode jdk_52_method_21_code 3 = .ok (.iload 5, 2) := by decide +kernel
theorem d_rm_comp5_3_5 : decode jdk_52_method_21_code 5 = .ok (.iload 4, 2) := by decide +kernel
theorem d_rm_comp5_3_7 : decode jdk_52_method_21_code 7 = .ok (.if_icmp .ge 37, 3) := by decide +kernel
theorem d_rm_comp5_3_10 : decode jdk_52_method_21_code 10 = .ok (.aload_n 0, 1) := by decide +kernel
theorem d_rm_comp5_3_11 : decode jdk_52_method_21_code 11 = .ok (.iload_n 1, 1) := by decide +kernel
theorem d_rm_comp5_3_12 : decode jdk_52_method_21_code 12 = .ok (.caload, 1) := by decide +kernel
theorem d_rm_comp5_3_13 : decode jdk_52_method_21_code 13 = .ok (.istore 6, 2) := by decide +kernel
theorem d_rm_comp5_3_15 : decode jdk_52_method_21_code 15 = .ok (.iload 6, 2) := by decide +kernel
theorem d_rm_comp5_3_17 : decode jdk_52_method_21_code 17 = .ok (.sipush 255, 3) := by decide +kernel
theorem d_rm_comp5_3_20 : decode jdk_52_method_21_code 20 = .ok (.if_icmp .le 6, 3) := by decide +kernel
theorem d_rm_comp5_3_26 : decode jdk_52_method_21_code 26 = .ok (.aload_n 2, 1) := by decide +kernel
theorem d_rm_comp5_3_27 : decode jdk_52_method_21_code 27 = .ok (.iload_n 3, 1) := by decide +kernel
theorem d_rm_comp5_3_28 : decode jdk_52_method_21_code 28 = .ok (.iload 6, 2) := by decide +kernel
theorem d_rm_comp5_3_30 : decode jdk_52_method_21_code 30 = .ok (.i2b, 1) := by decide +kernel
theorem d_rm_comp5_3_31 : decode jdk_52_method_21_code 31 = .ok (.bastore, 1) := by decide +kernel
theorem d_rm_comp5_3_32 : decode jdk_52_method_21_code 32 = .ok (.iinc 1 1, 3) := by decide +kernel
theorem d_rm_comp5_3_35 : decode jdk_52_method_21_code 35 = .ok (.iinc 3 1, 3) := by decide +kernel
theorem d_rm_comp5_3_38 : decode jdk_52_method_21_code 38 = .ok (.iinc 5 1, 3) := by decide +kernel
theorem d_rm_comp5_3_41 : decode jdk_52_method_21_code 41 = .ok (.goto (-38), 3) := by decide +kernel
theorem d_rm_comp5_3_44 : decode jdk_52_method_21_code 44 = .ok (.iload 4, 2) := by decide +kernel
theorem d_rm_comp5_3_46 : decode jdk_52_method_21_code 46 = .ok (.ireturn, 1) := by decide +kernel
def Q_rm_comp5_3 (Z : State) (a1 : Addr) (b : Addr) (ka : ClassId) (kb : ClassId) (c1 : Int32) (c2 : Int32) (c3 : Int32) (h0 : Heap) (n0 : Nat) (v : Option Value) (h : Heap) (L : List Loc) : Prop := v = some (.int (3 : Int32)) ∧ Fr n0 L ∧ Keep h0 h [b] ∧ Arv Z h b kb .byte (3 : Int32) [(.int (own_b c1)), (.int (own_b c2)), (.int (own_b c3))] (.int (0 : Int32))
theorem ef_rm_comp5_3 (m : MethodId) (a1 : Addr) (b : Addr) (ka : ClassId) (kb : ClassId) (c1 : Int32) (c2 : Int32) (c3 : Int32) : entryFrame m #[(.ref a1), (.int (0 : Int32)), (.ref b), (.int (0 : Int32)), (.int (3 : Int32))] 7 = mkF m 0 #[.val (.ref a1), .val (.int (0 : Int32)), .val (.ref b), .val (.int (0 : Int32)), .val (.int (3 : Int32)), .unset, .unset] [] := by first | (simp [entryFrame, mkF, argsToLocals, Value.category]; done) | rfl
set_option maxRecDepth 65536 in
set_option maxHeartbeats 40000000 in
theorem rm_comp5_3 (l : Launch) (Z : State) (a0 : Array Value) (hw : ∀ d ∈ tables_1, d.before a0 Z = true) (ws : List Jvm.Cond) (a1 : Addr) (b : Addr) (ka : ClassId) (kb : ClassId) (c1 : Int32) (c2 : Int32) (c3 : Int32) (h0 : Heap) (n0 : Nat) (O0 : Old Z n0 h0) (Va : Arv Z h0 a1 ka .char (3 : Int32) [(.int c1), (.int c2), (.int c3)] (.int (0 : Int32))) (Vb : Arv Z h0 b kb .byte (3 : Int32) [] (.int (0 : Int32))) (rc1 : ¬ ((255 : Int32) < c1)) (rc2 : ¬ ((255 : Int32) < c2)) (rc3 : ¬ ((255 : Int32) < c3)) (gb : n0 ≤ b) (nab : ¬ (@Eq Nat a1 b)) :
    MetFree l (⟨"java/lang/StringUTF16", "compress", "([CI[BII)I"⟩ : MethodName) (head1 (Jvm.Cond.code (⟨"java/lang/StringUTF16", "compress", "([CI[BII)I"⟩ : MethodName) jdk_52_method_21_code 7 (some .int) :: ws) ({ frames := 0, cells := 0, slots := 0, locals := 0 } : Room)) (fun a U => a = #[(.ref a1), (.int (0 : Int32)), (.ref b), (.int (0 : Int32)), (.int (3 : Int32))] ∧ Z.Warmed39 U.vm ∧ U.heap = h0) (fun _ _ _ _ _ => True) (fun _ U o U' => ∃ v L, o = .returned v ∧ Q_rm_comp5_3 Z a1 b ka kb c1 c2 c3 h0 n0 v U'.heap L ∧ FrameEnd U o U' L ({ frames := 0, cells := 0, slots := 0, locals := 0 } : Room).cells ({ frames := 0, cells := 0, slots := 0, locals := 0 } : Room).slots) := by
  refine MetFree.of_bodySF (plainFor_of_name own_pn_java_lang_StringUTF16) hisR ?_
  intro p e s m args below meth c s₁ Bd hml0 hP hK
  obtain ⟨rfl, hZ, hh⟩ := hP
  have hx := Bd.exec
  have hby := Bd.bytes
  have hml : c.maxLocals = 7 := hml0
  have hown : s.vm.findClass "java/lang/StringUTF16" = some m.cls := findClass_of_methodNamed Bd.named
  have hnm := (name_of_methodNamed Bd.named Bd.method).1
  have X0 : Stand p l e ({ frames := 0, cells := 0, slots := 0, locals := 0 } : Room) s m #[(.ref a1), (.int (0 : Int32)), (.ref b), (.int (0 : Int32)), (.int (3 : Int32))] below meth c s₁ [] 0 0 := Stand.of_body Bd
  have e0 : s₁.heap = h0 := by rw [← hh, Bd.state]; rfl
  have N0 := Fr.nil n0
  have Z0 : n0 ≤ h0.size := by rw [← O0.1]; exact O0.2.1
  show own_Go p e below (s₁.setTop (entryFrame m #[(.ref a1), (.int (0 : Int32)), (.ref b), (.int (0 : Int32)), (.int (3 : Int32))] 7)) (fun t o => ∃ v L, o = .returned v ∧ Q_rm_comp5_3 Z a1 b ka kb c1 c2 c3 h0 n0 v t.heap L ∧ FrameEnd s o t L ({ frames := 0, cells := 0, slots := 0, locals := 0 } : Room).cells ({ frames := 0, cells := 0, slots := 0, locals := 0 } : Room).slots)
  rw [ef_rm_comp5_3 m a1 b ka kb c1 c2 c3]
  have lt_Va : h0.size > a1 := Va.lt
  have lt_Vb : h0.size > b := Vb.lt
  refine own_by (fun _ k => XS.iconst X0.here hx rfl (hb hby d_rm_comp5_3_0) k) ?_
  refine own_by (fun _ k => XS.istore X0.here hx rfl (hb hby d_rm_comp5_3_1) rfl (l' := #[.val (.ref a1), .val (.int (0 : Int32)), .val (.ref b), .val (.int (0 : Int32)), .val (.int (3 : Int32)), .val (.int (0 : Int32)), .unset]) rfl k) ?_
  refine own_by (fun _ k => XS.iload X0.here hx rfl (hb hby d_rm_comp5_3_3) rfl k) ?_
  refine own_by (fun _ k => XS.iload X0.here hx rfl (hb hby d_rm_comp5_3_5) rfl k) ?_
  show own_Go p e below (s₁.setTop (mkF m 7 #[.val (.ref a1), .val (.int (0 : Int32)), .val (.ref b), .val (.int (0 : Int32)), .val (.int (3 : Int32)), .val (.int (0 : Int32)), .unset] [(.int (3 : Int32)), (.int (0 : Int32))])) _
  refine own_by (fun _ k => XS.icmpNo X0.here hx rfl (hb hby d_rm_comp5_3_7) rfl (tlt (by decide : (0 : Int32) < (3 : Int32))).2.1 k) ?_
  show own_Go p e below (s₁.setTop (mkF m 10 #[.val (.ref a1), .val (.int (0 : Int32)), .val (.ref b), .val (.int (0 : Int32)), .val (.int (3 : Int32)), .val (.int (0 : Int32)), .unset] [])) _
  refine own_by (fun _ k => XS.aloadN X0.here hx rfl (hb hby d_rm_comp5_3_10) rfl rfl k) ?_
  refine own_by (fun _ k => XS.iloadN X0.here hx rfl (hb hby d_rm_comp5_3_11) rfl k) ?_
  obtain ⟨cl1, Ar1, q1, S1, M1, H1, G1⟩ := (id Va)
  have hin1 : ¬ ((0 : Int32) < 0 ∨ cl1.slots.size ≤ ((0 : Int32)).toNatClampNeg) := inb_of S1 ⟨by decide, by decide⟩
  refine own_by (X0.caload hx (j := (0 : Int32)) (v := (.int c1)) (by rw [e0]; exact Ar1.1) (State.isArrayOf_alike hZ.alike Ar1.2.1) Ar1.2.2 hin1 (H1.at hin1 rfl) (g := (mkF m 12 #[.val (.ref a1), .val (.int (0 : Int32)), .val (.ref b), .val (.int (0 : Int32)), .val (.int (3 : Int32)), .val (.int (0 : Int32)), .unset] [(.int (0 : Int32)), (.ref a1)])) rfl rfl (hb hby d_rm_comp5_3_12)) ?_
  refine own_by (fun _ k => XS.istore X0.here hx rfl (hb hby d_rm_comp5_3_13) rfl (l' := #[.val (.ref a1), .val (.int (0 : Int32)), .val (.ref b), .val (.int (0 : Int32)), .val (.int (3 : Int32)), .val (.int (0 : Int32)), .val (.int c1)]) rfl k) ?_
  show own_Go p e below (s₁.setTop (mkF m 15 #[.val (.ref a1), .val (.int (0 : Int32)), .val (.ref b), .val (.int (0 : Int32)), .val (.int (3 : Int32)), .val (.int (0 : Int32)), .val (.int c1)] [])) _
  refine own_by (fun _ k => XS.iload X0.here hx rfl (hb hby d_rm_comp5_3_15) rfl k) ?_
  refine own_by (fun _ k => XS.sipush X0.here hx rfl (hb hby d_rm_comp5_3_17) k) ?_
  refine own_by (fun _ k => XS.icmpYes X0.here hx rfl (pc0 := 20) (pc' := 26) rfl (hb hby d_rm_comp5_3_20) rfl (flt rc1).2.2.2 (by decide) (by decide) k) ?_
  show own_Go p e below (s₁.setTop (mkF m 26 #[.val (.ref a1), .val (.int (0 : Int32)), .val (.ref b), .val (.int (0 : Int32)), .val (.int (3 : Int32)), .val (.int (0 : Int32)), .val (.int c1)] [])) _
  refine own_by (fun _ k => XS.aloadN X0.here hx rfl (hb hby d_rm_comp5_3_26) rfl rfl k) ?_
  refine own_by (fun _ k => XS.iloadN X0.here hx rfl (hb hby d_rm_comp5_3_27) rfl k) ?_
  refine own_by (fun _ k => XS.iload X0.here hx rfl (hb hby d_rm_comp5_3_28) rfl k) ?_
  refine own_by (fun _ k => XS.i2b X0.here hx rfl (hb hby d_rm_comp5_3_30) rfl k) ?_
  show own_Go p e below (s₁.setTop (mkF m 31 #[.val (.ref a1), .val (.int (0 : Int32)), .val (.ref b), .val (.int (0 : Int32)), .val (.int (3 : Int32)), .val (.int (0 : Int32)), .val (.int c1)] [(.int (c1.toInt8.toInt32)), (.int (0 : Int32)), (.ref b)])) _
  have Vw2 : Arv Z h0 b kb .byte (3 : Int32) [(.int (0 : Int32))] (.int (0 : Int32)) := Vb.pad (pad_rep [] (.int (0 : Int32)) 1)
  obtain ⟨cl3, Ar3, q3, S3, M3, H3, G3⟩ := (id Vw2)
  have hin3 : ¬ ((0 : Int32) < 0 ∨ cl3.slots.size ≤ ((0 : Int32)).toNatClampNeg) := inb_of S3 ⟨by decide, by decide⟩
  obtain ⟨T3, h3, X3, e3, W3, st3⟩ := stB X0 hx hZ e0 Ar3 (j := (0 : Int32)) hin3 (g := (mkF m 31 #[.val (.ref a1), .val (.int (0 : Int32)), .val (.ref b), .val (.int (0 : Int32)), .val (.int (3 : Int32)), .val (.int (0 : Int32)), .val (.int c1)] [(.int (c1.toInt8.toInt32)), (.int (0 : Int32)), (.ref b)])) rfl rfl (hb hby d_rm_comp5_3_31)
  refine own_by st3 ?_
  have z3 := W3.size
  have N3 := Fr.snoc X3 N0 (by omega)
  have Vw3 : Arv Z h3 b kb .byte (3 : Int32) [(.int (own_b c1))] (.int (0 : Int32)) := Arv.set Ar3 q3 S3 M3 H3 G3 (fits_nar_byte2 _) W3 0 rfl (Nat.le_of_ble_eq_true rfl)
  refine own_by (fun _ k => XS.iinc X3.here hx rfl (hb hby d_rm_comp5_3_32) rfl (l' := #[.val (.ref a1), .val (.int (1 : Int32)), .val (.ref b), .val (.int (0 : Int32)), .val (.int (3 : Int32)), .val (.int (0 : Int32)), .val (.int c1)]) rfl k) ?_
  refine own_by (fun _ k => XS.iinc X3.here hx rfl (hb hby d_rm_comp5_3_35) rfl (l' := #[.val (.ref a1), .val (.int (1 : Int32)), .val (.ref b), .val (.int (1 : Int32)), .val (.int (3 : Int32)), .val (.int (0 : Int32)), .val (.int c1)]) rfl k) ?_
  refine own_by (fun _ k => XS.iinc X3.here hx rfl (hb hby d_rm_comp5_3_38) rfl (l' := #[.val (.ref a1), .val (.int (1 : Int32)), .val (.ref b), .val (.int (1 : Int32)), .val (.int (3 : Int32)), .val (.int (1 : Int32)), .val (.int c1)]) rfl k) ?_
  show own_Go p e below (T3.setTop (mkF m 41 #[.val (.ref a1), .val (.int (1 : Int32)), .val (.ref b), .val (.int (1 : Int32)), .val (.int (3 : Int32)), .val (.int (1 : Int32)), .val (.int c1)] [])) _
  refine own_by (fun _ k => XS.goto X3.here hx rfl (pc0 := 41) (pc' := 3) rfl (hb hby d_rm_comp5_3_41) (by decide) (by decide) k) ?_
  refine own_by (fun _ k => XS.iload X3.here hx rfl (hb hby d_rm_comp5_3_3) rfl k) ?_
  refine own_by (fun _ k => XS.iload X3.here hx rfl (hb hby d_rm_comp5_3_5) rfl k) ?_
  refine own_by (fun _ k => XS.icmpNo X3.here hx rfl (hb hby d_rm_comp5_3_7) rfl (tlt (by decide : (1 : Int32) < (3 : Int32))).2.1 k) ?_
  show own_Go p e below (T3.setTop (mkF m 10 #[.val (.ref a1), .val (.int (1 : Int32)), .val (.ref b), .val (.int (1 : Int32)), .val (.int (3 : Int32)), .val (.int (1 : Int32)), .val (.int c1)] [])) _
  refine own_by (fun _ k => XS.aloadN X3.here hx rfl (hb hby d_rm_comp5_3_10) rfl rfl k) ?_
  refine own_by (fun _ k => XS.iloadN X3.here hx rfl (hb hby d_rm_comp5_3_11) rfl k) ?_
  have fc4 : Arv Z h3 a1 ka .char (3 : Int32) [(.int c1), (.int c2), (.int c3)] (.int (0 : Int32)) := (Va.other W3 (own_ne (by omega)))
  obtain ⟨cl5, Ar5, q5, S5, M5, H5, G5⟩ := (id fc4)
  have hin5 : ¬ ((1 : Int32) < 0 ∨ cl5.slots.size ≤ ((1 : Int32)).toNatClampNeg) := inb_of S5 ⟨by decide, by decide⟩
  refine own_by (X3.caload hx (j := (1 : Int32)) (v := (.int c2)) (by rw [e3]; exact Ar5.1) (State.isArrayOf_alike hZ.alike Ar5.2.1) Ar5.2.2 hin5 (H5.at hin5 rfl) (g := (mkF m 12 #[.val (.ref a1), .val (.int (1 : Int32)), .val (.ref b), .val (.int (1 : Int32)), .val (.int (3 : Int32)), .val (.int (1 : Int32)), .val (.int c1)] [(.int (1 : Int32)), (.ref a1)])) rfl rfl (hb hby d_rm_comp5_3_12)) ?_
  refine own_by (fun _ k => XS.istore X3.here hx rfl (hb hby d_rm_comp5_3_13) rfl (l' := #[.val (.ref a1), .val (.int (1 : Int32)), .val (.ref b), .val (.int (1 : Int32)), .val (.int (3 : Int32)), .val (.int (1 : Int32)), .val (.int c2)]) rfl k) ?_
  show own_Go p e below (T3.setTop (mkF m 15 #[.val (.ref a1), .val (.int (1 : Int32)), .val (.ref b), .val (.int (1 : Int32)), .val (.int (3 : Int32)), .val (.int (1 : Int32)), .val (.int c2)] [])) _
  refine own_by (fun _ k => XS.iload X3.here hx rfl (hb hby d_rm_comp5_3_15) rfl k) ?_
  refine own_by (fun _ k => XS.sipush X3.here hx rfl (hb hby d_rm_comp5_3_17) k) ?_
  refine own_by (fun _ k => XS.icmpYes X3.here hx rfl (pc0 := 20) (pc' := 26) rfl (hb hby d_rm_comp5_3_20) rfl (flt rc2).2.2.2 (by decide) (by decide) k) ?_
  show own_Go p e below (T3.setTop (mkF m 26 #[.val (.ref a1), .val (.int (1 : Int32)), .val (.ref b), .val (.int (1 : Int32)), .val (.int (3 : Int32)), .val (.int (1 : Int32)), .val (.int c2)] [])) _
  refine own_by (fun _ k => XS.aloadN X3.here hx rfl (hb hby d_rm_comp5_3_26) rfl rfl k) ?_
  refine own_by (fun _ k => XS.iloadN X3.here hx rfl (hb hby d_rm_comp5_3_27) rfl k) ?_
  refine own_by (fun _ k => XS.iload X3.here hx rfl (hb hby d_rm_comp5_3_28) rfl k) ?_
  refine own_by (fun _ k => XS.i2b X3.here hx rfl (hb hby d_rm_comp5_3_30) rfl k) ?_
  show own_Go p e below (T3.setTop (mkF m 31 #[.val (.ref a1), .val (.int (1 : Int32)), .val (.ref b), .val (.int (1 : Int32)), .val (.int (3 : Int32)), .val (.int (1 : Int32)), .val (.int c2)] [(.int (c2.toInt8.toInt32)), (.int (1 : Int32)), (.ref b)])) _
  have Vw6 : Arv Z h3 b kb .byte (3 : Int32) [(.int (own_b c1)), (.int (0 : Int32))] (.int (0 : Int32)) := Vw3.pad (pad_rep [(.int (own_b c1))] (.int (0 : Int32)) 1)
  obtain ⟨cl7, Ar7, q7, S7, M7, H7, G7⟩ := (id Vw6)
  have hin7 : ¬ ((1 : Int32) < 0 ∨ cl7.slots.size ≤ ((1 : Int32)).toNatClampNeg) := inb_of S7 ⟨by decide, by decide⟩
  obtain ⟨T7, h7, X7, e7, W7, st7⟩ := stB X3 hx hZ e3 Ar7 (j := (1 : Int32)) hin7 (g := (mkF m 31 #[.val (.ref a1), .val (.int (1 : Int32)), .val (.ref b), .val (.int (1 : Int32)), .val (.int (3 : Int32)), .val (.int (1 : Int32)), .val (.int c2)] [(.int (c2.toInt8.toInt32)), (.int (1 : Int32)), (.ref b)])) rfl rfl (hb hby d_rm_comp5_3_31)
  refine own_by st7 ?_
  have z7 := W7.size
  have N7 := Fr.snoc X7 N3 (by omega)
  have Vw7 : Arv Z h7 b kb .byte (3 : Int32) [(.int (own_b c1)), (.int (own_b c2))] (.int (0 : Int32)) := Arv.set Ar7 q7 S7 M7 H7 G7 (fits_nar_byte2 _) W7 1 rfl (Nat.le_of_ble_eq_true rfl)
  refine own_by (fun _ k => XS.iinc X7.here hx rfl (hb hby d_rm_comp5_3_32) rfl (l' := #[.val (.ref a1), .val (.int (2 : Int32)), .val (.ref b), .val (.int (1 : Int32)), .val (.int (3 : Int32)), .val (.int (1 : Int32)), .val (.int c2)]) rfl k) ?_
  refine own_by (fun _ k => XS.iinc X7.here hx rfl (hb hby d_rm_comp5_3_35) rfl (l' := #[.val (.ref a1), .val (.int (2 : Int32)), .val (.ref b), .val (.int (2 : Int32)), .val (.int (3 : Int32)), .val (.int (1 : Int32)), .val (.int c2)]) rfl k) ?_
  refine own_by (fun _ k => XS.iinc X7.here hx rfl (hb hby d_rm_comp5_3_38) rfl (l' := #[.val (.ref a1), .val (.int (2 : Int32)), .val (.ref b), .val (.int (2 : Int32)), .val (.int (3 : Int32)), .val (.int (2 : Int32)), .val (.int c2)]) rfl k) ?_
  show own_Go p e below (T7.setTop (mkF m 41 #[.val (.ref a1), .val (.int (2 : Int32)), .val (.ref b), .val (.int (2 : Int32)), .val (.int (3 : Int32)), .val (.int (2 : Int32)), .val (.int c2)] [])) _
  refine own_by (fun _ k => XS.goto X7.here hx rfl (pc0 := 41) (pc' := 3) rfl (hb hby d_rm_comp5_3_41) (by decide) (by decide) k) ?_
  refine own_by (fun _ k => XS.iload X7.here hx rfl (hb hby d_rm_comp5_3_3) rfl k) ?_
  refine own_by (fun _ k => XS.iload X7.here hx rfl (hb hby d_rm_comp5_3_5) rfl k) ?_
  refine own_by (fun _ k => XS.icmpNo X7.here hx rfl (hb hby d_rm_comp5_3_7) rfl (tlt (by decide : (2 : Int32) < (3 : Int32))).2.1 k) ?_
  show own_Go p e below (T7.setTop (mkF m 10 #[.val (.ref a1), .val (.int (2 : Int32)), .val (.ref b), .val (.int (2 : Int32)), .val (.int (3 : Int32)), .val (.int (2 : Int32)), .val (.int c2)] [])) _
  refine own_by (fun _ k => XS.aloadN X7.here hx rfl (hb hby d_rm_comp5_3_10) rfl rfl k) ?_
  refine own_by (fun _ k => XS.iloadN X7.here hx rfl (hb hby d_rm_comp5_3_11) rfl k) ?_
  have fc8 : Arv Z h7 a1 ka .char (3 : Int32) [(.int c1), (.int c2), (.int c3)] (.int (0 : Int32)) := (fc4.other W7 (own_ne (by omega)))
  obtain ⟨cl9, Ar9, q9, S9, M9, H9, G9⟩ := (id fc8)
  have hin9 : ¬ ((2 : Int32) < 0 ∨ cl9.slots.size ≤ ((2 : Int32)).toNatClampNeg) := inb_of S9 ⟨by decide, by decide⟩
  refine own_by (X7.caload hx (j := (2 : Int32)) (v := (.int c3)) (by rw [e7]; exact Ar9.1) (State.isArrayOf_alike hZ.alike Ar9.2.1) Ar9.2.2 hin9 (H9.at hin9 rfl) (g := (mkF m 12 #[.val (.ref a1), .val (.int (2 : Int32)), .val (.ref b), .val (.int (2 : Int32)), .val (.int (3 : Int32)), .val (.int (2 : Int32)), .val (.int c2)] [(.int (2 : Int32)), (.ref a1)])) rfl rfl (hb hby d_rm_comp5_3_12)) ?_
  refine own_by (fun _ k => XS.istore X7.here hx rfl (hb hby d_rm_comp5_3_13) rfl (l' := #[.val (.ref a1), .val (.int (2 : Int32)), .val (.ref b), .val (.int (2 : Int32)), .val (.int (3 : Int32)), .val (.int (2 : Int32)), .val (.int c3)]) rfl k) ?_
  show own_Go p e below (T7.setTop (mkF m 15 #[.val (.ref a1), .val (.int (2 : Int32)), .val (.ref b), .val (.int (2 : Int32)), .val (.int (3 : Int32)), .val (.int (2 : Int32)), .val (.int c3)] [])) _
  refine own_by (fun _ k => XS.iload X7.here hx rfl (hb hby d_rm_comp5_3_15) rfl k) ?_
  refine own_by (fun _ k => XS.sipush X7.here hx rfl (hb hby d_rm_comp5_3_17) k) ?_
  refine own_by (fun _ k => XS.icmpYes X7.here hx rfl (pc0 := 20) (pc' := 26) rfl (hb hby d_rm_comp5_3_20) rfl (flt rc3).2.2.2 (by decide) (by decide) k) ?_
  show own_Go p e below (T7.setTop (mkF m 26 #[.val (.ref a1), .val (.int (2 : Int32)), .val (.ref b), .val (.int (2 : Int32)), .val (.int (3 : Int32)), .val (.int (2 : Int32)), .val (.int c3)] [])) _
  refine own_by (fun _ k => XS.aloadN X7.here hx rfl (hb hby d_rm_comp5_3_26) rfl rfl k) ?_
  refine own_by (fun _ k => XS.iloadN X7.here hx rfl (hb hby d_rm_comp5_3_27) rfl k) ?_
  refine own_by (fun _ k => XS.iload X7.here hx rfl (hb hby d_rm_comp5_3_28) rfl k) ?_
  refine own_by (fun _ k => XS.i2b X7.here hx rfl (hb hby d_rm_comp5_3_30) rfl k) ?_
  show own_Go p e below (T7.setTop (mkF m 31 #[.val (.ref a1), .val (.int (2 : Int32)), .val (.ref b), .val (.int (2 : Int32)), .val (.int (3 : Int32)), .val (.int (2 : Int32)), .val (.int c3)] [(.int (c3.toInt8.toInt32)), (.int (2 : Int32)), (.ref b)])) _
  have Vw10 : Arv Z h7 b kb .byte (3 : Int32) [(.int (own_b c1)), (.int (own_b c2)), (.int (0 : Int32))] (.int (0 : Int32)) := Vw7.pad (pad_rep [(.int (own_b c1)), (.int (own_b c2))] (.int (0 : Int32)) 1)
  obtain ⟨cl11, Ar11, q11, S11, M11, H11, G11⟩ := (id Vw10)
  have hin11 : ¬ ((2 : Int32) < 0 ∨ cl11.slots.size ≤ ((2 : Int32)).toNatClampNeg) := inb_of S11 ⟨by decide, by decide⟩
  obtain ⟨T11, h11, X11, e11, W11, st11⟩ := stB X7 hx hZ e7 Ar11 (j := (2 : Int32)) hin11 (g := (mkF m 31 #[.val (.ref a1), .val (.int (2 : Int32)), .val (.ref b), .val (.int (2 : Int32)), .val (.int (3 : Int32)), .val (.int (2 : Int32)), .val (.int c3)] [(.int (c3.toInt8.toInt32)), (.int (2 : Int32)), (.ref b)])) rfl rfl (hb hby d_rm_comp5_3_31)
  refine own_by st11 ?_
  have z11 := W11.size
  have N11 := Fr.snoc X11 N7 (by omega)
  have Vw11 : Arv Z h11 b kb .byte (3 : Int32) [(.int (own_b c1)), (.int (own_b c2)), (.int (own_b c3))] (.int (0 : Int32)) := Arv.set Ar11 q11 S11 M11 H11 G11 (fits_nar_byte2 _) W11 2 rfl (Nat.le_of_ble_eq_true rfl)
  refine own_by (fun _ k => XS.iinc X11.here hx rfl (hb hby d_rm_comp5_3_32) rfl (l' := #[.val (.ref a1), .val (.int (3 : Int32)), .val (.ref b), .val (.int (2 : Int32)), .val (.int (3 : Int32)), .val (.int (2 : Int32)), .val (.int c3)]) rfl k) ?_
  refine own_by (fun _ k => XS.iinc X11.here hx rfl (hb hby d_rm_comp5_3_35) rfl (l' := #[.val (.ref a1), .val (.int (3 : Int32)), .val (.ref b), .val (.int (3 : Int32)), .val (.int (3 : Int32)), .val (.int (2 : Int32)), .val (.int c3)]) rfl k) ?_
  refine own_by (fun _ k => XS.iinc X11.here hx rfl (hb hby d_rm_comp5_3_38) rfl (l' := #[.val (.ref a1), .val (.int (3 : Int32)), .val (.ref b), .val (.int (3 : Int32)), .val (.int (3 : Int32)), .val (.int (3 : Int32)), .val (.int c3)]) rfl k) ?_
  show own_Go p e below (T11.setTop (mkF m 41 #[.val (.ref a1), .val (.int (3 : Int32)), .val (.ref b), .val (.int (3 : Int32)), .val (.int (3 : Int32)), .val (.int (3 : Int32)), .val (.int c3)] [])) _
  refine own_by (fun _ k => XS.goto X11.here hx rfl (pc0 := 41) (pc' := 3) rfl (hb hby d_rm_comp5_3_41) (by decide) (by decide) k) ?_
  refine own_by (fun _ k => XS.iload X11.here hx rfl (hb hby d_rm_comp5_3_3) rfl k) ?_
  refine own_by (fun _ k => XS.iload X11.here hx rfl (hb hby d_rm_comp5_3_5) rfl k) ?_
  refine own_by (fun _ k => XS.icmpYes X11.here hx rfl (pc0 := 7) (pc' := 44) rfl (hb hby d_rm_comp5_3_7) rfl (flt (by decide : ¬ ((3 : Int32) < (3 : Int32)))).2.1 (by decide) (by decide) k) ?_
  show own_Go p e below (T11.setTop (mkF m 44 #[.val (.ref a1), .val (.int (3 : Int32)), .val (.ref b), .val (.int (3 : Int32)), .val (.int (3 : Int32)), .val (.int (3 : Int32)), .val (.int c3)] [])) _
  refine own_by (fun _ k => XS.iload X11.here hx rfl (hb hby d_rm_comp5_3_44) rfl k) ?_
  have K12 : Keep h0 h11 [b] := ((((Keep.refl h0 [b]).wr W3 (Or.inl (List.mem_of_getElem? (i := 0) rfl))).wr W7 (Or.inl (List.mem_of_getElem? (i := 0) rfl))).wr W11 (Or.inl (List.mem_of_getElem? (i := 0) rfl)))
  obtain ⟨fs, hr, hrun, hended, hW, hsame⟩ := X11.leave (v := some (.int (3 : Int32))) (fun h => by rw [Bd.returns] at h; cases h)
  refine ⟨_, _, retI X11 hx Bd.returns (hb hby d_rm_comp5_3_46) hr, hrun, hended, _, _, rfl, ?_, ⟨_, rfl⟩, hW, hsame.mono (by decide) (by decide)⟩
  show Q_rm_comp5_3 Z a1 b ka kb c1 c2 c3 h0 n0 _ T11.heap _
  rw [e11]
  exact ⟨rfl, N11, K12, Vw11⟩
theorem d_rm_comp3_3_0 : decode jdk_52_method_16_code 0 = .ok (.iload_n 2, 1) := by decide +kernel
theorem d_rm_comp3_3_1 : decode jdk_52_method_16_code 1 = .ok (.newarray .byte, 2) := by decide +kernel
theorem d_rm_comp3_3_3 : decode jdk_52_method_16_code 3 = .ok (.astore_n 3, 1) := by decide +kernel
theorem d_rm_comp3_3_4 : decode jdk_52_method_16_code 4 = .ok (.aload_n 0, 1) := by decide +kernel
theorem d_rm_comp3_3_5 : decode jdk_52_method_16_code 5 = .ok (.iload_n 1, 1) := by decide +kernel
theorem d_rm_comp3_3_6 : decode jdk_52_method_16_code 6 = .ok (.aload_n 3, 1) := by decide +kernel
theorem d_rm_comp3_3_7 : decode jdk_52_method_16_code 7 = .ok (.iconst 0, 1) := by decide +kernel
theorem d_rm_comp3_3_8 : decode jdk_52_method_16_code 8 = .ok (.iload_n 2, 1) := by decide +kernel
theorem d_rm_comp3_3_9 : decode jdk_52_method_16_code 9 = .ok (.invokestatic 115, 3) := by decide +kernel
theorem d_rm_comp3_3_12 : decode jdk_52_method_16_code 12 = .ok (.istore 4, 2) := by decide +kernel
theorem d_rm_comp3_3_14 : decode jdk_52_method_16_code 14 = .ok (.iload 4, 2) := by decide +kernel
theorem d_rm_comp3_3_16 : decode jdk_52_method_16_code 16 = .ok (.iload_n 2, 1) := by decide +kernel
theorem d_rm_comp3_3_17 : decode jdk_52_method_16_code 17 = .ok (.if_icmp .eq 40, 3) := by decide +kernel
theorem d_rm_comp3_3_57 : decode jdk_52_method_16_code 57 = .ok (.aload_n 3, 1) := by decide +kernel
theorem d_rm_comp3_3_58 : decode jdk_52_method_16_code 58 = .ok (.areturn, 1) := by decide +kernel
def Q_rm_comp3_3 (Z : State) (a1 : Addr) (ka : ClassId) (c1 : Int32) (c2 : Int32) (c3 : Int32) (h0 : Heap) (n0 : Nat) (v : Option Value) (h : Heap) (L : List Loc) : Prop := ∃ (b : Addr), ∃ (kb : ClassId), v = some (.ref b) ∧ Fr n0 L ∧ Keep h0 h [] ∧ Arv Z h b kb .byte (3 : Int32) [(.int (own_b c1)), (.int (own_b c2)), (.int (own_b c3))] (.int (0 : Int32)) ∧ h0.size ≤ b
theorem ef_rm_comp3_3 (m : MethodId) (a1 : Addr) (ka : ClassId) (c1 : Int32) (c2 : Int32) (c3 : Int32) : entryFrame m #[(.ref a1), (.int (0 : Int32)), (.int (3 : Int32))] 6 = mkF m 0 #[.val (.ref a1), .val (.int (0 : Int32)), .val (.int (3 : Int32)), .unset, .unset, .unset] [] := by first | (simp [entryFrame, mkF, argsToLocals, Value.category]; done) | rfl
set_option maxRecDepth 65536 in
set_option maxHeartbeats 40000000 in
theorem rm_comp3_3 (l : Launch) (Z : State) (a0 : Array Value) (hw : ∀ d ∈ tables_1, d.before a0 Z = true) (ws : List Jvm.Cond) (a1 : Addr) (ka : ClassId) (c1 : Int32) (c2 : Int32) (c3 : Int32) (h0 : Heap) (n0 : Nat) (O0 : Old Z n0 h0) (Va : Arv Z h0 a1 ka .char (3 : Int32) [(.int c1), (.int c2), (.int c3)] (.int (0 : Int32))) (rc1 : ¬ ((255 : Int32) < c1)) (rc2 : ¬ ((255 : Int32) < c2)) (rc3 : ¬ ((255 : Int32) < c3)) :
    MetFree l (⟨"java/lang/StringUTF16", "compress", "([CII)[B"⟩ : MethodName) (head1 (Jvm.Cond.code (⟨"java/lang/StringUTF16", "compress", "([CII)[B"⟩ : MethodName) jdk_52_method_16_code 6 (some (.array .byte)) :: ws) ({ frames := 1, cells := 1, slots := 3, locals := 18 } : Room)) (fun a U => a = #[(.ref a1), (.int (0 : Int32)), (.int (3 : Int32))] ∧ Z.Warmed39 U.vm ∧ U.heap = h0) (fun _ _ _ _ _ => True) (fun _ U o U' => ∃ v L, o = .returned v ∧ Q_rm_comp3_3 Z a1 ka c1 c2 c3 h0 n0 v U'.heap L ∧ FrameEnd U o U' L ({ frames := 1, cells := 1, slots := 3, locals := 18 } : Room).cells ({ frames := 1, cells := 1, slots := 3, locals := 18 } : Room).slots) := by
  refine MetFree.of_bodySF (plainFor_of_name own_pn_java_lang_StringUTF16) hisR ?_
  intro p e s m args below meth c s₁ Bd hml0 hP hK
  obtain ⟨rfl, hZ, hh⟩ := hP
  have hx := Bd.exec
  have hby := Bd.bytes
  have hml : c.maxLocals = 6 := hml0
  have hown : s.vm.findClass "java/lang/StringUTF16" = some m.cls := findClass_of_methodNamed Bd.named
  have hnm := (name_of_methodNamed Bd.named Bd.method).1
  have X0 : Stand p l e ({ frames := 1, cells := 1, slots := 3, locals := 18 } : Room) s m #[(.ref a1), (.int (0 : Int32)), (.int (3 : Int32))] below meth c s₁ [] 0 0 := Stand.of_body Bd
  have e0 : s₁.heap = h0 := by rw [← hh, Bd.state]; rfl
  have N0 := Fr.nil n0
  have Z0 : n0 ≤ h0.size := by rw [← O0.1]; exact O0.2.1
  show own_Go p e below (s₁.setTop (entryFrame m #[(.ref a1), (.int (0 : Int32)), (.int (3 : Int32))] 6)) (fun t o => ∃ v L, o = .returned v ∧ Q_rm_comp3_3 Z a1 ka c1 c2 c3 h0 n0 v t.heap L ∧ FrameEnd s o t L ({ frames := 1, cells := 1, slots := 3, locals := 18 } : Room).cells ({ frames := 1, cells := 1, slots := 3, locals := 18 } : Room).slots)
  rw [ef_rm_comp3_3 m a1 ka c1 c2 c3]
  have lt_Va : h0.size > a1 := Va.lt
  refine own_by (fun _ k => XS.iloadN X0.here hx rfl (hb hby d_rm_comp3_3_0) rfl k) ?_
  obtain ⟨T1, h1, k1, X1, e1, E1, A1, st1⟩ := newP X0 hx hZ (own_w hw 26 rfl) e0 (g := (mkF m 1 #[.val (.ref a1), .val (.int (0 : Int32)), .val (.int (3 : Int32)), .unset, .unset, .unset] [(.int (3 : Int32))])) rfl (hb hby d_rm_comp3_3_1) rfl (by decide) (cap := 3) (by decide) (by decide) (by decide) (by decide)
  obtain ⟨ob1, g1⟩ : ∃ z, z = h0.size := ⟨_, rfl⟩
  rw [← g1] at A1 st1
  refine own_by st1 ?_
  have z1 := E1.1
  have Vw1 : Arv Z h1 ob1 k1 .byte (3 : Int32) [] (.int (0 : Int32)) := Arv.new A1 (by decide)
  have lt1 : h1.size > ob1 := Vw1.lt
  refine own_by (fun _ k => XS.astoreN X1.here hx rfl (hb hby d_rm_comp3_3_3) rfl rfl (l' := #[.val (.ref a1), .val (.int (0 : Int32)), .val (.int (3 : Int32)), .val (.ref ob1), .unset, .unset]) rfl k) ?_
  refine own_by (fun _ k => XS.aloadN X1.here hx rfl (hb hby d_rm_comp3_3_4) rfl rfl k) ?_
  show own_Go p e below (T1.setTop (mkF m 5 #[.val (.ref a1), .val (.int (0 : Int32)), .val (.int (3 : Int32)), .val (.ref ob1), .unset, .unset] [(.ref a1)])) _
  refine own_by (fun _ k => XS.iloadN X1.here hx rfl (hb hby d_rm_comp3_3_5) rfl k) ?_
  refine own_by (fun _ k => XS.aloadN X1.here hx rfl (hb hby d_rm_comp3_3_6) rfl rfl k) ?_
  refine own_by (fun _ k => XS.iconst X1.here hx rfl (hb hby d_rm_comp3_3_7) k) ?_
  refine own_by (fun _ k => XS.iloadN X1.here hx rfl (hb hby d_rm_comp3_3_8) rfl k) ?_
  show own_Go p e below (T1.setTop (mkF m 9 #[.val (.ref a1), .val (.int (0 : Int32)), .val (.int (3 : Int32)), .val (.ref ob1), .unset, .unset] [(.int (3 : Int32)), (.int (0 : Int32)), (.ref ob1), (.int (0 : Int32)), (.ref a1)])) _
  have fc2 : Arv Z h1 a1 ka .char (3 : Int32) [(.int c1), (.int c2), (.int c3)] (.int (0 : Int32)) := (Va.ext E1)
  have O3 : Old Z n0 h1 := (O0.ext E1)
  obtain ⟨_, _, ⟨T4, L4, k4, n4⟩, -, X4, ⟨Lc4, hQ4, l4, y4, z4⟩, st4⟩ := Jvm.LawKit.callS X1 hx (y := (⟨"java/lang/StringUTF16", "compress", "([CI[BII)I"⟩ : MethodName)) hown (mvT hZ (own_w hw 27 rfl)) (mvT hZ (own_w hw 28 rfl)) (mvT hZ (own_w hw 24 rfl)) (mvT hZ (own_w hw 29 rfl)) (by decide) (backOf (W := 0) (rm_comp5_3 l Z a0 hw [] a1 ob1 ka k1 c1 c2 c3 h1 n0 O3 fc2 Vw1 rc1 rc2 rc3 (by first | assumption | omega | decide) (by first | assumption | omega | decide)) hZ (own_w hw 29 rfl) (own_w hw 24 rfl) (by decide) (by decide)) (g := (mkF m 9 #[.val (.ref a1), .val (.int (0 : Int32)), .val (.int (3 : Int32)), .val (.ref ob1), .unset, .unset] [(.int (3 : Int32)), (.int (0 : Int32)), (.ref ob1), (.int (0 : Int32)), (.ref a1)])) rfl (by rw [hml]; rfl) (argsL := [(.ref a1), (.int (0 : Int32)), (.ref ob1), (.int (0 : Int32)), (.int (3 : Int32))]) (rest := []) (lenOf own_pd__28_5bCI_5bBII_29I rfl) rfl (by show 2 * 0 + _ ≤ _; exact Nat.le_of_eq rfl) (hb hby d_rm_comp3_3_9) (fun _ _ => ⟨rfl, e1, (by decide : 1 + 0 ≤ _), (by decide : 3 + 0 ≤ _)⟩)
  dsimp only [Pt.U, Pt.locs, Pt.cells, Pt.slots] at X4 l4 y4 z4 st4 hQ4
  subst l4 y4 z4
  obtain ⟨rfl, M4, K4, g4_0⟩ := hQ4
  have N4 := Fr.app N0 M4
  refine own_by st4 ?_
  have z4 := K4.1
  have lt_g4_0 : T4.heap.size > ob1 := g4_0.lt
  refine own_by (fun _ k => XS.istore X4.here hx rfl (hb hby d_rm_comp3_3_12) rfl (l' := #[.val (.ref a1), .val (.int (0 : Int32)), .val (.int (3 : Int32)), .val (.ref ob1), .val (.int (3 : Int32)), .unset]) rfl k) ?_
  refine own_by (fun _ k => XS.iload X4.here hx rfl (hb hby d_rm_comp3_3_14) rfl k) ?_
  refine own_by (fun _ k => XS.iloadN X4.here hx rfl (hb hby d_rm_comp3_3_16) rfl k) ?_
  show own_Go p e below (T4.setTop (mkF m 17 #[.val (.ref a1), .val (.int (0 : Int32)), .val (.int (3 : Int32)), .val (.ref ob1), .val (.int (3 : Int32)), .unset] [(.int (3 : Int32)), (.int (3 : Int32))])) _
  refine own_by (fun _ k => XS.icmpYes X4.here hx rfl (pc0 := 17) (pc' := 57) rfl (hb hby d_rm_comp3_3_17) rfl (teq (by decide : (3 : Int32) = (3 : Int32))).1 (by decide) (by decide) k) ?_
  show own_Go p e below (T4.setTop (mkF m 57 #[.val (.ref a1), .val (.int (0 : Int32)), .val (.int (3 : Int32)), .val (.ref ob1), .val (.int (3 : Int32)), .unset] [])) _
  refine own_by (fun _ k => XS.aloadN X4.here hx rfl (hb hby d_rm_comp3_3_57) rfl rfl k) ?_
  have K5 : Keep h0 T4.heap [] := (((Keep.refl h0 []).ext E1).trans K4 (allS (P := fun x => x ∈ [] ∨ h0.size ≤ x) (Or.inr (by omega)) all0))
  obtain ⟨fs, hr, hrun, hended, hW, hsame⟩ := X4.leave (v := some (.ref ob1)) (fun h => by rw [Bd.returns] at h; cases h)
  refine ⟨_, _, retOut X4 hx Bd.returns (own_narrow_ref (by decide) rfl) (Or.inr (Or.inr (Or.inr (Or.inr ⟨rfl, by decide, rfl⟩)))) (hb hby d_rm_comp3_3_58) hr, hrun, hended, _, _, rfl, ?_, ⟨_, rfl⟩, hW, hsame.mono (by decide) (by decide)⟩
  show Q_rm_comp3_3 Z a1 ka c1 c2 c3 h0 n0 _ T4.heap _
  exact ⟨ob1, k1, rfl, N4, K5, g4_0, (by first | assumption | omega)⟩
theorem d_rm_cfal_3_0 : decode jdk_52_method_15_code 0 = .ok (.iload_n 1, 1) := by decide +kernel
theorem d_rm_cfal_3_1 : decode jdk_52_method_15_code 1 = .ok (.aload_n 0, 1) := by decide +kernel
theorem d_rm_cfal_3_2 : decode jdk_52_method_15_code 2 = .ok (.arraylength, 1) := by decide +kernel
theorem d_rm_cfal_3_3 : decode jdk_52_method_15_code 3 = .ok (.isub, 1) := by decide +kernel
theorem d_rm_cfal_3_4 : decode jdk_52_method_15_code 4 = .ok (.bipush 31, 2) := by decide +kernel
theorem d_rm_cfal_3_6 : decode jdk_52_method_15_code 6 = .ok (.iushr, 1) := by decide +kernel
theorem d_rm_cfal_3_7 : decode jdk_52_method_15_code 7 = .ok (.i2b, 1) := by decide +kernel
theorem d_rm_cfal_3_8 : decode jdk_52_method_15_code 8 = .ok (.ireturn, 1) := by decide +kernel
def Q_rm_cfal_3 (Z : State) (b : Addr) (kb : ClassId) (d1 : Int32) (d2 : Int32) (d3 : Int32) (h0 : Heap) (n0 : Nat) (v : Option Value) (h : Heap) (L : List Loc) : Prop := v = some (.int (0 : Int32)) ∧ Fr n0 L ∧ h = h0
theorem ef_rm_cfal_3 (m : MethodId) (b : Addr) (kb : ClassId) (d1 : Int32) (d2 : Int32) (d3 : Int32) : entryFrame m #[(.ref b), (.int (3 : Int32))] 2 = mkF m 0 #[.val (.ref b), .val (.int (3 : Int32))] [] := by first | (simp [entryFrame, mkF, argsToLocals, Value.category]; done) | rfl
set_option maxRecDepth 65536 in
set_option maxHeartbeats 40000000 in
theorem rm_cfal_3 (l : Launch) (Z : State) (a0 : Array Value) (hw : ∀ d ∈ tables_1, d.before a0 Z = true) (ws : List Jvm.Cond) (b : Addr) (kb : ClassId) (d1 : Int32) (d2 : Int32) (d3 : Int32) (h0 : Heap) (n0 : Nat) (O0 : Old Z n0 h0) (Vb : Arv Z h0 b kb .byte (3 : Int32) [(.int d1), (.int d2), (.int d3)] (.int (0 : Int32))) :
    MetFree l (⟨"java/lang/StringUTF16", "coderFromArrayLen", "([BI)B"⟩ : MethodName) (head1 (Jvm.Cond.code (⟨"java/lang/StringUTF16", "coderFromArrayLen", "([BI)B"⟩ : MethodName) jdk_52_method_15_code 2 (some .byte) :: ws) ({ frames := 0, cells := 0, slots := 0, locals := 0 } : Room)) (fun a U => a = #[(.ref b), (.int (3 : Int32))] ∧ Z.Warmed39 U.vm ∧ U.heap = h0) (fun _ _ _ _ _ => True) (fun _ U o U' => ∃ v L, o = .returned v ∧ Q_rm_cfal_3 Z b kb d1 d2 d3 h0 n0 v U'.heap L ∧ FrameEnd U o U' L ({ frames := 0, cells := 0, slots := 0, locals := 0 } : Room).cells ({ frames := 0, cells := 0, slots := 0, locals := 0 } : Room).slots) := by
  refine MetFree.of_bodySF (plainFor_of_name own_pn_java_lang_StringUTF16) hisR ?_
  intro p e s m args below meth c s₁ Bd hml0 hP hK
  obtain ⟨rfl, hZ, hh⟩ := hP
  have hx := Bd.exec
  have hby := Bd.bytes
  have hml : c.maxLocals = 2 := hml0
  have hown : s.vm.findClass "java/lang/StringUTF16" = some m.cls := findClass_of_methodNamed Bd.named
  have hnm := (name_of_methodNamed Bd.named Bd.method).1
  have X0 : Stand p l e ({ frames := 0, cells := 0, slots := 0, locals := 0 } : Room) s m #[(.ref b), (.int (3 : Int32))] below meth c s₁ [] 0 0 := Stand.of_body Bd
  have e0 : s₁.heap = h0 := by rw [← hh, Bd.state]; rfl
  have N0 := Fr.nil n0
  have Z0 : n0 ≤ h0.size := by rw [← O0.1]; exact O0.2.1
  show own_Go p e below (s₁.setTop (entryFrame m #[(.ref b), (.int (3 : Int32))] 2)) (fun t o => ∃ v L, o = .returned v ∧ Q_rm_cfal_3 Z b kb d1 d2 d3 h0 n0 v t.heap L ∧ FrameEnd s o t L ({ frames := 0, cells := 0, slots := 0, locals := 0 } : Room).cells ({ frames := 0, cells := 0, slots := 0, locals := 0 } : Room).slots)
  rw [ef_rm_cfal_3 m b kb d1 d2 d3]
  have lt_Vb : h0.size > b := Vb.lt
  refine own_by (fun _ k => XS.iloadN X0.here hx rfl (hb hby d_rm_cfal_3_0) rfl k) ?_
  refine own_by (fun _ k => XS.aloadN X0.here hx rfl (hb hby d_rm_cfal_3_1) rfl rfl k) ?_
  obtain ⟨cl1, Ar1, q1, S1, M1, H1, G1⟩ := (id Vb)
  refine own_by (X0.arraylength hx (by rw [e0]; exact Ar1.1) (State.isArrayOf_alike hZ.alike Ar1.2.1) (g := (mkF m 2 #[.val (.ref b), .val (.int (3 : Int32))] [(.ref b), (.int (3 : Int32))])) rfl rfl (hb hby d_rm_cfal_3_2)) ?_
  rw [len_of S1 M1]
  refine own_by (fun _ k => XS.isub X0.here hx rfl (hb hby d_rm_cfal_3_3) rfl k) ?_
  show own_Go p e below (s₁.setTop (mkF m 4 #[.val (.ref b), .val (.int (3 : Int32))] [(.int (0 : Int32))])) _
  refine own_by (fun _ k => XS.bipush X0.here hx rfl (hb hby d_rm_cfal_3_4) k) ?_
  refine own_by (fun _ k => XS.iushr X0.here hx rfl (hb hby d_rm_cfal_3_6) rfl k) ?_
  refine own_by (fun _ k => XS.i2b X0.here hx rfl (hb hby d_rm_cfal_3_7) rfl k) ?_
  obtain ⟨fs, hr, hrun, hended, hW, hsame⟩ := X0.leave (v := some (.int (0 : Int32))) (fun h => by rw [Bd.returns] at h; cases h)
  refine ⟨_, _, retN X0 hx (t := .byte) Bd.returns (by simp) (hb hby d_rm_cfal_3_8) hr, hrun, hended, _, _, rfl, ?_, ⟨_, rfl⟩, hW, hsame.mono (by decide) (by decide)⟩
  show Q_rm_cfal_3 Z b kb d1 d2 d3 h0 n0 _ s₁.heap _
  rw [e0]
  exact ⟨rfl, N0, rfl⟩
theorem d_rm_sinit4_3_0 : decode jdk_42_method_149_code 0 = .ok (.aload_n 0, 1) := by decide +kernel
theorem d_rm_sinit4_3_1 : decode jdk_42_method_149_code 1 = .ok (.invokespecial 1, 3) := by decide +kernel
theorem d_rm_sinit4_3_4 : decode jdk_42_method_149_code 4 = .ok (.iload_n 3, 1) := by decide +kernel
theorem d_rm_sinit4_3_5 : decode jdk_42_method_149_code 5 = .ok (.ifCond .ne 22, 3) := by decide +kernel
theorem d_rm_sinit4_3_27 : decode jdk_42_method_149_code 27 = .ok (.getstatic 38, 3) := by decide +kernel
theorem d_rm_sinit4_3_30 : decode jdk_42_method_149_code 30 = .ok (.ifCond .eq 28, 3) := by decide +kernel
theorem d_rm_sinit4_3_33 : decode jdk_42_method_149_code 33 = .ok (.aload_n 1, 1) := by decide +kernel
theorem d_rm_sinit4_3_34 : decode jdk_42_method_149_code 34 = .ok (.iload_n 2, 1) := by decide +kernel
theorem d_rm_sinit4_3_35 : decode jdk_42_method_149_code 35 = .ok (.iload_n 3, 1) := by decide +kernel
theorem d_rm_sinit4_3_36 : decode jdk_42_method_149_code 36 = .ok (.invokestatic 177, 3) := by decide +kernel
theorem d_rm_sinit4_3_39 : decode jdk_42_method_149_code 39 = .ok (.astore 5, 2) := by decide +kernel
theorem d_rm_sinit4_3_41 : decode jdk_42_method_149_code 41 = .ok (.aload_n 0, 1) := by decide +kernel
theorem d_rm_sinit4_3_42 : decode jdk_42_method_149_code 42 = .ok (.aload 5, 2) := by decide +kernel
theorem d_rm_sinit4_3_44 : decode jdk_42_method_149_code 44 = .ok (.iload_n 3, 1) := by decide +kernel
theorem d_rm_sinit4_3_45 : decode jdk_42_method_149_code 45 = .ok (.invokestatic 47, 3) := by decide +kernel
theorem d_rm_sinit4_3_48 : decode jdk_42_method_149_code 48 = .ok (.putfield 15, 3) := by decide +kernel
theorem d_rm_sinit4_3_51 : decode jdk_42_method_149_code 51 = .ok (.aload_n 0, 1) := by decide +kernel
theorem d_rm_sinit4_3_52 : decode jdk_42_method_149_code 52 = .ok (.aload 5, 2) := by decide +kernel
theorem d_rm_sinit4_3_54 : decode jdk_42_method_149_code 54 = .ok (.putfield 9, 3) := by decide +kernel
theorem d_rm_sinit4_3_57 : decode jdk_42_method_149_code 57 = .ok (.return_, 1) := by decide +kernel
def Q_rm_sinit4_3 (Z : State) (t1 : Addr) (a1 : Addr) (ka : ClassId) (cs : Int32) (c1 : Int32) (c2 : Int32) (c3 : Int32) (h0 : Heap) (n0 : Nat) (v : Option Value) (h : Heap) (L : List Loc) : Prop := ∃ (b : Addr), ∃ (kb : ClassId), v = none ∧ Fr n0 L ∧ Keep h0 h [t1] ∧ Exa Z h t1 "java/lang/String" ∧ Fld Z h t1 "java/lang/String" "coder" "B" (.int (0 : Int32)) ∧ Fld Z h t1 "java/lang/String" "value" "[B" (.ref b) ∧ Arv Z h b kb .byte (3 : Int32) [(.int (own_b c1)), (.int (own_b c2)), (.int (own_b c3))] (.int (0 : Int32)) ∧ h0.size ≤ b
theorem ef_rm_sinit4_3 (m : MethodId) (t1 : Addr) (a1 : Addr) (ka : ClassId) (cs : Int32) (c1 : Int32) (c2 : Int32) (c3 : Int32) : entryFrame m #[(.ref t1), (.ref a1), (.int (0 : Int32)), (.int (3 : Int32)), .null] 6 = mkF m 0 #[.val (.ref t1), .val (.ref a1), .val (.int (0 : Int32)), .val (.int (3 : Int32)), .val .null, .unset] [] := by first | (simp [entryFrame, mkF, argsToLocals, Value.category]; done) | rfl
set_option maxRecDepth 65536 in
set_option maxHeartbeats 40000000 in
theorem rm_sinit4_3 (l : Launch) (Z : State) (a0 : Array Value) (hw : ∀ d ∈ tables_1, d.before a0 Z = true) (ws : List Jvm.Cond) (t1 : Addr) (a1 : Addr) (ka : ClassId) (cs : Int32) (c1 : Int32) (c2 : Int32) (c3 : Int32) (h0 : Heap) (n0 : Nat) (O0 : Old Z n0 h0) (S_COMPACT : Sta Z Z.heap "java/lang/String" "COMPACT_STRINGS" "Z" (.int cs)) (Et : Exa Z h0 t1 "java/lang/String") (Fv : Fld Z h0 t1 "java/lang/String" "value" "[B" .null) (Fc : Fld Z h0 t1 "java/lang/String" "coder" "B" (.int (0 : Int32))) (Va : Arv Z h0 a1 ka .char (3 : Int32) [(.int c1), (.int c2), (.int c3)] (.int (0 : Int32))) (rc1 : ¬ ((255 : Int32) < c1)) (rc2 : ¬ ((255 : Int32) < c2)) (rc3 : ¬ ((255 : Int32) < c3)) (gt : n0 ≤ t1) (hcs : ¬ (cs = (0 : Int32))) (nta : ¬ (@Eq Nat a1 t1)) :
    MetFree l (⟨"java/lang/String", "<init>", "([CIILjava/lang/Void;)V"⟩ : MethodName) (head1 (Jvm.Cond.code (⟨"java/lang/String", "<init>", "([CIILjava/lang/Void;)V"⟩ : MethodName) jdk_42_method_149_code 6 none :: ws) ({ frames := 2, cells := 1, slots := 3, locals := 35 } : Room)) (fun a U => a = #[(.ref t1), (.ref a1), (.int (0 : Int32)), (.int (3 : Int32)), .null] ∧ Z.Warmed39 U.vm ∧ U.heap = h0) (fun _ _ _ _ _ => True) (fun _ U o U' => ∃ v L, o = .returned v ∧ Q_rm_sinit4_3 Z t1 a1 ka cs c1 c2 c3 h0 n0 v U'.heap L ∧ FrameEnd U o U' L ({ frames := 2, cells := 1, slots := 3, locals := 35 } : Room).cells ({ frames := 2, cells := 1, slots := 3, locals := 35 } : Room).slots) := by
  refine MetFree.of_bodySF (plainFor_of_name own_pn_java_lang_String) hisR ?_
  intro p e s m args below meth c s₁ Bd hml0 hP hK
  obtain ⟨rfl, hZ, hh⟩ := hP
  have hx := Bd.exec
  have hby := Bd.bytes
  have hml : c.maxLocals = 6 := hml0
  have hown : s.vm.findClass "java/lang/String" = some m.cls := findClass_of_methodNamed Bd.named
  have hnm := (name_of_methodNamed Bd.named Bd.method).1
  have X0 : Stand p l e ({ frames := 2, cells := 1, slots := 3, locals := 35 } : Room) s m #[(.ref t1), (.ref a1), (.int (0 : Int32)), (.int (3 : Int32)), .null] below meth c s₁ [] 0 0 := Stand.of_body Bd
  have e0 : s₁.heap = h0 := by rw [← hh, Bd.state]; rfl
  have N0 := Fr.nil n0
  have Z0 : n0 ≤ h0.size := by rw [← O0.1]; exact O0.2.1
  show own_Go p e below (s₁.setTop (entryFrame m #[(.ref t1), (.ref a1), (.int (0 : Int32)), (.int (3 : Int32)), .null] 6)) (fun t o => ∃ v L, o = .returned v ∧ Q_rm_sinit4_3 Z t1 a1 ka cs c1 c2 c3 h0 n0 v t.heap L ∧ FrameEnd s o t L ({ frames := 2, cells := 1, slots := 3, locals := 35 } : Room).cells ({ frames := 2, cells := 1, slots := 3, locals := 35 } : Room).slots)
  rw [ef_rm_sinit4_3 m t1 a1 ka cs c1 c2 c3]
  have lt_Et : h0.size > t1 := Et.lt
  have lt_Fv : h0.size > t1 := Fv.lt
  have lt_Fc : h0.size > t1 := Fc.lt
  have lt_Va : h0.size > a1 := Va.lt
  refine own_by (fun _ k => XS.aloadN X0.here hx rfl (hb hby d_rm_sinit4_3_0) rfl rfl k) ?_
  obtain ⟨T1, X1, e1, st1⟩ := initO X0 hx hZ hown (own_w hw 18 rfl) (own_w hw 19 rfl) (own_w hw 20 rfl) e0 (g := (mkF m 1 #[.val (.ref t1), .val (.ref a1), .val (.int (0 : Int32)), .val (.int (3 : Int32)), .val .null, .unset] [(.ref t1)])) rfl (by rw [hml]; rfl) rfl (hb hby d_rm_sinit4_3_1) (by decide) (W := 0) (by show 2 * 0 + _ ≤ _; exact Nat.le_of_eq rfl) (by decide)
  refine own_by st1 ?_
  refine own_by (fun _ k => XS.iloadN X1.here hx rfl (hb hby d_rm_sinit4_3_4) rfl k) ?_
  refine own_by (fun _ k => XS.ifYes X1.here hx rfl (pc0 := 5) (pc' := 27) rfl (hb hby d_rm_sinit4_3_5) rfl ((if0 _ _).trans (feq (by decide : ¬ ((3 : Int32) = (0 : Int32)))).2) (by decide) (by decide) k) ?_
  show own_Go p e below (T1.setTop (mkF m 27 #[.val (.ref t1), .val (.ref a1), .val (.int (0 : Int32)), .val (.int (3 : Int32)), .val .null, .unset] [])) _
  obtain ⟨T2, X2, e2, st2⟩ := getS2 X1 hx hZ hown (host := "") (Or.inl (own_w hw 21 rfl)) Via.refl e1 (S_COMPACT.ext O0.2) (g := (mkF m 27 #[.val (.ref t1), .val (.ref a1), .val (.int (0 : Int32)), .val (.int (3 : Int32)), .val .null, .unset] [])) rfl (hb hby d_rm_sinit4_3_27)
  refine own_by st2 ?_
  refine own_by (fun _ k => XS.ifNo X2.here hx rfl (hb hby d_rm_sinit4_3_30) rfl ((if0 _ _).trans (feq hcs).1) k) ?_
  show own_Go p e below (T2.setTop (mkF m 33 #[.val (.ref t1), .val (.ref a1), .val (.int (0 : Int32)), .val (.int (3 : Int32)), .val .null, .unset] [])) _
  refine own_by (fun _ k => XS.aloadN X2.here hx rfl (hb hby d_rm_sinit4_3_33) rfl rfl k) ?_
  refine own_by (fun _ k => XS.iloadN X2.here hx rfl (hb hby d_rm_sinit4_3_34) rfl k) ?_
  refine own_by (fun _ k => XS.iloadN X2.here hx rfl (hb hby d_rm_sinit4_3_35) rfl k) ?_
  obtain ⟨_, _, ⟨T3, L3, k3, n3⟩, -, X3, ⟨Lc3, hQ3, l3, y3, z3⟩, st3⟩ := Jvm.LawKit.callS X2 hx (y := (⟨"java/lang/StringUTF16", "compress", "([CII)[B"⟩ : MethodName)) hown (mvT hZ (own_w hw 22 rfl)) (mvT hZ (own_w hw 23 rfl)) (mvT hZ (own_w hw 24 rfl)) (mvT hZ (own_w hw 25 rfl)) (by decide) (backOf (W := 0) (rm_comp3_3 l Z a0 hw [] a1 ka c1 c2 c3 h0 n0 O0 Va rc1 rc2 rc3) hZ (own_w hw 25 rfl) (own_w hw 24 rfl) (by decide) (by decide)) (g := (mkF m 36 #[.val (.ref t1), .val (.ref a1), .val (.int (0 : Int32)), .val (.int (3 : Int32)), .val .null, .unset] [(.int (3 : Int32)), (.int (0 : Int32)), (.ref a1)])) rfl (by rw [hml]; rfl) (argsL := [(.ref a1), (.int (0 : Int32)), (.int (3 : Int32))]) (rest := []) (lenOf own_pd__28_5bCII_29_5bB rfl) rfl (by show 2 * 0 + _ ≤ _; exact Nat.le_of_eq rfl) (hb hby d_rm_sinit4_3_36) (fun _ _ => ⟨rfl, e2, (by decide : 0 + 1 ≤ _), (by decide : 0 + 3 ≤ _)⟩)
  dsimp only [Pt.U, Pt.locs, Pt.cells, Pt.slots] at X3 l3 y3 z3 st3 hQ3
  subst l3 y3 z3
  obtain ⟨b_3, kb_3, rfl, M3, K3, g3_0, r3_0⟩ := hQ3
  have N3 := Fr.app N0 M3
  refine own_by st3 ?_
  have z3 := K3.1
  have lt_g3_0 : T3.heap.size > b_3 := g3_0.lt
  show own_Go p e below (T3.setTop (mkF m 39 #[.val (.ref t1), .val (.ref a1), .val (.int (0 : Int32)), .val (.int (3 : Int32)), .val .null, .unset] [(.ref b_3)])) _
  refine own_by (fun _ k => XS.astore X3.here hx rfl (hb hby d_rm_sinit4_3_39) rfl rfl (l' := #[.val (.ref t1), .val (.ref a1), .val (.int (0 : Int32)), .val (.int (3 : Int32)), .val .null, .val (.ref b_3)]) rfl k) ?_
  refine own_by (fun _ k => XS.aloadN X3.here hx rfl (hb hby d_rm_sinit4_3_41) rfl rfl k) ?_
  refine own_by (fun _ k => XS.aload X3.here hx rfl (hb hby d_rm_sinit4_3_42) rfl rfl k) ?_
  refine own_by (fun _ k => XS.iloadN X3.here hx rfl (hb hby d_rm_sinit4_3_44) rfl k) ?_
  show own_Go p e below (T3.setTop (mkF m 45 #[.val (.ref t1), .val (.ref a1), .val (.int (0 : Int32)), .val (.int (3 : Int32)), .val .null, .val (.ref b_3)] [(.int (3 : Int32)), (.ref b_3), (.ref t1)])) _
  have O4 : Old Z n0 T3.heap := (O0.keep K3 all0)
  obtain ⟨_, _, ⟨T5, L5, k5, n5⟩, -, X5, ⟨Lc5, hQ5, l5, y5, z5⟩, st5⟩ := Jvm.LawKit.callS X3 hx (y := (⟨"java/lang/StringUTF16", "coderFromArrayLen", "([BI)B"⟩ : MethodName)) hown (mvT hZ (own_w hw 30 rfl)) (mvT hZ (own_w hw 31 rfl)) (mvT hZ (own_w hw 24 rfl)) (mvT hZ (own_w hw 32 rfl)) (by decide) (backOf (W := 1) (rm_cfal_3 l Z a0 hw [] b_3 kb_3 (own_b c1) (own_b c2) (own_b c3) T3.heap n0 O4 g3_0) hZ (own_w hw 32 rfl) (own_w hw 24 rfl) (by decide) (by decide)) (g := (mkF m 45 #[.val (.ref t1), .val (.ref a1), .val (.int (0 : Int32)), .val (.int (3 : Int32)), .val .null, .val (.ref b_3)] [(.int (3 : Int32)), (.ref b_3), (.ref t1)])) rfl (by rw [hml]; rfl) (argsL := [(.ref b_3), (.int (3 : Int32))]) (rest := [(.ref t1)]) (lenOf own_pd__28_5bBI_29B rfl) rfl (by show 2 * 0 + _ ≤ _; exact Nat.le_of_eq rfl) (hb hby d_rm_sinit4_3_45) (fun _ _ => ⟨rfl, rfl, (by decide : 1 + 0 ≤ _), (by decide : 3 + 0 ≤ _)⟩)
  dsimp only [Pt.U, Pt.locs, Pt.cells, Pt.slots] at X5 l5 y5 z5 st5 hQ5
  subst l5 y5 z5
  obtain ⟨rfl, M5, K5⟩ := hQ5
  have N5 := Fr.app N3 M5
  refine own_by st5 ?_
  have fc6 : Fld Z T3.heap t1 "java/lang/String" "coder" "B" (.int (0 : Int32)) := (Fc.keep K3 nin0)
  have fc7 : Exa Z T3.heap t1 "java/lang/String" := (Et.keep K3)
  obtain ⟨T8, h8, X8, e8, W8, st8⟩ := putFN X5 hx hZ hown (own_w hw 33 rfl) Via.refl K5 fc6 fc7 (Or.inr ⟨(own_w hw 34 rfl), rfl, hnm⟩) (own_w hw 5 rfl) (ty := .byte) (v' := (.int (0 : Int32))) (by decide) rfl rfl (g := (mkF m 48 #[.val (.ref t1), .val (.ref a1), .val (.int (0 : Int32)), .val (.int (3 : Int32)), .val .null, .val (.ref b_3)] [(.int (0 : Int32)), (.ref t1)])) rfl rfl (hb hby d_rm_sinit4_3_48)
  refine own_by st8 ?_
  have z8 := W8.size
  have N8 := Fr.snoc X8 N5 (by omega)
  have Fw8 : Fld Z h8 t1 "java/lang/String" "coder" "B" (.int (0 : Int32)) := fc6.same W8
  refine own_by (fun _ k => XS.aloadN X8.here hx rfl (hb hby d_rm_sinit4_3_51) rfl rfl k) ?_
  refine own_by (fun _ k => XS.aload X8.here hx rfl (hb hby d_rm_sinit4_3_52) rfl rfl k) ?_
  show own_Go p e below (T8.setTop (mkF m 54 #[.val (.ref t1), .val (.ref a1), .val (.int (0 : Int32)), .val (.int (3 : Int32)), .val .null, .val (.ref b_3)] [(.ref b_3), (.ref t1)])) _
  have fc9 : Fld Z h8 t1 "java/lang/String" "value" "[B" .null := ((Fv.keep K3 nin0).other W8 (Or.inr (slot_ne (a0 := a0) (Or.inr (own_w hw 36 rfl)) (Or.inr (own_w hw 34 rfl)) (by decide) (t := (.array .byte)) (by decide) (t' := .byte) (by decide))))
  have fc10 : Exa Z h8 t1 "java/lang/String" := (fc7.wr W8)
  obtain ⟨T11, h11, X11, e11, W11, st11⟩ := putF X8 hx hZ hown (host := "") (Or.inl (own_w hw 35 rfl)) Via.refl e8 fc9 fc10 (Or.inr ⟨(own_w hw 36 rfl), rfl, hnm⟩) (own_w hw 5 rfl) (ty := (.array .byte)) (by decide) rfl rfl (g := (mkF m 54 #[.val (.ref t1), .val (.ref a1), .val (.int (0 : Int32)), .val (.int (3 : Int32)), .val .null, .val (.ref b_3)] [(.ref b_3), (.ref t1)])) rfl rfl (hb hby d_rm_sinit4_3_54)
  refine own_by st11 ?_
  have z11 := W11.size
  have N11 := Fr.snoc X11 N8 (by omega)
  have Fw11 : Fld Z h11 t1 "java/lang/String" "value" "[B" (.ref b_3) := fc9.same W11
  have fc12 : Exa Z h11 t1 "java/lang/String" := (fc10.wr W11)
  have fc13 : Fld Z h11 t1 "java/lang/String" "coder" "B" (.int (0 : Int32)) := (Fw8.other W11 (Or.inr (slot_ne (a0 := a0) (Or.inr (own_w hw 34 rfl)) (Or.inr (own_w hw 36 rfl)) (by decide) (t := .byte) (by decide) (t' := (.array .byte)) (by decide))))
  have fc14 : Arv Z h11 b_3 kb_3 .byte (3 : Int32) [(.int (own_b c1)), (.int (own_b c2)), (.int (own_b c3))] (.int (0 : Int32)) := ((g3_0.other W8 (own_ne (by omega))).other W11 (own_ne (by omega)))
  have K15 : Keep h0 h11 [t1] := ((((Keep.refl h0 [t1]).trans K3 all0).wr W8 (Or.inl (List.mem_of_getElem? (i := 0) rfl))).wr W11 (Or.inl (List.mem_of_getElem? (i := 0) rfl)))
  obtain ⟨fs, hr, hrun, hended, hW, hsame⟩ := X11.leave (v := none) (fun h => rfl)
  refine ⟨_, _, X11.returnOut hx Bd.returns (hb hby d_rm_sinit4_3_57) hr, hrun, hended, _, _, rfl, ?_, ⟨_, rfl⟩, hW, hsame.mono (by decide) (by decide)⟩
  show Q_rm_sinit4_3 Z t1 a1 ka cs c1 c2 c3 h0 n0 _ T11.heap _
  rw [e11]
  exact ⟨b_3, kb_3, rfl, N11, K15, fc12, fc13, Fw11, fc14, (by first | assumption | omega)⟩
theorem d_rm_sinit_3_0 : decode jdk_42_method_3_code 0 = .ok (.aload_n 0, 1) := by decide +kernel
theorem d_rm_sinit_3_1 : decode jdk_42_method_3_code 1 = .ok (.aload_n 1, 1) := by decide +kernel
theorem d_rm_sinit_3_2 : decode jdk_42_method_3_code 2 = .ok (.iconst 0, 1) := by decide +kernel
theorem d_rm_sinit_3_3 : decode jdk_42_method_3_code 3 = .ok (.aload_n 1, 1) := by decide +kernel
theorem d_rm_sinit_3_4 : decode jdk_42_method_3_code 4 = .ok (.arraylength, 1) := by decide +kernel
theorem d_rm_sinit_3_5 : decode jdk_42_method_3_code 5 = .ok (.aconst_null, 1) := by decide +kernel
theorem d_rm_sinit_3_6 : decode jdk_42_method_3_code 6 = .ok (.invokespecial 27, 3) := by decide +kernel
theorem d_rm_sinit_3_9 : decode jdk_42_method_3_code 9 = .ok (.return_, 1) := by decide +kernel
def Q_rm_sinit_3 (Z : State) (t1 : Addr) (a1 : Addr) (ka : ClassId) (cs : Int32) (c1 : Int32) (c2 : Int32) (c3 : Int32) (h0 : Heap) (n0 : Nat) (v : Option Value) (h : Heap) (L : List Loc) : Prop := ∃ (b : Addr), ∃ (kb : ClassId), v = none ∧ Fr n0 L ∧ Keep h0 h [t1] ∧ Exa Z h t1 "java/lang/String" ∧ Fld Z h t1 "java/lang/String" "coder" "B" (.int (0 : Int32)) ∧ Fld Z h t1 "java/lang/String" "value" "[B" (.ref b) ∧ Arv Z h b kb .byte (3 : Int32) [(.int (own_b c1)), (.int (own_b c2)), (.int (own_b c3))] (.int (0 : Int32)) ∧ h0.size ≤ b
theorem ef_rm_sinit_3 (m : MethodId) (t1 : Addr) (a1 : Addr) (ka : ClassId) (cs : Int32) (c1 : Int32) (c2 : Int32) (c3 : Int32) : entryFrame m #[(.ref t1), (.ref a1)] 2 = mkF m 0 #[.val (.ref t1), .val (.ref a1)] [] := by first | (simp [entryFrame, mkF, argsToLocals, Value.category]; done) | rfl
set_option maxRecDepth 65536 in
set_option maxHeartbeats 40000000 in
theorem rm_sinit_3 (l : Launch) (Z : State) (a0 : Array Value) (hw : ∀ d ∈ tables_1, d.before a0 Z = true) (ws : List Jvm.Cond) (t1 : Addr) (a1 : Addr) (ka : ClassId) (cs : Int32) (c1 : Int32) (c2 : Int32) (c3 : Int32) (h0 : Heap) (n0 : Nat) (O0 : Old Z n0 h0) (S_COMPACT : Sta Z Z.heap "java/lang/String" "COMPACT_STRINGS" "Z" (.int cs)) (Et : Exa Z h0 t1 "java/lang/String") (Fv : Fld Z h0 t1 "java/lang/String" "value" "[B" .null) (Fc : Fld Z h0 t1 "java/lang/String" "coder" "B" (.int (0 : Int32))) (Va : Arv Z h0 a1 ka .char (3 : Int32) [(.int c1), (.int c2), (.int c3)] (.int (0 : Int32))) (rc1 : ¬ ((255 : Int32) < c1)) (rc2 : ¬ ((255 : Int32) < c2)) (rc3 : ¬ ((255 : Int32) < c3)) (gt : n0 ≤ t1) (hcs : ¬ (cs = (0 : Int32))) (nta : ¬ (@Eq Nat a1 t1)) :
    MetFree l (⟨"java/lang/String", "<init>", "([C)V"⟩ : MethodName) (head1 (Jvm.Cond.code (⟨"java/lang/String", "<init>", "([C)V"⟩ : MethodName) jdk_42_method_3_code 2 none :: ws) ({ frames := 3, cells := 1, slots := 3, locals := 52 } : Room)) (fun a U => a = #[(.ref t1), (.ref a1)] ∧ Z.Warmed39 U.vm ∧ U.heap = h0) (fun _ _ _ _ _ => True) (fun _ U o U' => ∃ v L, o = .returned v ∧ Q_rm_sinit_3 Z t1 a1 ka cs c1 c2 c3 h0 n0 v U'.heap L ∧ FrameEnd U o U' L ({ frames := 3, cells := 1, slots := 3, locals := 52 } : Room).cells ({ frames := 3, cells := 1, slots := 3, locals := 52 } : Room).slots) := by
  refine MetFree.of_bodySF (plainFor_of_name own_pn_java_lang_String) hisR ?_
  intro p e s m args below meth c s₁ Bd hml0 hP hK
  obtain ⟨rfl, hZ, hh⟩ := hP
  have hx := Bd.exec
  have hby := Bd.bytes
  have hml : c.maxLocals = 2 := hml0
  have hown : s.vm.findClass "java/lang/String" = some m.cls := findClass_of_methodNamed Bd.named
  have hnm := (name_of_methodNamed Bd.named Bd.method).1
  have X0 : Stand p l e ({ frames := 3, cells := 1, slots := 3, locals := 52 } : Room) s m #[(.ref t1), (.ref a1)] below meth c s₁ [] 0 0 := Stand.of_body Bd
  have e0 : s₁.heap = h0 := by rw [← hh, Bd.state]; rfl
  have N0 := Fr.nil n0
  have Z0 : n0 ≤ h0.size := by rw [← O0.1]; exact O0.2.1
  show own_Go p e below (s₁.setTop (entryFrame m #[(.ref t1), (.ref a1)] 2)) (fun t o => ∃ v L, o = .returned v ∧ Q_rm_sinit_3 Z t1 a1 ka cs c1 c2 c3 h0 n0 v t.heap L ∧ FrameEnd s o t L ({ frames := 3, cells := 1, slots := 3, locals := 52 } : Room).cells ({ frames := 3, cells := 1, slots := 3, locals := 52 } : Room).slots)
  rw [ef_rm_sinit_3 m t1 a1 ka cs c1 c2 c3]
  have lt_Et : h0.size > t1 := Et.lt
  have lt_Fv : h0.size > t1 := Fv.lt
  have lt_Fc : h0.size > t1 := Fc.lt
  have lt_Va : h0.size > a1 := Va.lt
  refine own_by (fun _ k => XS.aloadN X0.here hx rfl (hb hby d_rm_sinit_3_0) rfl rfl k) ?_
  refine own_by (fun _ k => XS.aloadN X0.here hx rfl (hb hby d_rm_sinit_3_1) rfl rfl k) ?_
  refine own_by (fun _ k => XS.iconst X0.here hx rfl (hb hby d_rm_sinit_3_2) k) ?_
  refine own_by (fun _ k => XS.aloadN X0.here hx rfl (hb hby d_rm_sinit_3_3) rfl rfl k) ?_
  show own_Go p e below (s₁.setTop (mkF m 4 #[.val (.ref t1), .val (.ref a1)] [(.ref a1), (.int (0 : Int32)), (.ref a1), (.ref t1)])) _
  obtain ⟨cl1, Ar1, q1, S1, M1, H1, G1⟩ := (id Va)
  refine own_by (X0.arraylength hx (by rw [e0]; exact Ar1.1) (State.isArrayOf_alike hZ.alike Ar1.2.1) (g := (mkF m 4 #[.val (.ref t1), .val (.ref a1)] [(.ref a1), (.int (0 : Int32)), (.ref a1), (.ref t1)])) rfl rfl (hb hby d_rm_sinit_3_4)) ?_
  rw [len_of S1 M1]
  refine own_by (fun _ k => XS.aconstNull X0.here hx rfl (hb hby d_rm_sinit_3_5) k) ?_
  obtain ⟨_, _, ⟨T2, L2, k2, n2⟩, -, X2, ⟨Lc2, hQ2, l2, y2, z2⟩, st2⟩ := X0.specialBack hx (y := (⟨"java/lang/String", "<init>", "([CIILjava/lang/Void;)V"⟩ : MethodName)) rfl hown (mvT hZ (own_w hw 14 rfl)) (mvT hZ (own_w hw 15 rfl)) (mvT hZ (own_w hw 17 rfl)) (by decide) (backOf (W := 0) (rm_sinit4_3 l Z a0 hw [] t1 a1 ka cs c1 c2 c3 h0 n0 O0 S_COMPACT Et Fv Fc Va rc1 rc2 rc3 gt hcs nta) hZ (own_w hw 17 rfl) (own_w hw 6 rfl) (by decide) (by decide)) (g := (mkF m 6 #[.val (.ref t1), .val (.ref a1)] [.null, (.int (3 : Int32)), (.int (0 : Int32)), (.ref a1), (.ref t1)])) rfl (by rw [hml]; rfl) (Steps.refl _) (a := t1) (argsL := [(.ref a1), (.int (0 : Int32)), (.int (3 : Int32)), .null]) (rest := []) (lenOf own_pd__28_5bCIILjava_2flang_2fVoid_3b_29V rfl) rfl (by show 2 * 0 + _ ≤ _; exact Nat.le_of_eq rfl) (hb hby d_rm_sinit_3_6) (fun _ _ => ⟨rfl, e0, (by decide : 0 + 1 ≤ _), (by decide : 0 + 3 ≤ _)⟩)
  dsimp only [Pt.U, Pt.locs, Pt.cells, Pt.slots] at X2 l2 y2 z2 st2 hQ2
  subst l2 y2 z2
  obtain ⟨b_2, kb_2, rfl, M2, K2, g2_0, g2_1, g2_2, g2_3, r2_0⟩ := hQ2
  have N2 := Fr.app N0 M2
  refine own_by (fun _ k => st2.trans k) ?_
  have z2 := K2.1
  have lt_g2_0 : T2.heap.size > t1 := g2_0.lt
  have lt_g2_1 : T2.heap.size > t1 := g2_1.lt
  have lt_g2_2 : T2.heap.size > t1 := g2_2.lt
  have lt_g2_3 : T2.heap.size > b_2 := g2_3.lt
  have K3 : Keep h0 T2.heap [t1] := ((Keep.refl h0 [t1]).trans K2 (allS (P := fun x => x ∈ [t1] ∨ h0.size ≤ x) (Or.inl (List.mem_of_getElem? (i := 0) rfl)) all0))
  obtain ⟨fs, hr, hrun, hended, hW, hsame⟩ := X2.leave (v := none) (fun h => rfl)
  refine ⟨_, _, X2.returnOut hx Bd.returns (hb hby d_rm_sinit_3_9) hr, hrun, hended, _, _, rfl, ?_, ⟨_, rfl⟩, hW, hsame.mono (by decide) (by decide)⟩
  show Q_rm_sinit_3 Z t1 a1 ka cs c1 c2 c3 h0 n0 _ T2.heap _
  exact ⟨b_2, kb_2, rfl, N2, K3, g2_0, g2_1, g2_2, g2_3, (by first | assumption | omega)⟩
theorem d_rm_leq_0_0_0 : decode jdk_43_method_13_code 0 = .ok (.aload_n 0, 1) := by decide +kernel
theorem d_rm_leq_0_0_1 : decode jdk_43_method_13_code 1 = .ok (.arraylength, 1) := by decide +kernel
theorem d_rm_leq_0_0_2 : decode jdk_43_method_13_code 2 = .ok (.aload_n 1, 1) := by decide +kernel
theorem d_rm_leq_0_0_3 : decode jdk_43_method_13_code 3 = .ok (.arraylength, 1) := by decide +kernel
theorem d_rm_leq_0_0_4 : decode jdk_43_method_13_code 4 = .ok (.if_icmp .ne 30, 3) := by decide +kernel
theorem d_rm_leq_0_0_7 : decode jdk_43_method_13_code 7 = .ok (.iconst 0, 1) := by decide +kernel
theorem d_rm_leq_0_0_8 : decode jdk_43_method_13_code 8 = .ok (.istore_n 2, 1) := by decide +kernel
theorem d_rm_leq_0_0_9 : decode jdk_43_method_13_code 9 = .ok (.iload_n 2, 1) := by decide +kernel
theorem d_rm_leq_0_0_10 : decode jdk_43_method_13_code 10 = .ok (.aload_n 0, 1) := by decide +kernel
theorem d_rm_leq_0_0_11 : decode jdk_43_method_13_code 11 = .ok (.arraylength, 1) := by decide +kernel
theorem d_rm_leq_0_0_12 : decode jdk_43_method_13_code 12 = .ok (.if_icmp .ge 20, 3) := by decide +kernel
theorem d_rm_leq_0_0_32 : decode jdk_43_method_13_code 32 = .ok (.iconst 1, 1) := by decide +kernel
theorem d_rm_leq_0_0_33 : decode jdk_43_method_13_code 33 = .ok (.ireturn, 1) := by decide +kernel
def Q_rm_leq_0_0 (Z : State) (b1 : Addr) (b2 : Addr) (kb1 : ClassId) (kb2 : ClassId) (h0 : Heap) (n0 : Nat) (v : Option Value) (h : Heap) (L : List Loc) : Prop := v = some (.int (1 : Int32)) ∧ Fr n0 L ∧ h = h0
theorem ef_rm_leq_0_0 (m : MethodId) (b1 : Addr) (b2 : Addr) (kb1 : ClassId) (kb2 : ClassId) : entryFrame m #[(.ref b1), (.ref b2)] 3 = mkF m 0 #[.val (.ref b1), .val (.ref b2), .unset] [] := by first | (simp [entryFrame, mkF, argsToLocals, Value.category]; done) | rfl
set_option maxRecDepth 65536 in
set_option maxHeartbeats 40000000 in
theorem rm_leq_0_0 (l : Launch) (Z : State) (a0 : Array Value) (hw : ∀ d ∈ tables_1, d.before a0 Z = true) (ws : List Jvm.Cond) (b1 : Addr) (b2 : Addr) (kb1 : ClassId) (kb2 : ClassId) (h0 : Heap) (n0 : Nat) (O0 : Old Z n0 h0) (Vb1 : Arv Z h0 b1 kb1 .byte (0 : Int32) [] (.int (0 : Int32))) (Vb2 : Arv Z h0 b2 kb2 .byte (0 : Int32) [] (.int (0 : Int32))) :
    MetFree l (⟨"java/lang/StringLatin1", "equals", "([B[B)Z"⟩ : MethodName) (head1 (Jvm.Cond.code (⟨"java/lang/StringLatin1", "equals", "([B[B)Z"⟩ : MethodName) jdk_43_method_13_code 3 (some .boolean) :: ws) ({ frames := 0, cells := 0, slots := 0, locals := 0 } : Room)) (fun a U => a = #[(.ref b1), (.ref b2)] ∧ Z.Warmed39 U.vm ∧ U.heap = h0) (fun _ _ _ _ _ => True) (fun _ U o U' => ∃ v L, o = .returned v ∧ Q_rm_leq_0_0 Z b1 b2 kb1 kb2 h0 n0 v U'.heap L ∧ FrameEnd U o U' L ({ frames := 0, cells := 0, slots := 0, locals := 0 } : Room).cells ({ frames := 0, cells := 0, slots := 0, locals := 0 } : Room).slots) := by
  refine MetFree.of_bodySF (plainFor_of_name own_pn_java_lang_StringLatin1) hisR ?_
  intro p e s m args below meth c s₁ Bd hml0 hP hK
  obtain ⟨rfl, hZ, hh⟩ := hP
  have hx := Bd.exec
  have hby := Bd.bytes
  have hml : c.maxLocals = 3 := hml0
  have hown : s.vm.findClass "java/lang/StringLatin1" = some m.cls := findClass_of_methodNamed Bd.named
  have hnm := (name_of_methodNamed Bd.named Bd.method).1
  have X0 : Stand p l e ({ frames := 0, cells := 0, slots := 0, locals := 0 } : Room) s m #[(.ref b1), (.ref b2)] below meth c s₁ [] 0 0 := Stand.of_body Bd
  have e0 : s₁.heap = h0 := by rw [← hh, Bd.state]; rfl
  have N0 := Fr.nil n0
  have Z0 : n0 ≤ h0.size := by rw [← O0.1]; exact O0.2.1
  show own_Go p e below (s₁.setTop (entryFrame m #[(.ref b1), (.ref b2)] 3)) (fun t o => ∃ v L, o = .returned v ∧ Q_rm_leq_0_0 Z b1 b2 kb1 kb2 h0 n0 v t.heap L ∧ FrameEnd s o t L ({ frames := 0, cells := 0, slots := 0, locals := 0 } : Room).cells ({ frames := 0, cells := 0, slots := 0, locals := 0 } : Room).slots)
  rw [ef_rm_leq_0_0 m b1 b2 kb1 kb2]
  have lt_Vb1 : h0.size > b1 := Vb1.lt
  have lt_Vb2 : h0.size > b2 := Vb2.lt
  refine own_by (fun _ k => XS.aloadN X0.here hx rfl (hb hby d_rm_leq_0_0_0) rfl rfl k) ?_
  obtain ⟨cl1, Ar1, q1, S1, M1, H1, G1⟩ := (id Vb1)
  refine own_by (X0.arraylength hx (by rw [e0]; exact Ar1.1) (State.isArrayOf_alike hZ.alike Ar1.2.1) (g := (mkF m 1 #[.val (.ref b1), .val (.ref b2), .unset] [(.ref b1)])) rfl rfl (hb hby d_rm_leq_0_0_1)) ?_
  rw [len_of S1 M1]
  refine own_by (fun _ k => XS.aloadN X0.here hx rfl (hb hby d_rm_leq_0_0_2) rfl rfl k) ?_
  obtain ⟨cl2, Ar2, q2, S2, M2, H2, G2⟩ := (id Vb2)
  refine own_by (X0.arraylength hx (by rw [e0]; exact Ar2.1) (State.isArrayOf_alike hZ.alike Ar2.2.1) (g := (mkF m 3 #[.val (.ref b1), .val (.ref b2), .unset] [(.ref b2), (.int (0 : Int32))])) rfl rfl (hb hby d_rm_leq_0_0_3)) ?_
  rw [len_of S2 M2]
  show own_Go p e below (s₁.setTop (mkF m 4 #[.val (.ref b1), .val (.ref b2), .unset] [(.int (0 : Int32)), (.int (0 : Int32))])) _
  refine own_by (fun _ k => XS.icmpNo X0.here hx rfl (hb hby d_rm_leq_0_0_4) rfl (teq (by decide : (0 : Int32) = (0 : Int32))).2 k) ?_
  show own_Go p e below (s₁.setTop (mkF m 7 #[.val (.ref b1), .val (.ref b2), .unset] [])) _
  refine own_by (fun _ k => XS.iconst X0.here hx rfl (hb hby d_rm_leq_0_0_7) k) ?_
  refine own_by (fun _ k => XS.istoreN X0.here hx rfl (hb hby d_rm_leq_0_0_8) rfl (l' := #[.val (.ref b1), .val (.ref b2), .val (.int (0 : Int32))]) rfl k) ?_
  refine own_by (fun _ k => XS.iloadN X0.here hx rfl (hb hby d_rm_leq_0_0_9) rfl k) ?_
  refine own_by (fun _ k => XS.aloadN X0.here hx rfl (hb hby d_rm_leq_0_0_10) rfl rfl k) ?_
  show own_Go p e below (s₁.setTop (mkF m 11 #[.val (.ref b1), .val (.ref b2), .val (.int (0 : Int32))] [(.ref b1), (.int (0 : Int32))])) _
  obtain ⟨cl3, Ar3, q3, S3, M3, H3, G3⟩ := (id Vb1)
  refine own_by (X0.arraylength hx (by rw [e0]; exact Ar3.1) (State.isArrayOf_alike hZ.alike Ar3.2.1) (g := (mkF m 11 #[.val (.ref b1), .val (.ref b2), .val (.int (0 : Int32))] [(.ref b1), (.int (0 : Int32))])) rfl rfl (hb hby d_rm_leq_0_0_11)) ?_
  rw [len_of S3 M3]
  refine own_by (fun _ k => XS.icmpYes X0.here hx rfl (pc0 := 12) (pc' := 32) rfl (hb hby d_rm_leq_0_0_12) rfl (flt (by decide : ¬ ((0 : Int32) < (0 : Int32)))).2.1 (by decide) (by decide) k) ?_
  show own_Go p e below (s₁.setTop (mkF m 32 #[.val (.ref b1), .val (.ref b2), .val (.int (0 : Int32))] [])) _
  refine own_by (fun _ k => XS.iconst X0.here hx rfl (hb hby d_rm_leq_0_0_32) k) ?_
  obtain ⟨fs, hr, hrun, hended, hW, hsame⟩ := X0.leave (v := some (.int (1 : Int32))) (fun h => by rw [Bd.returns] at h; cases h)
  refine ⟨_, _, retN X0 hx (t := .boolean) Bd.returns (by simp) (hb hby d_rm_leq_0_0_33) hr, hrun, hended, _, _, rfl, ?_, ⟨_, rfl⟩, hW, hsame.mono (by decide) (by decide)⟩
  show Q_rm_leq_0_0 Z b1 b2 kb1 kb2 h0 n0 _ s₁.heap _
  rw [e0]
  exact ⟨rfl, N0, rfl⟩
theorem d_rm_leq_0_1_0 : decode jdk_43_method_13_code 0 = .ok (.aload_n 0, 1) := by decide +kernel
theorem d_rm_leq_0_1_1 : decode jdk_43_method_13_code 1 = .ok (.arraylength, 1) := by decide +kernel
theorem d_rm_leq_0_1_2 : decode jdk_43_method_13_code 2 = .ok (.aload_n 1, 1) := by decide +kernel
theorem d_rm_leq_0_1_3 : decode jdk_43_method_13_code 3 = .ok (.arraylength, 1) := by decide +kernel
theorem d_rm_leq_0_1_4 : decode jdk_43_method_13_code 4 = .ok (.if_icmp .ne 30, 3) := by decide +kernel
theorem d_rm_leq_0_1_34 : decode jdk_43_method_13_code 34 = .ok (.iconst 0, 1) := by decide +kernel
theorem d_rm_leq_0_1_35 : decode jdk_43_method_13_code 35 = .ok (.ireturn, 1) := by decide +kernel
def Q_rm_leq_0_1 (Z : State) (b1 : Addr) (b2 : Addr) (kb1 : ClassId) (kb2 : ClassId) (f1 : Int32) (h0 : Heap) (n0 : Nat) (v : Option Value) (h : Heap) (L : List Loc) : Prop := v = some (.int (0 : Int32)) ∧ Fr n0 L ∧ h = h0
theorem ef_rm_leq_0_1 (m : MethodId) (b1 : Addr) (b2 : Addr) (kb1 : ClassId) (kb2 : ClassId) (f1 : Int32) : entryFrame m #[(.ref b1), (.ref b2)] 3 = mkF m 0 #[.val (.ref b1), .val (.ref b2), .unset] [] := by first | (simp [entryFrame, mkF, argsToLocals, Value.category]; done) | rfl
set_option maxRecDepth 65536 in
set_option maxHeartbeats 40000000 in
theorem rm_leq_0_1 (l : Launch) (Z : State) (a0 : Array Value) (hw : ∀ d ∈ tables_1, d.before a0 Z = true) (ws : List Jvm.Cond) (b1 : Addr) (b2 : Addr) (kb1 : ClassId) (kb2 : ClassId) (f1 : Int32) (h0 : Heap) (n0 : Nat) (O0 : Old Z n0 h0) (Vb1 : Arv Z h0 b1 kb1 .byte (0 : Int32) [] (.int (0 : Int32))) (Vb2 : Arv Z h0 b2 kb2 .byte (1 : Int32) [(.int f1)] (.int (0 : Int32))) :
    MetFree l (⟨"java/lang/StringLatin1", "equals", "([B[B)Z"⟩ : MethodName) (head1 (Jvm.Cond.code (⟨"java/lang/StringLatin1", "equals", "([B[B)Z"⟩ : MethodName) jdk_43_method_13_code 3 (some .boolean) :: ws) ({ frames := 0, cells := 0, slots := 0, locals := 0 } : Room)) (fun a U => a = #[(.ref b1), (.ref b2)] ∧ Z.Warmed39 U.vm ∧ U.heap = h0) (fun _ _ _ _ _ => True) (fun _ U o U' => ∃ v L, o = .returned v ∧ Q_rm_leq_0_1 Z b1 b2 kb1 kb2 f1 h0 n0 v U'.heap L ∧ FrameEnd U o U' L ({ frames := 0, cells := 0, slots := 0, locals := 0 } : Room).cells ({ frames := 0, cells := 0, slots := 0, locals := 0 } : Room).slots) := by
  refine MetFree.of_bodySF (plainFor_of_name own_pn_java_lang_StringLatin1) hisR ?_
  intro p e s m args below meth c s₁ Bd hml0 hP hK
  obtain ⟨rfl, hZ, hh⟩ := hP
  have hx := Bd.exec
  have hby := Bd.bytes
  have hml : c.maxLocals = 3 := hml0
  have hown : s.vm.findClass "java/lang/StringLatin1" = some m.cls := findClass_of_methodNamed Bd.named
  have hnm := (name_of_methodNamed Bd.named Bd.method).1
  have X0 : Stand p l e ({ frames := 0, cells := 0, slots := 0, locals := 0 } : Room) s m #[(.ref b1), (.ref b2)] below meth c s₁ [] 0 0 := Stand.of_body Bd
  have e0 : s₁.heap = h0 := by rw [← hh, Bd.state]; rfl
  have N0 := Fr.nil n0
  have Z0 : n0 ≤ h0.size := by rw [← O0.1]; exact O0.2.1
  show own_Go p e below (s₁.setTop (entryFrame m #[(.ref b1), (.ref b2)] 3)) (fun t o => ∃ v L, o = .returned v ∧ Q_rm_leq_0_1 Z b1 b2 kb1 kb2 f1 h0 n0 v t.heap L ∧ FrameEnd s o t L ({ frames := 0, cells := 0, slots := 0, locals := 0 } : Room).cells ({ frames := 0, cells := 0, slots := 0, locals := 0 } : Room).slots)
  rw [ef_rm_leq_0_1 m b1 b2 kb1 kb2 f1]
  have lt_Vb1 : h0.size > b1 := Vb1.lt
  have lt_Vb2 : h0.size > b2 := Vb2.lt
  refine own_by (fun _ k => XS.aloadN X0.here hx rfl (hb hby d_rm_leq_0_1_0) rfl rfl k) ?_
  obtain ⟨cl1, Ar1, q1, S1, M1, H1, G1⟩ := (id Vb1)
  refine own_by (X0.arraylength hx (by rw [e0]; exact Ar1.1) (State.isArrayOf_alike hZ.alike Ar1.2.1) (g := (mkF m 1 #[.val (.ref b1), .val (.ref b2), .unset] [(.ref b1)])) rfl rfl (hb hby d_rm_leq_0_1_1)) ?_
  rw [len_of S1 M1]
  refine own_by (fun _ k => XS.aloadN X0.here hx rfl (hb hby d_rm_leq_0_1_2) rfl rfl k) ?_
  obtain ⟨cl2, Ar2, q2, S2, M2, H2, G2⟩ := (id Vb2)
  refine own_by (X0.arraylength hx (by rw [e0]; exact Ar2.1) (State.isArrayOf_alike hZ.alike Ar2.2.1) (g := (mkF m 3 #[.val (.ref b1), .val (.ref b2), .unset] [(.ref b2), (.int (0 : Int32))])) rfl rfl (hb hby d_rm_leq_0_1_3)) ?_
  rw [len_of S2 M2]
  show own_Go p e below (s₁.setTop (mkF m 4 #[.val (.ref b1), .val (.ref b2), .unset] [(.int (1 : Int32)), (.int (0 : Int32))])) _
  refine own_by (fun _ k => XS.icmpYes X0.here hx rfl (pc0 := 4) (pc' := 34) rfl (hb hby d_rm_leq_0_1_4) rfl (feq (by decide : ¬ ((0 : Int32) = (1 : Int32)))).2 (by decide) (by decide) k) ?_
  show own_Go p e below (s₁.setTop (mkF m 34 #[.val (.ref b1), .val (.ref b2), .unset] [])) _
  refine own_by (fun _ k => XS.iconst X0.here hx rfl (hb hby d_rm_leq_0_1_34) k) ?_
  obtain ⟨fs, hr, hrun, hended, hW, hsame⟩ := X0.leave (v := some (.int (0 : Int32))) (fun h => by rw [Bd.returns] at h; cases h)
  refine ⟨_, _, retN X0 hx (t := .boolean) Bd.returns (by simp) (hb hby d_rm_leq_0_1_35) hr, hrun, hended, _, _, rfl, ?_, ⟨_, rfl⟩, hW, hsame.mono (by decide) (by decide)⟩
  show Q_rm_leq_0_1 Z b1 b2 kb1 kb2 f1 h0 n0 _ s₁.heap _
  rw [e0]
  exact ⟨rfl, N0, rfl⟩
theorem d_rm_leq_0_2_0 : decode jdk_43_method_13_code 0 = .ok (.aload_n 0, 1) := by decide +kernel
theorem d_rm_leq_0_2_1 : decode jdk_43_method_13_code 1 = .ok (.arraylength, 1) := by decide +kernel
theorem d_rm_leq_0_2_2 : decode jdk_43_method_13_code 2 = .ok (.aload_n 1, 1) := by decide +kernel
theorem d_rm_leq_0_2_3 : decode jdk_43_method_13_code 3 = .ok (.arraylength, 1) := by decide +kernel
theorem d_rm_leq_0_2_4 : decode jdk_43_method_13_code 4 = .ok (.if_icmp .ne 30, 3) := by decide +kernel
theorem d_rm_leq_0_2_34 : decode jdk_43_method_13_code 34 = .ok (.iconst 0, 1) := by decide +kernel
theorem d_rm_leq_0_2_35 : decode jdk_43_method_13_code 35 = .ok (.ireturn, 1) := by decide +kernel
def Q_rm_leq_0_2 (Z : State) (b1 : Addr) (b2 : Addr) (kb1 : ClassId) (kb2 : ClassId) (f1 : Int32) (f2 : Int32) (h0 : Heap) (n0 : Nat) (v : Option Value) (h : Heap) (L : List Loc) : Prop := v = some (.int (0 : Int32)) ∧ Fr n0 L ∧ h = h0
theorem ef_rm_leq_0_2 (m : MethodId) (b1 : Addr) (b2 : Addr) (kb1 : ClassId) (kb2 : ClassId) (f1 : Int32) (f2 : Int32) : entryFrame m #[(.ref b1), (.ref b2)] 3 = mkF m 0 #[.val (.ref b1), .val (.ref b2), .unset] [] := by first | (simp [entryFrame, mkF, argsToLocals, Value.category]; done) | rfl
set_option maxRecDepth 65536 in
set_option maxHeartbeats 40000000 in
theorem rm_leq_0_2 (l : Launch) (Z : State) (a0 : Array Value) (hw : ∀ d ∈ tables_1, d.before a0 Z = true) (ws : List Jvm.Cond) (b1 : Addr) (b2 : Addr) (kb1 : ClassId) (kb2 : ClassId) (f1 : Int32) (f2 : Int32) (h0 : Heap) (n0 : Nat) (O0 : Old Z n0 h0) (Vb1 : Arv Z h0 b1 kb1 .byte (0 : Int32) [] (.int (0 : Int32))) (Vb2 : Arv Z h0 b2 kb2 .byte (2 : Int32) [(.int f1), (.int f2)] (.int (0 : Int32))) :
    MetFree l (⟨"java/lang/StringLatin1", "equals", "([B[B)Z"⟩ : MethodName) (head1 (Jvm.Cond.code (⟨"java/lang/StringLatin1", "equals", "([B[B)Z"⟩ : MethodName) jdk_43_method_13_code 3 (some .boolean) :: ws) ({ frames := 0, cells := 0, slots := 0, locals := 0 } : Room)) (fun a U => a = #[(.ref b1), (.ref b2)] ∧ Z.Warmed39 U.vm ∧ U.heap = h0) (fun _ _ _ _ _ => True) (fun _ U o U' => ∃ v L, o = .returned v ∧ Q_rm_leq_0_2 Z b1 b2 kb1 kb2 f1 f2 h0 n0 v U'.heap L ∧ FrameEnd U o U' L ({ frames := 0, cells := 0, slots := 0, locals := 0 } : Room).cells ({ frames := 0, cells := 0, slots := 0, locals := 0 } : Room).slots) := by
  refine MetFree.of_bodySF (plainFor_of_name own_pn_java_lang_StringLatin1) hisR ?_
  intro p e s m args below meth c s₁ Bd hml0 hP hK
  obtain ⟨rfl, hZ, hh⟩ := hP
  have hx := Bd.exec
  have hby := Bd.bytes
  have hml : c.maxLocals = 3 := hml0
  have hown : s.vm.findClass "java/lang/StringLatin1" = some m.cls := findClass_of_methodNamed Bd.named
  have hnm := (name_of_methodNamed Bd.named Bd.method).1
  have X0 : Stand p l e ({ frames := 0, cells := 0, slots := 0, locals := 0 } : Room) s m #[(.ref b1), (.ref b2)] below meth c s₁ [] 0 0 := Stand.of_body Bd
  have e0 : s₁.heap = h0 := by rw [← hh, Bd.state]; rfl
  have N0 := Fr.nil n0
  have Z0 : n0 ≤ h0.size := by rw [← O0.1]; exact O0.2.1
  show own_Go p e below (s₁.setTop (entryFrame m #[(.ref b1), (.ref b2)] 3)) (fun t o => ∃ v L, o = .returned v ∧ Q_rm_leq_0_2 Z b1 b2 kb1 kb2 f1 f2 h0 n0 v t.heap L ∧ FrameEnd s o t L ({ frames := 0, cells := 0, slots := 0, locals := 0 } : Room).cells ({ frames := 0, cells := 0, slots := 0, locals := 0 } : Room).slots)
  rw [ef_rm_leq_0_2 m b1 b2 kb1 kb2 f1 f2]
  have lt_Vb1 : h0.size > b1 := Vb1.lt
  have lt_Vb2 : h0.size > b2 := Vb2.lt
  refine own_by (fun _ k => XS.aloadN X0.here hx rfl (hb hby d_rm_leq_0_2_0) rfl rfl k) ?_
  obtain ⟨cl1, Ar1, q1, S1, M1, H1, G1⟩ := (id Vb1)
  refine own_by (X0.arraylength hx (by rw [e0]; exact Ar1.1) (State.isArrayOf_alike hZ.alike Ar1.2.1) (g := (mkF m 1 #[.val (.ref b1), .val (.ref b2), .unset] [(.ref b1)])) rfl rfl (hb hby d_rm_leq_0_2_1)) ?_
  rw [len_of S1 M1]
  refine own_by (fun _ k => XS.aloadN X0.here hx rfl (hb hby d_rm_leq_0_2_2) rfl rfl k) ?_
  obtain ⟨cl2, Ar2, q2, S2, M2, H2, G2⟩ := (id Vb2)
  refine own_by (X0.arraylength hx (by rw [e0]; exact Ar2.1) (State.isArrayOf_alike hZ.alike Ar2.2.1) (g := (mkF m 3 #[.val (.ref b1), .val (.ref b2), .unset] [(.ref b2), (.int (0 : Int32))])) rfl rfl (hb hby d_rm_leq_0_2_3)) ?_
  rw [len_of S2 M2]
  show own_Go p e below (s₁.setTop (mkF m 4 #[.val (.ref b1), .val (.ref b2), .unset] [(.int (2 : Int32)), (.int (0 : Int32))])) _
  refine own_by (fun _ k => XS.icmpYes X0.here hx rfl (pc0 := 4) (pc' := 34) rfl (hb hby d_rm_leq_0_2_4) rfl (feq (by decide : ¬ ((0 : Int32) = (2 : Int32)))).2 (by decide) (by decide) k) ?_
  show own_Go p e below (s₁.setTop (mkF m 34 #[.val (.ref b1), .val (.ref b2), .unset] [])) _
  refine own_by (fun _ k => XS.iconst X0.here hx rfl (hb hby d_rm_leq_0_2_34) k) ?_
  obtain ⟨fs, hr, hrun, hended, hW, hsame⟩ := X0.leave (v := some (.int (0 : Int32))) (fun h => by rw [Bd.returns] at h; cases h)
  refine ⟨_, _, retN X0 hx (t := .boolean) Bd.returns (by simp) (hb hby d_rm_leq_0_2_35) hr, hrun, hended, _, _, rfl, ?_, ⟨_, rfl⟩, hW, hsame.mono (by decide) (by decide)⟩
  show Q_rm_leq_0_2 Z b1 b2 kb1 kb2 f1 f2 h0 n0 _ s₁.heap _
  rw [e0]
  exact ⟨rfl, N0, rfl⟩
theorem d_rm_leq_0_3_0 : decode jdk_43_method_13_code 0 = .ok (.aload_n 0, 1) := by decide +kernel
theorem d_rm_leq_0_3_1 : decode jdk_43_method_13_code 1 = .ok (.arraylength, 1) := by decide +kernel
theorem d_rm_leq_0_3_2 : decode jdk_43_method_13_code 2 = .ok (.aload_n 1, 1) := by decide +kernel
theorem d_rm_leq_0_3_3 : decode jdk_43_method_13_code 3 = .ok (.arraylength, 1) := by decide +kernel
theorem d_rm_leq_0_3_4 : decode jdk_43_method_13_code 4 = .ok (.if_icmp .ne 30, 3) := by decide +kernel
theorem d_rm_leq_0_3_34 : decode jdk_43_method_13_code 34 = .ok (.iconst 0, 1) := by decide +kernel
theorem d_rm_leq_0_3_35 : decode jdk_43_method_13_code 35 = .ok (.ireturn, 1) := by decide +kernel
def Q_rm_leq_0_3 (Z : State) (b1 : Addr) (b2 : Addr) (kb1 : ClassId) (kb2 : ClassId) (f1 : Int32) (f2 : Int32) (f3 : Int32) (h0 : Heap) (n0 : Nat) (v : Option Value) (h : Heap) (L : List Loc) : Prop := v = some (.int (0 : Int32)) ∧ Fr n0 L ∧ h = h0
theorem ef_rm_leq_0_3 (m : MethodId) (b1 : Addr) (b2 : Addr) (kb1 : ClassId) (kb2 : ClassId) (f1 : Int32) (f2 : Int32) (f3 : Int32) : entryFrame m #[(.ref b1), (.ref b2)] 3 = mkF m 0 #[.val (.ref b1), .val (.ref b2), .unset] [] := by first | (simp [entryFrame, mkF, argsToLocals, Value.category]; done) | rfl
set_option maxRecDepth 65536 in
set_option maxHeartbeats 40000000 in
theorem rm_leq_0_3 (l : Launch) (Z : State) (a0 : Array Value) (hw : ∀ d ∈ tables_1, d.before a0 Z = true) (ws : List Jvm.Cond) (b1 : Addr) (b2 : Addr) (kb1 : ClassId) (kb2 : ClassId) (f1 : Int32) (f2 : Int32) (f3 : Int32) (h0 : Heap) (n0 : Nat) (O0 : Old Z n0 h0) (Vb1 : Arv Z h0 b1 kb1 .byte (0 : Int32) [] (.int (0 : Int32))) (Vb2 : Arv Z h0 b2 kb2 .byte (3 : Int32) [(.int f1), (.int f2), (.int f3)] (.int (0 : Int32))) :
    MetFree l (⟨"java/lang/StringLatin1", "equals", "([B[B)Z"⟩ : MethodName) (head1 (Jvm.Cond.code (⟨"java/lang/StringLatin1", "equals", "([B[B)Z"⟩ : MethodName) jdk_43_method_13_code 3 (some .boolean) :: ws) ({ frames := 0, cells := 0, slots := 0, locals := 0 } : Room)) (fun a U => a = #[(.ref b1), (.ref b2)] ∧ Z.Warmed39 U.vm ∧ U.heap = h0) (fun _ _ _ _ _ => True) (fun _ U o U' => ∃ v L, o = .returned v ∧ Q_rm_leq_0_3 Z b1 b2 kb1 kb2 f1 f2 f3 h0 n0 v U'.heap L ∧ FrameEnd U o U' L ({ frames := 0, cells := 0, slots := 0, locals := 0 } : Room).cells ({ frames := 0, cells := 0, slots := 0, locals := 0 } : Room).slots) := by
  refine MetFree.of_bodySF (plainFor_of_name own_pn_java_lang_StringLatin1) hisR ?_
  intro p e s m args below meth c s₁ Bd hml0 hP hK
  obtain ⟨rfl, hZ, hh⟩ := hP
  have hx := Bd.exec
  have hby := Bd.bytes
  have hml : c.maxLocals = 3 := hml0
  have hown : s.vm.findClass "java/lang/StringLatin1" = some m.cls := findClass_of_methodNamed Bd.named
  have hnm := (name_of_methodNamed Bd.named Bd.method).1
  have X0 : Stand p l e ({ frames := 0, cells := 0, slots := 0, locals := 0 } : Room) s m #[(.ref b1), (.ref b2)] below meth c s₁ [] 0 0 := Stand.of_body Bd
  have e0 : s₁.heap = h0 := by rw [← hh, Bd.state]; rfl
  have N0 := Fr.nil n0
  have Z0 : n0 ≤ h0.size := by rw [← O0.1]; exact O0.2.1
  show own_Go p e below (s₁.setTop (entryFrame m #[(.ref b1), (.ref b2)] 3)) (fun t o => ∃ v L, o = .returned v ∧ Q_rm_leq_0_3 Z b1 b2 kb1 kb2 f1 f2 f3 h0 n0 v t.heap L ∧ FrameEnd s o t L ({ frames := 0, cells := 0, slots := 0, locals := 0 } : Room).cells ({ frames := 0, cells := 0, slots := 0, locals := 0 } : Room).slots)
  rw [ef_rm_leq_0_3 m b1 b2 kb1 kb2 f1 f2 f3]
  have lt_Vb1 : h0.size > b1 := Vb1.lt
  have lt_Vb2 : h0.size > b2 := Vb2.lt
  refine own_by (fun _ k => XS.aloadN X0.here hx rfl (hb hby d_rm_leq_0_3_0) rfl rfl k) ?_
  obtain ⟨cl1, Ar1, q1, S1, M1, H1, G1⟩ := (id Vb1)
  refine own_by (X0.arraylength hx (by rw [e0]; exact Ar1.1) (State.isArrayOf_alike hZ.alike Ar1.2.1) (g := (mkF m 1 #[.val (.ref b1), .val (.ref b2), .unset] [(.ref b1)])) rfl rfl (hb hby d_rm_leq_0_3_1)) ?_
  rw [len_of S1 M1]
  refine own_by (fun _ k => XS.aloadN X0.here hx rfl (hb hby d_rm_leq_0_3_2) rfl rfl k) ?_
  obtain ⟨cl2, Ar2, q2, S2, M2, H2, G2⟩ := (id Vb2)
  refine own_by (X0.arraylength hx (by rw [e0]; exact Ar2.1) (State.isArrayOf_alike hZ.alike Ar2.2.1) (g := (mkF m 3 #[.val (.ref b1), .val (.ref b2), .unset] [(.ref b2), (.int (0 : Int32))])) rfl rfl (hb hby d_rm_leq_0_3_3)) ?_
  rw [len_of S2 M2]
  show own_Go p e below (s₁.setTop (mkF m 4 #[.val (.ref b1), .val (.ref b2), .unset] [(.int (3 : Int32)), (.int (0 : Int32))])) _
  refine own_by (fun _ k => XS.icmpYes X0.here hx rfl (pc0 := 4) (pc' := 34) rfl (hb hby d_rm_leq_0_3_4) rfl (feq (by decide : ¬ ((0 : Int32) = (3 : Int32)))).2 (by decide) (by decide) k) ?_
  show own_Go p e below (s₁.setTop (mkF m 34 #[.val (.ref b1), .val (.ref b2), .unset] [])) _
  refine own_by (fun _ k => XS.iconst X0.here hx rfl (hb hby d_rm_leq_0_3_34) k) ?_
  obtain ⟨fs, hr, hrun, hended, hW, hsame⟩ := X0.leave (v := some (.int (0 : Int32))) (fun h => by rw [Bd.returns] at h; cases h)
  refine ⟨_, _, retN X0 hx (t := .boolean) Bd.returns (by simp) (hb hby d_rm_leq_0_3_35) hr, hrun, hended, _, _, rfl, ?_, ⟨_, rfl⟩, hW, hsame.mono (by decide) (by decide)⟩
  show Q_rm_leq_0_3 Z b1 b2 kb1 kb2 f1 f2 f3 h0 n0 _ s₁.heap _
  rw [e0]
  exact ⟨rfl, N0, rfl⟩
theorem d_rm_leq_1_0_0 : decode jdk_43_method_13_code 0 = .ok (.aload_n 0, 1) := by decide +kernel
theorem d_rm_leq_1_0_1 : decode jdk_43_method_13_code 1 = .ok (.arraylength, 1) := by decide +kernel
theorem d_rm_leq_1_0_2 : decode jdk_43_method_13_code 2 = .ok (.aload_n 1, 1) := by decide +kernel
theorem d_rm_leq_1_0_3 : decode jdk_43_method_13_code 3 = .ok (.arraylength, 1) := by decide +kernel
theorem d_rm_leq_1_0_4 : decode jdk_43_method_13_code 4 = .ok (.if_icmp .ne 30, 3) := by decide +kernel
theorem d_rm_leq_1_0_34 : decode jdk_43_method_13_code 34 = .ok (.iconst 0, 1) := by decide +kernel
theorem d_rm_leq_1_0_35 : decode jdk_43_method_13_code 35 = .ok (.ireturn, 1) := by decide +kernel
def Q_rm_leq_1_0 (Z : State) (b1 : Addr) (b2 : Addr) (kb1 : ClassId) (kb2 : ClassId) (d1 : Int32) (h0 : Heap) (n0 : Nat) (v : Option Value) (h : Heap) (L : List Loc) : Prop := v = some (.int (0 : Int32)) ∧ Fr n0 L ∧ h = h0
theorem ef_rm_leq_1_0 (m : MethodId) (b1 : Addr) (b2 : Addr) (kb1 : ClassId) (kb2 : ClassId) (d1 : Int32) : entryFrame m #[(.ref b1), (.ref b2)] 3 = mkF m 0 #[.val (.ref b1), .val (.ref b2), .unset] [] := by first | (simp [entryFrame, mkF, argsToLocals, Value.category]; done) | rfl
set_option maxRecDepth 65536 in
set_option maxHeartbeats 40000000 in
theorem rm_leq_1_0 (l : Launch) (Z : State) (a0 : Array Value) (hw : ∀ d ∈ tables_1, d.before a0 Z = true) (ws : List Jvm.Cond) (b1 : Addr) (b2 : Addr) (kb1 : ClassId) (kb2 : ClassId) (d1 : Int32) (h0 : Heap) (n0 : Nat) (O0 : Old Z n0 h0) (Vb1 : Arv Z h0 b1 kb1 .byte (1 : Int32) [(.int d1)] (.int (0 : Int32))) (Vb2 : Arv Z h0 b2 kb2 .byte (0 : Int32) [] (.int (0 : Int32))) :
    MetFree l (⟨"java/lang/StringLatin1", "equals", "([B[B)Z"⟩ : MethodName) (head1 (Jvm.Cond.code (⟨"java/lang/StringLatin1", "equals", "([B[B)Z"⟩ : MethodName) jdk_43_method_13_code 3 (some .boolean) :: ws) ({ frames := 0, cells := 0, slots := 0, locals := 0 } : Room)) (fun a U => a = #[(.ref b1), (.ref b2)] ∧ Z.Warmed39 U.vm ∧ U.heap = h0) (fun _ _ _ _ _ => True) (fun _ U o U' => ∃ v L, o = .returned v ∧ Q_rm_leq_1_0 Z b1 b2 kb1 kb2 d1 h0 n0 v U'.heap L ∧ FrameEnd U o U' L ({ frames := 0, cells := 0, slots := 0, locals := 0 } : Room).cells ({ frames := 0, cells := 0, slots := 0, locals := 0 } : Room).slots) := by
  refine MetFree.of_bodySF (plainFor_of_name own_pn_java_lang_StringLatin1) hisR ?_
  intro p e s m args below meth c s₁ Bd hml0 hP hK
  obtain ⟨rfl, hZ, hh⟩ := hP
  have hx := Bd.exec
  have hby := Bd.bytes
  have hml : c.maxLocals = 3 := hml0
  have hown : s.vm.findClass "java/lang/StringLatin1" = some m.cls := findClass_of_methodNamed Bd.named
  have hnm := (name_of_methodNamed Bd.named Bd.method).1
  have X0 : Stand p l e ({ frames := 0, cells := 0, slots := 0, locals := 0 } : Room) s m #[(.ref b1), (.ref b2)] below meth c s₁ [] 0 0 := Stand.of_body Bd
  have e0 : s₁.heap = h0 := by rw [← hh, Bd.state]; rfl
  have N0 := Fr.nil n0
  have Z0 : n0 ≤ h0.size := by rw [← O0.1]; exact O0.2.1
  show own_Go p e below (s₁.setTop (entryFrame m #[(.ref b1), (.ref b2)] 3)) (fun t o => ∃ v L, o = .returned v ∧ Q_rm_leq_1_0 Z b1 b2 kb1 kb2 d1 h0 n0 v t.heap L ∧ FrameEnd s o t L ({ frames := 0, cells := 0, slots := 0, locals := 0 } : Room).cells ({ frames := 0, cells := 0, slots := 0, locals := 0 } : Room).slots)
  rw [ef_rm_leq_1_0 m b1 b2 kb1 kb2 d1]
  have lt_Vb1 : h0.size > b1 := Vb1.lt
  have lt_Vb2 : h0.size > b2 := Vb2.lt
  refine own_by (fun _ k => XS.aloadN X0.here hx rfl (hb hby d_rm_leq_1_0_0) rfl rfl k) ?_
  obtain ⟨cl1, Ar1, q1, S1, M1, H1, G1⟩ := (id Vb1)
  refine own_by (X0.arraylength hx (by rw [e0]; exact Ar1.1) (State.isArrayOf_alike hZ.alike Ar1.2.1) (g := (mkF m 1 #[.val (.ref b1), .val (.ref b2), .unset] [(.ref b1)])) rfl rfl (hb hby d_rm_leq_1_0_1)) ?_
  rw [len_of S1 M1]
  refine own_by (fun _ k => XS.aloadN X0.here hx rfl (hb hby d_rm_leq_1_0_2) rfl rfl k) ?_
  obtain ⟨cl2, Ar2, q2, S2, M2, H2, G2⟩ := (id Vb2)
  refine own_by (X0.arraylength hx (by rw [e0]; exact Ar2.1) (State.isArrayOf_alike hZ.alike Ar2.2.1) (g := (mkF m 3 #[.val (.ref b1), .val (.ref b2), .unset] [(.ref b2), (.int (1 : Int32))])) rfl rfl (hb hby d_rm_leq_1_0_3)) ?_
  rw [len_of S2 M2]
  show own_Go p e below (s₁.setTop (mkF m 4 #[.val (.ref b1), .val (.ref b2), .unset] [(.int (0 : Int32)), (.int (1 : Int32))])) _
  refine own_by (fun _ k => XS.icmpYes X0.here hx rfl (pc0 := 4) (pc' := 34) rfl (hb hby d_rm_leq_1_0_4) rfl (feq (by decide : ¬ ((1 : Int32) = (0 : Int32)))).2 (by decide) (by decide) k) ?_
  show own_Go p e below (s₁.setTop (mkF m 34 #[.val (.ref b1), .val (.ref b2), .unset] [])) _
  refine own_by (fun _ k => XS.iconst X0.here hx rfl (hb hby d_rm_leq_1_0_34) k) ?_
  obtain ⟨fs, hr, hrun, hended, hW, hsame⟩ := X0.leave (v := some (.int (0 : Int32))) (fun h => by rw [Bd.returns] at h; cases h)
  refine ⟨_, _, retN X0 hx (t := .boolean) Bd.returns (by simp) (hb hby d_rm_leq_1_0_35) hr, hrun, hended, _, _, rfl, ?_, ⟨_, rfl⟩, hW, hsame.mono (by decide) (by decide)⟩
  show Q_rm_leq_1_0 Z b1 b2 kb1 kb2 d1 h0 n0 _ s₁.heap _
  rw [e0]
  exact ⟨rfl, N0, rfl⟩
theorem d_rm_leq_1_1_0 : decode jdk_43_method_13_code 0 = .ok (.aload_n 0, 1) := by decide +kernel
theorem d_rm_leq_1_1_1 : decode jdk_43_method_13_code 1 = .ok (.arraylength, 1) := by decide +kernel
theorem d_rm_leq_1_1_2 : decode jdk_43_method_13_code 2 = .ok (.aload_n 1, 1) := by decide +kernel
theorem d_rm_leq_1_1_3 : decode jdk_43_method_13_code 3 = .ok (.arraylength, 1) := by decide +kernel
theorem d_rm_leq_1_1_4 : decode jdk_43_method_13_code 4 = .ok (.if_icmp .ne 30, 3) := by decide +kernel
theorem d_rm_leq_1_1_7 : decode jdk_43_method_13_code 7 = .ok (.iconst 0, 1) := by decide +kernel
theorem d_rm_leq_1_1_8 : decode jdk_43_method_13_code 8 = .ok (.istore_n 2, 1) := by decide +kernel
theorem d_rm_leq_1_1_9 : decode jdk_43_method_13_code 9 = .ok (.iload_n 2, 1) := by decide +kernel
theorem d_rm_leq_1_1_10 : decode jdk_43_method_13_code 10 = .ok (.aload_n 0, 1) := by decide +kernel
theorem d_rm_leq_1_1_11 : decode jdk_43_method_13_code 11 = .ok (.arraylength, 1) := by decide +kernel
theorem d_rm_leq_1_1_12 : decode jdk_43_method_13_code 12 = .ok (.if_icmp .ge 20, 3) := by decide +kernel
theorem d_rm_leq_1_1_15 : decode jdk_43_method_13_code 15 = .ok (.aload_n 0, 1) := by decide +kernel
theorem d_rm_leq_1_1_16 : decode jdk_43_method_13_code 16 = .ok (.iload_n 2, 1) := by decide +kernel
theorem d_rm_leq_1_1_17 : decode jdk_43_method_13_code 17 = .ok (.baload, 1) := by decide +kernel
theorem d_rm_leq_1_1_18 : decode jdk_43_method_13_code 18 = .ok (.aload_n 1, 1) := by decide +kernel
theorem d_rm_leq_1_1_19 : decode jdk_43_method_13_code 19 = .ok (.iload_n 2, 1) := by decide +kernel
theorem d_rm_leq_1_1_20 : decode jdk_43_method_13_code 20 = .ok (.baload, 1) := by decide +kernel
theorem d_rm_leq_1_1_21 : decode jdk_43_method_13_code 21 = .ok (.if_icmp .eq 5, 3) := by decide +kernel
theorem d_rm_leq_1_1_24 : decode jdk_43_method_13_code 24 = .ok (.iconst 0, 1) := by decide +kernel
theorem d_rm_leq_1_1_25 : decode jdk_43_method_13_code 25 = .ok (.ireturn, 1) := by decide +kernel
theorem d_rm_leq_1_1_26 : decode jdk_43_method_13_code 26 = .ok (.iinc 2 1, 3) := by decide +kernel
theorem d_rm_leq_1_1_29 : decode jdk_43_method_13_code 29 = .ok (.goto (-20), 3) := by decide +kernel
theorem d_rm_leq_1_1_32 : decode jdk_43_method_13_code 32 = .ok (.iconst 1, 1) := by decide +kernel
theorem d_rm_leq_1_1_33 : decode jdk_43_method_13_code 33 = .ok (.ireturn, 1) := by decide +kernel
def Q_rm_leq_1_1 (Z : State) (b1 : Addr) (b2 : Addr) (kb1 : ClassId) (kb2 : ClassId) (d1 : Int32) (f1 : Int32) (h0 : Heap) (n0 : Nat) (v : Option Value) (h : Heap) (L : List Loc) : Prop := v = some (.int (own_all [(d1, f1)])) ∧ Fr n0 L ∧ h = h0
theorem ef_rm_leq_1_1 (m : MethodId) (b1 : Addr) (b2 : Addr) (kb1 : ClassId) (kb2 : ClassId) (d1 : Int32) (f1 : Int32) : entryFrame m #[(.ref b1), (.ref b2)] 3 = mkF m 0 #[.val (.ref b1), .val (.ref b2), .unset] [] := by first | (simp [entryFrame, mkF, argsToLocals, Value.category]; done) | rfl
set_option maxRecDepth 65536 in
set_option maxHeartbeats 40000000 in
theorem rm_leq_1_1 (l : Launch) (Z : State) (a0 : Array Value) (hw : ∀ d ∈ tables_1, d.before a0 Z = true) (ws : List Jvm.Cond) (b1 : Addr) (b2 : Addr) (kb1 : ClassId) (kb2 : ClassId) (d1 : Int32) (f1 : Int32) (h0 : Heap) (n0 : Nat) (O0 : Old Z n0 h0) (Vb1 : Arv Z h0 b1 kb1 .byte (1 : Int32) [(.int d1)] (.int (0 : Int32))) (Vb2 : Arv Z h0 b2 kb2 .byte (1 : Int32) [(.int f1)] (.int (0 : Int32))) :
    MetFree l (⟨"java/lang/StringLatin1", "equals", "([B[B)Z"⟩ : MethodName) (head1 (Jvm.Cond.code (⟨"java/lang/StringLatin1", "equals", "([B[B)Z"⟩ : MethodName) jdk_43_method_13_code 3 (some .boolean) :: ws) ({ frames := 0, cells := 0, slots := 0, locals := 0 } : Room)) (fun a U => a = #[(.ref b1), (.ref b2)] ∧ Z.Warmed39 U.vm ∧ U.heap = h0) (fun _ _ _ _ _ => True) (fun _ U o U' => ∃ v L, o = .returned v ∧ Q_rm_leq_1_1 Z b1 b2 kb1 kb2 d1 f1 h0 n0 v U'.heap L ∧ FrameEnd U o U' L ({ frames := 0, cells := 0, slots := 0, locals := 0 } : Room).cells ({ frames := 0, cells := 0, slots := 0, locals := 0 } : Room).slots) := by
  refine MetFree.of_bodySF (plainFor_of_name own_pn_java_lang_StringLatin1) hisR ?_
  intro p e s m args below meth c s₁ Bd hml0 hP hK
  obtain ⟨rfl, hZ, hh⟩ := hP
  have hx := Bd.exec
  have hby := Bd.bytes
  have hml : c.maxLocals = 3 := hml0
  have hown : s.vm.findClass "java/lang/StringLatin1" = some m.cls := findClass_of_methodNamed Bd.named
  have hnm := (name_of_methodNamed Bd.named Bd.method).1
  have X0 : Stand p l e ({ frames := 0, cells := 0, slots := 0, locals := 0 } : Room) s m #[(.ref b1), (.ref b2)] below meth c s₁ [] 0 0 := Stand.of_body Bd
  have e0 : s₁.heap = h0 := by rw [← hh, Bd.state]; rfl
  have N0 := Fr.nil n0
  have Z0 : n0 ≤ h0.size := by rw [← O0.1]; exact O0.2.1
  show own_Go p e below (s₁.setTop (entryFrame m #[(.ref b1), (.ref b2)] 3)) (fun t o => ∃ v L, o = .returned v ∧ Q_rm_leq_1_1 Z b1 b2 kb1 kb2 d1 f1 h0 n0 v t.heap L ∧ FrameEnd s o t L ({ frames := 0, cells := 0, slots := 0, locals := 0 } : Room).cells ({ frames := 0, cells := 0, slots := 0, locals := 0 } : Room).slots)
  rw [ef_rm_leq_1_1 m b1 b2 kb1 kb2 d1 f1]
  have lt_Vb1 : h0.size > b1 := Vb1.lt
  have lt_Vb2 : h0.size > b2 := Vb2.lt
  refine own_by (fun _ k => XS.aloadN X0.here hx rfl (hb hby d_rm_leq_1_1_0) rfl rfl k) ?_
  obtain ⟨cl1, Ar1, q1, S1, M1, H1, G1⟩ := (id Vb1)
  refine own_by (X0.arraylength hx (by rw [e0]; exact Ar1.1) (State.isArrayOf_alike hZ.alike Ar1.2.1) (g := (mkF m 1 #[.val (.ref b1), .val (.ref b2), .unset] [(.ref b1)])) rfl rfl (hb hby d_rm_leq_1_1_1)) ?_
  rw [len_of S1 M1]
  refine own_by (fun _ k => XS.aloadN X0.here hx rfl (hb hby d_rm_leq_1_1_2) rfl rfl k) ?_
  obtain ⟨cl2, Ar2, q2, S2, M2, H2, G2⟩ := (id Vb2)
  refine own_by (X0.arraylength hx (by rw [e0]; exact Ar2.1) (State.isArrayOf_alike hZ.alike Ar2.2.1) (g := (mkF m 3 #[.val (.ref b1), .val (.ref b2), .unset] [(.ref b2), (.int (1 : Int32))])) rfl rfl (hb hby d_rm_leq_1_1_3)) ?_
  rw [len_of S2 M2]
  show own_Go p e below (s₁.setTop (mkF m 4 #[.val (.ref b1), .val (.ref b2), .unset] [(.int (1 : Int32)), (.int (1 : Int32))])) _
  refine own_by (fun _ k => XS.icmpNo X0.here hx rfl (hb hby d_rm_leq_1_1_4) rfl (teq (by decide : (1 : Int32) = (1 : Int32))).2 k) ?_
  show own_Go p e below (s₁.setTop (mkF m 7 #[.val (.ref b1), .val (.ref b2), .unset] [])) _
  refine own_by (fun _ k => XS.iconst X0.here hx rfl (hb hby d_rm_leq_1_1_7) k) ?_
  refine own_by (fun _ k => XS.istoreN X0.here hx rfl (hb hby d_rm_leq_1_1_8) rfl (l' := #[.val (.ref b1), .val (.ref b2), .val (.int (0 : Int32))]) rfl k) ?_
  refine own_by (fun _ k => XS.iloadN X0.here hx rfl (hb hby d_rm_leq_1_1_9) rfl k) ?_
  refine own_by (fun _ k => XS.aloadN X0.here hx rfl (hb hby d_rm_leq_1_1_10) rfl rfl k) ?_
  show own_Go p e below (s₁.setTop (mkF m 11 #[.val (.ref b1), .val (.ref b2), .val (.int (0 : Int32))] [(.ref b1), (.int (0 : Int32))])) _
  obtain ⟨cl3, Ar3, q3, S3, M3, H3, G3⟩ := (id Vb1)
  refine own_by (X0.arraylength hx (by rw [e0]; exact Ar3.1) (State.isArrayOf_alike hZ.alike Ar3.2.1) (g := (mkF m 11 #[.val (.ref b1), .val (.ref b2), .val (.int (0 : Int32))] [(.ref b1), (.int (0 : Int32))])) rfl rfl (hb hby d_rm_leq_1_1_11)) ?_
  rw [len_of S3 M3]
  refine own_by (fun _ k => XS.icmpNo X0.here hx rfl (hb hby d_rm_leq_1_1_12) rfl (tlt (by decide : (0 : Int32) < (1 : Int32))).2.1 k) ?_
  show own_Go p e below (s₁.setTop (mkF m 15 #[.val (.ref b1), .val (.ref b2), .val (.int (0 : Int32))] [])) _
  refine own_by (fun _ k => XS.aloadN X0.here hx rfl (hb hby d_rm_leq_1_1_15) rfl rfl k) ?_
  refine own_by (fun _ k => XS.iloadN X0.here hx rfl (hb hby d_rm_leq_1_1_16) rfl k) ?_
  obtain ⟨cl4, Ar4, q4, S4, M4, H4, G4⟩ := (id Vb1)
  have hin4 : ¬ ((0 : Int32) < 0 ∨ cl4.slots.size ≤ ((0 : Int32)).toNatClampNeg) := inb_of S4 ⟨by decide, by decide⟩
  refine own_by (X0.baloadBytes hx (j := (0 : Int32)) (v := (.int d1)) (by rw [e0]; exact Ar4.1) (State.isArrayOf_alike hZ.alike Ar4.2.1) Ar4.2.2 hin4 (H4.at hin4 rfl) (g := (mkF m 17 #[.val (.ref b1), .val (.ref b2), .val (.int (0 : Int32))] [(.int (0 : Int32)), (.ref b1)])) rfl rfl (hb hby d_rm_leq_1_1_17)) ?_
  refine own_by (fun _ k => XS.aloadN X0.here hx rfl (hb hby d_rm_leq_1_1_18) rfl rfl k) ?_
  show own_Go p e below (s₁.setTop (mkF m 19 #[.val (.ref b1), .val (.ref b2), .val (.int (0 : Int32))] [(.ref b2), (.int d1)])) _
  refine own_by (fun _ k => XS.iloadN X0.here hx rfl (hb hby d_rm_leq_1_1_19) rfl k) ?_
  obtain ⟨cl5, Ar5, q5, S5, M5, H5, G5⟩ := (id Vb2)
  have hin5 : ¬ ((0 : Int32) < 0 ∨ cl5.slots.size ≤ ((0 : Int32)).toNatClampNeg) := inb_of S5 ⟨by decide, by decide⟩
  refine own_by (X0.baloadBytes hx (j := (0 : Int32)) (v := (.int f1)) (by rw [e0]; exact Ar5.1) (State.isArrayOf_alike hZ.alike Ar5.2.1) Ar5.2.2 hin5 (H5.at hin5 rfl) (g := (mkF m 20 #[.val (.ref b1), .val (.ref b2), .val (.int (0 : Int32))] [(.int (0 : Int32)), (.ref b2), (.int d1)])) rfl rfl (hb hby d_rm_leq_1_1_20)) ?_
  by_cases hc6 : d1 = f1
  · skip
    refine own_by (fun _ k => XS.icmpYes X0.here hx rfl (pc0 := 21) (pc' := 26) rfl (hb hby d_rm_leq_1_1_21) rfl (teq hc6).1 (by decide) (by decide) k) ?_
    show own_Go p e below (s₁.setTop (mkF m 26 #[.val (.ref b1), .val (.ref b2), .val (.int (0 : Int32))] [])) _
    refine own_by (fun _ k => XS.iinc X0.here hx rfl (hb hby d_rm_leq_1_1_26) rfl (l' := #[.val (.ref b1), .val (.ref b2), .val (.int (1 : Int32))]) rfl k) ?_
    refine own_by (fun _ k => XS.goto X0.here hx rfl (pc0 := 29) (pc' := 9) rfl (hb hby d_rm_leq_1_1_29) (by decide) (by decide) k) ?_
    refine own_by (fun _ k => XS.iloadN X0.here hx rfl (hb hby d_rm_leq_1_1_9) rfl k) ?_
    refine own_by (fun _ k => XS.aloadN X0.here hx rfl (hb hby d_rm_leq_1_1_10) rfl rfl k) ?_
    show own_Go p e below (s₁.setTop (mkF m 11 #[.val (.ref b1), .val (.ref b2), .val (.int (1 : Int32))] [(.ref b1), (.int (1 : Int32))])) _
    obtain ⟨cl7, Ar7, q7, S7, M7, H7, G7⟩ := (id Vb1)
    refine own_by (X0.arraylength hx (by rw [e0]; exact Ar7.1) (State.isArrayOf_alike hZ.alike Ar7.2.1) (g := (mkF m 11 #[.val (.ref b1), .val (.ref b2), .val (.int (1 : Int32))] [(.ref b1), (.int (1 : Int32))])) rfl rfl (hb hby d_rm_leq_1_1_11)) ?_
    rw [len_of S7 M7]
    refine own_by (fun _ k => XS.icmpYes X0.here hx rfl (pc0 := 12) (pc' := 32) rfl (hb hby d_rm_leq_1_1_12) rfl (flt (by decide : ¬ ((1 : Int32) < (1 : Int32)))).2.1 (by decide) (by decide) k) ?_
    show own_Go p e below (s₁.setTop (mkF m 32 #[.val (.ref b1), .val (.ref b2), .val (.int (1 : Int32))] [])) _
    refine own_by (fun _ k => XS.iconst X0.here hx rfl (hb hby d_rm_leq_1_1_32) k) ?_
    obtain ⟨fs, hr, hrun, hended, hW, hsame⟩ := X0.leave (v := some (.int (1 : Int32))) (fun h => by rw [Bd.returns] at h; cases h)
    refine ⟨_, _, retN X0 hx (t := .boolean) Bd.returns (by simp) (hb hby d_rm_leq_1_1_33) hr, hrun, hended, _, _, rfl, ?_, ⟨_, rfl⟩, hW, hsame.mono (by decide) (by decide)⟩
    show Q_rm_leq_1_1 Z b1 b2 kb1 kb2 d1 f1 h0 n0 _ s₁.heap _
    rw [e0]
    exact ⟨(by simp [own_all, hc6]), N0, rfl⟩
  · skip
    refine own_by (fun _ k => XS.icmpNo X0.here hx rfl (hb hby d_rm_leq_1_1_21) rfl (feq hc6).1 k) ?_
    show own_Go p e below (s₁.setTop (mkF m 24 #[.val (.ref b1), .val (.ref b2), .val (.int (0 : Int32))] [])) _
    refine own_by (fun _ k => XS.iconst X0.here hx rfl (hb hby d_rm_leq_1_1_24) k) ?_
    obtain ⟨fs, hr, hrun, hended, hW, hsame⟩ := X0.leave (v := some (.int (0 : Int32))) (fun h => by rw [Bd.returns] at h; cases h)
    refine ⟨_, _, retN X0 hx (t := .boolean) Bd.returns (by simp) (hb hby d_rm_leq_1_1_25) hr, hrun, hended, _, _, rfl, ?_, ⟨_, rfl⟩, hW, hsame.mono (by decide) (by decide)⟩
    show Q_rm_leq_1_1 Z b1 b2 kb1 kb2 d1 f1 h0 n0 _ s₁.heap _
    rw [e0]
    exact ⟨(by simp [own_all, hc6]), N0, rfl⟩
theorem d_rm_leq_1_2_0 : decode jdk_43_method_13_code 0 = .ok (.aload_n 0, 1) := by decide +kernel
theorem d_rm_leq_1_2_1 : decode jdk_43_method_13_code 1 = .ok (.arraylength, 1) := by decide +kernel
theorem d_rm_leq_1_2_2 : decode jdk_43_method_13_code 2 = .ok (.aload_n 1, 1) := by decide +kernel
theorem d_rm_leq_1_2_3 : decode jdk_43_method_13_code 3 = .ok (.arraylength, 1) := by decide +kernel
theorem d_rm_leq_1_2_4 : decode jdk_43_method_13_code 4 = .ok (.if_icmp .ne 30, 3) := by decide +kernel
theorem d_rm_leq_1_2_34 : decode jdk_43_method_13_code 34 = .ok (.iconst 0, 1) := by decide +kernel
theorem d_rm_leq_1_2_35 : decode jdk_43_method_13_code 35 = .ok (.ireturn, 1) := by decide +kernel
def Q_rm_leq_1_2 (Z : State) (b1 : Addr) (b2 : Addr) (kb1 : ClassId) (kb2 : ClassId) (d1 : Int32) (f1 : Int32) (f2 : Int32) (h0 : Heap) (n0 : Nat) (v : Option Value) (h : Heap) (L : List Loc) : Prop := v = some (.int (0 : Int32)) ∧ Fr n0 L ∧ h = h0
theorem ef_rm_leq_1_2 (m : MethodId) (b1 : Addr) (b2 : Addr) (kb1 : ClassId) (kb2 : ClassId) (d1 : Int32) (f1 : Int32) (f2 : Int32) : entryFrame m #[(.ref b1), (.ref b2)] 3 = mkF m 0 #[.val (.ref b1), .val (.ref b2), .unset] [] := by first | (simp [entryFrame, mkF, argsToLocals, Value.category]; done) | rfl
set_option maxRecDepth 65536 in
set_option maxHeartbeats 40000000 in
theorem rm_leq_1_2 (l : Launch) (Z : State) (a0 : Array Value) (hw : ∀ d ∈ tables_1, d.before a0 Z = true) (ws : List Jvm.Cond) (b1 : Addr) (b2 : Addr) (kb1 : ClassId) (kb2 : ClassId) (d1 : Int32) (f1 : Int32) (f2 : Int32) (h0 : Heap) (n0 : Nat) (O0 : Old Z n0 h0) (Vb1 : Arv Z h0 b1 kb1 .byte (1 : Int32) [(.int d1)] (.int (0 : Int32))) (Vb2 : Arv Z h0 b2 kb2 .byte (2 : Int32) [(.int f1), (.int f2)] (.int (0 : Int32))) :
    MetFree l (⟨"java/lang/StringLatin1", "equals", "([B[B)Z"⟩ : MethodName) (head1 (Jvm.Cond.code (⟨"java/lang/StringLatin1", "equals", "([B[B)Z"⟩ : MethodName) jdk_43_method_13_code 3 (some .boolean) :: ws) ({ frames := 0, cells := 0, slots := 0, locals := 0 } : Room)) (fun a U => a = #[(.ref b1), (.ref b2)] ∧ Z.Warmed39 U.vm ∧ U.heap = h0) (fun _ _ _ _ _ => True) (fun _ U o U' => ∃ v L, o = .returned v ∧ Q_rm_leq_1_2 Z b1 b2 kb1 kb2 d1 f1 f2 h0 n0 v U'.heap L ∧ FrameEnd U o U' L ({ frames := 0, cells := 0, slots := 0, locals := 0 } : Room).cells ({ frames := 0, cells := 0, slots := 0, locals := 0 } : Room).slots) := by
  refine MetFree.of_bodySF (plainFor_of_name own_pn_java_lang_StringLatin1) hisR ?_
  intro p e s m args below meth c s₁ Bd hml0 hP hK
  obtain ⟨rfl, hZ, hh⟩ := hP
  have hx := Bd.exec
  have hby := Bd.bytes
  have hml : c.maxLocals = 3 := hml0
  have hown : s.vm.findClass "java/lang/StringLatin1" = some m.cls := findClass_of_methodNamed Bd.named
  have hnm := (name_of_methodNamed Bd.named Bd.method).1
  have X0 : Stand p l e ({ frames := 0, cells := 0, slots := 0, locals := 0 } : Room) s m #[(.ref b1), (.ref b2)] below meth c s₁ [] 0 0 := Stand.of_body Bd
  have e0 : s₁.heap = h0 := by rw [← hh, Bd.state]; rfl
  have N0 := Fr.nil n0
  have Z0 : n0 ≤ h0.size := by rw [← O0.1]; exact O0.2.1
  show own_Go p e below (s₁.setTop (entryFrame m #[(.ref b1), (.ref b2)] 3)) (fun t o => ∃ v L, o = .returned v ∧ Q_rm_leq_1_2 Z b1 b2 kb1 kb2 d1 f1 f2 h0 n0 v t.heap L ∧ FrameEnd s o t L ({ frames := 0, cells := 0, slots := 0, locals := 0 } : Room).cells ({ frames := 0, cells := 0, slots := 0, locals := 0 } : Room).slots)
  rw [ef_rm_leq_1_2 m b1 b2 kb1 kb2 d1 f1 f2]
  have lt_Vb1 : h0.size > b1 := Vb1.lt
  have lt_Vb2 : h0.size > b2 := Vb2.lt
  refine own_by (fun _ k => XS.aloadN X0.here hx rfl (hb hby d_rm_leq_1_2_0) rfl rfl k) ?_
  obtain ⟨cl1, Ar1, q1, S1, M1, H1, G1⟩ := (id Vb1)
  refine own_by (X0.arraylength hx (by rw [e0]; exact Ar1.1) (State.isArrayOf_alike hZ.alike Ar1.2.1) (g := (mkF m 1 #[.val (.ref b1), .val (.ref b2), .unset] [(.ref b1)])) rfl rfl (hb hby d_rm_leq_1_2_1)) ?_
  rw [len_of S1 M1]
  refine own_by (fun _ k => XS.aloadN X0.here hx rfl (hb hby d_rm_leq_1_2_2) rfl rfl k) ?_
  obtain ⟨cl2, Ar2, q2, S2, M2, H2, G2⟩ := (id Vb2)
  refine own_by (X0.arraylength hx (by rw [e0]; exact Ar2.1) (State.isArrayOf_alike hZ.alike Ar2.2.1) (g := (mkF m 3 #[.val (.ref b1), .val (.ref b2), .unset] [(.ref b2), (.int (1 : Int32))])) rfl rfl (hb hby d_rm_leq_1_2_3)) ?_
  rw [len_of S2 M2]
  show own_Go p e below (s₁.setTop (mkF m 4 #[.val (.ref b1), .val (.ref b2), .unset] [(.int (2 : Int32)), (.int (1 : Int32))])) _
  refine own_by (fun _ k => XS.icmpYes X0.here hx rfl (pc0 := 4) (pc' := 34) rfl (hb hby d_rm_leq_1_2_4) rfl (feq (by decide : ¬ ((1 : Int32) = (2 : Int32)))).2 (by decide) (by decide) k) ?_
  show own_Go p e below (s₁.setTop (mkF m 34 #[.val (.ref b1), .val (.ref b2), .unset] [])) _
  refine own_by (fun _ k => XS.iconst X0.here hx rfl (hb hby d_rm_leq_1_2_34) k) ?_
  obtain ⟨fs, hr, hrun, hended, hW, hsame⟩ := X0.leave (v := some (.int (0 : Int32))) (fun h => by rw [Bd.returns] at h; cases h)
  refine ⟨_, _, retN X0 hx (t := .boolean) Bd.returns (by simp) (hb hby d_rm_leq_1_2_35) hr, hrun, hended, _, _, rfl, ?_, ⟨_, rfl⟩, hW, hsame.mono (by decide) (by decide)⟩
  show Q_rm_leq_1_2 Z b1 b2 kb1 kb2 d1 f1 f2 h0 n0 _ s₁.heap _
  rw [e0]
  exact ⟨rfl, N0, rfl⟩
theorem d_rm_leq_1_3_0 : decode jdk_43_method_13_code 0 = .ok (.aload_n 0, 1) := by decide +kernel
theorem d_rm_leq_1_3_1 : decode jdk_43_method_13_code 1 = .ok (.arraylength, 1) := by decide +kernel
theorem d_rm_leq_1_3_2 : decode jdk_43_method_13_code 2 = .ok (.aload_n 1, 1) := by decide +kernel
theorem d_rm_leq_1_3_3 : decode jdk_43_method_13_code 3 = .ok (.arraylength, 1) := by decide +kernel
theorem d_rm_leq_1_3_4 : decode jdk_43_method_13_code 4 = .ok (.if_icmp .ne 30, 3) := by decide +kernel
theorem d_rm_leq_1_3_34 : decode jdk_43_method_13_code 34 = .ok (.iconst 0, 1) := by decide +kernel
theorem d_rm_leq_1_3_35 : decode jdk_43_method_13_code 35 = .ok (.ireturn, 1) := by decide +kernel
def Q_rm_leq_1_3 (Z : State) (b1 : Addr) (b2 : Addr) (kb1 : ClassId) (kb2 : ClassId) (d1 : Int32) (f1 : Int32) (f2 : Int32) (f3 : Int32) (h0 : Heap) (n0 : Nat) (v : Option Value) (h : Heap) (L : List Loc) : Prop := v = some (.int (0 : Int32)) ∧ Fr n0 L ∧ h = h0
theorem ef_rm_leq_1_3 (m : MethodId) (b1 : Addr) (b2 : Addr) (kb1 : ClassId) (kb2 : ClassId) (d1 : Int32) (f1 : Int32) (f2 : Int32) (f3 : Int32) : entryFrame m #[(.ref b1), (.ref b2)] 3 = mkF m 0 #[.val (.ref b1), .val (.ref b2), .unset] [] := by first | (simp [entryFrame, mkF, argsToLocals, Value.category]; done) | rfl
set_option maxRecDepth 65536 in
set_option maxHeartbeats 40000000 in
theorem rm_leq_1_3 (l : Launch) (Z : State) (a0 : Array Value) (hw : ∀ d ∈ tables_1, d.before a0 Z = true) (ws : List Jvm.Cond) (b1 : Addr) (b2 : Addr) (kb1 : ClassId) (kb2 : ClassId) (d1 : Int32) (f1 : Int32) (f2 : Int32) (f3 : Int32) (h0 : Heap) (n0 : Nat) (O0 : Old Z n0 h0) (Vb1 : Arv Z h0 b1 kb1 .byte (1 : Int32) [(.int d1)] (.int (0 : Int32))) (Vb2 : Arv Z h0 b2 kb2 .byte (3 : Int32) [(.int f1), (.int f2), (.int f3)] (.int (0 : Int32))) :
    MetFree l (⟨"java/lang/StringLatin1", "equals", "([B[B)Z"⟩ : MethodName) (head1 (Jvm.Cond.code (⟨"java/lang/StringLatin1", "equals", "([B[B)Z"⟩ : MethodName) jdk_43_method_13_code 3 (some .boolean) :: ws) ({ frames := 0, cells := 0, slots := 0, locals := 0 } : Room)) (fun a U => a = #[(.ref b1), (.ref b2)] ∧ Z.Warmed39 U.vm ∧ U.heap = h0) (fun _ _ _ _ _ => True) (fun _ U o U' => ∃ v L, o = .returned v ∧ Q_rm_leq_1_3 Z b1 b2 kb1 kb2 d1 f1 f2 f3 h0 n0 v U'.heap L ∧ FrameEnd U o U' L ({ frames := 0, cells := 0, slots := 0, locals := 0 } : Room).cells ({ frames := 0, cells := 0, slots := 0, locals := 0 } : Room).slots) := by
  refine MetFree.of_bodySF (plainFor_of_name own_pn_java_lang_StringLatin1) hisR ?_
  intro p e s m args below meth c s₁ Bd hml0 hP hK
  obtain ⟨rfl, hZ, hh⟩ := hP
  have hx := Bd.exec
  have hby := Bd.bytes
  have hml : c.maxLocals = 3 := hml0
  have hown : s.vm.findClass "java/lang/StringLatin1" = some m.cls := findClass_of_methodNamed Bd.named
  have hnm := (name_of_methodNamed Bd.named Bd.method).1
  have X0 : Stand p l e ({ frames := 0, cells := 0, slots := 0, locals := 0 } : Room) s m #[(.ref b1), (.ref b2)] below meth c s₁ [] 0 0 := Stand.of_body Bd
  have e0 : s₁.heap = h0 := by rw [← hh, Bd.state]; rfl
  have N0 := Fr.nil n0
  have Z0 : n0 ≤ h0.size := by rw [← O0.1]; exact O0.2.1
  show own_Go p e below (s₁.setTop (entryFrame m #[(.ref b1), (.ref b2)] 3)) (fun t o => ∃ v L, o = .returned v ∧ Q_rm_leq_1_3 Z b1 b2 kb1 kb2 d1 f1 f2 f3 h0 n0 v t.heap L ∧ FrameEnd s o t L ({ frames := 0, cells := 0, slots := 0, locals := 0 } : Room).cells ({ frames := 0, cells := 0, slots := 0, locals := 0 } : Room).slots)
  rw [ef_rm_leq_1_3 m b1 b2 kb1 kb2 d1 f1 f2 f3]
  have lt_Vb1 : h0.size > b1 := Vb1.lt
  have lt_Vb2 : h0.size > b2 := Vb2.lt
  refine own_by (fun _ k => XS.aloadN X0.here hx rfl (hb hby d_rm_leq_1_3_0) rfl rfl k) ?_
  obtain ⟨cl1, Ar1, q1, S1, M1, H1, G1⟩ := (id Vb1)
  refine own_by (X0.arraylength hx (by rw [e0]; exact Ar1.1) (State.isArrayOf_alike hZ.alike Ar1.2.1) (g := (mkF m 1 #[.val (.ref b1), .val (.ref b2), .unset] [(.ref b1)])) rfl rfl (hb hby d_rm_leq_1_3_1)) ?_
  rw [len_of S1 M1]
  refine own_by (fun _ k => XS.aloadN X0.here hx rfl (hb hby d_rm_leq_1_3_2) rfl rfl k) ?_
  obtain ⟨cl2, Ar2, q2, S2, M2, H2, G2⟩ := (id Vb2)
  refine own_by (X0.arraylength hx (by rw [e0]; exact Ar2.1) (State.isArrayOf_alike hZ.alike Ar2.2.1) (g := (mkF m 3 #[.val (.ref b1), .val (.ref b2), .unset] [(.ref b2), (.int (1 : Int32))])) rfl rfl (hb hby d_rm_leq_1_3_3)) ?_
  rw [len_of S2 M2]
  show own_Go p e below (s₁.setTop (mkF m 4 #[.val (.ref b1), .val (.ref b2), .unset] [(.int (3 : Int32)), (.int (1 : Int32))])) _
  refine own_by (fun _ k => XS.icmpYes X0.here hx rfl (pc0 := 4) (pc' := 34) rfl (hb hby d_rm_leq_1_3_4) rfl (feq (by decide : ¬ ((1 : Int32) = (3 : Int32)))).2 (by decide) (by decide) k) ?_
  show own_Go p e below (s₁.setTop (mkF m 34 #[.val (.ref b1), .val (.ref b2), .unset] [])) _
  refine own_by (fun _ k => XS.iconst X0.here hx rfl (hb hby d_rm_leq_1_3_34) k) ?_
  obtain ⟨fs, hr, hrun, hended, hW, hsame⟩ := X0.leave (v := some (.int (0 : Int32))) (fun h => by rw [Bd.returns] at h; cases h)
  refine ⟨_, _, retN X0 hx (t := .boolean) Bd.returns (by simp) (hb hby d_rm_leq_1_3_35) hr, hrun, hended, _, _, rfl, ?_, ⟨_, rfl⟩, hW, hsame.mono (by decide) (by decide)⟩
  show Q_rm_leq_1_3 Z b1 b2 kb1 kb2 d1 f1 f2 f3 h0 n0 _ s₁.heap _
  rw [e0]
  exact ⟨rfl, N0, rfl⟩
theorem d_rm_leq_2_0_0 : decode jdk_43_method_13_code 0 = .ok (.aload_n 0, 1) := by decide +kernel
theorem d_rm_leq_2_0_1 : decode jdk_43_method_13_code 1 = .ok (.arraylength, 1) := by decide +kernel
theorem d_rm_leq_2_0_2 : decode jdk_43_method_13_code 2 = .ok (.aload_n 1, 1) := by decide +kernel
theorem d_rm_leq_2_0_3 : decode jdk_43_method_13_code 3 = .ok (.arraylength, 1) := by decide +kernel
theorem d_rm_leq_2_0_4 : decode jdk_43_method_13_code 4 = .ok (.if_icmp .ne 30, 3) := by decide +kernel
theorem d_rm_leq_2_0_34 : decode jdk_43_method_13_code 34 = .ok (.iconst 0, 1) := by decide +kernel
theorem d_rm_leq_2_0_35 : decode jdk_43_method_13_code 35 = .ok (.ireturn, 1) := by decide +kernel
def Q_rm_leq_2_0 (Z : State) (b1 : Addr) (b2 : Addr) (kb1 : ClassId) (kb2 : ClassId) (d1 : Int32) (d2 : Int32) (h0 : Heap) (n0 : Nat) (v : Option Value) (h : Heap) (L : List Loc) : Prop := v = some (.int (0 : Int32)) ∧ Fr n0 L ∧ h = h0
theorem ef_rm_leq_2_0 (m : MethodId) (b1 : Addr) (b2 : Addr) (kb1 : ClassId) (kb2 : ClassId) (d1 : Int32) (d2 : Int32) : entryFrame m #[(.ref b1), (.ref b2)] 3 = mkF m 0 #[.val (.ref b1), .val (.ref b2), .unset] [] := by first | (simp [entryFrame, mkF, argsToLocals, Value.category]; done) | rfl
set_option maxRecDepth 65536 in
set_option maxHeartbeats 40000000 in
theorem rm_leq_2_0 (l : Launch) (Z : State) (a0 : Array Value) (hw : ∀ d ∈ tables_1, d.before a0 Z = true) (ws : List Jvm.Cond) (b1 : Addr) (b2 : Addr) (kb1 : ClassId) (kb2 : ClassId) (d1 : Int32) (d2 : Int32) (h0 : Heap) (n0 : Nat) (O0 : Old Z n0 h0) (Vb1 : Arv Z h0 b1 kb1 .byte (2 : Int32) [(.int d1), (.int d2)] (.int (0 : Int32))) (Vb2 : Arv Z h0 b2 kb2 .byte (0 : Int32) [] (.int (0 : Int32))) :
    MetFree l (⟨"java/lang/StringLatin1", "equals", "([B[B)Z"⟩ : MethodName) (head1 (Jvm.Cond.code (⟨"java/lang/StringLatin1", "equals", "([B[B)Z"⟩ : MethodName) jdk_43_method_13_code 3 (some .boolean) :: ws) ({ frames := 0, cells := 0, slots := 0, locals := 0 } : Room)) (fun a U => a = #[(.ref b1), (.ref b2)] ∧ Z.Warmed39 U.vm ∧ U.heap = h0) (fun _ _ _ _ _ => True) (fun _ U o U' => ∃ v L, o = .returned v ∧ Q_rm_leq_2_0 Z b1 b2 kb1 kb2 d1 d2 h0 n0 v U'.heap L ∧ FrameEnd U o U' L ({ frames := 0, cells := 0, slots := 0, locals := 0 } : Room).cells ({ frames := 0, cells := 0, slots := 0, locals := 0 } : Room).slots) := by
  refine MetFree.of_bodySF (plainFor_of_name own_pn_java_lang_StringLatin1) hisR ?_
  intro p e s m args below meth c s₁ Bd hml0 hP hK
  obtain ⟨rfl, hZ, hh⟩ := hP
  have hx := Bd.exec
  have hby := Bd.bytes
  have hml : c.maxLocals = 3 := hml0
  have hown : s.vm.findClass "java/lang/StringLatin1" = some m.cls := findClass_of_methodNamed Bd.named
  have hnm := (name_of_methodNamed Bd.named Bd.method).1
  have X0 : Stand p l e ({ frames := 0, cells := 0, slots := 0, locals := 0 } : Room) s m #[(.ref b1), (.ref b2)] below meth c s₁ [] 0 0 := Stand.of_body Bd
  have e0 : s₁.heap = h0 := by rw [← hh, Bd.state]; rfl
  have N0 := Fr.nil n0
  have Z0 : n0 ≤ h0.size := by rw [← O0.1]; exact O0.2.1
  show own_Go p e below (s₁.setTop (entryFrame m #[(.ref b1), (.ref b2)] 3)) (fun t o => ∃ v L, o = .returned v ∧ Q_rm_leq_2_0 Z b1 b2 kb1 kb2 d1 d2 h0 n0 v t.heap L ∧ FrameEnd s o t L ({ frames := 0, cells := 0, slots := 0, locals := 0 } : Room).cells ({ frames := 0, cells := 0, slots := 0, locals := 0 } : Room).slots)
  rw [ef_rm_leq_2_0 m b1 b2 kb1 kb2 d1 d2]
  have lt_Vb1 : h0.size > b1 := Vb1.lt
  have lt_Vb2 : h0.size > b2 := Vb2.lt
  refine own_by (fun _ k => XS.aloadN X0.here hx rfl (hb hby d_rm_leq_2_0_0) rfl rfl k) ?_
  obtain ⟨cl1, Ar1, q1, S1, M1, H1, G1⟩ := (id Vb1)
  refine own_by (X0.arraylength hx (by rw [e0]; exact Ar1.1) (State.isArrayOf_alike hZ.alike Ar1.2.1) (g := (mkF m 1 #[.val (.ref b1), .val (.ref b2), .unset] [(.ref b1)])) rfl rfl (hb hby d_rm_leq_2_0_1)) ?_
  rw [len_of S1 M1]
  refine own_by (fun _ k => XS.aloadN X0.here hx rfl (hb hby d_rm_leq_2_0_2) rfl rfl k) ?_
  obtain ⟨cl2, Ar2, q2, S2, M2, H2, G2⟩ := (id Vb2)
  refine own_by (X0.arraylength hx (by rw [e0]; exact Ar2.1) (State.isArrayOf_alike hZ.alike Ar2.2.1) (g := (mkF m 3 #[.val (.ref b1), .val (.ref b2), .unset] [(.ref b2), (.int (2 : Int32))])) rfl rfl (hb hby d_rm_leq_2_0_3)) ?_
  rw [len_of S2 M2]
  show own_Go p e below (s₁.setTop (mkF m 4 #[.val (.ref b1), .val (.ref b2), .unset] [(.int (0 : Int32)), (.int (2 : Int32))])) _
  refine own_by (fun _ k => XS.icmpYes X0.here hx rfl (pc0 := 4) (pc' := 34) rfl (hb hby d_rm_leq_2_0_4) rfl (feq (by decide : ¬ ((2 : Int32) = (0 : Int32)))).2 (by decide) (by decide) k) ?_
  show own_Go p e below (s₁.setTop (mkF m 34 #[.val (.ref b1), .val (.ref b2), .unset] [])) _
  refine own_by (fun _ k => XS.iconst X0.here hx rfl (hb hby d_rm_leq_2_0_34) k) ?_
  obtain ⟨fs, hr, hrun, hended, hW, hsame⟩ := X0.leave (v := some (.int (0 : Int32))) (fun h => by rw [Bd.returns] at h; cases h)
  refine ⟨_, _, retN X0 hx (t := .boolean) Bd.returns (by simp) (hb hby d_rm_leq_2_0_35) hr, hrun, hended, _, _, rfl, ?_, ⟨_, rfl⟩, hW, hsame.mono (by decide) (by decide)⟩
  show Q_rm_leq_2_0 Z b1 b2 kb1 kb2 d1 d2 h0 n0 _ s₁.heap _
  rw [e0]
  exact ⟨rfl, N0, rfl⟩
theorem d_rm_leq_2_1_0 : decode jdk_43_method_13_code 0 = .ok (.aload_n 0, 1) := by decide +kernel
theorem d_rm_leq_2_1_1 : decode jdk_43_method_13_code 1 = .ok (.arraylength, 1) := by decide +kernel
theorem d_rm_leq_2_1_2 : decode jdk_43_method_13_code 2 = .ok (.aload_n 1, 1) := by decide +kernel
theorem d_rm_leq_2_1_3 : decode jdk_43_method_13_code 3 = .ok (.arraylength, 1) := by decide +kernel
theorem d_rm_leq_2_1_4 : decode jdk_43_method_13_code 4 = .ok (.if_icmp .ne 30, 3) := by decide +kernel
theorem d_rm_leq_2_1_34 : decode jdk_43_method_13_code 34 = .ok (.iconst 0, 1) := by decide +kernel
theorem d_rm_leq_2_1_35 : decode jdk_43_method_13_code 35 = .ok (.ireturn, 1) := by decide +kernel
def Q_rm_leq_2_1 (Z : State) (b1 : Addr) (b2 : Addr) (kb1 : ClassId) (kb2 : ClassId) (d1 : Int32) (d2 : Int32) (f1 : Int32) (h0 : Heap) (n0 : Nat) (v : Option Value) (h : Heap) (L : List Loc) : Prop := v = some (.int (0 : Int32)) ∧ Fr n0 L ∧ h = h0
theorem ef_rm_leq_2_1 (m : MethodId) (b1 : Addr) (b2 : Addr) (kb1 : ClassId) (kb2 : ClassId) (d1 : Int32) (d2 : Int32) (f1 : Int32) : entryFrame m #[(.ref b1), (.ref b2)] 3 = mkF m 0 #[.val (.ref b1), .val (.ref b2), .unset] [] := by first | (simp [entryFrame, mkF, argsToLocals, Value.category]; done) | rfl
set_option maxRecDepth 65536 in
set_option maxHeartbeats 40000000 in
theorem rm_leq_2_1 (l : Launch) (Z : State) (a0 : Array Value) (hw : ∀ d ∈ tables_1, d.before a0 Z = true) (ws : List Jvm.Cond) (b1 : Addr) (b2 : Addr) (kb1 : ClassId) (kb2 : ClassId) (d1 : Int32) (d2 : Int32) (f1 : Int32) (h0 : Heap) (n0 : Nat) (O0 : Old Z n0 h0) (Vb1 : Arv Z h0 b1 kb1 .byte (2 : Int32) [(.int d1), (.int d2)] (.int (0 : Int32))) (Vb2 : Arv Z h0 b2 kb2 .byte (1 : Int32) [(.int f1)] (.int (0 : Int32))) :
    MetFree l (⟨"java/lang/StringLatin1", "equals", "([B[B)Z"⟩ : MethodName) (head1 (Jvm.Cond.code (⟨"java/lang/StringLatin1", "equals", "([B[B)Z"⟩ : MethodName) jdk_43_method_13_code 3 (some .boolean) :: ws) ({ frames := 0, cells := 0, slots := 0, locals := 0 } : Room)) (fun a U => a = #[(.ref b1), (.ref b2)] ∧ Z.Warmed39 U.vm ∧ U.heap = h0) (fun _ _ _ _ _ => True) (fun _ U o U' => ∃ v L, o = .returned v ∧ Q_rm_leq_2_1 Z b1 b2 kb1 kb2 d1 d2 f1 h0 n0 v U'.heap L ∧ FrameEnd U o U' L ({ frames := 0, cells := 0, slots := 0, locals := 0 } : Room).cells ({ frames := 0, cells := 0, slots := 0, locals := 0 } : Room).slots) := by
  refine MetFree.of_bodySF (plainFor_of_name own_pn_java_lang_StringLatin1) hisR ?_
  intro p e s m args below meth c s₁ Bd hml0 hP hK
  obtain ⟨rfl, hZ, hh⟩ := hP
  have hx := Bd.exec
  have hby := Bd.bytes
  have hml : c.maxLocals = 3 := hml0
  have hown : s.vm.findClass "java/lang/StringLatin1" = some m.cls := findClass_of_methodNamed Bd.named
  have hnm := (name_of_methodNamed Bd.named Bd.method).1
  have X0 : Stand p l e ({ frames := 0, cells := 0, slots := 0, locals := 0 } : Room) s m #[(.ref b1), (.ref b2)] below meth c s₁ [] 0 0 := Stand.of_body Bd
  have e0 : s₁.heap = h0 := by rw [← hh, Bd.state]; rfl
  have N0 := Fr.nil n0
  have Z0 : n0 ≤ h0.size := by rw [← O0.1]; exact O0.2.1
  show own_Go p e below (s₁.setTop (entryFrame m #[(.ref b1), (.ref b2)] 3)) (fun t o => ∃ v L, o = .returned v ∧ Q_rm_leq_2_1 Z b1 b2 kb1 kb2 d1 d2 f1 h0 n0 v t.heap L ∧ FrameEnd s o t L ({ frames := 0, cells := 0, slots := 0, locals := 0 } : Room).cells ({ frames := 0, cells := 0, slots := 0, locals := 0 } : Room).slots)
  rw [ef_rm_leq_2_1 m b1 b2 kb1 kb2 d1 d2 f1]
  have lt_Vb1 : h0.size > b1 := Vb1.lt
  have lt_Vb2 : h0.size > b2 := Vb2.lt
  refine own_by (fun _ k => XS.aloadN X0.here hx rfl (hb hby d_rm_leq_2_1_0) rfl rfl k) ?_
  obtain ⟨cl1, Ar1, q1, S1, M1, H1, G1⟩ := (id Vb1)
  refine own_by (X0.arraylength hx (by rw [e0]; exact Ar1.1) (State.isArrayOf_alike hZ.alike Ar1.2.1) (g := (mkF m 1 #[.val (.ref b1), .val (.ref b2), .unset] [(.ref b1)])) rfl rfl (hb hby d_rm_leq_2_1_1)) ?_
  rw [len_of S1 M1]
  refine own_by (fun _ k => XS.aloadN X0.here hx rfl (hb hby d_rm_leq_2_1_2) rfl rfl k) ?_
  obtain ⟨cl2, Ar2, q2, S2, M2, H2, G2⟩ := (id Vb2)
  refine own_by (X0.arraylength hx (by rw [e0]; exact Ar2.1) (State.isArrayOf_alike hZ.alike Ar2.2.1) (g := (mkF m 3 #[.val (.ref b1), .val (.ref b2), .unset] [(.ref b2), (.int (2 : Int32))])) rfl rfl (hb hby d_rm_leq_2_1_3)) ?_
  rw [len_of S2 M2]
  show own_Go p e below (s₁.setTop (mkF m 4 #[.val (.ref b1), .val (.ref b2), .unset] [(.int (1 : Int32)), (.int (2 : Int32))])) _
  refine own_by (fun _ k => XS.icmpYes X0.here hx rfl (pc0 := 4) (pc' := 34) rfl (hb hby d_rm_leq_2_1_4) rfl (feq (by decide : ¬ ((2 : Int32) = (1 : Int32)))).2 (by decide) (by decide) k) ?_
  show own_Go p e below (s₁.setTop (mkF m 34 #[.val (.ref b1), .val (.ref b2), .unset] [])) _
  refine own_by (fun _ k => XS.iconst X0.here hx rfl (hb hby d_rm_leq_2_1_34) k) ?_
  obtain ⟨fs, hr, hrun, hended, hW, hsame⟩ := X0.leave (v := some (.int (0 : Int32))) (fun h => by rw [Bd.returns] at h; cases h)
  refine ⟨_, _, retN X0 hx (t := .boolean) Bd.returns (by simp) (hb hby d_rm_leq_2_1_35) hr, hrun, hended, _, _, rfl, ?_, ⟨_, rfl⟩, hW, hsame.mono (by decide) (by decide)⟩
  show Q_rm_leq_2_1 Z b1 b2 kb1 kb2 d1 d2 f1 h0 n0 _ s₁.heap _
  rw [e0]
  exact ⟨rfl, N0, rfl⟩
theorem d_rm_leq_2_2_0 : decode jdk_43_method_13_code 0 = .ok (.aload_n 0, 1) := by decide +kernel
theorem d_rm_leq_2_2_1 : decode jdk_43_method_13_code 1 = .ok (.arraylength, 1) := by decide +kernel
theorem d_rm_leq_2_2_2 : decode jdk_43_method_13_code 2 = .ok (.aload_n 1, 1) := by decide +kernel
theorem d_rm_leq_2_2_3 : decode jdk_43_method_13_code 3 = .ok (.arraylength, 1) := by decide +kernel
theorem d_rm_leq_2_2_4 : decode jdk_43_method_13_code 4 = .ok (.if_icmp .ne 30, 3) := by decide +kernel
theorem d_rm_leq_2_2_7 : decode jdk_43_method_13_code 7 = .ok (.iconst 0, 1) := by decide +kernel
theorem d_rm_leq_2_2_8 : decode jdk_43_method_13_code 8 = .ok (.istore_n 2, 1) := by decide +kernel
theorem d_rm_leq_2_2_9 : decode jdk_43_method_13_code 9 = .ok (.iload_n 2, 1) := by decide +kernel
theorem d_rm_leq_2_2_10 : decode jdk_43_method_13_code 10 = .ok (.aload_n 0, 1) := by decide +kernel
theorem d_rm_leq_2_2_11 : decode jdk_43_method_13_code 11 = .ok (.arraylength, 1) := by decide +kernel
theorem d_rm_leq_2_2_12 : decode jdk_43_method_13_code 12 = .ok (.if_icmp .ge 20, 3) := by decide +kernel
theorem d_rm_leq_2_2_15 : decode jdk_43_method_13_code 15 = .ok (.aload_n 0, 1) := by decide +kernel
theorem d_rm_leq_2_2_16 : decode jdk_43_method_13_code 16 = .ok (.iload_n 2, 1) := by decide +kernel
theorem d_rm_leq_2_2_17 : decode jdk_43_method_13_code 17 = .ok (.baload, 1) := by decide +kernel
theorem d_rm_leq_2_2_18 : decode jdk_43_method_13_code 18 = .ok (.aload_n 1, 1) := by decide +kernel
theorem d_rm_leq_2_2_19 : decode jdk_43_method_13_code 19 = .ok (.iload_n 2, 1) := by decide +kernel
theorem d_rm_leq_2_2_20 : decode jdk_43_method_13_code 20 = .ok (.baload, 1) := by decide +kernel
theorem d_rm_leq_2_2_21 : decode jdk_43_method_13_code 21 = .ok (.if_icmp .eq 5, 3) := by decide +kernel
theorem d_rm_leq_2_2_24 : decode jdk_43_method_13_code 24 = .ok (.iconst 0, 1) := by decide +kernel
theorem d_rm_leq_2_2_25 : decode jdk_43_method_13_code 25 = .ok (.ireturn, 1) := by decide +kernel
theorem d_rm_leq_2_2_26 : decode jdk_43_method_13_code 26 = .ok (.iinc 2 1, 3) := by decide +kernel
theorem d_rm_leq_2_2_29 : decode jdk_43_method_13_code 29 = .ok (.goto (-20), 3) := by decide +kernel
theorem d_rm_leq_2_2_32 : decode jdk_43_method_13_code 32 = .ok (.iconst 1, 1) := by decide +kernel
theorem d_rm_leq_2_2_33 : decode jdk_43_method_13_code 33 = .ok (.ireturn, 1) := by decide +kernel
def Q_rm_leq_2_2 (Z : State) (b1 : Addr) (b2 : Addr) (kb1 : ClassId) (kb2 : ClassId) (d1 : Int32) (d2 : Int32) (f1 : Int32) (f2 : Int32) (h0 : Heap) (n0 : Nat) (v : Option Value) (h : Heap) (L : List Loc) : Prop := v = some (.int (own_all [(d1, f1), (d2, f2)])) ∧ Fr n0 L ∧ h = h0
theorem ef_rm_leq_2_2 (m : MethodId) (b1 : Addr) (b2 : Addr) (kb1 : ClassId) (kb2 : ClassId) (d1 : Int32) (d2 : Int32) (f1 : Int32) (f2 : Int32) : entryFrame m #[(.ref b1), (.ref b2)] 3 = mkF m 0 #[.val (.ref b1), .val (.ref b2), .unset] [] := by first | (simp [entryFrame, mkF, argsToLocals, Value.category]; done) | rfl
set_option maxRecDepth 65536 in
set_option maxHeartbeats 40000000 in
theorem rm_leq_2_2 (l : Launch) (Z : State) (a0 : Array Value) (hw : ∀ d ∈ tables_1, d.before a0 Z = true) (ws : List Jvm.Cond) (b1 : Addr) (b2 : Addr) (kb1 : ClassId) (kb2 : ClassId) (d1 : Int32) (d2 : Int32) (f1 : Int32) (f2 : Int32) (h0 : Heap) (n0 : Nat) (O0 : Old Z n0 h0) (Vb1 : Arv Z h0 b1 kb1 .byte (2 : Int32) [(.int d1), (.int d2)] (.int (0 : Int32))) (Vb2 : Arv Z h0 b2 kb2 .byte (2 : Int32) [(.int f1), (.int f2)] (.int (0 : Int32))) :
    MetFree l (⟨"java/lang/StringLatin1", "equals", "([B[B)Z"⟩ : MethodName) (head1 (Jvm.Cond.code (⟨"java/lang/StringLatin1", "equals", "([B[B)Z"⟩ : MethodName) jdk_43_method_13_code 3 (some .boolean) :: ws) ({ frames := 0, cells := 0, slots := 0, locals := 0 } : Room)) (fun a U => a = #[(.ref b1), (.ref b2)] ∧ Z.Warmed39 U.vm ∧ U.heap = h0) (fun _ _ _ _ _ => True) (fun _ U o U' => ∃ v L, o = .returned v ∧ Q_rm_leq_2_2 Z b1 b2 kb1 kb2 d1 d2 f1 f2 h0 n0 v U'.heap L ∧ FrameEnd U o U' L ({ frames := 0, cells := 0, slots := 0, locals := 0 } : Room).cells ({ frames := 0, cells := 0, slots := 0, locals := 0 } : Room).slots) := by
  refine MetFree.of_bodySF (plainFor_of_name own_pn_java_lang_StringLatin1) hisR ?_
  intro p e s m args below meth c s₁ Bd hml0 hP hK
  obtain ⟨rfl, hZ, hh⟩ := hP
  have hx := Bd.exec
  have hby := Bd.bytes
  have hml : c.maxLocals = 3 := hml0
  have hown : s.vm.findClass "java/lang/StringLatin1" = some m.cls := findClass_of_methodNamed Bd.named
  have hnm := (name_of_methodNamed Bd.named Bd.method).1
  have X0 : Stand p l e ({ frames := 0, cells := 0, slots := 0, locals := 0 } : Room) s m #[(.ref b1), (.ref b2)] below meth c s₁ [] 0 0 := Stand.of_body Bd
  have e0 : s₁.heap = h0 := by rw [← hh, Bd.state]; rfl
  have N0 := Fr.nil n0
  have Z0 : n0 ≤ h0.size := by rw [← O0.1]; exact O0.2.1
  show own_Go p e below (s₁.setTop (entryFrame m #[(.ref b1), (.ref b2)] 3)) (fun t o => ∃ v L, o = .returned v ∧ Q_rm_leq_2_2 Z b1 b2 kb1 kb2 d1 d2 f1 f2 h0 n0 v t.heap L ∧ FrameEnd s o t L ({ frames := 0, cells := 0, slots := 0, locals := 0 } : Room).cells ({ frames := 0, cells := 0, slots := 0, locals := 0 } : Room).slots)
  rw [ef_rm_leq_2_2 m b1 b2 kb1 kb2 d1 d2 f1 f2]
  have lt_Vb1 : h0.size > b1 := Vb1.lt
  have lt_Vb2 : h0.size > b2 := Vb2.lt
  refine own_by (fun _ k => XS.aloadN X0.here hx rfl (hb hby d_rm_leq_2_2_0) rfl rfl k) ?_
  obtain ⟨cl1, Ar1, q1, S1, M1, H1, G1⟩ := (id Vb1)
  refine own_by (X0.arraylength hx (by rw [e0]; exact Ar1.1) (State.isArrayOf_alike hZ.alike Ar1.2.1) (g := (mkF m 1 #[.val (.ref b1), .val (.ref b2), .unset] [(.ref b1)])) rfl rfl (hb hby d_rm_leq_2_2_1)) ?_
  rw [len_of S1 M1]
  refine own_by (fun _ k => XS.aloadN X0.here hx rfl (hb hby d_rm_leq_2_2_2) rfl rfl k) ?_
  obtain ⟨cl2, Ar2, q2, S2, M2, H2, G2⟩ := (id Vb2)
  refine own_by (X0.arraylength hx (by rw [e0]; exact Ar2.1) (State.isArrayOf_alike hZ.alike Ar2.2.1) (g := (mkF m 3 #[.val (.ref b1), .val (.ref b2), .unset] [(.ref b2), (.int (2 : Int32))])) rfl rfl (hb hby d_rm_leq_2_2_3)) ?_
  rw [len_of S2 M2]
  show own_Go p e below (s₁.setTop (mkF m 4 #[.val (.ref b1), .val (.ref b2), .unset] [(.int (2 : Int32)), (.int (2 : Int32))])) _
  refine own_by (fun _ k => XS.icmpNo X0.here hx rfl (hb hby d_rm_leq_2_2_4) rfl (teq (by decide : (2 : Int32) = (2 : Int32))).2 k) ?_
  show own_Go p e below (s₁.setTop (mkF m 7 #[.val (.ref b1), .val (.ref b2), .unset] [])) _
  refine own_by (fun _ k => XS.iconst X0.here hx rfl (hb hby d_rm_leq_2_2_7) k) ?_
  refine own_by (fun _ k => XS.istoreN X0.here hx rfl (hb hby d_rm_leq_2_2_8) rfl (l' := #[.val (.ref b1), .val (.ref b2), .val (.int (0 : Int32))]) rfl k) ?_
  refine own_by (fun _ k => XS.iloadN X0.here hx rfl (hb hby d_rm_leq_2_2_9) rfl k) ?_
  refine own_by (fun _ k => XS.aloadN X0.here hx rfl (hb hby d_rm_leq_2_2_10) rfl rfl k) ?_
  show own_Go p e below (s₁.setTop (mkF m 11 #[.val (.ref b1), .val (.ref b2), .val (.int (0 : Int32))] [(.ref b1), (.int (0 : Int32))])) _
  obtain ⟨cl3, Ar3, q3, S3, M3, H3, G3⟩ := (id Vb1)
  refine own_by (X0.arraylength hx (by rw [e0]; exact Ar3.1) (State.isArrayOf_alike hZ.alike Ar3.2.1) (g := (mkF m 11 #[.val (.ref b1), .val (.ref b2), .val (.int (0 : Int32))] [(.ref b1), (.int (0 : Int32))])) rfl rfl (hb hby d_rm_leq_2_2_11)) ?_
  rw [len_of S3 M3]
  refine own_by (fun _ k => XS.icmpNo X0.here hx rfl (hb hby d_rm_leq_2_2_12) rfl (tlt (by decide : (0 : Int32) < (2 : Int32))).2.1 k) ?_
  show own_Go p e below (s₁.setTop (mkF m 15 #[.val (.ref b1), .val (.ref b2), .val (.int (0 : Int32))] [])) _
  refine own_by (fun _ k => XS.aloadN X0.here hx rfl (hb hby d_rm_leq_2_2_15) rfl rfl k) ?_
  refine own_by (fun _ k => XS.iloadN X0.here hx rfl (hb hby d_rm_leq_2_2_16) rfl k) ?_
  obtain ⟨cl4, Ar4, q4, S4, M4, H4, G4⟩ := (id Vb1)
  have hin4 : ¬ ((0 : Int32) < 0 ∨ cl4.slots.size ≤ ((0 : Int32)).toNatClampNeg) := inb_of S4 ⟨by decide, by decide⟩
  refine own_by (X0.baloadBytes hx (j := (0 : Int32)) (v := (.int d1)) (by rw [e0]; exact Ar4.1) (State.isArrayOf_alike hZ.alike Ar4.2.1) Ar4.2.2 hin4 (H4.at hin4 rfl) (g := (mkF m 17 #[.val (.ref b1), .val (.ref b2), .val (.int (0 : Int32))] [(.int (0 : Int32)), (.ref b1)])) rfl rfl (hb hby d_rm_leq_2_2_17)) ?_
  refine own_by (fun _ k => XS.aloadN X0.here hx rfl (hb hby d_rm_leq_2_2_18) rfl rfl k) ?_
  show own_Go p e below (s₁.setTop (mkF m 19 #[.val (.ref b1), .val (.ref b2), .val (.int (0 : Int32))] [(.ref b2), (.int d1)])) _
  refine own_by (fun _ k => XS.iloadN X0.here hx rfl (hb hby d_rm_leq_2_2_19) rfl k) ?_
  obtain ⟨cl5, Ar5, q5, S5, M5, H5, G5⟩ := (id Vb2)
  have hin5 : ¬ ((0 : Int32) < 0 ∨ cl5.slots.size ≤ ((0 : Int32)).toNatClampNeg) := inb_of S5 ⟨by decide, by decide⟩
  refine own_by (X0.baloadBytes hx (j := (0 : Int32)) (v := (.int f1)) (by rw [e0]; exact Ar5.1) (State.isArrayOf_alike hZ.alike Ar5.2.1) Ar5.2.2 hin5 (H5.at hin5 rfl) (g := (mkF m 20 #[.val (.ref b1), .val (.ref b2), .val (.int (0 : Int32))] [(.int (0 : Int32)), (.ref b2), (.int d1)])) rfl rfl (hb hby d_rm_leq_2_2_20)) ?_
  by_cases hc6 : d1 = f1
  · skip
    refine own_by (fun _ k => XS.icmpYes X0.here hx rfl (pc0 := 21) (pc' := 26) rfl (hb hby d_rm_leq_2_2_21) rfl (teq hc6).1 (by decide) (by decide) k) ?_
    show own_Go p e below (s₁.setTop (mkF m 26 #[.val (.ref b1), .val (.ref b2), .val (.int (0 : Int32))] [])) _
    refine own_by (fun _ k => XS.iinc X0.here hx rfl (hb hby d_rm_leq_2_2_26) rfl (l' := #[.val (.ref b1), .val (.ref b2), .val (.int (1 : Int32))]) rfl k) ?_
    refine own_by (fun _ k => XS.goto X0.here hx rfl (pc0 := 29) (pc' := 9) rfl (hb hby d_rm_leq_2_2_29) (by decide) (by decide) k) ?_
    refine own_by (fun _ k => XS.iloadN X0.here hx rfl (hb hby d_rm_leq_2_2_9) rfl k) ?_
    refine own_by (fun _ k => XS.aloadN X0.here hx rfl (hb hby d_rm_leq_2_2_10) rfl rfl k) ?_
    show own_Go p e below (s₁.setTop (mkF m 11 #[.val (.ref b1), .val (.ref b2), .val (.int (1 : Int32))] [(.ref b1), (.int (1 : Int32))])) _
    obtain ⟨cl7, Ar7, q7, S7, M7, H7, G7⟩ := (id Vb1)
    refine own_by (X0.arraylength hx (by rw [e0]; exact Ar7.1) (State.isArrayOf_alike hZ.alike Ar7.2.1) (g := (mkF m 11 #[.val (.ref b1), .val (.ref b2), .val (.int (1 : Int32))] [(.ref b1), (.int (1 : Int32))])) rfl rfl (hb hby d_rm_leq_2_2_11)) ?_
    rw [len_of S7 M7]
    refine own_by (fun _ k => XS.icmpNo X0.here hx rfl (hb hby d_rm_leq_2_2_12) rfl (tlt (by decide : (1 : Int32) < (2 : Int32))).2.1 k) ?_
    show own_Go p e below (s₁.setTop (mkF m 15 #[.val (.ref b1), .val (.ref b2), .val (.int (1 : Int32))] [])) _
    refine own_by (fun _ k => XS.aloadN X0.here hx rfl (hb hby d_rm_leq_2_2_15) rfl rfl k) ?_
    refine own_by (fun _ k => XS.iloadN X0.here hx rfl (hb hby d_rm_leq_2_2_16) rfl k) ?_
    obtain ⟨cl8, Ar8, q8, S8, M8, H8, G8⟩ := (id Vb1)
    have hin8 : ¬ ((1 : Int32) < 0 ∨ cl8.slots.size ≤ ((1 : Int32)).toNatClampNeg) := inb_of S8 ⟨by decide, by decide⟩
    refine own_by (X0.baloadBytes hx (j := (1 : Int32)) (v := (.int d2)) (by rw [e0]; exact Ar8.1) (State.isArrayOf_alike hZ.alike Ar8.2.1) Ar8.2.2 hin8 (H8.at hin8 rfl) (g := (mkF m 17 #[.val (.ref b1), .val (.ref b2), .val (.int (1 : Int32))] [(.int (1 : Int32)), (.ref b1)])) rfl rfl (hb hby d_rm_leq_2_2_17)) ?_
    refine own_by (fun _ k => XS.aloadN X0.here hx rfl (hb hby d_rm_leq_2_2_18) rfl rfl k) ?_
    show own_Go p e below (s₁.setTop (mkF m 19 #[.val (.ref b1), .val (.ref b2), .val (.int (1 : Int32))] [(.ref b2), (.int d2)])) _
    refine own_by (fun _ k => XS.iloadN X0.here hx rfl (hb hby d_rm_leq_2_2_19) rfl k) ?_
    obtain ⟨cl9, Ar9, q9, S9, M9, H9, G9⟩ := (id Vb2)
    have hin9 : ¬ ((1 : Int32) < 0 ∨ cl9.slots.size ≤ ((1 : Int32)).toNatClampNeg) := inb_of S9 ⟨by decide, by decide⟩
    refine own_by (X0.baloadBytes hx (j := (1 : Int32)) (v := (.int f2)) (by rw [e0]; exact Ar9.1) (State.isArrayOf_alike hZ.alike Ar9.2.1) Ar9.2.2 hin9 (H9.at hin9 rfl) (g := (mkF m 20 #[.val (.ref b1), .val (.ref b2), .val (.int (1 : Int32))] [(.int (1 : Int32)), (.ref b2), (.int d2)])) rfl rfl (hb hby d_rm_leq_2_2_20)) ?_
    by_cases hc10 : d2 = f2
    · skip
      refine own_by (fun _ k => XS.icmpYes X0.here hx rfl (pc0 := 21) (pc' := 26) rfl (hb hby d_rm_leq_2_2_21) rfl (teq hc10).1 (by decide) (by decide) k) ?_
      show own_Go p e below (s₁.setTop (mkF m 26 #[.val (.ref b1), .val (.ref b2), .val (.int (1 : Int32))] [])) _
      refine own_by (fun _ k => XS.iinc X0.here hx rfl (hb hby d_rm_leq_2_2_26) rfl (l' := #[.val (.ref b1), .val (.ref b2), .val (.int (2 : Int32))]) rfl k) ?_
      refine own_by (fun _ k => XS.goto X0.here hx rfl (pc0 := 29) (pc' := 9) rfl (hb hby d_rm_leq_2_2_29) (by decide) (by decide) k) ?_
      refine own_by (fun _ k => XS.iloadN X0.here hx rfl (hb hby d_rm_leq_2_2_9) rfl k) ?_
      refine own_by (fun _ k => XS.aloadN X0.here hx rfl (hb hby d_rm_leq_2_2_10) rfl rfl k) ?_
      show own_Go p e below (s₁.setTop (mkF m 11 #[.val (.ref b1), .val (.ref b2), .val (.int (2 : Int32))] [(.ref b1), (.int (2 : Int32))])) _
      obtain ⟨cl11, Ar11, q11, S11, M11, H11, G11⟩ := (id Vb1)
      refine own_by (X0.arraylength hx (by rw [e0]; exact Ar11.1) (State.isArrayOf_alike hZ.alike Ar11.2.1) (g := (mkF m 11 #[.val (.ref b1), .val (.ref b2), .val (.int (2 : Int32))] [(.ref b1), (.int (2 : Int32))])) rfl rfl (hb hby d_rm_leq_2_2_11)) ?_
      rw [len_of S11 M11]
      refine own_by (fun _ k => XS.icmpYes X0.here hx rfl (pc0 := 12) (pc' := 32) rfl (hb hby d_rm_leq_2_2_12) rfl (flt (by decide : ¬ ((2 : Int32) < (2 : Int32)))).2.1 (by decide) (by decide) k) ?_
      show own_Go p e below (s₁.setTop (mkF m 32 #[.val (.ref b1), .val (.ref b2), .val (.int (2 : Int32))] [])) _
      refine own_by (fun _ k => XS.iconst X0.here hx rfl (hb hby d_rm_leq_2_2_32) k) ?_
      obtain ⟨fs, hr, hrun, hended, hW, hsame⟩ := X0.leave (v := some (.int (1 : Int32))) (fun h => by rw [Bd.returns] at h; cases h)
      refine ⟨_, _, retN X0 hx (t := .boolean) Bd.returns (by simp) (hb hby d_rm_leq_2_2_33) hr, hrun, hended, _, _, rfl, ?_, ⟨_, rfl⟩, hW, hsame.mono (by decide) (by decide)⟩
      show Q_rm_leq_2_2 Z b1 b2 kb1 kb2 d1 d2 f1 f2 h0 n0 _ s₁.heap _
      rw [e0]
      exact ⟨(by simp [own_all, hc6, hc10]), N0, rfl⟩
    · skip
      refine own_by (fun _ k => XS.icmpNo X0.here hx rfl (hb hby d_rm_leq_2_2_21) rfl (feq hc10).1 k) ?_
      show own_Go p e below (s₁.setTop (mkF m 24 #[.val (.ref b1), .val (.ref b2), .val (.int (1 : Int32))] [])) _
      refine own_by (fun _ k => XS.iconst X0.here hx rfl (hb hby d_rm_leq_2_2_24) k) ?_
      obtain ⟨fs, hr, hrun, hended, hW, hsame⟩ := X0.leave (v := some (.int (0 : Int32))) (fun h => by rw [Bd.returns] at h; cases h)
      refine ⟨_, _, retN X0 hx (t := .boolean) Bd.returns (by simp) (hb hby d_rm_leq_2_2_25) hr, hrun, hended, _, _, rfl, ?_, ⟨_, rfl⟩, hW, hsame.mono (by decide) (by decide)⟩
      show Q_rm_leq_2_2 Z b1 b2 kb1 kb2 d1 d2 f1 f2 h0 n0 _ s₁.heap _
      rw [e0]
      exact ⟨(by simp [own_all, hc6, hc10]), N0, rfl⟩
  · skip
    refine own_by (fun _ k => XS.icmpNo X0.here hx rfl (hb hby d_rm_leq_2_2_21) rfl (feq hc6).1 k) ?_
    show own_Go p e below (s₁.setTop (mkF m 24 #[.val (.ref b1), .val (.ref b2), .val (.int (0 : Int32))] [])) _
    refine own_by (fun _ k => XS.iconst X0.here hx rfl (hb hby d_rm_leq_2_2_24) k) ?_
    obtain ⟨fs, hr, hrun, hended, hW, hsame⟩ := X0.leave (v := some (.int (0 : Int32))) (fun h => by rw [Bd.returns] at h; cases h)
    refine ⟨_, _, retN X0 hx (t := .boolean) Bd.returns (by simp) (hb hby d_rm_leq_2_2_25) hr, hrun, hended, _, _, rfl, ?_, ⟨_, rfl⟩, hW, hsame.mono (by decide) (by decide)⟩
    show Q_rm_leq_2_2 Z b1 b2 kb1 kb2 d1 d2 f1 f2 h0 n0 _ s₁.heap _
    rw [e0]
    exact ⟨(by simp [own_all, hc6]), N0, rfl⟩
theorem d_rm_leq_2_3_0 : decode jdk_43_method_13_code 0 = .ok (.aload_n 0, 1) := by decide +kernel
theorem d_rm_leq_2_3_1 : decode jdk_43_method_13_code 1 = .ok (.arraylength, 1) := by decide +kernel
theorem d_rm_leq_2_3_2 : decode jdk_43_method_13_code 2 = .ok (.aload_n 1, 1) := by decide +kernel
theorem d_rm_leq_2_3_3 : decode jdk_43_method_13_code 3 = .ok (.arraylength, 1) := by decide +kernel
theorem d_rm_leq_2_3_4 : decode jdk_43_method_13_code 4 = .ok (.if_icmp .ne 30, 3) := by decide +kernel
theorem d_rm_leq_2_3_34 : decode jdk_43_method_13_code 34 = .ok (.iconst 0, 1) := by decide +kernel
theorem d_rm_leq_2_3_35 : decode jdk_43_method_13_code 35 = .ok (.ireturn, 1) := by decide +kernel
def Q_rm_leq_2_3 (Z : State) (b1 : Addr) (b2 : Addr) (kb1 : ClassId) (kb2 : ClassId) (d1 : Int32) (d2 : Int32) (f1 : Int32) (f2 : Int32) (f3 : Int32) (h0 : Heap) (n0 : Nat) (v : Option Value) (h : Heap) (L : List Loc) : Prop := v = some (.int (0 : Int32)) ∧ Fr n0 L ∧ h = h0
theorem ef_rm_leq_2_3 (m : MethodId) (b1 : Addr) (b2 : Addr) (kb1 : ClassId) (kb2 : ClassId) (d1 : Int32) (d2 : Int32) (f1 : Int32) (f2 : Int32) (f3 : Int32) : entryFrame m #[(.ref b1), (.ref b2)] 3 = mkF m 0 #[.val (.ref b1), .val (.ref b2), .unset] [] := by first | (simp [entryFrame, mkF, argsToLocals, Value.category]; done) | rfl
set_option maxRecDepth 65536 in
set_option maxHeartbeats 40000000 in
theorem rm_leq_2_3 (l : Launch) (Z : State) (a0 : Array Value) (hw : ∀ d ∈ tables_1, d.before a0 Z = true) (ws : List Jvm.Cond) (b1 : Addr) (b2 : Addr) (kb1 : ClassId) (kb2 : ClassId) (d1 : Int32) (d2 : Int32) (f1 : Int32) (f2 : Int32) (f3 : Int32) (h0 : Heap) (n0 : Nat) (O0 : Old Z n0 h0) (Vb1 : Arv Z h0 b1 kb1 .byte (2 : Int32) [(.int d1), (.int d2)] (.int (0 : Int32))) (Vb2 : Arv Z h0 b2 kb2 .byte (3 : Int32) [(.int f1), (.int f2), (.int f3)] (.int (0 : Int32))) :
    MetFree l (⟨"java/lang/StringLatin1", "equals", "([B[B)Z"⟩ : MethodName) (head1 (Jvm.Cond.code (⟨"java/lang/StringLatin1", "equals", "([B[B)Z"⟩ : MethodName) jdk_43_method_13_code 3 (some .boolean) :: ws) ({ frames := 0, cells := 0, slots := 0, locals := 0 } : Room)) (fun a U => a = #[(.ref b1), (.ref b2)] ∧ Z.Warmed39 U.vm ∧ U.heap = h0) (fun _ _ _ _ _ => True) (fun _ U o U' => ∃ v L, o = .returned v ∧ Q_rm_leq_2_3 Z b1 b2 kb1 kb2 d1 d2 f1 f2 f3 h0 n0 v U'.heap L ∧ FrameEnd U o U' L ({ frames := 0, cells := 0, slots := 0, locals := 0 } : Room).cells ({ frames := 0, cells := 0, slots := 0, locals := 0 } : Room).slots) := by
  refine MetFree.of_bodySF (plainFor_of_name own_pn_java_lang_StringLatin1) hisR ?_
  intro p e s m args below meth c s₁ Bd hml0 hP hK
  obtain ⟨rfl, hZ, hh⟩ := hP
  have hx := Bd.exec
  have hby := Bd.bytes
  have hml : c.maxLocals = 3 := hml0
  have hown : s.vm.findClass "java/lang/StringLatin1" = some m.cls := findClass_of_methodNamed Bd.named
  have hnm := (name_of_methodNamed Bd.named Bd.method).1
  have X0 : Stand p l e ({ frames := 0, cells := 0, slots := 0, locals := 0 } : Room) s m #[(.ref b1), (.ref b2)] below meth c s₁ [] 0 0 := Stand.of_body Bd
  have e0 : s₁.heap = h0 := by rw [← hh, Bd.state]; rfl
  have N0 := Fr.nil n0
  have Z0 : n0 ≤ h0.size := by rw [← O0.1]; exact O0.2.1
  show own_Go p e below (s₁.setTop (entryFrame m #[(.ref b1), (.ref b2)] 3)) (fun t o => ∃ v L, o = .returned v ∧ Q_rm_leq_2_3 Z b1 b2 kb1 kb2 d1 d2 f1 f2 f3 h0 n0 v t.heap L ∧ FrameEnd s o t L ({ frames := 0, cells := 0, slots := 0, locals := 0 } : Room).cells ({ frames := 0, cells := 0, slots := 0, locals := 0 } : Room).slots)
  rw [ef_rm_leq_2_3 m b1 b2 kb1 kb2 d1 d2 f1 f2 f3]
  have lt_Vb1 : h0.size > b1 := Vb1.lt
  have lt_Vb2 : h0.size > b2 := Vb2.lt
  refine own_by (fun _ k => XS.aloadN X0.here hx rfl (hb hby d_rm_leq_2_3_0) rfl rfl k) ?_
  obtain ⟨cl1, Ar1, q1, S1, M1, H1, G1⟩ := (id Vb1)
  refine own_by (X0.arraylength hx (by rw [e0]; exact Ar1.1) (State.isArrayOf_alike hZ.alike Ar1.2.1) (g := (mkF m 1 #[.val (.ref b1), .val (.ref b2), .unset] [(.ref b1)])) rfl rfl (hb hby d_rm_leq_2_3_1)) ?_
  rw [len_of S1 M1]
  refine own_by (fun _ k => XS.aloadN X0.here hx rfl (hb hby d_rm_leq_2_3_2) rfl rfl k) ?_
  obtain ⟨cl2, Ar2, q2, S2, M2, H2, G2⟩ := (id Vb2)
  refine own_by (X0.arraylength hx (by rw [e0]; exact Ar2.1) (State.isArrayOf_alike hZ.alike Ar2.2.1) (g := (mkF m 3 #[.val (.ref b1), .val (.ref b2), .unset] [(.ref b2), (.int (2 : Int32))])) rfl rfl (hb hby d_rm_leq_2_3_3)) ?_
  rw [len_of S2 M2]
  show own_Go p e below (s₁.setTop (mkF m 4 #[.val (.ref b1), .val (.ref b2), .unset] [(.int (3 : Int32)), (.int (2 : Int32))])) _
  refine own_by (fun _ k => XS.icmpYes X0.here hx rfl (pc0 := 4) (pc' := 34) rfl (hb hby d_rm_leq_2_3_4) rfl (feq (by decide : ¬ ((2 : Int32) = (3 : Int32)))).2 (by decide) (by decide) k) ?_
  show own_Go p e below (s₁.setTop (mkF m 34 #[.val (.ref b1), .val (.ref b2), .unset] [])) _
  refine own_by (fun _ k => XS.iconst X0.here hx rfl (hb hby d_rm_leq_2_3_34) k) ?_
  obtain ⟨fs, hr, hrun, hended, hW, hsame⟩ := X0.leave (v := some (.int (0 : Int32))) (fun h => by rw [Bd.returns] at h; cases h)
  refine ⟨_, _, retN X0 hx (t := .boolean) Bd.returns (by simp) (hb hby d_rm_leq_2_3_35) hr, hrun, hended, _, _, rfl, ?_, ⟨_, rfl⟩, hW, hsame.mono (by decide) (by decide)⟩
  show Q_rm_leq_2_3 Z b1 b2 kb1 kb2 d1 d2 f1 f2 f3 h0 n0 _ s₁.heap _
  rw [e0]
  exact ⟨rfl, N0, rfl⟩
theorem d_rm_leq_3_0_0 : decode jdk_43_method_13_code 0 = .ok (.aload_n 0, 1) := by decide +kernel
theorem d_rm_leq_3_0_1 : decode jdk_43_method_13_code 1 = .ok (.arraylength, 1) := by decide +kernel
theorem d_rm_leq_3_0_2 : decode jdk_43_method_13_code 2 = .ok (.aload_n 1, 1) := by decide +kernel
theorem d_rm_leq_3_0_3 : decode jdk_43_method_13_code 3 = .ok (.arraylength, 1) := by decide +kernel
theorem d_rm_leq_3_0_4 : decode jdk_43_method_13_code 4 = .ok (.if_icmp .ne 30, 3) := by decide +kernel
theorem d_rm_leq_3_0_34 : decode jdk_43_method_13_code 34 = .ok (.iconst 0, 1) := by decide +kernel
theorem d_rm_leq_3_0_35 : decode jdk_43_method_13_code 35 = .ok (.ireturn, 1) := by decide +kernel
def Q_rm_leq_3_0 (Z : State) (b1 : Addr) (b2 : Addr) (kb1 : ClassId) (kb2 : ClassId) (d1 : Int32) (d2 : Int32) (d3 : Int32) (h0 : Heap) (n0 : Nat) (v : Option Value) (h : Heap) (L : List Loc) : Prop := v = some (.int (0 : Int32)) ∧ Fr n0 L ∧ h = h0
theorem ef_rm_leq_3_0 (m : MethodId) (b1 : Addr) (b2 : Addr) (kb1 : ClassId) (kb2 : ClassId) (d1 : Int32) (d2 : Int32) (d3 : Int32) : entryFrame m #[(.ref b1), (.ref b2)] 3 = mkF m 0 #[.val (.ref b1), .val (.ref b2), .unset] [] := by first | (simp [entryFrame, mkF, argsToLocals, Value.category]; done) | rfl
set_option maxRecDepth 65536 in
set_option maxHeartbeats 40000000 in
theorem rm_leq_3_0 (l : Launch) (Z : State) (a0 : Array Value) (hw : ∀ d ∈ tables_1, d.before a0 Z = true) (ws : List Jvm.Cond) (b1 : Addr) (b2 : Addr) (kb1 : ClassId) (kb2 : ClassId) (d1 : Int32) (d2 : Int32) (d3 : Int32) (h0 : Heap) (n0 : Nat) (O0 : Old Z n0 h0) (Vb1 : Arv Z h0 b1 kb1 .byte (3 : Int32) [(.int d1), (.int d2), (.int d3)] (.int (0 : Int32))) (Vb2 : Arv Z h0 b2 kb2 .byte (0 : Int32) [] (.int (0 : Int32))) :
    MetFree l (⟨"java/lang/StringLatin1", "equals", "([B[B)Z"⟩ : MethodName) (head1 (Jvm.Cond.code (⟨"java/lang/StringLatin1", "equals", "([B[B)Z"⟩ : MethodName) jdk_43_method_13_code 3 (some .boolean) :: ws) ({ frames := 0, cells := 0, slots := 0, locals := 0 } : Room)) (fun a U => a = #[(.ref b1), (.ref b2)] ∧ Z.Warmed39 U.vm ∧ U.heap = h0) (fun _ _ _ _ _ => True) (fun _ U o U' => ∃ v L, o = .returned v ∧ Q_rm_leq_3_0 Z b1 b2 kb1 kb2 d1 d2 d3 h0 n0 v U'.heap L ∧ FrameEnd U o U' L ({ frames := 0, cells := 0, slots := 0, locals := 0 } : Room).cells ({ frames := 0, cells := 0, slots := 0, locals := 0 } : Room).slots) := by
  refine MetFree.of_bodySF (plainFor_of_name own_pn_java_lang_StringLatin1) hisR ?_
  intro p e s m args below meth c s₁ Bd hml0 hP hK
  obtain ⟨rfl, hZ, hh⟩ := hP
  have hx := Bd.exec
  have hby := Bd.bytes
  have hml : c.maxLocals = 3 := hml0
  have hown : s.vm.findClass "java/lang/StringLatin1" = some m.cls := findClass_of_methodNamed Bd.named
  have hnm := (name_of_methodNamed Bd.named Bd.method).1
  have X0 : Stand p l e ({ frames := 0, cells := 0, slots := 0, locals := 0 } : Room) s m #[(.ref b1), (.ref b2)] below meth c s₁ [] 0 0 := Stand.of_body Bd
  have e0 : s₁.heap = h0 := by rw [← hh, Bd.state]; rfl
  have N0 := Fr.nil n0
  have Z0 : n0 ≤ h0.size := by rw [← O0.1]; exact O0.2.1
  show own_Go p e below (s₁.setTop (entryFrame m #[(.ref b1), (.ref b2)] 3)) (fun t o => ∃ v L, o = .returned v ∧ Q_rm_leq_3_0 Z b1 b2 kb1 kb2 d1 d2 d3 h0 n0 v t.heap L ∧ FrameEnd s o t L ({ frames := 0, cells := 0, slots := 0, locals := 0 } : Room).cells ({ frames := 0, cells := 0, slots := 0, locals := 0 } : Room).slots)
  rw [ef_rm_leq_3_0 m b1 b2 kb1 kb2 d1 d2 d3]
  have lt_Vb1 : h0.size > b1 := Vb1.lt
  have lt_Vb2 : h0.size > b2 := Vb2.lt
  refine own_by (fun _ k => XS.aloadN X0.here hx rfl (hb hby d_rm_leq_3_0_0) rfl rfl k) ?_
  obtain ⟨cl1, Ar1, q1, S1, M1, H1, G1⟩ := (id Vb1)
  refine own_by (X0.arraylength hx (by rw [e0]; exact Ar1.1) (State.isArrayOf_alike hZ.alike Ar1.2.1) (g := (mkF m 1 #[.val (.ref b1), .val (.ref b2), .unset] [(.ref b1)])) rfl rfl (hb hby d_rm_leq_3_0_1)) ?_
  rw [len_of S1 M1]
  refine own_by (fun _ k => XS.aloadN X0.here hx rfl (hb hby d_rm_leq_3_0_2) rfl rfl k) ?_
  obtain ⟨cl2, Ar2, q2, S2, M2, H2, G2⟩ := (id Vb2)
  refine own_by (X0.arraylength hx (by rw [e0]; exact Ar2.1) (State.isArrayOf_alike hZ.alike Ar2.2.1) (g := (mkF m 3 #[.val (.ref b1), .val (.ref b2), .unset] [(.ref b2), (.int (3 : Int32))])) rfl rfl (hb hby d_rm_leq_3_0_3)) ?_
  rw [len_of S2 M2]
  show own_Go p e below (s₁.setTop (mkF m 4 #[.val (.ref b1), .val (.ref b2), .unset] [(.int (0 : Int32)), (.int (3 : Int32))])) _
  refine own_by (fun _ k => XS.icmpYes X0.here hx rfl (pc0 := 4) (pc' := 34) rfl (hb hby d_rm_leq_3_0_4) rfl (feq (by decide : ¬ ((3 : Int32) = (0 : Int32)))).2 (by decide) (by decide) k) ?_
  show own_Go p e below (s₁.setTop (mkF m 34 #[.val (.ref b1), .val (.ref b2), .unset] [])) _
  refine own_by (fun _ k => XS.iconst X0.here hx rfl (hb hby d_rm_leq_3_0_34) k) ?_
  obtain ⟨fs, hr, hrun, hended, hW, hsame⟩ := X0.leave (v := some (.int (0 : Int32))) (fun h => by rw [Bd.returns] at h; cases h)
  refine ⟨_, _, retN X0 hx (t := .boolean) Bd.returns (by simp) (hb hby d_rm_leq_3_0_35) hr, hrun, hended, _, _, rfl, ?_, ⟨_, rfl⟩, hW, hsame.mono (by decide) (by decide)⟩
  show Q_rm_leq_3_0 Z b1 b2 kb1 kb2 d1 d2 d3 h0 n0 _ s₁.heap _
  rw [e0]
  exact ⟨rfl, N0, rfl⟩
theorem d_rm_leq_3_1_0 : decode jdk_43_method_13_code 0 = .ok (.aload_n 0, 1) := by decide +kernel
theorem d_rm_leq_3_1_1 : decode jdk_43_method_13_code 1 = .ok (.arraylength, 1) := by decide +kernel
theorem d_rm_leq_3_1_2 : decode jdk_43_method_13_code 2 = .ok (.aload_n 1, 1) := by decide +kernel
theorem d_rm_leq_3_1_3 : decode jdk_43_method_13_code 3 = .ok (.arraylength, 1) := by decide +kernel
theorem d_rm_leq_3_1_4 : decode jdk_43_method_13_code 4 = .ok (.if_icmp .ne 30, 3) := by decide +kernel
theorem d_rm_leq_3_1_34 : decode jdk_43_method_13_code 34 = .ok (.iconst 0, 1) := by decide +kernel
theorem d_rm_leq_3_1_35 : decode jdk_43_method_13_code 35 = .ok (.ireturn, 1) := by decide +kernel
def Q_rm_leq_3_1 (Z : State) (b1 : Addr) (b2 : Addr) (kb1 : ClassId) (kb2 : ClassId) (d1 : Int32) (d2 : Int32) (d3 : Int32) (f1 : Int32) (h0 : Heap) (n0 : Nat) (v : Option Value) (h : Heap) (L : List Loc) : Prop := v = some (.int (0 : Int32)) ∧ Fr n0 L ∧ h = h0
theorem ef_rm_leq_3_1 (m : MethodId) (b1 : Addr) (b2 : Addr) (kb1 : ClassId) (kb2 : ClassId) (d1 : Int32) (d2 : Int32) (d3 : Int32) (f1 : Int32) : entryFrame m #[(.ref b1), (.ref b2)] 3 = mkF m 0 #[.val (.ref b1), .val (.ref b2), .unset] [] := by first | (simp [entryFrame, mkF, argsToLocals, Value.category]; done) | rfl
set_option maxRecDepth 65536 in
set_option maxHeartbeats 40000000 in
theorem rm_leq_3_1 (l : Launch) (Z : State) (a0 : Array Value) (hw : ∀ d ∈ tables_1, d.before a0 Z = true) (ws : List Jvm.Cond) (b1 : Addr) (b2 : Addr) (kb1 : ClassId) (kb2 : ClassId) (d1 : Int32) (d2 : Int32) (d3 : Int32) (f1 : Int32) (h0 : Heap) (n0 : Nat) (O0 : Old Z n0 h0) (Vb1 : Arv Z h0 b1 kb1 .byte (3 : Int32) [(.int d1), (.int d2), (.int d3)] (.int (0 : Int32))) (Vb2 : Arv Z h0 b2 kb2 .byte (1 : Int32) [(.int f1)] (.int (0 : Int32))) :
    MetFree l (⟨"java/lang/StringLatin1", "equals", "([B[B)Z"⟩ : MethodName) (head1 (Jvm.Cond.code (⟨"java/lang/StringLatin1", "equals", "([B[B)Z"⟩ : MethodName) jdk_43_method_13_code 3 (some .boolean) :: ws) ({ frames := 0, cells := 0, slots := 0, locals := 0 } : Room)) (fun a U => a = #[(.ref b1), (.ref b2)] ∧ Z.Warmed39 U.vm ∧ U.heap = h0) (fun _ _ _ _ _ => True) (fun _ U o U' => ∃ v L, o = .returned v ∧ Q_rm_leq_3_1 Z b1 b2 kb1 kb2 d1 d2 d3 f1 h0 n0 v U'.heap L ∧ FrameEnd U o U' L ({ frames := 0, cells := 0, slots := 0, locals := 0 } : Room).cells ({ frames := 0, cells := 0, slots := 0, locals := 0 } : Room).slots) := by
  refine MetFree.of_bodySF (plainFor_of_name own_pn_java_lang_StringLatin1) hisR ?_
  intro p e s m args below meth c s₁ Bd hml0 hP hK
  obtain ⟨rfl, hZ, hh⟩ := hP
  have hx := Bd.exec
  have hby := Bd.bytes
  have hml : c.maxLocals = 3 := hml0
  have hown : s.vm.findClass "java/lang/StringLatin1" = some m.cls := findClass_of_methodNamed Bd.named
  have hnm := (name_of_methodNamed Bd.named Bd.method).1
  have X0 : Stand p l e ({ frames := 0, cells := 0, slots := 0, locals := 0 } : Room) s m #[(.ref b1), (.ref b2)] below meth c s₁ [] 0 0 := Stand.of_body Bd
  have e0 : s₁.heap = h0 := by rw [← hh, Bd.state]; rfl
  have N0 := Fr.nil n0
  have Z0 : n0 ≤ h0.size := by rw [← O0.1]; exact O0.2.1
  show own_Go p e below (s₁.setTop (entryFrame m #[(.ref b1), (.ref b2)] 3)) (fun t o => ∃ v L, o = .returned v ∧ Q_rm_leq_3_1 Z b1 b2 kb1 kb2 d1 d2 d3 f1 h0 n0 v t.heap L ∧ FrameEnd s o t L ({ frames := 0, cells := 0, slots := 0, locals := 0 } : Room).cells ({ frames := 0, cells := 0, slots := 0, locals := 0 } : Room).slots)
  rw [ef_rm_leq_3_1 m b1 b2 kb1 kb2 d1 d2 d3 f1]
  have lt_Vb1 : h0.size > b1 := Vb1.lt
  have lt_Vb2 : h0.size > b2 := Vb2.lt
  refine own_by (fun _ k => XS.aloadN X0.here hx rfl (hb hby d_rm_leq_3_1_0) rfl rfl k) ?_
  obtain ⟨cl1, Ar1, q1, S1, M1, H1, G1⟩ := (id Vb1)
  refine own_by (X0.arraylength hx (by rw [e0]; exact Ar1.1) (State.isArrayOf_alike hZ.alike Ar1.2.1) (g := (mkF m 1 #[.val (.ref b1), .val (.ref b2), .unset] [(.ref b1)])) rfl rfl (hb hby d_rm_leq_3_1_1)) ?_
  rw [len_of S1 M1]
  refine own_by (fun _ k => XS.aloadN X0.here hx rfl (hb hby d_rm_leq_3_1_2) rfl rfl k) ?_
  obtain ⟨cl2, Ar2, q2, S2, M2, H2, G2⟩ := (id Vb2)
  refine own_by (X0.arraylength hx (by rw [e0]; exact Ar2.1) (State.isArrayOf_alike hZ.alike Ar2.2.1) (g := (mkF m 3 #[.val (.ref b1), .val (.ref b2), .unset] [(.ref b2), (.int (3 : Int32))])) rfl rfl (hb hby d_rm_leq_3_1_3)) ?_
  rw [len_of S2 M2]
  show own_Go p e below (s₁.setTop (mkF m 4 #[.val (.ref b1), .val (.ref b2), .unset] [(.int (1 : Int32)), (.int (3 : Int32))])) _
  refine own_by (fun _ k => XS.icmpYes X0.here hx rfl (pc0 := 4) (pc' := 34) rfl (hb hby d_rm_leq_3_1_4) rfl (feq (by decide : ¬ ((3 : Int32) = (1 : Int32)))).2 (by decide) (by decide) k) ?_
  show own_Go p e below (s₁.setTop (mkF m 34 #[.val (.ref b1), .val (.ref b2), .unset] [])) _
  refine own_by (fun _ k => XS.iconst X0.here hx rfl (hb hby d_rm_leq_3_1_34) k) ?_
  obtain ⟨fs, hr, hrun, hended, hW, hsame⟩ := X0.leave (v := some (.int (0 : Int32))) (fun h => by rw [Bd.returns] at h; cases h)
  refine ⟨_, _, retN X0 hx (t := .boolean) Bd.returns (by simp) (hb hby d_rm_leq_3_1_35) hr, hrun, hended, _, _, rfl, ?_, ⟨_, rfl⟩, hW, hsame.mono (by decide) (by decide)⟩
  show Q_rm_leq_3_1 Z b1 b2 kb1 kb2 d1 d2 d3 f1 h0 n0 _ s₁.heap _
  rw [e0]
  exact ⟨rfl, N0, rfl⟩
theorem d_rm_leq_3_2_0 : decode jdk_43_method_13_code 0 = .ok (.aload_n 0, 1) := by decide +kernel
theorem d_rm_leq_3_2_1 : decode jdk_43_method_13_code 1 = .ok (.arraylength, 1) := by decide +kernel
theorem d_rm_leq_3_2_2 : decode jdk_43_method_13_code 2 = .ok (.aload_n 1, 1) := by decide +kernel
theorem d_rm_leq_3_2_3 : decode jdk_43_method_13_code 3 = .ok (.arraylength, 1) := by decide +kernel
theorem d_rm_leq_3_2_4 : decode jdk_43_method_13_code 4 = .ok (.if_icmp .ne 30, 3) := by decide +kernel
theorem d_rm_leq_3_2_34 : decode jdk_43_method_13_code 34 = .ok (.iconst 0, 1) := by decide +kernel
theorem d_rm_leq_3_2_35 : decode jdk_43_method_13_code 35 = .ok (.ireturn, 1) := by decide +kernel
def Q_rm_leq_3_2 (Z : State) (b1 : Addr) (b2 : Addr) (kb1 : ClassId) (kb2 : ClassId) (d1 : Int32) (d2 : Int32) (d3 : Int32) (f1 : Int32) (f2 : Int32) (h0 : Heap) (n0 : Nat) (v : Option Value) (h : Heap) (L : List Loc) : Prop := v = some (.int (0 : Int32)) ∧ Fr n0 L ∧ h = h0
theorem ef_rm_leq_3_2 (m : MethodId) (b1 : Addr) (b2 : Addr) (kb1 : ClassId) (kb2 : ClassId) (d1 : Int32) (d2 : Int32) (d3 : Int32) (f1 : Int32) (f2 : Int32) : entryFrame m #[(.ref b1), (.ref b2)] 3 = mkF m 0 #[.val (.ref b1), .val (.ref b2), .unset] [] := by first | (simp [entryFrame, mkF, argsToLocals, Value.category]; done) | rfl
set_option maxRecDepth 65536 in
set_option maxHeartbeats 40000000 in
theorem rm_leq_3_2 (l : Launch) (Z : State) (a0 : Array Value) (hw : ∀ d ∈ tables_1, d.before a0 Z = true) (ws : List Jvm.Cond) (b1 : Addr) (b2 : Addr) (kb1 : ClassId) (kb2 : ClassId) (d1 : Int32) (d2 : Int32) (d3 : Int32) (f1 : Int32) (f2 : Int32) (h0 : Heap) (n0 : Nat) (O0 : Old Z n0 h0) (Vb1 : Arv Z h0 b1 kb1 .byte (3 : Int32) [(.int d1), (.int d2), (.int d3)] (.int (0 : Int32))) (Vb2 : Arv Z h0 b2 kb2 .byte (2 : Int32) [(.int f1), (.int f2)] (.int (0 : Int32))) :
    MetFree l (⟨"java/lang/StringLatin1", "equals", "([B[B)Z"⟩ : MethodName) (head1 (Jvm.Cond.code (⟨"java/lang/StringLatin1", "equals", "([B[B)Z"⟩ : MethodName) jdk_43_method_13_code 3 (some .boolean) :: ws) ({ frames := 0, cells := 0, slots := 0, locals := 0 } : Room)) (fun a U => a = #[(.ref b1), (.ref b2)] ∧ Z.Warmed39 U.vm ∧ U.heap = h0) (fun _ _ _ _ _ => True) (fun _ U o U' => ∃ v L, o = .returned v ∧ Q_rm_leq_3_2 Z b1 b2 kb1 kb2 d1 d2 d3 f1 f2 h0 n0 v U'.heap L ∧ FrameEnd U o U' L ({ frames := 0, cells := 0, slots := 0, locals := 0 } : Room).cells ({ frames := 0, cells := 0, slots := 0, locals := 0 } : Room).slots) := by
  refine MetFree.of_bodySF (plainFor_of_name own_pn_java_lang_StringLatin1) hisR ?_
  intro p e s m args below meth c s₁ Bd hml0 hP hK
  obtain ⟨rfl, hZ, hh⟩ := hP
  have hx := Bd.exec
  have hby := Bd.bytes
  have hml : c.maxLocals = 3 := hml0
  have hown : s.vm.findClass "java/lang/StringLatin1" = some m.cls := findClass_of_methodNamed Bd.named
  have hnm := (name_of_methodNamed Bd.named Bd.method).1
  have X0 : Stand p l e ({ frames := 0, cells := 0, slots := 0, locals := 0 } : Room) s m #[(.ref b1), (.ref b2)] below meth c s₁ [] 0 0 := Stand.of_body Bd
  have e0 : s₁.heap = h0 := by rw [← hh, Bd.state]; rfl
  have N0 := Fr.nil n0
  have Z0 : n0 ≤ h0.size := by rw [← O0.1]; exact O0.2.1
  show own_Go p e below (s₁.setTop (entryFrame m #[(.ref b1), (.ref b2)] 3)) (fun t o => ∃ v L, o = .returned v ∧ Q_rm_leq_3_2 Z b1 b2 kb1 kb2 d1 d2 d3 f1 f2 h0 n0 v t.heap L ∧ FrameEnd s o t L ({ frames := 0, cells := 0, slots := 0, locals := 0 } : Room).cells ({ frames := 0, cells := 0, slots := 0, locals := 0 } : Room).slots)
  rw [ef_rm_leq_3_2 m b1 b2 kb1 kb2 d1 d2 d3 f1 f2]
  have lt_Vb1 : h0.size > b1 := Vb1.lt
  have lt_Vb2 : h0.size > b2 := Vb2.lt
  refine own_by (fun _ k => XS.aloadN X0.here hx rfl (hb hby d_rm_leq_3_2_0) rfl rfl k) ?_
  obtain ⟨cl1, Ar1, q1, S1, M1, H1, G1⟩ := (id Vb1)
  refine own_by (X0.arraylength hx (by rw [e0]; exact Ar1.1) (State.isArrayOf_alike hZ.alike Ar1.2.1) (g := (mkF m 1 #[.val (.ref b1), .val (.ref b2), .unset] [(.ref b1)])) rfl rfl (hb hby d_rm_leq_3_2_1)) ?_
  rw [len_of S1 M1]
  refine own_by (fun _ k => XS.aloadN X0.here hx rfl (hb hby d_rm_leq_3_2_2) rfl rfl k) ?_
  obtain ⟨cl2, Ar2, q2, S2, M2, H2, G2⟩ := (id Vb2)
  refine own_by (X0.arraylength hx (by rw [e0]; exact Ar2.1) (State.isArrayOf_alike hZ.alike Ar2.2.1) (g := (mkF m 3 #[.val (.ref b1), .val (.ref b2), .unset] [(.ref b2), (.int (3 : Int32))])) rfl rfl (hb hby d_rm_leq_3_2_3)) ?_
  rw [len_of S2 M2]
  show own_Go p e below (s₁.setTop (mkF m 4 #[.val (.ref b1), .val (.ref b2), .unset] [(.int (2 : Int32)), (.int (3 : Int32))])) _
  refine own_by (fun _ k => XS.icmpYes X0.here hx rfl (pc0 := 4) (pc' := 34) rfl (hb hby d_rm_leq_3_2_4) rfl (feq (by decide : ¬ ((3 : Int32) = (2 : Int32)))).2 (by decide) (by decide) k) ?_
  show own_Go p e below (s₁.setTop (mkF m 34 #[.val (.ref b1), .val (.ref b2), .unset] [])) _
  refine own_by (fun _ k => XS.iconst X0.here hx rfl (hb hby d_rm_leq_3_2_34) k) ?_
  obtain ⟨fs, hr, hrun, hended, hW, hsame⟩ := X0.leave (v := some (.int (0 : Int32))) (fun h => by rw [Bd.returns] at h; cases h)
  refine ⟨_, _, retN X0 hx (t := .boolean) Bd.returns (by simp) (hb hby d_rm_leq_3_2_35) hr, hrun, hended, _, _, rfl, ?_, ⟨_, rfl⟩, hW, hsame.mono (by decide) (by decide)⟩
  show Q_rm_leq_3_2 Z b1 b2 kb1 kb2 d1 d2 d3 f1 f2 h0 n0 _ s₁.heap _
  rw [e0]
  exact ⟨rfl, N0, rfl⟩
theorem d_rm_leq_3_3_0 : decode jdk_43_method_13_code 0 = .ok (.aload_n 0, 1) := by decide +kernel
theorem d_rm_leq_3_3_1 : decode jdk_43_method_13_code 1 = .ok (.arraylength, 1) := by decide +kernel
theorem d_rm_leq_3_3_2 : decode jdk_43_method_13_code 2 = .ok (.aload_n 1, 1) := by decide +kernel
theorem d_rm_leq_3_3_3 : decode jdk_43_method_13_code 3 = .ok (.arraylength, 1) := by decide +kernel
theorem d_rm_leq_3_3_4 : decode jdk_43_method_13_code 4 = .ok (.if_icmp .ne 30, 3) := by decide +kernel
theorem d_rm_leq_3_3_7 : decode jdk_43_method_13_code 7 = .ok (.iconst 0, 1) := by decide +kernel
theorem d_rm_leq_3_3_8 : decode jdk_43_method_13_code 8 = .ok (.istore_n 2, 1) := by decide +kernel
theorem d_rm_leq_3_3_9 : decode jdk_43_method_13_code 9 = .ok (.iload_n 2, 1) := by decide +kernel
theorem d_rm_leq_3_3_10 : decode jdk_43_method_13_code 10 = .ok (.aload_n 0, 1) := by decide +kernel
theorem d_rm_leq_3_3_11 : decode jdk_43_method_13_code 11 = .ok (.arraylength, 1) := by decide +kernel
theorem d_rm_leq_3_3_12 : decode jdk_43_method_13_code 12 = .ok (.if_icmp .ge 20, 3) := by decide +kernel
theorem d_rm_leq_3_3_15 : decode jdk_43_method_13_code 15 = .ok (.aload_n 0, 1) := by decide +kernel
theorem d_rm_leq_3_3_16 : decode jdk_43_method_13_code 16 = .ok (.iload_n 2, 1) := by decide +kernel
theorem d_rm_leq_3_3_17 : decode jdk_43_method_13_code 17 = .ok (.baload, 1) := by decide +kernel
theorem d_rm_leq_3_3_18 : decode jdk_43_method_13_code 18 = .ok (.aload_n 1, 1) := by decide +kernel
theorem d_rm_leq_3_3_19 : decode jdk_43_method_13_code 19 = .ok (.iload_n 2, 1) := by decide +kernel
theorem d_rm_leq_3_3_20 : decode jdk_43_method_13_code 20 = .ok (.baload, 1) := by decide +kernel
theorem d_rm_leq_3_3_21 : decode jdk_43_method_13_code 21 = .ok (.if_icmp .eq 5, 3) := by decide +kernel
theorem d_rm_leq_3_3_24 : decode jdk_43_method_13_code 24 = .ok (.iconst 0, 1) := by decide +kernel
theorem d_rm_leq_3_3_25 : decode jdk_43_method_13_code 25 = .ok (.ireturn, 1) := by decide +kernel
theorem d_rm_leq_3_3_26 : decode jdk_43_method_13_code 26 = .ok (.iinc 2 1, 3) := by decide +kernel
theorem d_rm_leq_3_3_29 : decode jdk_43_method_13_code 29 = .ok (.goto (-20), 3) := by decide +kernel
theorem d_rm_leq_3_3_32 : decode jdk_43_method_13_code 32 = .ok (.iconst 1, 1) := by decide +kernel
theorem d_rm_leq_3_3_33 : decode jdk_43_method_13_code 33 = .ok (.ireturn, 1) := by decide +kernel
def Q_rm_leq_3_3 (Z : State) (b1 : Addr) (b2 : Addr) (kb1 : ClassId) (kb2 : ClassId) (d1 : Int32) (d2 : Int32) (d3 : Int32) (f1 : Int32) (f2 : Int32) (f3 : Int32) (h0 : Heap) (n0 : Nat) (v : Option Value) (h : Heap) (L : List Loc) : Prop := v = some (.int (own_all [(d1, f1), (d2, f2), (d3, f3)])) ∧ Fr n0 L ∧ h = h0
theorem ef_rm_leq_3_3 (m : MethodId) (b1 : Addr) (b2 : Addr) (kb1 : ClassId) (kb2 : ClassId) (d1 : Int32) (d2 : Int32) (d3 : Int32) (f1 : Int32) (f2 : Int32) (f3 : Int32) : entryFrame m #[(.ref b1), (.ref b2)] 3 = mkF m 0 #[.val (.ref b1), .val (.ref b2), .unset] [] := by first | (simp [entryFrame, mkF, argsToLocals, Value.category]; done) | rfl
set_option maxRecDepth 65536 in
set_option maxHeartbeats 40000000 in
theorem rm_leq_3_3 (l : Launch) (Z : State) (a0 : Array Value) (hw : ∀ d ∈ tables_1, d.before a0 Z = true) (ws : List Jvm.Cond) (b1 : Addr) (b2 : Addr) (kb1 : ClassId) (kb2 : ClassId) (d1 : Int32) (d2 : Int32) (d3 : Int32) (f1 : Int32) (f2 : Int32) (f3 : Int32) (h0 : Heap) (n0 : Nat) (O0 : Old Z n0 h0) (Vb1 : Arv Z h0 b1 kb1 .byte (3 : Int32) [(.int d1), (.int d2), (.int d3)] (.int (0 : Int32))) (Vb2 : Arv Z h0 b2 kb2 .byte (3 : Int32) [(.int f1), (.int f2), (.int f3)] (.int (0 : Int32))) :
    MetFree l (⟨"java/lang/StringLatin1", "equals", "([B[B)Z"⟩ : MethodName) (head1 (Jvm.Cond.code (⟨"java/lang/StringLatin1", "equals", "([B[B)Z"⟩ : MethodName) jdk_43_method_13_code 3 (some .boolean) :: ws) ({ frames := 0, cells := 0, slots := 0, locals := 0 } : Room)) (fun a U => a = #[(.ref b1), (.ref b2)] ∧ Z.Warmed39 U.vm ∧ U.heap = h0) (fun _ _ _ _ _ => True) (fun _ U o U' => ∃ v L, o = .returned v ∧ Q_rm_leq_3_3 Z b1 b2 kb1 kb2 d1 d2 d3 f1 f2 f3 h0 n0 v U'.heap L ∧ FrameEnd U o U' L ({ frames := 0, cells := 0, slots := 0, locals := 0 } : Room).cells ({ frames := 0, cells := 0, slots := 0, locals := 0 } : Room).slots) := by
  refine MetFree.of_bodySF (plainFor_of_name own_pn_java_lang_StringLatin1) hisR ?_
  intro p e s m args below meth c s₁ Bd hml0 hP hK
  obtain ⟨rfl, hZ, hh⟩ := hP
  have hx := Bd.exec
  have hby := Bd.bytes
  have hml : c.maxLocals = 3 := hml0
  have hown : s.vm.findClass "java/lang/StringLatin1" = some m.cls := findClass_of_methodNamed Bd.named
  have hnm := (name_of_methodNamed Bd.named Bd.method).1
  have X0 : Stand p l e ({ frames := 0, cells := 0, slots := 0, locals := 0 } : Room) s m #[(.ref b1), (.ref b2)] below meth c s₁ [] 0 0 := Stand.of_body Bd
  have e0 : s₁.heap = h0 := by rw [← hh, Bd.state]; rfl
  have N0 := Fr.nil n0
  have Z0 : n0 ≤ h0.size := by rw [← O0.1]; exact O0.2.1
  show own_Go p e below (s₁.setTop (entryFrame m #[(.ref b1), (.ref b2)] 3)) (fun t o => ∃ v L, o = .returned v ∧ Q_rm_leq_3_3 Z b1 b2 kb1 kb2 d1 d2 d3 f1 f2 f3 h0 n0 v t.heap L ∧ FrameEnd s o t L ({ frames := 0, cells := 0, slots := 0, locals := 0 } : Room).cells ({ frames := 0, cells := 0, slots := 0, locals := 0 } : Room).slots)
  rw [ef_rm_leq_3_3 m b1 b2 kb1 kb2 d1 d2 d3 f1 f2 f3]
  have lt_Vb1 : h0.size > b1 := Vb1.lt
  have lt_Vb2 : h0.size > b2 := Vb2.lt
  refine own_by (fun _ k => XS.aloadN X0.here hx rfl (hb hby d_rm_leq_3_3_0) rfl rfl k) ?_
  obtain ⟨cl1, Ar1, q1, S1, M1, H1, G1⟩ := (id Vb1)
  refine own_by (X0.arraylength hx (by rw [e0]; exact Ar1.1) (State.isArrayOf_alike hZ.alike Ar1.2.1) (g := (mkF m 1 #[.val (.ref b1), .val (.ref b2), .unset] [(.ref b1)])) rfl rfl (hb hby d_rm_leq_3_3_1)) ?_
  rw [len_of S1 M1]
  refine own_by (fun _ k => XS.aloadN X0.here hx rfl (hb hby d_rm_leq_3_3_2) rfl rfl k) ?_
  obtain ⟨cl2, Ar2, q2, S2, M2, H2, G2⟩ := (id Vb2)
  refine own_by (X0.arraylength hx (by rw [e0]; exact Ar2.1) (State.isArrayOf_alike hZ.alike Ar2.2.1) (g := (mkF m 3 #[.val (.ref b1), .val (.ref b2), .unset] [(.ref b2), (.int (3 : Int32))])) rfl rfl (hb hby d_rm_leq_3_3_3)) ?_
  rw [len_of S2 M2]
  show own_Go p e below (s₁.setTop (mkF m 4 #[.val (.ref b1), .val (.ref b2), .unset] [(.int (3 : Int32)), (.int (3 : Int32))])) _
  refine own_by (fun _ k => XS.icmpNo X0.here hx rfl (hb hby d_rm_leq_3_3_4) rfl (teq (by decide : (3 : Int32) = (3 : Int32))).2 k) ?_
  show own_Go p e below (s₁.setTop (mkF m 7 #[.val (.ref b1), .val (.ref b2), .unset] [])) _
  refine own_by (fun _ k => XS.iconst X0.here hx rfl (hb hby d_rm_leq_3_3_7) k) ?_
  refine own_by (fun _ k => XS.istoreN X0.here hx rfl (hb hby d_rm_leq_3_3_8) rfl (l' := #[.val (.ref b1), .val (.ref b2), .val (.int (0 : Int32))]) rfl k) ?_
  refine own_by (fun _ k => XS.iloadN X0.here hx rfl (hb hby d_rm_leq_3_3_9) rfl k) ?_
  refine own_by (fun _ k => XS.aloadN X0.here hx rfl (hb hby d_rm_leq_3_3_10) rfl rfl k) ?_
  show own_Go p e below (s₁.setTop (mkF m 11 #[.val (.ref b1), .val (.ref b2), .val (.int (0 : Int32))] [(.ref b1), (.int (0 : Int32))])) _
  obtain ⟨cl3, Ar3, q3, S3, M3, H3, G3⟩ := (id Vb1)
  refine own_by (X0.arraylength hx (by rw [e0]; exact Ar3.1) (State.isArrayOf_alike hZ.alike Ar3.2.1) (g := (mkF m 11 #[.val (.ref b1), .val (.ref b2), .val (.int (0 : Int32))] [(.ref b1), (.int (0 : Int32))])) rfl rfl (hb hby d_rm_leq_3_3_11)) ?_
  rw [len_of S3 M3]
  refine own_by (fun _ k => XS.icmpNo X0.here hx rfl (hb hby d_rm_leq_3_3_12) rfl (tlt (by decide : (0 : Int32) < (3 : Int32))).2.1 k) ?_
  show own_Go p e below (s₁.setTop (mkF m 15 #[.val (.ref b1), .val (.ref b2), .val (.int (0 : Int32))] [])) _
  refine own_by (fun _ k => XS.aloadN X0.here hx rfl (hb hby d_rm_leq_3_3_15) rfl rfl k) ?_
  refine own_by (fun _ k => XS.iloadN X0.here hx rfl (hb hby d_rm_leq_3_3_16) rfl k) ?_
  obtain ⟨cl4, Ar4, q4, S4, M4, H4, G4⟩ := (id Vb1)
  have hin4 : ¬ ((0 : Int32) < 0 ∨ cl4.slots.size ≤ ((0 : Int32)).toNatClampNeg) := inb_of S4 ⟨by decide, by decide⟩
  refine own_by (X0.baloadBytes hx (j := (0 : Int32)) (v := (.int d1)) (by rw [e0]; exact Ar4.1) (State.isArrayOf_alike hZ.alike Ar4.2.1) Ar4.2.2 hin4 (H4.at hin4 rfl) (g := (mkF m 17 #[.val (.ref b1), .val (.ref b2), .val (.int (0 : Int32))] [(.int (0 : Int32)), (.ref b1)])) rfl rfl (hb hby d_rm_leq_3_3_17)) ?_
  refine own_by (fun _ k => XS.aloadN X0.here hx rfl (hb hby d_rm_leq_3_3_18) rfl rfl k) ?_
  show own_Go p e below (s₁.setTop (mkF m 19 #[.val (.ref b1), .val (.ref b2), .val (.int (0 : Int32))] [(.ref b2), (.int d1)])) _
  refine own_by (fun _ k => XS.iloadN X0.here hx rfl (hb hby d_rm_leq_3_3_19) rfl k) ?_
  obtain ⟨cl5, Ar5, q5, S5, M5, H5, G5⟩ := (id Vb2)
  have hin5 : ¬ ((0 : Int32) < 0 ∨ cl5.slots.size ≤ ((0 : Int32)).toNatClampNeg) := inb_of S5 ⟨by decide, by decide⟩
  refine own_by (X0.baloadBytes hx (j := (0 : Int32)) (v := (.int f1)) (by rw [e0]; exact Ar5.1) (State.isArrayOf_alike hZ.alike Ar5.2.1) Ar5.2.2 hin5 (H5.at hin5 rfl) (g := (mkF m 20 #[.val (.ref b1), .val (.ref b2), .val (.int (0 : Int32))] [(.int (0 : Int32)), (.ref b2), (.int d1)])) rfl rfl (hb hby d_rm_leq_3_3_20)) ?_
  by_cases hc6 : d1 = f1
  · skip
    refine own_by (fun _ k => XS.icmpYes X0.here hx rfl (pc0 := 21) (pc' := 26) rfl (hb hby d_rm_leq_3_3_21) rfl (teq hc6).1 (by decide) (by decide) k) ?_
    show own_Go p e below (s₁.setTop (mkF m 26 #[.val (.ref b1), .val (.ref b2), .val (.int (0 : Int32))] [])) _
    refine own_by (fun _ k => XS.iinc X0.here hx rfl (hb hby d_rm_leq_3_3_26) rfl (l' := #[.val (.ref b1), .val (.ref b2), .val (.int (1 : Int32))]) rfl k) ?_
    refine own_by (fun _ k => XS.goto X0.here hx rfl (pc0 := 29) (pc' := 9) rfl (hb hby d_rm_leq_3_3_29) (by decide) (by decide) k) ?_
    refine own_by (fun _ k => XS.iloadN X0.here hx rfl (hb hby d_rm_leq_3_3_9) rfl k) ?_
    refine own_by (fun _ k => XS.aloadN X0.here hx rfl (hb hby d_rm_leq_3_3_10) rfl rfl k) ?_
    show own_Go p e below (s₁.setTop (mkF m 11 #[.val (.ref b1), .val (.ref b2), .val (.int (1 : Int32))] [(.ref b1), (.int (1 : Int32))])) _
    obtain ⟨cl7, Ar7, q7, S7, M7, H7, G7⟩ := (id Vb1)
    refine own_by (X0.arraylength hx (by rw [e0]; exact Ar7.1) (State.isArrayOf_alike hZ.alike Ar7.2.1) (g := (mkF m 11 #[.val (.ref b1), .val (.ref b2), .val (.int (1 : Int32))] [(.ref b1), (.int (1 : Int32))])) rfl rfl (hb hby d_rm_leq_3_3_11)) ?_
    rw [len_of S7 M7]
    refine own_by (fun _ k => XS.icmpNo X0.here hx rfl (hb hby d_rm_leq_3_3_12) rfl (tlt (by decide : (1 : Int32) < (3 : Int32))).2.1 k) ?_
    show own_Go p e below (s₁.setTop (mkF m 15 #[.val (.ref b1), .val (.ref b2), .val (.int (1 : Int32))] [])) _
    refine own_by (fun _ k => XS.aloadN X0.here hx rfl (hb hby d_rm_leq_3_3_15) rfl rfl k) ?_
    refine own_by (fun _ k => XS.iloadN X0.here hx rfl (hb hby d_rm_leq_3_3_16) rfl k) ?_
    obtain ⟨cl8, Ar8, q8, S8, M8, H8, G8⟩ := (id Vb1)
    have hin8 : ¬ ((1 : Int32) < 0 ∨ cl8.slots.size ≤ ((1 : Int32)).toNatClampNeg) := inb_of S8 ⟨by decide, by decide⟩
    refine own_by (X0.baloadBytes hx (j := (1 : Int32)) (v := (.int d2)) (by rw [e0]; exact Ar8.1) (State.isArrayOf_alike hZ.alike Ar8.2.1) Ar8.2.2 hin8 (H8.at hin8 rfl) (g := (mkF m 17 #[.val (.ref b1), .val (.ref b2), .val (.int (1 : Int32))] [(.int (1 : Int32)), (.ref b1)])) rfl rfl (hb hby d_rm_leq_3_3_17)) ?_
    refine own_by (fun _ k => XS.aloadN X0.here hx rfl (hb hby d_rm_leq_3_3_18) rfl rfl k) ?_
    show own_Go p e below (s₁.setTop (mkF m 19 #[.val (.ref b1), .val (.ref b2), .val (.int (1 : Int32))] [(.ref b2), (.int d2)])) _
    refine own_by (fun _ k => XS.iloadN X0.here hx rfl (hb hby d_rm_leq_3_3_19) rfl k) ?_
    obtain ⟨cl9, Ar9, q9, S9, M9, H9, G9⟩ := (id Vb2)
    have hin9 : ¬ ((1 : Int32) < 0 ∨ cl9.slots.size ≤ ((1 : Int32)).toNatClampNeg) := inb_of S9 ⟨by decide, by decide⟩
    refine own_by (X0.baloadBytes hx (j := (1 : Int32)) (v := (.int f2)) (by rw [e0]; exact Ar9.1) (State.isArrayOf_alike hZ.alike Ar9.2.1) Ar9.2.2 hin9 (H9.at hin9 rfl) (g := (mkF m 20 #[.val (.ref b1), .val (.ref b2), .val (.int (1 : Int32))] [(.int (1 : Int32)), (.ref b2), (.int d2)])) rfl rfl (hb hby d_rm_leq_3_3_20)) ?_
    by_cases hc10 : d2 = f2
    · skip
      refine own_by (fun _ k => XS.icmpYes X0.here hx rfl (pc0 := 21) (pc' := 26) rfl (hb hby d_rm_leq_3_3_21) rfl (teq hc10).1 (by decide) (by decide) k) ?_
      show own_Go p e below (s₁.setTop (mkF m 26 #[.val (.ref b1), .val (.ref b2), .val (.int (1 : Int32))] [])) _
      refine own_by (fun _ k => XS.iinc X0.here hx rfl (hb hby d_rm_leq_3_3_26) rfl (l' := #[.val (.ref b1), .val (.ref b2), .val (.int (2 : Int32))]) rfl k) ?_
      refine own_by (fun _ k => XS.goto X0.here hx rfl (pc0 := 29) (pc' := 9) rfl (hb hby d_rm_leq_3_3_29) (by decide) (by decide) k) ?_
      refine own_by (fun _ k => XS.iloadN X0.here hx rfl (hb hby d_rm_leq_3_3_9) rfl k) ?_
      refine own_by (fun _ k => XS.aloadN X0.here hx rfl (hb hby d_rm_leq_3_3_10) rfl rfl k) ?_
      show own_Go p e below (s₁.setTop (mkF m 11 #[.val (.ref b1), .val (.ref b2), .val (.int (2 : Int32))] [(.ref b1), (.int (2 : Int32))])) _
      obtain ⟨cl11, Ar11, q11, S11, M11, H11, G11⟩ := (id Vb1)
      refine own_by (X0.arraylength hx (by rw [e0]; exact Ar11.1) (State.isArrayOf_alike hZ.alike Ar11.2.1) (g := (mkF m 11 #[.val (.ref b1), .val (.ref b2), .val (.int (2 : Int32))] [(.ref b1), (.int (2 : Int32))])) rfl rfl (hb hby d_rm_leq_3_3_11)) ?_
      rw [len_of S11 M11]
      refine own_by (fun _ k => XS.icmpNo X0.here hx rfl (hb hby d_rm_leq_3_3_12) rfl (tlt (by decide : (2 : Int32) < (3 : Int32))).2.1 k) ?_
      show own_Go p e below (s₁.setTop (mkF m 15 #[.val (.ref b1), .val (.ref b2), .val (.int (2 : Int32))] [])) _
      refine own_by (fun _ k => XS.aloadN X0.here hx rfl (hb hby d_rm_leq_3_3_15) rfl rfl k) ?_
      refine own_by (fun _ k => XS.iloadN X0.here hx rfl (hb hby d_rm_leq_3_3_16) rfl k) ?_
      obtain ⟨cl12, Ar12, q12, S12, M12, H12, G12⟩ := (id Vb1)
      have hin12 : ¬ ((2 : Int32) < 0 ∨ cl12.slots.size ≤ ((2 : Int32)).toNatClampNeg) := inb_of S12 ⟨by decide, by decide⟩
      refine own_by (X0.baloadBytes hx (j := (2 : Int32)) (v := (.int d3)) (by rw [e0]; exact Ar12.1) (State.isArrayOf_alike hZ.alike Ar12.2.1) Ar12.2.2 hin12 (H12.at hin12 rfl) (g := (mkF m 17 #[.val (.ref b1), .val (.ref b2), .val (.int (2 : Int32))] [(.int (2 : Int32)), (.ref b1)])) rfl rfl (hb hby d_rm_leq_3_3_17)) ?_
      refine own_by (fun _ k => XS.aloadN X0.here hx rfl (hb hby d_rm_leq_3_3_18) rfl rfl k) ?_
      show own_Go p e below (s₁.setTop (mkF m 19 #[.val (.ref b1), .val (.ref b2), .val (.int (2 : Int32))] [(.ref b2), (.int d3)])) _
      refine own_by (fun _ k => XS.iloadN X0.here hx rfl (hb hby d_rm_leq_3_3_19) rfl k) ?_
      obtain ⟨cl13, Ar13, q13, S13, M13, H13, G13⟩ := (id Vb2)
      have hin13 : ¬ ((2 : Int32) < 0 ∨ cl13.slots.size ≤ ((2 : Int32)).toNatClampNeg) := inb_of S13 ⟨by decide, by decide⟩
      refine own_by (X0.baloadBytes hx (j := (2 : Int32)) (v := (.int f3)) (by rw [e0]; exact Ar13.1) (State.isArrayOf_alike hZ.alike Ar13.2.1) Ar13.2.2 hin13 (H13.at hin13 rfl) (g := (mkF m 20 #[.val (.ref b1), .val (.ref b2), .val (.int (2 : Int32))] [(.int (2 : Int32)), (.ref b2), (.int d3)])) rfl rfl (hb hby d_rm_leq_3_3_20)) ?_
      by_cases hc14 : d3 = f3
      · skip
        refine own_by (fun _ k => XS.icmpYes X0.here hx rfl (pc0 := 21) (pc' := 26) rfl (hb hby d_rm_leq_3_3_21) rfl (teq hc14).1 (by decide) (by decide) k) ?_
        show own_Go p e below (s₁.setTop (mkF m 26 #[.val (.ref b1), .val (.ref b2), .val (.int (2 : Int32))] [])) _
        refine own_by (fun _ k => XS.iinc X0.here hx rfl (hb hby d_rm_leq_3_3_26) rfl (l' := #[.val (.ref b1), .val (.ref b2), .val (.int (3 : Int32))]) rfl k) ?_
        refine own_by (fun _ k => XS.goto X0.here hx rfl (pc0 := 29) (pc' := 9) rfl (hb hby d_rm_leq_3_3_29) (by decide) (by decide) k) ?_
        refine own_by (fun _ k => XS.iloadN X0.here hx rfl (hb hby d_rm_leq_3_3_9) rfl k) ?_
        refine own_by (fun _ k => XS.aloadN X0.here hx rfl (hb hby d_rm_leq_3_3_10) rfl rfl k) ?_
        show own_Go p e below (s₁.setTop (mkF m 11 #[.val (.ref b1), .val (.ref b2), .val (.int (3 : Int32))] [(.ref b1), (.int (3 : Int32))])) _
        obtain ⟨cl15, Ar15, q15, S15, M15, H15, G15⟩ := (id Vb1)
        refine own_by (X0.arraylength hx (by rw [e0]; exact Ar15.1) (State.isArrayOf_alike hZ.alike Ar15.2.1) (g := (mkF m 11 #[.val (.ref b1), .val (.ref b2), .val (.int (3 : Int32))] [(.ref b1), (.int (3 : Int32))])) rfl rfl (hb hby d_rm_leq_3_3_11)) ?_
        rw [len_of S15 M15]
        refine own_by (fun _ k => XS.icmpYes X0.here hx rfl (pc0 := 12) (pc' := 32) rfl (hb hby d_rm_leq_3_3_12) rfl (flt (by decide : ¬ ((3 : Int32) < (3 : Int32)))).2.1 (by decide) (by decide) k) ?_
        show own_Go p e below (s₁.setTop (mkF m 32 #[.val (.ref b1), .val (.ref b2), .val (.int (3 : Int32))] [])) _
        refine own_by (fun _ k => XS.iconst X0.here hx rfl (hb hby d_rm_leq_3_3_32) k) ?_
        obtain ⟨fs, hr, hrun, hended, hW, hsame⟩ := X0.leave (v := some (.int (1 : Int32))) (fun h => by rw [Bd.returns] at h; cases h)
        refine ⟨_, _, retN X0 hx (t := .boolean) Bd.returns (by simp) (hb hby d_rm_leq_3_3_33) hr, hrun, hended, _, _, rfl, ?_, ⟨_, rfl⟩, hW, hsame.mono (by decide) (by decide)⟩
        show Q_rm_leq_3_3 Z b1 b2 kb1 kb2 d1 d2 d3 f1 f2 f3 h0 n0 _ s₁.heap _
        rw [e0]
        exact ⟨(by simp [own_all, hc6, hc10, hc14]), N0, rfl⟩
      · skip
        refine own_by (fun _ k => XS.icmpNo X0.here hx rfl (hb hby d_rm_leq_3_3_21) rfl (feq hc14).1 k) ?_
        show own_Go p e below (s₁.setTop (mkF m 24 #[.val (.ref b1), .val (.ref b2), .val (.int (2 : Int32))] [])) _
        refine own_by (fun _ k => XS.iconst X0.here hx rfl (hb hby d_rm_leq_3_3_24) k) ?_
        obtain ⟨fs, hr, hrun, hended, hW, hsame⟩ := X0.leave (v := some (.int (0 : Int32))) (fun h => by rw [Bd.returns] at h; cases h)
        refine ⟨_, _, retN X0 hx (t := .boolean) Bd.returns (by simp) (hb hby d_rm_leq_3_3_25) hr, hrun, hended, _, _, rfl, ?_, ⟨_, rfl⟩, hW, hsame.mono (by decide) (by decide)⟩
        show Q_rm_leq_3_3 Z b1 b2 kb1 kb2 d1 d2 d3 f1 f2 f3 h0 n0 _ s₁.heap _
        rw [e0]
        exact ⟨(by simp [own_all, hc6, hc10, hc14]), N0, rfl⟩
    · skip
      refine own_by (fun _ k => XS.icmpNo X0.here hx rfl (hb hby d_rm_leq_3_3_21) rfl (feq hc10).1 k) ?_
      show own_Go p e below (s₁.setTop (mkF m 24 #[.val (.ref b1), .val (.ref b2), .val (.int (1 : Int32))] [])) _
      refine own_by (fun _ k => XS.iconst X0.here hx rfl (hb hby d_rm_leq_3_3_24) k) ?_
      obtain ⟨fs, hr, hrun, hended, hW, hsame⟩ := X0.leave (v := some (.int (0 : Int32))) (fun h => by rw [Bd.returns] at h; cases h)
      refine ⟨_, _, retN X0 hx (t := .boolean) Bd.returns (by simp) (hb hby d_rm_leq_3_3_25) hr, hrun, hended, _, _, rfl, ?_, ⟨_, rfl⟩, hW, hsame.mono (by decide) (by decide)⟩
      show Q_rm_leq_3_3 Z b1 b2 kb1 kb2 d1 d2 d3 f1 f2 f3 h0 n0 _ s₁.heap _
      rw [e0]
      exact ⟨(by simp [own_all, hc6, hc10]), N0, rfl⟩
  · skip
    refine own_by (fun _ k => XS.icmpNo X0.here hx rfl (hb hby d_rm_leq_3_3_21) rfl (feq hc6).1 k) ?_
    show own_Go p e below (s₁.setTop (mkF m 24 #[.val (.ref b1), .val (.ref b2), .val (.int (0 : Int32))] [])) _
    refine own_by (fun _ k => XS.iconst X0.here hx rfl (hb hby d_rm_leq_3_3_24) k) ?_
    obtain ⟨fs, hr, hrun, hended, hW, hsame⟩ := X0.leave (v := some (.int (0 : Int32))) (fun h => by rw [Bd.returns] at h; cases h)
    refine ⟨_, _, retN X0 hx (t := .boolean) Bd.returns (by simp) (hb hby d_rm_leq_3_3_25) hr, hrun, hended, _, _, rfl, ?_, ⟨_, rfl⟩, hW, hsame.mono (by decide) (by decide)⟩
    show Q_rm_leq_3_3 Z b1 b2 kb1 kb2 d1 d2 d3 f1 f2 f3 h0 n0 _ s₁.heap _
    rw [e0]
    exact ⟨(by simp [own_all, hc6]), N0, rfl⟩
theorem d_rm_eqsame_0 : decode jdk_42_method_66_code 0 = .ok (.aload_n 0, 1) := by decide +kernel
theorem d_rm_eqsame_1 : decode jdk_42_method_66_code 1 = .ok (.aload_n 1, 1) := by decide +kernel
theorem d_rm_eqsame_2 : decode jdk_42_method_66_code 2 = .ok (.if_acmp .ne 5, 3) := by decide +kernel
theorem d_rm_eqsame_5 : decode jdk_42_method_66_code 5 = .ok (.iconst 1, 1) := by decide +kernel
theorem d_rm_eqsame_6 : decode jdk_42_method_66_code 6 = .ok (.ireturn, 1) := by decide +kernel
def Q_rm_eqsame (Z : State) (t1 : Addr) (h0 : Heap) (n0 : Nat) (v : Option Value) (h : Heap) (L : List Loc) : Prop := v = some (.int (1 : Int32)) ∧ Fr n0 L ∧ h = h0
theorem ef_rm_eqsame (m : MethodId) (t1 : Addr) : entryFrame m #[(.ref t1), (.ref t1)] 3 = mkF m 0 #[.val (.ref t1), .val (.ref t1), .unset] [] := by first | (simp [entryFrame, mkF, argsToLocals, Value.category]; done) | rfl
set_option maxRecDepth 65536 in
set_option maxHeartbeats 40000000 in
theorem rm_eqsame (l : Launch) (Z : State) (a0 : Array Value) (hw : ∀ d ∈ tables_1, d.before a0 Z = true) (ws : List Jvm.Cond) (t1 : Addr) (h0 : Heap) (n0 : Nat) (O0 : Old Z n0 h0) :
    MetFree l (⟨"java/lang/String", "equals", "(Ljava/lang/Object;)Z"⟩ : MethodName) (head1 (Jvm.Cond.code (⟨"java/lang/String", "equals", "(Ljava/lang/Object;)Z"⟩ : MethodName) jdk_42_method_66_code 3 (some .boolean) :: ws) ({ frames := 0, cells := 0, slots := 0, locals := 0 } : Room)) (fun a U => a = #[(.ref t1), (.ref t1)] ∧ Z.Warmed39 U.vm ∧ U.heap = h0) (fun _ _ _ _ _ => True) (fun _ U o U' => ∃ v L, o = .returned v ∧ Q_rm_eqsame Z t1 h0 n0 v U'.heap L ∧ FrameEnd U o U' L ({ frames := 0, cells := 0, slots := 0, locals := 0 } : Room).cells ({ frames := 0, cells := 0, slots := 0, locals := 0 } : Room).slots) := by
  refine MetFree.of_bodySF (plainFor_of_name own_pn_java_lang_String) hisR ?_
  intro p e s m args below meth c s₁ Bd hml0 hP hK
  obtain ⟨rfl, hZ, hh⟩ := hP
  have hx := Bd.exec
  have hby := Bd.bytes
  have hml : c.maxLocals = 3 := hml0
  have hown : s.vm.findClass "java/lang/String" = some m.cls := findClass_of_methodNamed Bd.named
  have hnm := (name_of_methodNamed Bd.named Bd.method).1
  have X0 : Stand p l e ({ frames := 0, cells := 0, slots := 0, locals := 0 } : Room) s m #[(.ref t1), (.ref t1)] below meth c s₁ [] 0 0 := Stand.of_body Bd
  have e0 : s₁.heap = h0 := by rw [← hh, Bd.state]; rfl
  have N0 := Fr.nil n0
  have Z0 : n0 ≤ h0.size := by rw [← O0.1]; exact O0.2.1
  show own_Go p e below (s₁.setTop (entryFrame m #[(.ref t1), (.ref t1)] 3)) (fun t o => ∃ v L, o = .returned v ∧ Q_rm_eqsame Z t1 h0 n0 v t.heap L ∧ FrameEnd s o t L ({ frames := 0, cells := 0, slots := 0, locals := 0 } : Room).cells ({ frames := 0, cells := 0, slots := 0, locals := 0 } : Room).slots)
  rw [ef_rm_eqsame m t1]
  refine own_by (fun _ k => XS.aloadN X0.here hx rfl (hb hby d_rm_eqsame_0) rfl rfl k) ?_
  refine own_by (fun _ k => XS.aloadN X0.here hx rfl (hb hby d_rm_eqsame_1) rfl rfl k) ?_
  refine own_by (fun _ k => Jvm.RoadKit.acmp (g := (mkF m 2 #[.val (.ref t1), .val (.ref t1), .unset] [(.ref t1), (.ref t1)])) X0 hx rfl rfl rfl (pc0 := 2) (pc' := 5) (same := true) rfl (hb hby d_rm_eqsame_2) rfl (decide_eq_true rfl) (by decide) (by decide) k) ?_
  show own_Go p e below (s₁.setTop (mkF m 5 #[.val (.ref t1), .val (.ref t1), .unset] [])) _
  refine own_by (fun _ k => XS.iconst X0.here hx rfl (hb hby d_rm_eqsame_5) k) ?_
  obtain ⟨fs, hr, hrun, hended, hW, hsame⟩ := X0.leave (v := some (.int (1 : Int32))) (fun h => by rw [Bd.returns] at h; cases h)
  refine ⟨_, _, retN X0 hx (t := .boolean) Bd.returns (by simp) (hb hby d_rm_eqsame_6) hr, hrun, hended, _, _, rfl, ?_, ⟨_, rfl⟩, hW, hsame.mono (by decide) (by decide)⟩
  show Q_rm_eqsame Z t1 h0 n0 _ s₁.heap _
  rw [e0]
  exact ⟨rfl, N0, rfl⟩
theorem d_rm_str_0 : decode method_3_code 0 = .ok (.iload_n 1, 1) := by decide +kernel
theorem d_rm_str_1 : decode method_3_code 1 = .ok (.ifCond .ne 14, 3) := by decide +kernel
theorem d_rm_str_4 : decode method_3_code 4 = .ok (.new 7, 3) := by decide +kernel
theorem d_rm_str_7 : decode method_3_code 7 = .ok (.dup, 1) := by decide +kernel
theorem d_rm_str_8 : decode method_3_code 8 = .ok (.iconst 0, 1) := by decide +kernel
theorem d_rm_str_9 : decode method_3_code 9 = .ok (.newarray .char, 2) := by decide +kernel
theorem d_rm_str_11 : decode method_3_code 11 = .ok (.invokespecial 9, 3) := by decide +kernel
theorem d_rm_str_14 : decode method_3_code 14 = .ok (.areturn, 1) := by decide +kernel
theorem d_rm_str_15 : decode method_3_code 15 = .ok (.iload_n 1, 1) := by decide +kernel
theorem d_rm_str_16 : decode method_3_code 16 = .ok (.iconst 1, 1) := by decide +kernel
theorem d_rm_str_17 : decode method_3_code 17 = .ok (.if_icmp .ne 22, 3) := by decide +kernel
theorem d_rm_str_20 : decode method_3_code 20 = .ok (.new 7, 3) := by decide +kernel
theorem d_rm_str_23 : decode method_3_code 23 = .ok (.dup, 1) := by decide +kernel
theorem d_rm_str_24 : decode method_3_code 24 = .ok (.iconst 1, 1) := by decide +kernel
theorem d_rm_str_25 : decode method_3_code 25 = .ok (.newarray .char, 2) := by decide +kernel
theorem d_rm_str_27 : decode method_3_code 27 = .ok (.dup, 1) := by decide +kernel
theorem d_rm_str_28 : decode method_3_code 28 = .ok (.iconst 0, 1) := by decide +kernel
theorem d_rm_str_29 : decode method_3_code 29 = .ok (.iload_n 0, 1) := by decide +kernel
theorem d_rm_str_30 : decode method_3_code 30 = .ok (.iconst 0, 1) := by decide +kernel
theorem d_rm_str_31 : decode method_3_code 31 = .ok (.invokestatic 12, 3) := by decide +kernel
theorem d_rm_str_34 : decode method_3_code 34 = .ok (.castore, 1) := by decide +kernel
theorem d_rm_str_35 : decode method_3_code 35 = .ok (.invokespecial 9, 3) := by decide +kernel
theorem d_rm_str_38 : decode method_3_code 38 = .ok (.areturn, 1) := by decide +kernel
theorem d_rm_str_39 : decode method_3_code 39 = .ok (.iload_n 1, 1) := by decide +kernel
theorem d_rm_str_40 : decode method_3_code 40 = .ok (.iconst 2, 1) := by decide +kernel
theorem d_rm_str_41 : decode method_3_code 41 = .ok (.if_icmp .ne 30, 3) := by decide +kernel
theorem d_rm_str_44 : decode method_3_code 44 = .ok (.new 7, 3) := by decide +kernel
theorem d_rm_str_47 : decode method_3_code 47 = .ok (.dup, 1) := by decide +kernel
theorem d_rm_str_48 : decode method_3_code 48 = .ok (.iconst 2, 1) := by decide +kernel
theorem d_rm_str_49 : decode method_3_code 49 = .ok (.newarray .char, 2) := by decide +kernel
theorem d_rm_str_51 : decode method_3_code 51 = .ok (.dup, 1) := by decide +kernel
theorem d_rm_str_52 : decode method_3_code 52 = .ok (.iconst 0, 1) := by decide +kernel
theorem d_rm_str_53 : decode method_3_code 53 = .ok (.iload_n 0, 1) := by decide +kernel
theorem d_rm_str_54 : decode method_3_code 54 = .ok (.iconst 0, 1) := by decide +kernel
theorem d_rm_str_55 : decode method_3_code 55 = .ok (.invokestatic 12, 3) := by decide +kernel
theorem d_rm_str_58 : decode method_3_code 58 = .ok (.castore, 1) := by decide +kernel
theorem d_rm_str_59 : decode method_3_code 59 = .ok (.dup, 1) := by decide +kernel
theorem d_rm_str_60 : decode method_3_code 60 = .ok (.iconst 1, 1) := by decide +kernel
theorem d_rm_str_61 : decode method_3_code 61 = .ok (.iload_n 0, 1) := by decide +kernel
theorem d_rm_str_62 : decode method_3_code 62 = .ok (.iconst 1, 1) := by decide +kernel
theorem d_rm_str_63 : decode method_3_code 63 = .ok (.invokestatic 12, 3) := by decide +kernel
theorem d_rm_str_66 : decode method_3_code 66 = .ok (.castore, 1) := by decide +kernel
theorem d_rm_str_67 : decode method_3_code 67 = .ok (.invokespecial 9, 3) := by decide +kernel
theorem d_rm_str_70 : decode method_3_code 70 = .ok (.areturn, 1) := by decide +kernel
theorem d_rm_str_71 : decode method_3_code 71 = .ok (.new 7, 3) := by decide +kernel
theorem d_rm_str_74 : decode method_3_code 74 = .ok (.dup, 1) := by decide +kernel
theorem d_rm_str_75 : decode method_3_code 75 = .ok (.iconst 3, 1) := by decide +kernel
theorem d_rm_str_76 : decode method_3_code 76 = .ok (.newarray .char, 2) := by decide +kernel
theorem d_rm_str_78 : decode method_3_code 78 = .ok (.dup, 1) := by decide +kernel
theorem d_rm_str_79 : decode method_3_code 79 = .ok (.iconst 0, 1) := by decide +kernel
theorem d_rm_str_80 : decode method_3_code 80 = .ok (.iload_n 0, 1) := by decide +kernel
theorem d_rm_str_81 : decode method_3_code 81 = .ok (.iconst 0, 1) := by decide +kernel
theorem d_rm_str_82 : decode method_3_code 82 = .ok (.invokestatic 12, 3) := by decide +kernel
theorem d_rm_str_85 : decode method_3_code 85 = .ok (.castore, 1) := by decide +kernel
theorem d_rm_str_86 : decode method_3_code 86 = .ok (.dup, 1) := by decide +kernel
theorem d_rm_str_87 : decode method_3_code 87 = .ok (.iconst 1, 1) := by decide +kernel
theorem d_rm_str_88 : decode method_3_code 88 = .ok (.iload_n 0, 1) := by decide +kernel
theorem d_rm_str_89 : decode method_3_code 89 = .ok (.iconst 1, 1) := by decide +kernel
theorem d_rm_str_90 : decode method_3_code 90 = .ok (.invokestatic 12, 3) := by decide +kernel
theorem d_rm_str_93 : decode method_3_code 93 = .ok (.castore, 1) := by decide +kernel
theorem d_rm_str_94 : decode method_3_code 94 = .ok (.dup, 1) := by decide +kernel
theorem d_rm_str_95 : decode method_3_code 95 = .ok (.iconst 2, 1) := by decide +kernel
theorem d_rm_str_96 : decode method_3_code 96 = .ok (.iload_n 0, 1) := by decide +kernel
theorem d_rm_str_97 : decode method_3_code 97 = .ok (.iconst 2, 1) := by decide +kernel
theorem d_rm_str_98 : decode method_3_code 98 = .ok (.invokestatic 12, 3) := by decide +kernel
theorem d_rm_str_101 : decode method_3_code 101 = .ok (.castore, 1) := by decide +kernel
theorem d_rm_str_102 : decode method_3_code 102 = .ok (.invokespecial 9, 3) := by decide +kernel
theorem d_rm_str_105 : decode method_3_code 105 = .ok (.areturn, 1) := by decide +kernel
def Q_rm_str (Z : State) (p1 : Int32) (n1 : Int32) (cs : Int32) (h0 : Heap) (n0 : Nat) (v : Option Value) (h : Heap) (L : List Loc) : Prop := ∃ (r1 : Addr), ∃ (b : Addr), ∃ (kb : ClassId), v = some (.ref r1) ∧ Fr n0 L ∧ Keep h0 h [] ∧ Exa Z h r1 "java/lang/String" ∧ Fld Z h r1 "java/lang/String" "coder" "B" (.int (0 : Int32)) ∧ Fld Z h r1 "java/lang/String" "value" "[B" (.ref b) ∧ Arv Z h b kb .byte n1 (own_bs p1 n1) (.int (0 : Int32)) ∧ h0.size ≤ r1
theorem ef_rm_str (m : MethodId) (p1 : Int32) (n1 : Int32) (cs : Int32) : entryFrame m #[(.int p1), (.int n1)] 2 = mkF m 0 #[.val (.int p1), .val (.int n1)] [] := by first | (simp [entryFrame, mkF, argsToLocals, Value.category]; done) | rfl
set_option maxRecDepth 65536 in
set_option maxHeartbeats 40000000 in
theorem rm_str (l : Launch) (Z : State) (a0 : Array Value) (hw : ∀ d ∈ tables_1, d.before a0 Z = true) (ws : List Jvm.Cond) (p1 : Int32) (n1 : Int32) (cs : Int32) (h0 : Heap) (n0 : Nat) (O0 : Old Z n0 h0) (hEL : EW Z a0 own_EL) (S_COMPACT : Sta Z Z.heap "java/lang/String" "COMPACT_STRINGS" "Z" (.int cs)) (hcs : ¬ (cs = (0 : Int32))) (hn1 : n1 = 0 ∨ n1 = 1 ∨ n1 = 2 ∨ n1 = 3) :
    MetFree l (⟨"com/example/living_lease/livinglease/redis/ErrorEqualsPinLaw", "str", "(II)Ljava/lang/String;"⟩ : MethodName) (head1 (Jvm.Cond.code (⟨"com/example/living_lease/livinglease/redis/ErrorEqualsPinLaw", "str", "(II)Ljava/lang/String;"⟩ : MethodName) method_3_code 2 (some (.object "java/lang/String")) :: ws) ({ frames := 4, cells := 6, slots := 12, locals := 66 } : Room)) (fun a U => a = #[(.int p1), (.int n1)] ∧ Z.Warmed39 U.vm ∧ U.heap = h0 ∧ CHv Z own_EL U.vm h0) (fun _ _ _ _ _ => True) (fun _ U o U' => ∃ v L, o = .returned v ∧ Q_rm_str Z p1 n1 cs h0 n0 v U'.heap L ∧ CHr Z own_EL U.vm U.heap U'.vm U'.heap ∧ ReturnedEndW U o U' L ({ frames := 4, cells := 6, slots := 12, locals := 66 } : Room).cells ({ frames := 4, cells := 6, slots := 12, locals := 66 } : Room).slots) := by
  refine MetFree.of_bodySF (plainFor_of_name own_pn_com_example_living_lease_livinglease_redis_ErrorEqualsPinLaw) hisR ?_
  intro p e s m args below meth c s₁ Bd hml0 hP hK
  obtain ⟨rfl, hZ, hh, hC⟩ := hP
  have hx := Bd.exec
  have hby := Bd.bytes
  have hml : c.maxLocals = 2 := hml0
  have hown : s.vm.findClass "com/example/living_lease/livinglease/redis/ErrorEqualsPinLaw" = some m.cls := findClass_of_methodNamed Bd.named
  have hnm := (name_of_methodNamed Bd.named Bd.method).1
  have X0 : Stand p l e ({ frames := 4, cells := 6, slots := 12, locals := 66 } : Room) (s.setVm s.vm) m #[(.int p1), (.int n1)] below meth c s₁ [] 0 0 := Stand.of_body Bd
  have S0 : s.Since s.vm h0.size := (State.WarmedH.refl s).since _
  have hZ : Z.Warmed39 (s.setVm s.vm).vm := hZ
  have hown : (s.setVm s.vm).vm.findClass "com/example/living_lease/livinglease/redis/ErrorEqualsPinLaw" = some m.cls := hown
  have R0 : CHr Z own_EL s.vm h0 s.vm h0 := CHr.refl hC
  have e0 : s₁.heap = h0 := by rw [← hh, Bd.state]; rfl
  have N0 := Fr.nil n0
  have Z0 : n0 ≤ h0.size := by rw [← O0.1]; exact O0.2.1
  show own_Go p e below (s₁.setTop (entryFrame m #[(.int p1), (.int n1)] 2)) (fun t o => ∃ v L, o = .returned v ∧ Q_rm_str Z p1 n1 cs h0 n0 v t.heap L ∧ CHr Z own_EL s.vm s.heap t.vm t.heap ∧ ReturnedEndW s o t L ({ frames := 4, cells := 6, slots := 12, locals := 66 } : Room).cells ({ frames := 4, cells := 6, slots := 12, locals := 66 } : Room).slots)
  rw [ef_rm_str m p1 n1 cs]
  rcases hn1 with rfl | rfl | rfl | rfl
  · skip
    show own_Go p e below (s₁.setTop (mkF m 0 #[.val (.int p1), .val (.int (0 : Int32))] [])) _
    refine own_by (fun _ k => XS.iloadN X0.here hx rfl (hb hby d_rm_str_0) rfl k) ?_
    refine own_by (fun _ k => XS.ifNo X0.here hx rfl (hb hby d_rm_str_1) rfl ((if0 _ _).trans (teq (by decide : (0 : Int32) = (0 : Int32))).2) k) ?_
    show own_Go p e below (s₁.setTop (mkF m 4 #[.val (.int p1), .val (.int (0 : Int32))] [])) _
    obtain ⟨T1, h1, X1, e1, E1, A1, D1, U1, st1⟩ := newO X0 hx hZ hown (own_w hw 4 rfl) (own_w hw 5 rfl) (own_w hw 6 rfl) e0 (g := (mkF m 4 #[.val (.int p1), .val (.int (0 : Int32))] [])) rfl (hb hby d_rm_str_4) (by decide) (by decide)
    obtain ⟨ob1, g1⟩ : ∃ z, z = h0.size := ⟨_, rfl⟩
    rw [← g1] at A1 D1 U1 st1
    refine own_by st1 ?_
    have z1 := E1.1
    have lt1 : h1.size > ob1 := A1.lt
    have R1 := R0.trans (CHr.ext E1 R0.1)
    refine own_by (fun _ k => XS.dup X1.here hx rfl (hb hby d_rm_str_7) rfl rfl k) ?_
    refine own_by (fun _ k => XS.iconst X1.here hx rfl (hb hby d_rm_str_8) k) ?_
    obtain ⟨T2, h2, k2, X2, e2, E2, A2, st2⟩ := newP X1 hx hZ (own_w hw 7 rfl) e1 (g := (mkF m 9 #[.val (.int p1), .val (.int (0 : Int32))] [(.int (0 : Int32)), (.ref ob1), (.ref ob1)])) rfl (hb hby d_rm_str_9) rfl (by decide) (cap := 0) (by decide) (by decide) (by decide) (by decide)
    obtain ⟨ob2, g2⟩ : ∃ z, z = h1.size := ⟨_, rfl⟩
    rw [← g2] at A2 st2
    refine own_by st2 ?_
    have z2 := E2.1
    have R2 := R1.trans (CHr.ext E2 R1.1)
    have Vw2 : Arv Z h2 ob2 k2 .char (0 : Int32) [] (.int (0 : Int32)) := Arv.new A2 (by decide)
    have lt2 : h2.size > ob2 := Vw2.lt
    show own_Go p e below (T2.setTop (mkF m 11 #[.val (.int p1), .val (.int (0 : Int32))] [(.ref ob2), (.ref ob1), (.ref ob1)])) _
    have fc3 : Exa Z h2 ob1 "java/lang/String" := (A1.ext E2)
    have fc4 : Fld Z h2 ob1 "java/lang/String" "value" "[B" .null := ((show Fld Z h1 ob1 "java/lang/String" "value" "[B" .null from D1 (Or.inr (own_w hw 36 rfl)) (ty := (.array .byte)) (by decide)).ext E2)
    have fc5 : Fld Z h2 ob1 "java/lang/String" "coder" "B" (.int (0 : Int32)) := ((show Fld Z h1 ob1 "java/lang/String" "coder" "B" (.int (0 : Int32)) from D1 (Or.inr (own_w hw 34 rfl)) (ty := .byte) (by decide)).ext E2)
    have O6 : Old Z n0 h2 := ((O0.ext E1).ext E2)
    obtain ⟨_, _, ⟨T7, L7, k7, n7⟩, -, X7, S'7, gr7, ⟨Lc7, hQ7, l7, y7, z7, C7⟩, st7⟩ := X2.specialBackS hx (y := (⟨"java/lang/String", "<init>", "([C)V"⟩ : MethodName)) rfl hown (mvT hZ (own_w hw 11 rfl)) (mvT hZ (own_w hw 12 rfl)) (mvT hZ (own_w hw 13 rfl)) (by decide) (backOfSH (W := 1) (rm_sinit_0 l Z a0 hw [] ob1 ob2 k2 h2 n0 O6 hEL fc3 fc4 fc5 Vw2 (by first | assumption | omega | decide)) hZ (own_w hw 13 rfl) (own_w hw 6 rfl) (by decide) (by decide) hEL R2.1) (g := (mkF m 11 #[.val (.int p1), .val (.int (0 : Int32))] [(.ref ob2), (.ref ob1), (.ref ob1)])) rfl (by rw [hml]; rfl) (Steps.refl _) (a := ob1) (argsL := [(.ref ob2)]) (rest := [(.ref ob1)]) (lenOf own_pd__28_5bC_29V rfl) rfl (by show 2 * 0 + _ ≤ _; exact Nat.le_of_eq rfl) (hb hby d_rm_str_11) (fun _ _ => ⟨rfl, e2, (by decide : 2 + 4 ≤ _), (by decide : 4 + 8 ≤ _)⟩)
    dsimp only [Pt.U, Pt.locs, Pt.cells, Pt.slots] at X7 l7 y7 z7 st7 hQ7 S'7 gr7 C7
    subst l7 y7 z7
    obtain ⟨X7, S7, hZ7, ho7⟩ := rebS S0 (by first | omega | (rw [e2]; omega)) X7 S'7 gr7 hZ hown
    obtain ⟨b_7, kb_7, rfl, M7, K7, g7_0, g7_1, g7_2, g7_3⟩ := hQ7
    have N7 := Fr.app N0 M7
    refine own_by (fun _ k => st7.trans k) ?_
    have R7 := R2.trans C7
    have z7 := K7.1
    have lt_g7_0 : T7.heap.size > ob1 := g7_0.lt
    have lt_g7_1 : T7.heap.size > ob1 := g7_1.lt
    have lt_g7_2 : T7.heap.size > ob1 := g7_2.lt
    have lt_g7_3 : T7.heap.size > b_7 := g7_3.lt
    have xb8 : Arv Z T7.heap b_7 kb_7 .byte (0 : Int32) (own_bs p1 (0 : Int32)) (.int (0 : Int32)) := by rw [own_bs_0]; exact g7_3
    have K9 : Keep h0 T7.heap [] := ((((Keep.refl h0 []).ext E1).ext E2).trans K7 (allS (P := fun x => x ∈ [] ∨ h0.size ≤ x) (Or.inr (by omega)) all0))
    obtain ⟨fs, hr, hrun, hended, hW⟩ := X7.leaveW S7 (by first | omega | (rw [e0]; omega)) (v := some (.ref ob1)) (fun h => by rw [Bd.returns] at h; cases h)
    have RR := R7.trans (CHv.at X7 hZ7 hEL R7.1)
    have RR' : CHr Z own_EL s.vm s.heap T7.vm T7.heap := by rw [hh]; exact RR
    refine ⟨_, _, retOut X7 hx Bd.returns (own_narrow_ref (by decide) rfl) (Or.inr (Or.inr (Or.inr (Or.inr ⟨rfl, by decide, rfl⟩)))) (hb hby d_rm_str_14) hr, hrun, hended, _, _, rfl, ?_, RR', ⟨_, rfl⟩, hW.2.1, hW.2.2.1, hW.2.2.2.mono (by decide) (by decide)⟩
    show Q_rm_str Z p1 (0 : Int32) cs h0 n0 _ T7.heap _
    exact ⟨ob1, b_7, kb_7, rfl, N7, K9, g7_0, g7_1, g7_2, xb8, (by first | assumption | omega)⟩
  · skip
    show own_Go p e below (s₁.setTop (mkF m 0 #[.val (.int p1), .val (.int (1 : Int32))] [])) _
    refine own_by (fun _ k => XS.iloadN X0.here hx rfl (hb hby d_rm_str_0) rfl k) ?_
    refine own_by (fun _ k => XS.ifYes X0.here hx rfl (pc0 := 1) (pc' := 15) rfl (hb hby d_rm_str_1) rfl ((if0 _ _).trans (feq (by decide : ¬ ((1 : Int32) = (0 : Int32)))).2) (by decide) (by decide) k) ?_
    show own_Go p e below (s₁.setTop (mkF m 15 #[.val (.int p1), .val (.int (1 : Int32))] [])) _
    refine own_by (fun _ k => XS.iloadN X0.here hx rfl (hb hby d_rm_str_15) rfl k) ?_
    refine own_by (fun _ k => XS.iconst X0.here hx rfl (hb hby d_rm_str_16) k) ?_
    refine own_by (fun _ k => XS.icmpNo X0.here hx rfl (hb hby d_rm_str_17) rfl (teq (by decide : (1 : Int32) = (1 : Int32))).2 k) ?_
    show own_Go p e below (s₁.setTop (mkF m 20 #[.val (.int p1), .val (.int (1 : Int32))] [])) _
    obtain ⟨T10, h10, X10, e10, E10, A10, D10, U10, st10⟩ := newO X0 hx hZ hown (own_w hw 4 rfl) (own_w hw 5 rfl) (own_w hw 6 rfl) e0 (g := (mkF m 20 #[.val (.int p1), .val (.int (1 : Int32))] [])) rfl (hb hby d_rm_str_20) (by decide) (by decide)
    obtain ⟨ob10, g10⟩ : ∃ z, z = h0.size := ⟨_, rfl⟩
    rw [← g10] at A10 D10 U10 st10
    refine own_by st10 ?_
    have z10 := E10.1
    have lt10 : h10.size > ob10 := A10.lt
    have R10 := R0.trans (CHr.ext E10 R0.1)
    refine own_by (fun _ k => XS.dup X10.here hx rfl (hb hby d_rm_str_23) rfl rfl k) ?_
    refine own_by (fun _ k => XS.iconst X10.here hx rfl (hb hby d_rm_str_24) k) ?_
    obtain ⟨T11, h11, k11, X11, e11, E11, A11, st11⟩ := newP X10 hx hZ (own_w hw 7 rfl) e10 (g := (mkF m 25 #[.val (.int p1), .val (.int (1 : Int32))] [(.int (1 : Int32)), (.ref ob10), (.ref ob10)])) rfl (hb hby d_rm_str_25) rfl (by decide) (cap := 1) (by decide) (by decide) (by decide) (by decide)
    obtain ⟨ob11, g11⟩ : ∃ z, z = h10.size := ⟨_, rfl⟩
    rw [← g11] at A11 st11
    refine own_by st11 ?_
    have z11 := E11.1
    have R11 := R10.trans (CHr.ext E11 R10.1)
    have Vw11 : Arv Z h11 ob11 k11 .char (1 : Int32) [] (.int (0 : Int32)) := Arv.new A11 (by decide)
    have lt11 : h11.size > ob11 := Vw11.lt
    show own_Go p e below (T11.setTop (mkF m 27 #[.val (.int p1), .val (.int (1 : Int32))] [(.ref ob11), (.ref ob10), (.ref ob10)])) _
    refine own_by (fun _ k => XS.dup X11.here hx rfl (hb hby d_rm_str_27) rfl rfl k) ?_
    refine own_by (fun _ k => XS.iconst X11.here hx rfl (hb hby d_rm_str_28) k) ?_
    refine own_by (fun _ k => XS.iloadN X11.here hx rfl (hb hby d_rm_str_29) rfl k) ?_
    refine own_by (fun _ k => XS.iconst X11.here hx rfl (hb hby d_rm_str_30) k) ?_
    show own_Go p e below (T11.setTop (mkF m 31 #[.val (.int p1), .val (.int (1 : Int32))] [(.int (0 : Int32)), (.int p1), (.int (0 : Int32)), (.ref ob11), (.ref ob11), (.ref ob10), (.ref ob10)])) _
    have O12 : Old Z n0 h11 := ((O0.ext E10).ext E11)
    obtain ⟨_, _, ⟨T13, L13, k13, n13⟩, -, X13, ⟨Lc13, hQ13, l13, y13, z13⟩, st13⟩ := Jvm.LawKit.callS X11 hx (y := (⟨"com/example/living_lease/livinglease/redis/ErrorEqualsPinLaw", "ch", "(II)C"⟩ : MethodName)) hown (mvT hZ (own_w hw 8 rfl)) (mvT hZ (own_w hw 9 rfl)) (mvT hZ (own_w hw 2 rfl)) (mvT hZ (own_w hw 10 rfl)) (by decide) (backOf (W := 5) (rm_chr0 l Z a0 hw [] p1 h11 n0 O12) hZ (own_w hw 10 rfl) (own_w hw 2 rfl) (by decide) (by decide)) (g := (mkF m 31 #[.val (.int p1), .val (.int (1 : Int32))] [(.int (0 : Int32)), (.int p1), (.int (0 : Int32)), (.ref ob11), (.ref ob11), (.ref ob10), (.ref ob10)])) rfl (by rw [hml]; rfl) (argsL := [(.int p1), (.int (0 : Int32))]) (rest := [(.int (0 : Int32)), (.ref ob11), (.ref ob11), (.ref ob10), (.ref ob10)]) (lenOf own_pd__28II_29C rfl) rfl (by show 2 * 0 + _ ≤ _; exact Nat.le_of_eq rfl) (hb hby d_rm_str_31) (fun _ _ => ⟨rfl, e11, (by decide : 2 + 0 ≤ _), (by decide : 5 + 0 ≤ _)⟩)
    dsimp only [Pt.U, Pt.locs, Pt.cells, Pt.slots] at X13 l13 y13 z13 st13 hQ13
    subst l13 y13 z13
    obtain ⟨rfl, M13, K13⟩ := hQ13
    have N13 := Fr.app N0 M13
    refine own_by st13 ?_
    have Vw14 : Arv Z h11 ob11 k11 .char (1 : Int32) [(.int (0 : Int32))] (.int (0 : Int32)) := Vw11.pad (pad_rep [] (.int (0 : Int32)) 1)
    obtain ⟨cl15, Ar15, q15, S15, M15, H15, G15⟩ := (id Vw14)
    have hin15 : ¬ ((0 : Int32) < 0 ∨ cl15.slots.size ≤ ((0 : Int32)).toNatClampNeg) := inb_of S15 ⟨by decide, by decide⟩
    obtain ⟨T15, h15, X15, e15, W15, st15⟩ := stC X13 hx hZ K13 Ar15 (j := (0 : Int32)) hin15 (g := (mkF m 34 #[.val (.int p1), .val (.int (1 : Int32))] [(.int (own_pk0 p1 &&& (255 : Int32))), (.int (0 : Int32)), (.ref ob11), (.ref ob11), (.ref ob10), (.ref ob10)])) rfl rfl (hb hby d_rm_str_34)
    refine own_by st15 ?_
    rw [own_mask_c] at W15
    have z15 := W15.size
    have N15 := Fr.snoc X15 N13 (by omega)
    have sw15 : Safe Z own_EL s.vm h11 ob11 := (Safe.arv hZ.alike Vw14 (by decide))
    have sf15_ob11 := Safe.wr W15 sw15 R11.1 sw15
    have R15 := R11.trans (CHr.wr W15 sw15 R11.1)
    have Vw15 : Arv Z h15 ob11 k11 .char (1 : Int32) [(.int (own_pk0 p1 &&& (255 : Int32)))] (.int (0 : Int32)) := Arv.set Ar15 q15 S15 M15 H15 G15 (own_fits_c _) W15 0 rfl (Nat.le_of_ble_eq_true rfl)
    have fc16 : Exa Z h15 ob10 "java/lang/String" := ((A10.ext E11).wr W15)
    have fc17 : Fld Z h15 ob10 "java/lang/String" "value" "[B" .null := (((show Fld Z h10 ob10 "java/lang/String" "value" "[B" .null from D10 (Or.inr (own_w hw 36 rfl)) (ty := (.array .byte)) (by decide)).ext E11).other W15 (Or.inl (own_ne (by omega))))
    have fc18 : Fld Z h15 ob10 "java/lang/String" "coder" "B" (.int (0 : Int32)) := (((show Fld Z h10 ob10 "java/lang/String" "coder" "B" (.int (0 : Int32)) from D10 (Or.inr (own_w hw 34 rfl)) (ty := .byte) (by decide)).ext E11).other W15 (Or.inl (own_ne (by omega))))
    have O19 : Old Z n0 h15 := (O12.wr W15 (by omega))
    obtain ⟨_, _, ⟨T20, L20, k20, n20⟩, -, X20, ⟨Lc20, hQ20, l20, y20, z20⟩, st20⟩ := X15.specialBack hx (y := (⟨"java/lang/String", "<init>", "([C)V"⟩ : MethodName)) rfl hown (mvT hZ (own_w hw 11 rfl)) (mvT hZ (own_w hw 12 rfl)) (mvT hZ (own_w hw 13 rfl)) (by decide) (backOf (W := 1) (rm_sinit_1 l Z a0 hw [] ob10 ob11 k11 cs (own_pk0 p1 &&& (255 : Int32)) h15 n0 O19 S_COMPACT fc16 fc17 fc18 Vw15 (own_mask_hi (own_pk0 p1)) (by first | assumption | omega | decide) hcs (by first | assumption | omega | decide)) hZ (own_w hw 13 rfl) (own_w hw 6 rfl) (by decide) (by decide)) (g := (mkF m 35 #[.val (.int p1), .val (.int (1 : Int32))] [(.ref ob11), (.ref ob10), (.ref ob10)])) rfl (by rw [hml]; rfl) (Steps.refl _) (a := ob10) (argsL := [(.ref ob11)]) (rest := [(.ref ob10)]) (lenOf own_pd__28_5bC_29V rfl) rfl (by show 2 * 0 + _ ≤ _; exact Nat.le_of_eq rfl) (hb hby d_rm_str_35) (fun _ _ => ⟨rfl, e15, (by decide : 2 + 1 ≤ _), (by decide : 5 + 1 ≤ _)⟩)
    dsimp only [Pt.U, Pt.locs, Pt.cells, Pt.slots] at X20 l20 y20 z20 st20 hQ20
    subst l20 y20 z20
    obtain ⟨b_20, kb_20, rfl, M20, K20, g20_0, g20_1, g20_2, g20_3, r20_0⟩ := hQ20
    have N20 := Fr.app N15 M20
    refine own_by (fun _ k => st20.trans k) ?_
    have sk20 : ∀ x ∈ ([ob10] : List Addr), Safe Z own_EL s.vm h15 x := (sfS (own_safe_null hZ.alike fc16 fc17) sf0)
    have sf20_ob11 := Safe.keep K20 sk20 R15.1 sf15_ob11
    have R20 := R15.trans (CHr.keep K20 sk20 R15.1)
    have z20 := K20.1
    have lt_g20_0 : T20.heap.size > ob10 := g20_0.lt
    have lt_g20_1 : T20.heap.size > ob10 := g20_1.lt
    have lt_g20_2 : T20.heap.size > ob10 := g20_2.lt
    have lt_g20_3 : T20.heap.size > b_20 := g20_3.lt
    have xb21 : Arv Z T20.heap b_20 kb_20 .byte (1 : Int32) (own_bs p1 (1 : Int32)) (.int (0 : Int32)) := by rw [own_bs_1]; exact g20_3
    have K22 : Keep h0 T20.heap [] := (((((Keep.refl h0 []).ext E10).ext E11).wr W15 (Or.inr (by omega))).trans K20 (allS (P := fun x => x ∈ [] ∨ h0.size ≤ x) (Or.inr (by omega)) all0))
    obtain ⟨fs, hr, hrun, hended, hW⟩ := X20.leaveW S0 (by first | omega | (rw [e0]; omega)) (v := some (.ref ob10)) (fun h => by rw [Bd.returns] at h; cases h)
    have RR := R20.trans (CHv.at X20 hZ hEL R20.1)
    have RR' : CHr Z own_EL s.vm s.heap T20.vm T20.heap := by rw [hh]; exact RR
    refine ⟨_, _, retOut X20 hx Bd.returns (own_narrow_ref (by decide) rfl) (Or.inr (Or.inr (Or.inr (Or.inr ⟨rfl, by decide, rfl⟩)))) (hb hby d_rm_str_38) hr, hrun, hended, _, _, rfl, ?_, RR', ⟨_, rfl⟩, hW.2.1, hW.2.2.1, hW.2.2.2.mono (by decide) (by decide)⟩
    show Q_rm_str Z p1 (1 : Int32) cs h0 n0 _ T20.heap _
    exact ⟨ob10, b_20, kb_20, rfl, N20, K22, g20_0, g20_1, g20_2, xb21, (by first | assumption | omega)⟩
  · skip
    show own_Go p e below (s₁.setTop (mkF m 0 #[.val (.int p1), .val (.int (2 : Int32))] [])) _
    refine own_by (fun _ k => XS.iloadN X0.here hx rfl (hb hby d_rm_str_0) rfl k) ?_
    refine own_by (fun _ k => XS.ifYes X0.here hx rfl (pc0 := 1) (pc' := 15) rfl (hb hby d_rm_str_1) rfl ((if0 _ _).trans (feq (by decide : ¬ ((2 : Int32) = (0 : Int32)))).2) (by decide) (by decide) k) ?_
    show own_Go p e below (s₁.setTop (mkF m 15 #[.val (.int p1), .val (.int (2 : Int32))] [])) _
    refine own_by (fun _ k => XS.iloadN X0.here hx rfl (hb hby d_rm_str_15) rfl k) ?_
    refine own_by (fun _ k => XS.iconst X0.here hx rfl (hb hby d_rm_str_16) k) ?_
    refine own_by (fun _ k => XS.icmpYes X0.here hx rfl (pc0 := 17) (pc' := 39) rfl (hb hby d_rm_str_17) rfl (feq (by decide : ¬ ((2 : Int32) = (1 : Int32)))).2 (by decide) (by decide) k) ?_
    show own_Go p e below (s₁.setTop (mkF m 39 #[.val (.int p1), .val (.int (2 : Int32))] [])) _
    refine own_by (fun _ k => XS.iloadN X0.here hx rfl (hb hby d_rm_str_39) rfl k) ?_
    refine own_by (fun _ k => XS.iconst X0.here hx rfl (hb hby d_rm_str_40) k) ?_
    refine own_by (fun _ k => XS.icmpNo X0.here hx rfl (hb hby d_rm_str_41) rfl (teq (by decide : (2 : Int32) = (2 : Int32))).2 k) ?_
    show own_Go p e below (s₁.setTop (mkF m 44 #[.val (.int p1), .val (.int (2 : Int32))] [])) _
    obtain ⟨T23, h23, X23, e23, E23, A23, D23, U23, st23⟩ := newO X0 hx hZ hown (own_w hw 4 rfl) (own_w hw 5 rfl) (own_w hw 6 rfl) e0 (g := (mkF m 44 #[.val (.int p1), .val (.int (2 : Int32))] [])) rfl (hb hby d_rm_str_44) (by decide) (by decide)
    obtain ⟨ob23, g23⟩ : ∃ z, z = h0.size := ⟨_, rfl⟩
    rw [← g23] at A23 D23 U23 st23
    refine own_by st23 ?_
    have z23 := E23.1
    have lt23 : h23.size > ob23 := A23.lt
    have R23 := R0.trans (CHr.ext E23 R0.1)
    refine own_by (fun _ k => XS.dup X23.here hx rfl (hb hby d_rm_str_47) rfl rfl k) ?_
    refine own_by (fun _ k => XS.iconst X23.here hx rfl (hb hby d_rm_str_48) k) ?_
    obtain ⟨T24, h24, k24, X24, e24, E24, A24, st24⟩ := newP X23 hx hZ (own_w hw 7 rfl) e23 (g := (mkF m 49 #[.val (.int p1), .val (.int (2 : Int32))] [(.int (2 : Int32)), (.ref ob23), (.ref ob23)])) rfl (hb hby d_rm_str_49) rfl (by decide) (cap := 2) (by decide) (by decide) (by decide) (by decide)
    obtain ⟨ob24, g24⟩ : ∃ z, z = h23.size := ⟨_, rfl⟩
    rw [← g24] at A24 st24
    refine own_by st24 ?_
    have z24 := E24.1
    have R24 := R23.trans (CHr.ext E24 R23.1)
    have Vw24 : Arv Z h24 ob24 k24 .char (2 : Int32) [] (.int (0 : Int32)) := Arv.new A24 (by decide)
    have lt24 : h24.size > ob24 := Vw24.lt
    show own_Go p e below (T24.setTop (mkF m 51 #[.val (.int p1), .val (.int (2 : Int32))] [(.ref ob24), (.ref ob23), (.ref ob23)])) _
    refine own_by (fun _ k => XS.dup X24.here hx rfl (hb hby d_rm_str_51) rfl rfl k) ?_
    refine own_by (fun _ k => XS.iconst X24.here hx rfl (hb hby d_rm_str_52) k) ?_
    refine own_by (fun _ k => XS.iloadN X24.here hx rfl (hb hby d_rm_str_53) rfl k) ?_
    refine own_by (fun _ k => XS.iconst X24.here hx rfl (hb hby d_rm_str_54) k) ?_
    show own_Go p e below (T24.setTop (mkF m 55 #[.val (.int p1), .val (.int (2 : Int32))] [(.int (0 : Int32)), (.int p1), (.int (0 : Int32)), (.ref ob24), (.ref ob24), (.ref ob23), (.ref ob23)])) _
    have O25 : Old Z n0 h24 := ((O0.ext E23).ext E24)
    obtain ⟨_, _, ⟨T26, L26, k26, n26⟩, -, X26, ⟨Lc26, hQ26, l26, y26, z26⟩, st26⟩ := Jvm.LawKit.callS X24 hx (y := (⟨"com/example/living_lease/livinglease/redis/ErrorEqualsPinLaw", "ch", "(II)C"⟩ : MethodName)) hown (mvT hZ (own_w hw 8 rfl)) (mvT hZ (own_w hw 9 rfl)) (mvT hZ (own_w hw 2 rfl)) (mvT hZ (own_w hw 10 rfl)) (by decide) (backOf (W := 5) (rm_chr0 l Z a0 hw [] p1 h24 n0 O25) hZ (own_w hw 10 rfl) (own_w hw 2 rfl) (by decide) (by decide)) (g := (mkF m 55 #[.val (.int p1), .val (.int (2 : Int32))] [(.int (0 : Int32)), (.int p1), (.int (0 : Int32)), (.ref ob24), (.ref ob24), (.ref ob23), (.ref ob23)])) rfl (by rw [hml]; rfl) (argsL := [(.int p1), (.int (0 : Int32))]) (rest := [(.int (0 : Int32)), (.ref ob24), (.ref ob24), (.ref ob23), (.ref ob23)]) (lenOf own_pd__28II_29C rfl) rfl (by show 2 * 0 + _ ≤ _; exact Nat.le_of_eq rfl) (hb hby d_rm_str_55) (fun _ _ => ⟨rfl, e24, (by decide : 2 + 0 ≤ _), (by decide : 6 + 0 ≤ _)⟩)
    dsimp only [Pt.U, Pt.locs, Pt.cells, Pt.slots] at X26 l26 y26 z26 st26 hQ26
    subst l26 y26 z26
    obtain ⟨rfl, M26, K26⟩ := hQ26
    have N26 := Fr.app N0 M26
    refine own_by st26 ?_
    have Vw27 : Arv Z h24 ob24 k24 .char (2 : Int32) [(.int (0 : Int32))] (.int (0 : Int32)) := Vw24.pad (pad_rep [] (.int (0 : Int32)) 1)
    obtain ⟨cl28, Ar28, q28, S28, M28, H28, G28⟩ := (id Vw27)
    have hin28 : ¬ ((0 : Int32) < 0 ∨ cl28.slots.size ≤ ((0 : Int32)).toNatClampNeg) := inb_of S28 ⟨by decide, by decide⟩
    obtain ⟨T28, h28, X28, e28, W28, st28⟩ := stC X26 hx hZ K26 Ar28 (j := (0 : Int32)) hin28 (g := (mkF m 58 #[.val (.int p1), .val (.int (2 : Int32))] [(.int (own_pk0 p1 &&& (255 : Int32))), (.int (0 : Int32)), (.ref ob24), (.ref ob24), (.ref ob23), (.ref ob23)])) rfl rfl (hb hby d_rm_str_58)
    refine own_by st28 ?_
    rw [own_mask_c] at W28
    have z28 := W28.size
    have N28 := Fr.snoc X28 N26 (by omega)
    have sw28 : Safe Z own_EL s.vm h24 ob24 := (Safe.arv hZ.alike Vw27 (by decide))
    have sf28_ob24 := Safe.wr W28 sw28 R24.1 sw28
    have R28 := R24.trans (CHr.wr W28 sw28 R24.1)
    have Vw28 : Arv Z h28 ob24 k24 .char (2 : Int32) [(.int (own_pk0 p1 &&& (255 : Int32)))] (.int (0 : Int32)) := Arv.set Ar28 q28 S28 M28 H28 G28 (own_fits_c _) W28 0 rfl (Nat.le_of_ble_eq_true rfl)
    refine own_by (fun _ k => XS.dup X28.here hx rfl (hb hby d_rm_str_59) rfl rfl k) ?_
    refine own_by (fun _ k => XS.iconst X28.here hx rfl (hb hby d_rm_str_60) k) ?_
    show own_Go p e below (T28.setTop (mkF m 61 #[.val (.int p1), .val (.int (2 : Int32))] [(.int (1 : Int32)), (.ref ob24), (.ref ob24), (.ref ob23), (.ref ob23)])) _
    refine own_by (fun _ k => XS.iloadN X28.here hx rfl (hb hby d_rm_str_61) rfl k) ?_
    refine own_by (fun _ k => XS.iconst X28.here hx rfl (hb hby d_rm_str_62) k) ?_
    have O29 : Old Z n0 h28 := (O25.wr W28 (by omega))
    obtain ⟨_, _, ⟨T30, L30, k30, n30⟩, -, X30, ⟨Lc30, hQ30, l30, y30, z30⟩, st30⟩ := Jvm.LawKit.callS X28 hx (y := (⟨"com/example/living_lease/livinglease/redis/ErrorEqualsPinLaw", "ch", "(II)C"⟩ : MethodName)) hown (mvT hZ (own_w hw 8 rfl)) (mvT hZ (own_w hw 9 rfl)) (mvT hZ (own_w hw 2 rfl)) (mvT hZ (own_w hw 10 rfl)) (by decide) (backOf (W := 5) (rm_chr1 l Z a0 hw [] p1 h28 n0 O29) hZ (own_w hw 10 rfl) (own_w hw 2 rfl) (by decide) (by decide)) (g := (mkF m 63 #[.val (.int p1), .val (.int (2 : Int32))] [(.int (1 : Int32)), (.int p1), (.int (1 : Int32)), (.ref ob24), (.ref ob24), (.ref ob23), (.ref ob23)])) rfl (by rw [hml]; rfl) (argsL := [(.int p1), (.int (1 : Int32))]) (rest := [(.int (1 : Int32)), (.ref ob24), (.ref ob24), (.ref ob23), (.ref ob23)]) (lenOf own_pd__28II_29C rfl) rfl (by show 2 * 0 + _ ≤ _; exact Nat.le_of_eq rfl) (hb hby d_rm_str_63) (fun _ _ => ⟨rfl, e28, (by decide : 2 + 0 ≤ _), (by decide : 6 + 0 ≤ _)⟩)
    dsimp only [Pt.U, Pt.locs, Pt.cells, Pt.slots] at X30 l30 y30 z30 st30 hQ30
    subst l30 y30 z30
    obtain ⟨rfl, M30, K30⟩ := hQ30
    have N30 := Fr.app N28 M30
    refine own_by st30 ?_
    have Vw31 : Arv Z h28 ob24 k24 .char (2 : Int32) [(.int (own_pk0 p1 &&& (255 : Int32))), (.int (0 : Int32))] (.int (0 : Int32)) := Vw28.pad (pad_rep [(.int (own_pk0 p1 &&& (255 : Int32)))] (.int (0 : Int32)) 1)
    obtain ⟨cl32, Ar32, q32, S32, M32, H32, G32⟩ := (id Vw31)
    have hin32 : ¬ ((1 : Int32) < 0 ∨ cl32.slots.size ≤ ((1 : Int32)).toNatClampNeg) := inb_of S32 ⟨by decide, by decide⟩
    obtain ⟨T32, h32, X32, e32, W32, st32⟩ := stC X30 hx hZ K30 Ar32 (j := (1 : Int32)) hin32 (g := (mkF m 66 #[.val (.int p1), .val (.int (2 : Int32))] [(.int (own_pk1 p1 &&& (255 : Int32))), (.int (1 : Int32)), (.ref ob24), (.ref ob24), (.ref ob23), (.ref ob23)])) rfl rfl (hb hby d_rm_str_66)
    refine own_by st32 ?_
    rw [own_mask_c] at W32
    have z32 := W32.size
    have N32 := Fr.snoc X32 N30 (by omega)
    have sw32 : Safe Z own_EL s.vm h28 ob24 := sf28_ob24
    have sf32_ob24 := Safe.wr W32 sw32 R28.1 sw32
    have R32 := R28.trans (CHr.wr W32 sw32 R28.1)
    have Vw32 : Arv Z h32 ob24 k24 .char (2 : Int32) [(.int (own_pk0 p1 &&& (255 : Int32))), (.int (own_pk1 p1 &&& (255 : Int32)))] (.int (0 : Int32)) := Arv.set Ar32 q32 S32 M32 H32 G32 (own_fits_c _) W32 1 rfl (Nat.le_of_ble_eq_true rfl)
    show own_Go p e below (T32.setTop (mkF m 67 #[.val (.int p1), .val (.int (2 : Int32))] [(.ref ob24), (.ref ob23), (.ref ob23)])) _
    have fc33 : Exa Z h32 ob23 "java/lang/String" := (((A23.ext E24).wr W28).wr W32)
    have fc34 : Fld Z h32 ob23 "java/lang/String" "value" "[B" .null := ((((show Fld Z h23 ob23 "java/lang/String" "value" "[B" .null from D23 (Or.inr (own_w hw 36 rfl)) (ty := (.array .byte)) (by decide)).ext E24).other W28 (Or.inl (own_ne (by omega)))).other W32 (Or.inl (own_ne (by omega))))
    have fc35 : Fld Z h32 ob23 "java/lang/String" "coder" "B" (.int (0 : Int32)) := ((((show Fld Z h23 ob23 "java/lang/String" "coder" "B" (.int (0 : Int32)) from D23 (Or.inr (own_w hw 34 rfl)) (ty := .byte) (by decide)).ext E24).other W28 (Or.inl (own_ne (by omega)))).other W32 (Or.inl (own_ne (by omega))))
    have O36 : Old Z n0 h32 := (O29.wr W32 (by omega))
    obtain ⟨_, _, ⟨T37, L37, k37, n37⟩, -, X37, ⟨Lc37, hQ37, l37, y37, z37⟩, st37⟩ := X32.specialBack hx (y := (⟨"java/lang/String", "<init>", "([C)V"⟩ : MethodName)) rfl hown (mvT hZ (own_w hw 11 rfl)) (mvT hZ (own_w hw 12 rfl)) (mvT hZ (own_w hw 13 rfl)) (by decide) (backOf (W := 1) (rm_sinit_2 l Z a0 hw [] ob23 ob24 k24 cs (own_pk0 p1 &&& (255 : Int32)) (own_pk1 p1 &&& (255 : Int32)) h32 n0 O36 S_COMPACT fc33 fc34 fc35 Vw32 (own_mask_hi (own_pk0 p1)) (own_mask_hi (own_pk1 p1)) (by first | assumption | omega | decide) hcs (by first | assumption | omega | decide)) hZ (own_w hw 13 rfl) (own_w hw 6 rfl) (by decide) (by decide)) (g := (mkF m 67 #[.val (.int p1), .val (.int (2 : Int32))] [(.ref ob24), (.ref ob23), (.ref ob23)])) rfl (by rw [hml]; rfl) (Steps.refl _) (a := ob23) (argsL := [(.ref ob24)]) (rest := [(.ref ob23)]) (lenOf own_pd__28_5bC_29V rfl) rfl (by show 2 * 0 + _ ≤ _; exact Nat.le_of_eq rfl) (hb hby d_rm_str_67) (fun _ _ => ⟨rfl, e32, (by decide : 2 + 1 ≤ _), (by decide : 6 + 2 ≤ _)⟩)
    dsimp only [Pt.U, Pt.locs, Pt.cells, Pt.slots] at X37 l37 y37 z37 st37 hQ37
    subst l37 y37 z37
    obtain ⟨b_37, kb_37, rfl, M37, K37, g37_0, g37_1, g37_2, g37_3, r37_0⟩ := hQ37
    have N37 := Fr.app N32 M37
    refine own_by (fun _ k => st37.trans k) ?_
    have sk37 : ∀ x ∈ ([ob23] : List Addr), Safe Z own_EL s.vm h32 x := (sfS (own_safe_null hZ.alike fc33 fc34) sf0)
    have sf37_ob24 := Safe.keep K37 sk37 R32.1 sf32_ob24
    have R37 := R32.trans (CHr.keep K37 sk37 R32.1)
    have z37 := K37.1
    have lt_g37_0 : T37.heap.size > ob23 := g37_0.lt
    have lt_g37_1 : T37.heap.size > ob23 := g37_1.lt
    have lt_g37_2 : T37.heap.size > ob23 := g37_2.lt
    have lt_g37_3 : T37.heap.size > b_37 := g37_3.lt
    have xb38 : Arv Z T37.heap b_37 kb_37 .byte (2 : Int32) (own_bs p1 (2 : Int32)) (.int (0 : Int32)) := by rw [own_bs_2]; exact g37_3
    have K39 : Keep h0 T37.heap [] := ((((((Keep.refl h0 []).ext E23).ext E24).wr W28 (Or.inr (by omega))).wr W32 (Or.inr (by omega))).trans K37 (allS (P := fun x => x ∈ [] ∨ h0.size ≤ x) (Or.inr (by omega)) all0))
    obtain ⟨fs, hr, hrun, hended, hW⟩ := X37.leaveW S0 (by first | omega | (rw [e0]; omega)) (v := some (.ref ob23)) (fun h => by rw [Bd.returns] at h; cases h)
    have RR := R37.trans (CHv.at X37 hZ hEL R37.1)
    have RR' : CHr Z own_EL s.vm s.heap T37.vm T37.heap := by rw [hh]; exact RR
    refine ⟨_, _, retOut X37 hx Bd.returns (own_narrow_ref (by decide) rfl) (Or.inr (Or.inr (Or.inr (Or.inr ⟨rfl, by decide, rfl⟩)))) (hb hby d_rm_str_70) hr, hrun, hended, _, _, rfl, ?_, RR', ⟨_, rfl⟩, hW.2.1, hW.2.2.1, hW.2.2.2.mono (by decide) (by decide)⟩
    show Q_rm_str Z p1 (2 : Int32) cs h0 n0 _ T37.heap _
    exact ⟨ob23, b_37, kb_37, rfl, N37, K39, g37_0, g37_1, g37_2, xb38, (by first | assumption | omega)⟩
  · skip
    show own_Go p e below (s₁.setTop (mkF m 0 #[.val (.int p1), .val (.int (3 : Int32))] [])) _
    refine own_by (fun _ k => XS.iloadN X0.here hx rfl (hb hby d_rm_str_0) rfl k) ?_
    refine own_by (fun _ k => XS.ifYes X0.here hx rfl (pc0 := 1) (pc' := 15) rfl (hb hby d_rm_str_1) rfl ((if0 _ _).trans (feq (by decide : ¬ ((3 : Int32) = (0 : Int32)))).2) (by decide) (by decide) k) ?_
    show own_Go p e below (s₁.setTop (mkF m 15 #[.val (.int p1), .val (.int (3 : Int32))] [])) _
    refine own_by (fun _ k => XS.iloadN X0.here hx rfl (hb hby d_rm_str_15) rfl k) ?_
    refine own_by (fun _ k => XS.iconst X0.here hx rfl (hb hby d_rm_str_16) k) ?_
    refine own_by (fun _ k => XS.icmpYes X0.here hx rfl (pc0 := 17) (pc' := 39) rfl (hb hby d_rm_str_17) rfl (feq (by decide : ¬ ((3 : Int32) = (1 : Int32)))).2 (by decide) (by decide) k) ?_
    show own_Go p e below (s₁.setTop (mkF m 39 #[.val (.int p1), .val (.int (3 : Int32))] [])) _
    refine own_by (fun _ k => XS.iloadN X0.here hx rfl (hb hby d_rm_str_39) rfl k) ?_
    refine own_by (fun _ k => XS.iconst X0.here hx rfl (hb hby d_rm_str_40) k) ?_
    refine own_by (fun _ k => XS.icmpYes X0.here hx rfl (pc0 := 41) (pc' := 71) rfl (hb hby d_rm_str_41) rfl (feq (by decide : ¬ ((3 : Int32) = (2 : Int32)))).2 (by decide) (by decide) k) ?_
    show own_Go p e below (s₁.setTop (mkF m 71 #[.val (.int p1), .val (.int (3 : Int32))] [])) _
    obtain ⟨T40, h40, X40, e40, E40, A40, D40, U40, st40⟩ := newO X0 hx hZ hown (own_w hw 4 rfl) (own_w hw 5 rfl) (own_w hw 6 rfl) e0 (g := (mkF m 71 #[.val (.int p1), .val (.int (3 : Int32))] [])) rfl (hb hby d_rm_str_71) (by decide) (by decide)
    obtain ⟨ob40, g40⟩ : ∃ z, z = h0.size := ⟨_, rfl⟩
    rw [← g40] at A40 D40 U40 st40
    refine own_by st40 ?_
    have z40 := E40.1
    have lt40 : h40.size > ob40 := A40.lt
    have R40 := R0.trans (CHr.ext E40 R0.1)
    refine own_by (fun _ k => XS.dup X40.here hx rfl (hb hby d_rm_str_74) rfl rfl k) ?_
    refine own_by (fun _ k => XS.iconst X40.here hx rfl (hb hby d_rm_str_75) k) ?_
    obtain ⟨T41, h41, k41, X41, e41, E41, A41, st41⟩ := newP X40 hx hZ (own_w hw 7 rfl) e40 (g := (mkF m 76 #[.val (.int p1), .val (.int (3 : Int32))] [(.int (3 : Int32)), (.ref ob40), (.ref ob40)])) rfl (hb hby d_rm_str_76) rfl (by decide) (cap := 3) (by decide) (by decide) (by decide) (by decide)
    obtain ⟨ob41, g41⟩ : ∃ z, z = h40.size := ⟨_, rfl⟩
    rw [← g41] at A41 st41
    refine own_by st41 ?_
    have z41 := E41.1
    have R41 := R40.trans (CHr.ext E41 R40.1)
    have Vw41 : Arv Z h41 ob41 k41 .char (3 : Int32) [] (.int (0 : Int32)) := Arv.new A41 (by decide)
    have lt41 : h41.size > ob41 := Vw41.lt
    show own_Go p e below (T41.setTop (mkF m 78 #[.val (.int p1), .val (.int (3 : Int32))] [(.ref ob41), (.ref ob40), (.ref ob40)])) _
    refine own_by (fun _ k => XS.dup X41.here hx rfl (hb hby d_rm_str_78) rfl rfl k) ?_
    refine own_by (fun _ k => XS.iconst X41.here hx rfl (hb hby d_rm_str_79) k) ?_
    refine own_by (fun _ k => XS.iloadN X41.here hx rfl (hb hby d_rm_str_80) rfl k) ?_
    refine own_by (fun _ k => XS.iconst X41.here hx rfl (hb hby d_rm_str_81) k) ?_
    show own_Go p e below (T41.setTop (mkF m 82 #[.val (.int p1), .val (.int (3 : Int32))] [(.int (0 : Int32)), (.int p1), (.int (0 : Int32)), (.ref ob41), (.ref ob41), (.ref ob40), (.ref ob40)])) _
    have O42 : Old Z n0 h41 := ((O0.ext E40).ext E41)
    obtain ⟨_, _, ⟨T43, L43, k43, n43⟩, -, X43, ⟨Lc43, hQ43, l43, y43, z43⟩, st43⟩ := Jvm.LawKit.callS X41 hx (y := (⟨"com/example/living_lease/livinglease/redis/ErrorEqualsPinLaw", "ch", "(II)C"⟩ : MethodName)) hown (mvT hZ (own_w hw 8 rfl)) (mvT hZ (own_w hw 9 rfl)) (mvT hZ (own_w hw 2 rfl)) (mvT hZ (own_w hw 10 rfl)) (by decide) (backOf (W := 5) (rm_chr0 l Z a0 hw [] p1 h41 n0 O42) hZ (own_w hw 10 rfl) (own_w hw 2 rfl) (by decide) (by decide)) (g := (mkF m 82 #[.val (.int p1), .val (.int (3 : Int32))] [(.int (0 : Int32)), (.int p1), (.int (0 : Int32)), (.ref ob41), (.ref ob41), (.ref ob40), (.ref ob40)])) rfl (by rw [hml]; rfl) (argsL := [(.int p1), (.int (0 : Int32))]) (rest := [(.int (0 : Int32)), (.ref ob41), (.ref ob41), (.ref ob40), (.ref ob40)]) (lenOf own_pd__28II_29C rfl) rfl (by show 2 * 0 + _ ≤ _; exact Nat.le_of_eq rfl) (hb hby d_rm_str_82) (fun _ _ => ⟨rfl, e41, (by decide : 2 + 0 ≤ _), (by decide : 7 + 0 ≤ _)⟩)
    dsimp only [Pt.U, Pt.locs, Pt.cells, Pt.slots] at X43 l43 y43 z43 st43 hQ43
    subst l43 y43 z43
    obtain ⟨rfl, M43, K43⟩ := hQ43
    have N43 := Fr.app N0 M43
    refine own_by st43 ?_
    have Vw44 : Arv Z h41 ob41 k41 .char (3 : Int32) [(.int (0 : Int32))] (.int (0 : Int32)) := Vw41.pad (pad_rep [] (.int (0 : Int32)) 1)
    obtain ⟨cl45, Ar45, q45, S45, M45, H45, G45⟩ := (id Vw44)
    have hin45 : ¬ ((0 : Int32) < 0 ∨ cl45.slots.size ≤ ((0 : Int32)).toNatClampNeg) := inb_of S45 ⟨by decide, by decide⟩
    obtain ⟨T45, h45, X45, e45, W45, st45⟩ := stC X43 hx hZ K43 Ar45 (j := (0 : Int32)) hin45 (g := (mkF m 85 #[.val (.int p1), .val (.int (3 : Int32))] [(.int (own_pk0 p1 &&& (255 : Int32))), (.int (0 : Int32)), (.ref ob41), (.ref ob41), (.ref ob40), (.ref ob40)])) rfl rfl (hb hby d_rm_str_85)
    refine own_by st45 ?_
    rw [own_mask_c] at W45
    have z45 := W45.size
    have N45 := Fr.snoc X45 N43 (by omega)
    have sw45 : Safe Z own_EL s.vm h41 ob41 := (Safe.arv hZ.alike Vw44 (by decide))
    have sf45_ob41 := Safe.wr W45 sw45 R41.1 sw45
    have R45 := R41.trans (CHr.wr W45 sw45 R41.1)
    have Vw45 : Arv Z h45 ob41 k41 .char (3 : Int32) [(.int (own_pk0 p1 &&& (255 : Int32)))] (.int (0 : Int32)) := Arv.set Ar45 q45 S45 M45 H45 G45 (own_fits_c _) W45 0 rfl (Nat.le_of_ble_eq_true rfl)
    refine own_by (fun _ k => XS.dup X45.here hx rfl (hb hby d_rm_str_86) rfl rfl k) ?_
    refine own_by (fun _ k => XS.iconst X45.here hx rfl (hb hby d_rm_str_87) k) ?_
    show own_Go p e below (T45.setTop (mkF m 88 #[.val (.int p1), .val (.int (3 : Int32))] [(.int (1 : Int32)), (.ref ob41), (.ref ob41), (.ref ob40), (.ref ob40)])) _
    refine own_by (fun _ k => XS.iloadN X45.here hx rfl (hb hby d_rm_str_88) rfl k) ?_
    refine own_by (fun _ k => XS.iconst X45.here hx rfl (hb hby d_rm_str_89) k) ?_
    have O46 : Old Z n0 h45 := (O42.wr W45 (by omega))
    obtain ⟨_, _, ⟨T47, L47, k47, n47⟩, -, X47, ⟨Lc47, hQ47, l47, y47, z47⟩, st47⟩ := Jvm.LawKit.callS X45 hx (y := (⟨"com/example/living_lease/livinglease/redis/ErrorEqualsPinLaw", "ch", "(II)C"⟩ : MethodName)) hown (mvT hZ (own_w hw 8 rfl)) (mvT hZ (own_w hw 9 rfl)) (mvT hZ (own_w hw 2 rfl)) (mvT hZ (own_w hw 10 rfl)) (by decide) (backOf (W := 5) (rm_chr1 l Z a0 hw [] p1 h45 n0 O46) hZ (own_w hw 10 rfl) (own_w hw 2 rfl) (by decide) (by decide)) (g := (mkF m 90 #[.val (.int p1), .val (.int (3 : Int32))] [(.int (1 : Int32)), (.int p1), (.int (1 : Int32)), (.ref ob41), (.ref ob41), (.ref ob40), (.ref ob40)])) rfl (by rw [hml]; rfl) (argsL := [(.int p1), (.int (1 : Int32))]) (rest := [(.int (1 : Int32)), (.ref ob41), (.ref ob41), (.ref ob40), (.ref ob40)]) (lenOf own_pd__28II_29C rfl) rfl (by show 2 * 0 + _ ≤ _; exact Nat.le_of_eq rfl) (hb hby d_rm_str_90) (fun _ _ => ⟨rfl, e45, (by decide : 2 + 0 ≤ _), (by decide : 7 + 0 ≤ _)⟩)
    dsimp only [Pt.U, Pt.locs, Pt.cells, Pt.slots] at X47 l47 y47 z47 st47 hQ47
    subst l47 y47 z47
    obtain ⟨rfl, M47, K47⟩ := hQ47
    have N47 := Fr.app N45 M47
    refine own_by st47 ?_
    have Vw48 : Arv Z h45 ob41 k41 .char (3 : Int32) [(.int (own_pk0 p1 &&& (255 : Int32))), (.int (0 : Int32))] (.int (0 : Int32)) := Vw45.pad (pad_rep [(.int (own_pk0 p1 &&& (255 : Int32)))] (.int (0 : Int32)) 1)
    obtain ⟨cl49, Ar49, q49, S49, M49, H49, G49⟩ := (id Vw48)
    have hin49 : ¬ ((1 : Int32) < 0 ∨ cl49.slots.size ≤ ((1 : Int32)).toNatClampNeg) := inb_of S49 ⟨by decide, by decide⟩
    obtain ⟨T49, h49, X49, e49, W49, st49⟩ := stC X47 hx hZ K47 Ar49 (j := (1 : Int32)) hin49 (g := (mkF m 93 #[.val (.int p1), .val (.int (3 : Int32))] [(.int (own_pk1 p1 &&& (255 : Int32))), (.int (1 : Int32)), (.ref ob41), (.ref ob41), (.ref ob40), (.ref ob40)])) rfl rfl (hb hby d_rm_str_93)
    refine own_by st49 ?_
    rw [own_mask_c] at W49
    have z49 := W49.size
    have N49 := Fr.snoc X49 N47 (by omega)
    have sw49 : Safe Z own_EL s.vm h45 ob41 := sf45_ob41
    have sf49_ob41 := Safe.wr W49 sw49 R45.1 sw49
    have R49 := R45.trans (CHr.wr W49 sw49 R45.1)
    have Vw49 : Arv Z h49 ob41 k41 .char (3 : Int32) [(.int (own_pk0 p1 &&& (255 : Int32))), (.int (own_pk1 p1 &&& (255 : Int32)))] (.int (0 : Int32)) := Arv.set Ar49 q49 S49 M49 H49 G49 (own_fits_c _) W49 1 rfl (Nat.le_of_ble_eq_true rfl)
    show own_Go p e below (T49.setTop (mkF m 94 #[.val (.int p1), .val (.int (3 : Int32))] [(.ref ob41), (.ref ob40), (.ref ob40)])) _
    refine own_by (fun _ k => XS.dup X49.here hx rfl (hb hby d_rm_str_94) rfl rfl k) ?_
    refine own_by (fun _ k => XS.iconst X49.here hx rfl (hb hby d_rm_str_95) k) ?_
    refine own_by (fun _ k => XS.iloadN X49.here hx rfl (hb hby d_rm_str_96) rfl k) ?_
    refine own_by (fun _ k => XS.iconst X49.here hx rfl (hb hby d_rm_str_97) k) ?_
    show own_Go p e below (T49.setTop (mkF m 98 #[.val (.int p1), .val (.int (3 : Int32))] [(.int (2 : Int32)), (.int p1), (.int (2 : Int32)), (.ref ob41), (.ref ob41), (.ref ob40), (.ref ob40)])) _
    have O50 : Old Z n0 h49 := (O46.wr W49 (by omega))
    obtain ⟨_, _, ⟨T51, L51, k51, n51⟩, -, X51, ⟨Lc51, hQ51, l51, y51, z51⟩, st51⟩ := Jvm.LawKit.callS X49 hx (y := (⟨"com/example/living_lease/livinglease/redis/ErrorEqualsPinLaw", "ch", "(II)C"⟩ : MethodName)) hown (mvT hZ (own_w hw 8 rfl)) (mvT hZ (own_w hw 9 rfl)) (mvT hZ (own_w hw 2 rfl)) (mvT hZ (own_w hw 10 rfl)) (by decide) (backOf (W := 5) (rm_chr2 l Z a0 hw [] p1 h49 n0 O50) hZ (own_w hw 10 rfl) (own_w hw 2 rfl) (by decide) (by decide)) (g := (mkF m 98 #[.val (.int p1), .val (.int (3 : Int32))] [(.int (2 : Int32)), (.int p1), (.int (2 : Int32)), (.ref ob41), (.ref ob41), (.ref ob40), (.ref ob40)])) rfl (by rw [hml]; rfl) (argsL := [(.int p1), (.int (2 : Int32))]) (rest := [(.int (2 : Int32)), (.ref ob41), (.ref ob41), (.ref ob40), (.ref ob40)]) (lenOf own_pd__28II_29C rfl) rfl (by show 2 * 0 + _ ≤ _; exact Nat.le_of_eq rfl) (hb hby d_rm_str_98) (fun _ _ => ⟨rfl, e49, (by decide : 2 + 0 ≤ _), (by decide : 7 + 0 ≤ _)⟩)
    dsimp only [Pt.U, Pt.locs, Pt.cells, Pt.slots] at X51 l51 y51 z51 st51 hQ51
    subst l51 y51 z51
    obtain ⟨rfl, M51, K51⟩ := hQ51
    have N51 := Fr.app N49 M51
    refine own_by st51 ?_
    have Vw52 : Arv Z h49 ob41 k41 .char (3 : Int32) [(.int (own_pk0 p1 &&& (255 : Int32))), (.int (own_pk1 p1 &&& (255 : Int32))), (.int (0 : Int32))] (.int (0 : Int32)) := Vw49.pad (pad_rep [(.int (own_pk0 p1 &&& (255 : Int32))), (.int (own_pk1 p1 &&& (255 : Int32)))] (.int (0 : Int32)) 1)
    obtain ⟨cl53, Ar53, q53, S53, M53, H53, G53⟩ := (id Vw52)
    have hin53 : ¬ ((2 : Int32) < 0 ∨ cl53.slots.size ≤ ((2 : Int32)).toNatClampNeg) := inb_of S53 ⟨by decide, by decide⟩
    obtain ⟨T53, h53, X53, e53, W53, st53⟩ := stC X51 hx hZ K51 Ar53 (j := (2 : Int32)) hin53 (g := (mkF m 101 #[.val (.int p1), .val (.int (3 : Int32))] [(.int (own_pk2 p1 &&& (255 : Int32))), (.int (2 : Int32)), (.ref ob41), (.ref ob41), (.ref ob40), (.ref ob40)])) rfl rfl (hb hby d_rm_str_101)
    refine own_by st53 ?_
    rw [own_mask_c] at W53
    have z53 := W53.size
    have N53 := Fr.snoc X53 N51 (by omega)
    have sw53 : Safe Z own_EL s.vm h49 ob41 := sf49_ob41
    have sf53_ob41 := Safe.wr W53 sw53 R49.1 sw53
    have R53 := R49.trans (CHr.wr W53 sw53 R49.1)
    have Vw53 : Arv Z h53 ob41 k41 .char (3 : Int32) [(.int (own_pk0 p1 &&& (255 : Int32))), (.int (own_pk1 p1 &&& (255 : Int32))), (.int (own_pk2 p1 &&& (255 : Int32)))] (.int (0 : Int32)) := Arv.set Ar53 q53 S53 M53 H53 G53 (own_fits_c _) W53 2 rfl (Nat.le_of_ble_eq_true rfl)
    have fc54 : Exa Z h53 ob40 "java/lang/String" := ((((A40.ext E41).wr W45).wr W49).wr W53)
    have fc55 : Fld Z h53 ob40 "java/lang/String" "value" "[B" .null := (((((show Fld Z h40 ob40 "java/lang/String" "value" "[B" .null from D40 (Or.inr (own_w hw 36 rfl)) (ty := (.array .byte)) (by decide)).ext E41).other W45 (Or.inl (own_ne (by omega)))).other W49 (Or.inl (own_ne (by omega)))).other W53 (Or.inl (own_ne (by omega))))
    have fc56 : Fld Z h53 ob40 "java/lang/String" "coder" "B" (.int (0 : Int32)) := (((((show Fld Z h40 ob40 "java/lang/String" "coder" "B" (.int (0 : Int32)) from D40 (Or.inr (own_w hw 34 rfl)) (ty := .byte) (by decide)).ext E41).other W45 (Or.inl (own_ne (by omega)))).other W49 (Or.inl (own_ne (by omega)))).other W53 (Or.inl (own_ne (by omega))))
    have O57 : Old Z n0 h53 := (O50.wr W53 (by omega))
    obtain ⟨_, _, ⟨T58, L58, k58, n58⟩, -, X58, ⟨Lc58, hQ58, l58, y58, z58⟩, st58⟩ := X53.specialBack hx (y := (⟨"java/lang/String", "<init>", "([C)V"⟩ : MethodName)) rfl hown (mvT hZ (own_w hw 11 rfl)) (mvT hZ (own_w hw 12 rfl)) (mvT hZ (own_w hw 13 rfl)) (by decide) (backOf (W := 1) (rm_sinit_3 l Z a0 hw [] ob40 ob41 k41 cs (own_pk0 p1 &&& (255 : Int32)) (own_pk1 p1 &&& (255 : Int32)) (own_pk2 p1 &&& (255 : Int32)) h53 n0 O57 S_COMPACT fc54 fc55 fc56 Vw53 (own_mask_hi (own_pk0 p1)) (own_mask_hi (own_pk1 p1)) (own_mask_hi (own_pk2 p1)) (by first | assumption | omega | decide) hcs (by first | assumption | omega | decide)) hZ (own_w hw 13 rfl) (own_w hw 6 rfl) (by decide) (by decide)) (g := (mkF m 102 #[.val (.int p1), .val (.int (3 : Int32))] [(.ref ob41), (.ref ob40), (.ref ob40)])) rfl (by rw [hml]; rfl) (Steps.refl _) (a := ob40) (argsL := [(.ref ob41)]) (rest := [(.ref ob40)]) (lenOf own_pd__28_5bC_29V rfl) rfl (by show 2 * 0 + _ ≤ _; exact Nat.le_of_eq rfl) (hb hby d_rm_str_102) (fun _ _ => ⟨rfl, e53, (by decide : 2 + 1 ≤ _), (by decide : 7 + 3 ≤ _)⟩)
    dsimp only [Pt.U, Pt.locs, Pt.cells, Pt.slots] at X58 l58 y58 z58 st58 hQ58
    subst l58 y58 z58
    obtain ⟨b_58, kb_58, rfl, M58, K58, g58_0, g58_1, g58_2, g58_3, r58_0⟩ := hQ58
    have N58 := Fr.app N53 M58
    refine own_by (fun _ k => st58.trans k) ?_
    have sk58 : ∀ x ∈ ([ob40] : List Addr), Safe Z own_EL s.vm h53 x := (sfS (own_safe_null hZ.alike fc54 fc55) sf0)
    have sf58_ob41 := Safe.keep K58 sk58 R53.1 sf53_ob41
    have R58 := R53.trans (CHr.keep K58 sk58 R53.1)
    have z58 := K58.1
    have lt_g58_0 : T58.heap.size > ob40 := g58_0.lt
    have lt_g58_1 : T58.heap.size > ob40 := g58_1.lt
    have lt_g58_2 : T58.heap.size > ob40 := g58_2.lt
    have lt_g58_3 : T58.heap.size > b_58 := g58_3.lt
    have xb59 : Arv Z T58.heap b_58 kb_58 .byte (3 : Int32) (own_bs p1 (3 : Int32)) (.int (0 : Int32)) := by rw [own_bs_3]; exact g58_3
    have K60 : Keep h0 T58.heap [] := (((((((Keep.refl h0 []).ext E40).ext E41).wr W45 (Or.inr (by omega))).wr W49 (Or.inr (by omega))).wr W53 (Or.inr (by omega))).trans K58 (allS (P := fun x => x ∈ [] ∨ h0.size ≤ x) (Or.inr (by omega)) all0))
    obtain ⟨fs, hr, hrun, hended, hW⟩ := X58.leaveW S0 (by first | omega | (rw [e0]; omega)) (v := some (.ref ob40)) (fun h => by rw [Bd.returns] at h; cases h)
    have RR := R58.trans (CHv.at X58 hZ hEL R58.1)
    have RR' : CHr Z own_EL s.vm s.heap T58.vm T58.heap := by rw [hh]; exact RR
    refine ⟨_, _, retOut X58 hx Bd.returns (own_narrow_ref (by decide) rfl) (Or.inr (Or.inr (Or.inr (Or.inr ⟨rfl, by decide, rfl⟩)))) (hb hby d_rm_str_105) hr, hrun, hended, _, _, rfl, ?_, RR', ⟨_, rfl⟩, hW.2.1, hW.2.2.1, hW.2.2.2.mono (by decide) (by decide)⟩
    show Q_rm_str Z p1 (3 : Int32) cs h0 n0 _ T58.heap _
    exact ⟨ob40, b_58, kb_58, rfl, N58, K60, g58_0, g58_1, g58_2, xb59, (by first | assumption | omega)⟩
theorem d_rm_eqs_0 : decode jdk_42_method_66_code 0 = .ok (.aload_n 0, 1) := by decide +kernel
theorem d_rm_eqs_1 : decode jdk_42_method_66_code 1 = .ok (.aload_n 1, 1) := by decide +kernel
theorem d_rm_eqs_2 : decode jdk_42_method_66_code 2 = .ok (.if_acmp .ne 5, 3) := by decide +kernel
theorem d_rm_eqs_7 : decode jdk_42_method_66_code 7 = .ok (.aload_n 1, 1) := by decide +kernel
theorem d_rm_eqs_8 : decode jdk_42_method_66_code 8 = .ok (.instanceof 10, 3) := by decide +kernel
theorem d_rm_eqs_11 : decode jdk_42_method_66_code 11 = .ok (.ifCond .eq 43, 3) := by decide +kernel
theorem d_rm_eqs_14 : decode jdk_42_method_66_code 14 = .ok (.aload_n 1, 1) := by decide +kernel
theorem d_rm_eqs_15 : decode jdk_42_method_66_code 15 = .ok (.checkcast 10, 3) := by decide +kernel
theorem d_rm_eqs_18 : decode jdk_42_method_66_code 18 = .ok (.astore_n 2, 1) := by decide +kernel
theorem d_rm_eqs_19 : decode jdk_42_method_66_code 19 = .ok (.getstatic 38, 3) := by decide +kernel
theorem d_rm_eqs_22 : decode jdk_42_method_66_code 22 = .ok (.ifCond .eq 14, 3) := by decide +kernel
theorem d_rm_eqs_25 : decode jdk_42_method_66_code 25 = .ok (.aload_n 0, 1) := by decide +kernel
theorem d_rm_eqs_26 : decode jdk_42_method_66_code 26 = .ok (.getfield 15, 3) := by decide +kernel
theorem d_rm_eqs_29 : decode jdk_42_method_66_code 29 = .ok (.aload_n 2, 1) := by decide +kernel
theorem d_rm_eqs_30 : decode jdk_42_method_66_code 30 = .ok (.getfield 15, 3) := by decide +kernel
theorem d_rm_eqs_33 : decode jdk_42_method_66_code 33 = .ok (.if_icmp .ne 21, 3) := by decide +kernel
theorem d_rm_eqs_36 : decode jdk_42_method_66_code 36 = .ok (.aload_n 0, 1) := by decide +kernel
theorem d_rm_eqs_37 : decode jdk_42_method_66_code 37 = .ok (.getfield 9, 3) := by decide +kernel
theorem d_rm_eqs_40 : decode jdk_42_method_66_code 40 = .ok (.aload_n 2, 1) := by decide +kernel
theorem d_rm_eqs_41 : decode jdk_42_method_66_code 41 = .ok (.getfield 9, 3) := by decide +kernel
theorem d_rm_eqs_44 : decode jdk_42_method_66_code 44 = .ok (.invokestatic 541, 3) := by decide +kernel
theorem d_rm_eqs_47 : decode jdk_42_method_66_code 47 = .ok (.ifCond .eq 7, 3) := by decide +kernel
theorem d_rm_eqs_50 : decode jdk_42_method_66_code 50 = .ok (.iconst 1, 1) := by decide +kernel
theorem d_rm_eqs_51 : decode jdk_42_method_66_code 51 = .ok (.goto 4, 3) := by decide +kernel
theorem d_rm_eqs_54 : decode jdk_42_method_66_code 54 = .ok (.iconst 0, 1) := by decide +kernel
theorem d_rm_eqs_55 : decode jdk_42_method_66_code 55 = .ok (.ireturn, 1) := by decide +kernel
def Q_rm_eqs (Z : State) (t1 : Addr) (t2 : Addr) (b1 : Addr) (b2 : Addr) (kb1 : ClassId) (kb2 : ClassId) (x1 : Int32) (n1 : Int32) (x2 : Int32) (n2 : Int32) (cs : Int32) (h0 : Heap) (n0 : Nat) (v : Option Value) (h : Heap) (L : List Loc) : Prop := v = some (.int (own_eqs x1 n1 x2 n2)) ∧ Fr n0 L ∧ h = h0
theorem ef_rm_eqs (m : MethodId) (t1 : Addr) (t2 : Addr) (b1 : Addr) (b2 : Addr) (kb1 : ClassId) (kb2 : ClassId) (x1 : Int32) (n1 : Int32) (x2 : Int32) (n2 : Int32) (cs : Int32) : entryFrame m #[(.ref t1), (.ref t2)] 3 = mkF m 0 #[.val (.ref t1), .val (.ref t2), .unset] [] := by first | (simp [entryFrame, mkF, argsToLocals, Value.category]; done) | rfl
set_option maxRecDepth 65536 in
set_option maxHeartbeats 40000000 in
theorem rm_eqs (l : Launch) (Z : State) (a0 : Array Value) (hw : ∀ d ∈ tables_1, d.before a0 Z = true) (ws : List Jvm.Cond) (t1 : Addr) (t2 : Addr) (b1 : Addr) (b2 : Addr) (kb1 : ClassId) (kb2 : ClassId) (x1 : Int32) (n1 : Int32) (x2 : Int32) (n2 : Int32) (cs : Int32) (h0 : Heap) (n0 : Nat) (O0 : Old Z n0 h0) (S_COMPACT : Sta Z Z.heap "java/lang/String" "COMPACT_STRINGS" "Z" (.int cs)) (Et1 : Exa Z h0 t1 "java/lang/String") (Fc1 : Fld Z h0 t1 "java/lang/String" "coder" "B" (.int (0 : Int32))) (Fv1 : Fld Z h0 t1 "java/lang/String" "value" "[B" (.ref b1)) (Xb1 : Arv Z h0 b1 kb1 .byte n1 (own_bs x1 n1) (.int (0 : Int32))) (Et2 : Exa Z h0 t2 "java/lang/String") (Fc2 : Fld Z h0 t2 "java/lang/String" "coder" "B" (.int (0 : Int32))) (Fv2 : Fld Z h0 t2 "java/lang/String" "value" "[B" (.ref b2)) (Xb2 : Arv Z h0 b2 kb2 .byte n2 (own_bs x2 n2) (.int (0 : Int32))) (hcs : ¬ (cs = (0 : Int32))) (nt : ¬ (t1 = t2)) (hn1 : n1 = 0 ∨ n1 = 1 ∨ n1 = 2 ∨ n1 = 3) (hn2 : n2 = 0 ∨ n2 = 1 ∨ n2 = 2 ∨ n2 = 3) :
    MetFree l (⟨"java/lang/String", "equals", "(Ljava/lang/Object;)Z"⟩ : MethodName) (head1 (Jvm.Cond.code (⟨"java/lang/String", "equals", "(Ljava/lang/Object;)Z"⟩ : MethodName) jdk_42_method_66_code 3 (some .boolean) :: ws) ({ frames := 1, cells := 0, slots := 0, locals := 14 } : Room)) (fun a U => a = #[(.ref t1), (.ref t2)] ∧ Z.Warmed39 U.vm ∧ U.heap = h0) (fun _ _ _ _ _ => True) (fun _ U o U' => ∃ v L, o = .returned v ∧ Q_rm_eqs Z t1 t2 b1 b2 kb1 kb2 x1 n1 x2 n2 cs h0 n0 v U'.heap L ∧ FrameEnd U o U' L ({ frames := 1, cells := 0, slots := 0, locals := 14 } : Room).cells ({ frames := 1, cells := 0, slots := 0, locals := 14 } : Room).slots) := by
  refine MetFree.of_bodySF (plainFor_of_name own_pn_java_lang_String) hisR ?_
  intro p e s m args below meth c s₁ Bd hml0 hP hK
  obtain ⟨rfl, hZ, hh⟩ := hP
  have hx := Bd.exec
  have hby := Bd.bytes
  have hml : c.maxLocals = 3 := hml0
  have hown : s.vm.findClass "java/lang/String" = some m.cls := findClass_of_methodNamed Bd.named
  have hnm := (name_of_methodNamed Bd.named Bd.method).1
  have X0 : Stand p l e ({ frames := 1, cells := 0, slots := 0, locals := 14 } : Room) s m #[(.ref t1), (.ref t2)] below meth c s₁ [] 0 0 := Stand.of_body Bd
  have e0 : s₁.heap = h0 := by rw [← hh, Bd.state]; rfl
  have N0 := Fr.nil n0
  have Z0 : n0 ≤ h0.size := by rw [← O0.1]; exact O0.2.1
  show own_Go p e below (s₁.setTop (entryFrame m #[(.ref t1), (.ref t2)] 3)) (fun t o => ∃ v L, o = .returned v ∧ Q_rm_eqs Z t1 t2 b1 b2 kb1 kb2 x1 n1 x2 n2 cs h0 n0 v t.heap L ∧ FrameEnd s o t L ({ frames := 1, cells := 0, slots := 0, locals := 14 } : Room).cells ({ frames := 1, cells := 0, slots := 0, locals := 14 } : Room).slots)
  rw [ef_rm_eqs m t1 t2 b1 b2 kb1 kb2 x1 n1 x2 n2 cs]
  have lt_Et1 : h0.size > t1 := Et1.lt
  have lt_Fc1 : h0.size > t1 := Fc1.lt
  have lt_Fv1 : h0.size > t1 := Fv1.lt
  have lt_Xb1 : h0.size > b1 := Xb1.lt
  have lt_Et2 : h0.size > t2 := Et2.lt
  have lt_Fc2 : h0.size > t2 := Fc2.lt
  have lt_Fv2 : h0.size > t2 := Fv2.lt
  have lt_Xb2 : h0.size > b2 := Xb2.lt
  rcases hn1 with rfl | rfl | rfl | rfl
  · skip
    show own_Go p e below (s₁.setTop (mkF m 0 #[.val (.ref t1), .val (.ref t2), .unset] [])) _
    rcases hn2 with rfl | rfl | rfl | rfl
    · skip
      show own_Go p e below (s₁.setTop (mkF m 0 #[.val (.ref t1), .val (.ref t2), .unset] [])) _
      have Vo_b1 : Arv Z h0 b1 kb1 .byte (0 : Int32) [] (.int (0 : Int32)) := by have q := Xb1; rw [own_bs_0] at q; exact q
      have lt_Vo_b1 : h0.size > b1 := Vo_b1.lt
      have Vo_b2 : Arv Z h0 b2 kb2 .byte (0 : Int32) [] (.int (0 : Int32)) := by have q := Xb2; rw [own_bs_0] at q; exact q
      have lt_Vo_b2 : h0.size > b2 := Vo_b2.lt
      refine own_by (fun _ k => XS.aloadN X0.here hx rfl (hb hby d_rm_eqs_0) rfl rfl k) ?_
      refine own_by (fun _ k => XS.aloadN X0.here hx rfl (hb hby d_rm_eqs_1) rfl rfl k) ?_
      refine own_by (fun _ k => Jvm.RoadKit.acmp (g := (mkF m 2 #[.val (.ref t1), .val (.ref t2), .unset] [(.ref t2), (.ref t1)])) X0 hx rfl rfl rfl (pc0 := 2) (pc' := 7) (same := false) rfl (hb hby d_rm_eqs_2) rfl (decide_eq_false fun q => nt (Value.ref.inj q)) (by decide) (by decide) k) ?_
      show own_Go p e below (s₁.setTop (mkF m 7 #[.val (.ref t1), .val (.ref t2), .unset] [])) _
      refine own_by (fun _ k => XS.aloadN X0.here hx rfl (hb hby d_rm_eqs_7) rfl rfl k) ?_
      obtain ⟨T1, X1, e1, st1⟩ := instY X0 hx hZ hown (own_w hw 61 rfl) e0 (Ins.self Et2) (g := (mkF m 8 #[.val (.ref t1), .val (.ref t2), .unset] [(.ref t2)])) rfl rfl (hb hby d_rm_eqs_8)
      refine own_by st1 ?_
      refine own_by (fun _ k => XS.ifNo X1.here hx rfl (hb hby d_rm_eqs_11) rfl ((if0 _ _).trans (feq (by decide : ¬ ((1 : Int32) = (0 : Int32)))).1) k) ?_
      show own_Go p e below (T1.setTop (mkF m 14 #[.val (.ref t1), .val (.ref t2), .unset] [])) _
      refine own_by (fun _ k => XS.aloadN X1.here hx rfl (hb hby d_rm_eqs_14) rfl rfl k) ?_
      obtain ⟨T2, X2, e2, st2⟩ := castY X1 hx hZ hown (own_w hw 61 rfl) e1 (Ins.self Et2) (g := (mkF m 15 #[.val (.ref t1), .val (.ref t2), .unset] [(.ref t2)])) rfl rfl (hb hby d_rm_eqs_15)
      refine own_by st2 ?_
      refine own_by (fun _ k => XS.astoreN X2.here hx rfl (hb hby d_rm_eqs_18) rfl rfl (l' := #[.val (.ref t1), .val (.ref t2), .val (.ref t2)]) rfl k) ?_
      obtain ⟨T3, X3, e3, st3⟩ := getS2 X2 hx hZ hown (host := "") (Or.inl (own_w hw 21 rfl)) Via.refl e2 (S_COMPACT.ext O0.2) (g := (mkF m 19 #[.val (.ref t1), .val (.ref t2), .val (.ref t2)] [])) rfl (hb hby d_rm_eqs_19)
      refine own_by st3 ?_
      show own_Go p e below (T3.setTop (mkF m 22 #[.val (.ref t1), .val (.ref t2), .val (.ref t2)] [(.int cs)])) _
      refine own_by (fun _ k => XS.ifNo X3.here hx rfl (hb hby d_rm_eqs_22) rfl ((if0 _ _).trans (feq hcs).1) k) ?_
      show own_Go p e below (T3.setTop (mkF m 25 #[.val (.ref t1), .val (.ref t2), .val (.ref t2)] [])) _
      refine own_by (fun _ k => XS.aloadN X3.here hx rfl (hb hby d_rm_eqs_25) rfl rfl k) ?_
      obtain ⟨T4, X4, e4, st4⟩ := getF X3 hx hZ hown (host := "") (Or.inl (own_w hw 33 rfl)) Via.refl e3 Fc1 (g := (mkF m 26 #[.val (.ref t1), .val (.ref t2), .val (.ref t2)] [(.ref t1)])) rfl rfl (hb hby d_rm_eqs_26)
      refine own_by st4 ?_
      refine own_by (fun _ k => XS.aloadN X4.here hx rfl (hb hby d_rm_eqs_29) rfl rfl k) ?_
      obtain ⟨T5, X5, e5, st5⟩ := getF X4 hx hZ hown (host := "") (Or.inl (own_w hw 33 rfl)) Via.refl e4 Fc2 (g := (mkF m 30 #[.val (.ref t1), .val (.ref t2), .val (.ref t2)] [(.ref t2), (.int (0 : Int32))])) rfl rfl (hb hby d_rm_eqs_30)
      refine own_by st5 ?_
      show own_Go p e below (T5.setTop (mkF m 33 #[.val (.ref t1), .val (.ref t2), .val (.ref t2)] [(.int (0 : Int32)), (.int (0 : Int32))])) _
      refine own_by (fun _ k => XS.icmpNo X5.here hx rfl (hb hby d_rm_eqs_33) rfl (teq (by decide : (0 : Int32) = (0 : Int32))).2 k) ?_
      show own_Go p e below (T5.setTop (mkF m 36 #[.val (.ref t1), .val (.ref t2), .val (.ref t2)] [])) _
      refine own_by (fun _ k => XS.aloadN X5.here hx rfl (hb hby d_rm_eqs_36) rfl rfl k) ?_
      obtain ⟨T6, X6, e6, st6⟩ := getF X5 hx hZ hown (host := "") (Or.inl (own_w hw 35 rfl)) Via.refl e5 Fv1 (g := (mkF m 37 #[.val (.ref t1), .val (.ref t2), .val (.ref t2)] [(.ref t1)])) rfl rfl (hb hby d_rm_eqs_37)
      refine own_by st6 ?_
      refine own_by (fun _ k => XS.aloadN X6.here hx rfl (hb hby d_rm_eqs_40) rfl rfl k) ?_
      obtain ⟨T7, X7, e7, st7⟩ := getF X6 hx hZ hown (host := "") (Or.inl (own_w hw 35 rfl)) Via.refl e6 Fv2 (g := (mkF m 41 #[.val (.ref t1), .val (.ref t2), .val (.ref t2)] [(.ref t2), (.ref b1)])) rfl rfl (hb hby d_rm_eqs_41)
      refine own_by st7 ?_
      show own_Go p e below (T7.setTop (mkF m 44 #[.val (.ref t1), .val (.ref t2), .val (.ref t2)] [(.ref b2), (.ref b1)])) _
      obtain ⟨_, _, ⟨T8, L8, k8, n8⟩, -, X8, ⟨Lc8, hQ8, l8, y8, z8⟩, st8⟩ := Jvm.LawKit.callS X7 hx (y := (⟨"java/lang/StringLatin1", "equals", "([B[B)Z"⟩ : MethodName)) hown (mvT hZ (own_w hw 62 rfl)) (mvT hZ (own_w hw 63 rfl)) (mvT hZ (own_w hw 64 rfl)) (mvT hZ (own_w hw 65 rfl)) (by decide) (backOf (W := 0) (rm_leq_0_0 l Z a0 hw [] b1 b2 kb1 kb2 h0 n0 O0 Vo_b1 Vo_b2) hZ (own_w hw 65 rfl) (own_w hw 64 rfl) (by decide) (by decide)) (g := (mkF m 44 #[.val (.ref t1), .val (.ref t2), .val (.ref t2)] [(.ref b2), (.ref b1)])) rfl (by rw [hml]; rfl) (argsL := [(.ref b1), (.ref b2)]) (rest := []) (lenOf own_pd__28_5bB_5bB_29Z rfl) rfl (by show 2 * 0 + _ ≤ _; exact Nat.le_of_eq rfl) (hb hby d_rm_eqs_44) (fun _ _ => ⟨rfl, e7, (by decide : 0 + 0 ≤ _), (by decide : 0 + 0 ≤ _)⟩)
      dsimp only [Pt.U, Pt.locs, Pt.cells, Pt.slots] at X8 l8 y8 z8 st8 hQ8
      subst l8 y8 z8
      obtain ⟨rfl, M8, K8⟩ := hQ8
      have N8 := Fr.app N0 M8
      refine own_by st8 ?_
      refine own_by (fun _ k => XS.ifNo X8.here hx rfl (hb hby d_rm_eqs_47) rfl ((if0 _ _).trans (feq (by decide : ¬ ((1 : Int32) = (0 : Int32)))).1) k) ?_
      show own_Go p e below (T8.setTop (mkF m 50 #[.val (.ref t1), .val (.ref t2), .val (.ref t2)] [])) _
      refine own_by (fun _ k => XS.iconst X8.here hx rfl (hb hby d_rm_eqs_50) k) ?_
      refine own_by (fun _ k => XS.goto X8.here hx rfl (pc0 := 51) (pc' := 55) rfl (hb hby d_rm_eqs_51) (by decide) (by decide) k) ?_
      obtain ⟨fs, hr, hrun, hended, hW, hsame⟩ := X8.leave (v := some (.int (1 : Int32))) (fun h => by rw [Bd.returns] at h; cases h)
      refine ⟨_, _, retN X8 hx (t := .boolean) Bd.returns (by simp) (hb hby d_rm_eqs_55) hr, hrun, hended, _, _, rfl, ?_, ⟨_, rfl⟩, hW, hsame.mono (by decide) (by decide)⟩
      show Q_rm_eqs Z t1 t2 b1 b2 kb1 kb2 x1 (0 : Int32) x2 (0 : Int32) cs h0 n0 _ T8.heap _
      rw [K8]
      exact ⟨(by rw [own_eqs_eq rfl, own_pre_0]), N8, rfl⟩
    · skip
      show own_Go p e below (s₁.setTop (mkF m 0 #[.val (.ref t1), .val (.ref t2), .unset] [])) _
      have Vo_b1 : Arv Z h0 b1 kb1 .byte (0 : Int32) [] (.int (0 : Int32)) := by have q := Xb1; rw [own_bs_0] at q; exact q
      have lt_Vo_b1 : h0.size > b1 := Vo_b1.lt
      have Vo_b2 : Arv Z h0 b2 kb2 .byte (1 : Int32) [(.int (own_b (own_pk0 x2 &&& (255 : Int32))))] (.int (0 : Int32)) := by have q := Xb2; rw [own_bs_1] at q; exact q
      have lt_Vo_b2 : h0.size > b2 := Vo_b2.lt
      refine own_by (fun _ k => XS.aloadN X0.here hx rfl (hb hby d_rm_eqs_0) rfl rfl k) ?_
      refine own_by (fun _ k => XS.aloadN X0.here hx rfl (hb hby d_rm_eqs_1) rfl rfl k) ?_
      refine own_by (fun _ k => Jvm.RoadKit.acmp (g := (mkF m 2 #[.val (.ref t1), .val (.ref t2), .unset] [(.ref t2), (.ref t1)])) X0 hx rfl rfl rfl (pc0 := 2) (pc' := 7) (same := false) rfl (hb hby d_rm_eqs_2) rfl (decide_eq_false fun q => nt (Value.ref.inj q)) (by decide) (by decide) k) ?_
      show own_Go p e below (s₁.setTop (mkF m 7 #[.val (.ref t1), .val (.ref t2), .unset] [])) _
      refine own_by (fun _ k => XS.aloadN X0.here hx rfl (hb hby d_rm_eqs_7) rfl rfl k) ?_
      obtain ⟨T9, X9, e9, st9⟩ := instY X0 hx hZ hown (own_w hw 61 rfl) e0 (Ins.self Et2) (g := (mkF m 8 #[.val (.ref t1), .val (.ref t2), .unset] [(.ref t2)])) rfl rfl (hb hby d_rm_eqs_8)
      refine own_by st9 ?_
      refine own_by (fun _ k => XS.ifNo X9.here hx rfl (hb hby d_rm_eqs_11) rfl ((if0 _ _).trans (feq (by decide : ¬ ((1 : Int32) = (0 : Int32)))).1) k) ?_
      show own_Go p e below (T9.setTop (mkF m 14 #[.val (.ref t1), .val (.ref t2), .unset] [])) _
      refine own_by (fun _ k => XS.aloadN X9.here hx rfl (hb hby d_rm_eqs_14) rfl rfl k) ?_
      obtain ⟨T10, X10, e10, st10⟩ := castY X9 hx hZ hown (own_w hw 61 rfl) e9 (Ins.self Et2) (g := (mkF m 15 #[.val (.ref t1), .val (.ref t2), .unset] [(.ref t2)])) rfl rfl (hb hby d_rm_eqs_15)
      refine own_by st10 ?_
      refine own_by (fun _ k => XS.astoreN X10.here hx rfl (hb hby d_rm_eqs_18) rfl rfl (l' := #[.val (.ref t1), .val (.ref t2), .val (.ref t2)]) rfl k) ?_
      obtain ⟨T11, X11, e11, st11⟩ := getS2 X10 hx hZ hown (host := "") (Or.inl (own_w hw 21 rfl)) Via.refl e10 (S_COMPACT.ext O0.2) (g := (mkF m 19 #[.val (.ref t1), .val (.ref t2), .val (.ref t2)] [])) rfl (hb hby d_rm_eqs_19)
      refine own_by st11 ?_
      show own_Go p e below (T11.setTop (mkF m 22 #[.val (.ref t1), .val (.ref t2), .val (.ref t2)] [(.int cs)])) _
      refine own_by (fun _ k => XS.ifNo X11.here hx rfl (hb hby d_rm_eqs_22) rfl ((if0 _ _).trans (feq hcs).1) k) ?_
      show own_Go p e below (T11.setTop (mkF m 25 #[.val (.ref t1), .val (.ref t2), .val (.ref t2)] [])) _
      refine own_by (fun _ k => XS.aloadN X11.here hx rfl (hb hby d_rm_eqs_25) rfl rfl k) ?_
      obtain ⟨T12, X12, e12, st12⟩ := getF X11 hx hZ hown (host := "") (Or.inl (own_w hw 33 rfl)) Via.refl e11 Fc1 (g := (mkF m 26 #[.val (.ref t1), .val (.ref t2), .val (.ref t2)] [(.ref t1)])) rfl rfl (hb hby d_rm_eqs_26)
      refine own_by st12 ?_
      refine own_by (fun _ k => XS.aloadN X12.here hx rfl (hb hby d_rm_eqs_29) rfl rfl k) ?_
      obtain ⟨T13, X13, e13, st13⟩ := getF X12 hx hZ hown (host := "") (Or.inl (own_w hw 33 rfl)) Via.refl e12 Fc2 (g := (mkF m 30 #[.val (.ref t1), .val (.ref t2), .val (.ref t2)] [(.ref t2), (.int (0 : Int32))])) rfl rfl (hb hby d_rm_eqs_30)
      refine own_by st13 ?_
      show own_Go p e below (T13.setTop (mkF m 33 #[.val (.ref t1), .val (.ref t2), .val (.ref t2)] [(.int (0 : Int32)), (.int (0 : Int32))])) _
      refine own_by (fun _ k => XS.icmpNo X13.here hx rfl (hb hby d_rm_eqs_33) rfl (teq (by decide : (0 : Int32) = (0 : Int32))).2 k) ?_
      show own_Go p e below (T13.setTop (mkF m 36 #[.val (.ref t1), .val (.ref t2), .val (.ref t2)] [])) _
      refine own_by (fun _ k => XS.aloadN X13.here hx rfl (hb hby d_rm_eqs_36) rfl rfl k) ?_
      obtain ⟨T14, X14, e14, st14⟩ := getF X13 hx hZ hown (host := "") (Or.inl (own_w hw 35 rfl)) Via.refl e13 Fv1 (g := (mkF m 37 #[.val (.ref t1), .val (.ref t2), .val (.ref t2)] [(.ref t1)])) rfl rfl (hb hby d_rm_eqs_37)
      refine own_by st14 ?_
      refine own_by (fun _ k => XS.aloadN X14.here hx rfl (hb hby d_rm_eqs_40) rfl rfl k) ?_
      obtain ⟨T15, X15, e15, st15⟩ := getF X14 hx hZ hown (host := "") (Or.inl (own_w hw 35 rfl)) Via.refl e14 Fv2 (g := (mkF m 41 #[.val (.ref t1), .val (.ref t2), .val (.ref t2)] [(.ref t2), (.ref b1)])) rfl rfl (hb hby d_rm_eqs_41)
      refine own_by st15 ?_
      show own_Go p e below (T15.setTop (mkF m 44 #[.val (.ref t1), .val (.ref t2), .val (.ref t2)] [(.ref b2), (.ref b1)])) _
      obtain ⟨_, _, ⟨T16, L16, k16, n16⟩, -, X16, ⟨Lc16, hQ16, l16, y16, z16⟩, st16⟩ := Jvm.LawKit.callS X15 hx (y := (⟨"java/lang/StringLatin1", "equals", "([B[B)Z"⟩ : MethodName)) hown (mvT hZ (own_w hw 62 rfl)) (mvT hZ (own_w hw 63 rfl)) (mvT hZ (own_w hw 64 rfl)) (mvT hZ (own_w hw 65 rfl)) (by decide) (backOf (W := 0) (rm_leq_0_1 l Z a0 hw [] b1 b2 kb1 kb2 (own_b (own_pk0 x2 &&& (255 : Int32))) h0 n0 O0 Vo_b1 Vo_b2) hZ (own_w hw 65 rfl) (own_w hw 64 rfl) (by decide) (by decide)) (g := (mkF m 44 #[.val (.ref t1), .val (.ref t2), .val (.ref t2)] [(.ref b2), (.ref b1)])) rfl (by rw [hml]; rfl) (argsL := [(.ref b1), (.ref b2)]) (rest := []) (lenOf own_pd__28_5bB_5bB_29Z rfl) rfl (by show 2 * 0 + _ ≤ _; exact Nat.le_of_eq rfl) (hb hby d_rm_eqs_44) (fun _ _ => ⟨rfl, e15, (by decide : 0 + 0 ≤ _), (by decide : 0 + 0 ≤ _)⟩)
      dsimp only [Pt.U, Pt.locs, Pt.cells, Pt.slots] at X16 l16 y16 z16 st16 hQ16
      subst l16 y16 z16
      obtain ⟨rfl, M16, K16⟩ := hQ16
      have N16 := Fr.app N0 M16
      refine own_by st16 ?_
      refine own_by (fun _ k => XS.ifYes X16.here hx rfl (pc0 := 47) (pc' := 54) rfl (hb hby d_rm_eqs_47) rfl ((if0 _ _).trans (teq (by decide : (0 : Int32) = (0 : Int32))).1) (by decide) (by decide) k) ?_
      show own_Go p e below (T16.setTop (mkF m 54 #[.val (.ref t1), .val (.ref t2), .val (.ref t2)] [])) _
      refine own_by (fun _ k => XS.iconst X16.here hx rfl (hb hby d_rm_eqs_54) k) ?_
      obtain ⟨fs, hr, hrun, hended, hW, hsame⟩ := X16.leave (v := some (.int (0 : Int32))) (fun h => by rw [Bd.returns] at h; cases h)
      refine ⟨_, _, retN X16 hx (t := .boolean) Bd.returns (by simp) (hb hby d_rm_eqs_55) hr, hrun, hended, _, _, rfl, ?_, ⟨_, rfl⟩, hW, hsame.mono (by decide) (by decide)⟩
      show Q_rm_eqs Z t1 t2 b1 b2 kb1 kb2 x1 (0 : Int32) x2 (1 : Int32) cs h0 n0 _ T16.heap _
      rw [K16]
      exact ⟨(by rw [own_eqs_ne (by decide)]), N16, rfl⟩
    · skip
      show own_Go p e below (s₁.setTop (mkF m 0 #[.val (.ref t1), .val (.ref t2), .unset] [])) _
      have Vo_b1 : Arv Z h0 b1 kb1 .byte (0 : Int32) [] (.int (0 : Int32)) := by have q := Xb1; rw [own_bs_0] at q; exact q
      have lt_Vo_b1 : h0.size > b1 := Vo_b1.lt
      have Vo_b2 : Arv Z h0 b2 kb2 .byte (2 : Int32) [(.int (own_b (own_pk0 x2 &&& (255 : Int32)))), (.int (own_b (own_pk1 x2 &&& (255 : Int32))))] (.int (0 : Int32)) := by have q := Xb2; rw [own_bs_2] at q; exact q
      have lt_Vo_b2 : h0.size > b2 := Vo_b2.lt
      refine own_by (fun _ k => XS.aloadN X0.here hx rfl (hb hby d_rm_eqs_0) rfl rfl k) ?_
      refine own_by (fun _ k => XS.aloadN X0.here hx rfl (hb hby d_rm_eqs_1) rfl rfl k) ?_
      refine own_by (fun _ k => Jvm.RoadKit.acmp (g := (mkF m 2 #[.val (.ref t1), .val (.ref t2), .unset] [(.ref t2), (.ref t1)])) X0 hx rfl rfl rfl (pc0 := 2) (pc' := 7) (same := false) rfl (hb hby d_rm_eqs_2) rfl (decide_eq_false fun q => nt (Value.ref.inj q)) (by decide) (by decide) k) ?_
      show own_Go p e below (s₁.setTop (mkF m 7 #[.val (.ref t1), .val (.ref t2), .unset] [])) _
      refine own_by (fun _ k => XS.aloadN X0.here hx rfl (hb hby d_rm_eqs_7) rfl rfl k) ?_
      obtain ⟨T17, X17, e17, st17⟩ := instY X0 hx hZ hown (own_w hw 61 rfl) e0 (Ins.self Et2) (g := (mkF m 8 #[.val (.ref t1), .val (.ref t2), .unset] [(.ref t2)])) rfl rfl (hb hby d_rm_eqs_8)
      refine own_by st17 ?_
      refine own_by (fun _ k => XS.ifNo X17.here hx rfl (hb hby d_rm_eqs_11) rfl ((if0 _ _).trans (feq (by decide : ¬ ((1 : Int32) = (0 : Int32)))).1) k) ?_
      show own_Go p e below (T17.setTop (mkF m 14 #[.val (.ref t1), .val (.ref t2), .unset] [])) _
      refine own_by (fun _ k => XS.aloadN X17.here hx rfl (hb hby d_rm_eqs_14) rfl rfl k) ?_
      obtain ⟨T18, X18, e18, st18⟩ := castY X17 hx hZ hown (own_w hw 61 rfl) e17 (Ins.self Et2) (g := (mkF m 15 #[.val (.ref t1), .val (.ref t2), .unset] [(.ref t2)])) rfl rfl (hb hby d_rm_eqs_15)
      refine own_by st18 ?_
      refine own_by (fun _ k => XS.astoreN X18.here hx rfl (hb hby d_rm_eqs_18) rfl rfl (l' := #[.val (.ref t1), .val (.ref t2), .val (.ref t2)]) rfl k) ?_
      obtain ⟨T19, X19, e19, st19⟩ := getS2 X18 hx hZ hown (host := "") (Or.inl (own_w hw 21 rfl)) Via.refl e18 (S_COMPACT.ext O0.2) (g := (mkF m 19 #[.val (.ref t1), .val (.ref t2), .val (.ref t2)] [])) rfl (hb hby d_rm_eqs_19)
      refine own_by st19 ?_
      show own_Go p e below (T19.setTop (mkF m 22 #[.val (.ref t1), .val (.ref t2), .val (.ref t2)] [(.int cs)])) _
      refine own_by (fun _ k => XS.ifNo X19.here hx rfl (hb hby d_rm_eqs_22) rfl ((if0 _ _).trans (feq hcs).1) k) ?_
      show own_Go p e below (T19.setTop (mkF m 25 #[.val (.ref t1), .val (.ref t2), .val (.ref t2)] [])) _
      refine own_by (fun _ k => XS.aloadN X19.here hx rfl (hb hby d_rm_eqs_25) rfl rfl k) ?_
      obtain ⟨T20, X20, e20, st20⟩ := getF X19 hx hZ hown (host := "") (Or.inl (own_w hw 33 rfl)) Via.refl e19 Fc1 (g := (mkF m 26 #[.val (.ref t1), .val (.ref t2), .val (.ref t2)] [(.ref t1)])) rfl rfl (hb hby d_rm_eqs_26)
      refine own_by st20 ?_
      refine own_by (fun _ k => XS.aloadN X20.here hx rfl (hb hby d_rm_eqs_29) rfl rfl k) ?_
      obtain ⟨T21, X21, e21, st21⟩ := getF X20 hx hZ hown (host := "") (Or.inl (own_w hw 33 rfl)) Via.refl e20 Fc2 (g := (mkF m 30 #[.val (.ref t1), .val (.ref t2), .val (.ref t2)] [(.ref t2), (.int (0 : Int32))])) rfl rfl (hb hby d_rm_eqs_30)
      refine own_by st21 ?_
      show own_Go p e below (T21.setTop (mkF m 33 #[.val (.ref t1), .val (.ref t2), .val (.ref t2)] [(.int (0 : Int32)), (.int (0 : Int32))])) _
      refine own_by (fun _ k => XS.icmpNo X21.here hx rfl (hb hby d_rm_eqs_33) rfl (teq (by decide : (0 : Int32) = (0 : Int32))).2 k) ?_
      show own_Go p e below (T21.setTop (mkF m 36 #[.val (.ref t1), .val (.ref t2), .val (.ref t2)] [])) _
      refine own_by (fun _ k => XS.aloadN X21.here hx rfl (hb hby d_rm_eqs_36) rfl rfl k) ?_
      obtain ⟨T22, X22, e22, st22⟩ := getF X21 hx hZ hown (host := "") (Or.inl (own_w hw 35 rfl)) Via.refl e21 Fv1 (g := (mkF m 37 #[.val (.ref t1), .val (.ref t2), .val (.ref t2)] [(.ref t1)])) rfl rfl (hb hby d_rm_eqs_37)
      refine own_by st22 ?_
      refine own_by (fun _ k => XS.aloadN X22.here hx rfl (hb hby d_rm_eqs_40) rfl rfl k) ?_
      obtain ⟨T23, X23, e23, st23⟩ := getF X22 hx hZ hown (host := "") (Or.inl (own_w hw 35 rfl)) Via.refl e22 Fv2 (g := (mkF m 41 #[.val (.ref t1), .val (.ref t2), .val (.ref t2)] [(.ref t2), (.ref b1)])) rfl rfl (hb hby d_rm_eqs_41)
      refine own_by st23 ?_
      show own_Go p e below (T23.setTop (mkF m 44 #[.val (.ref t1), .val (.ref t2), .val (.ref t2)] [(.ref b2), (.ref b1)])) _
      obtain ⟨_, _, ⟨T24, L24, k24, n24⟩, -, X24, ⟨Lc24, hQ24, l24, y24, z24⟩, st24⟩ := Jvm.LawKit.callS X23 hx (y := (⟨"java/lang/StringLatin1", "equals", "([B[B)Z"⟩ : MethodName)) hown (mvT hZ (own_w hw 62 rfl)) (mvT hZ (own_w hw 63 rfl)) (mvT hZ (own_w hw 64 rfl)) (mvT hZ (own_w hw 65 rfl)) (by decide) (backOf (W := 0) (rm_leq_0_2 l Z a0 hw [] b1 b2 kb1 kb2 (own_b (own_pk0 x2 &&& (255 : Int32))) (own_b (own_pk1 x2 &&& (255 : Int32))) h0 n0 O0 Vo_b1 Vo_b2) hZ (own_w hw 65 rfl) (own_w hw 64 rfl) (by decide) (by decide)) (g := (mkF m 44 #[.val (.ref t1), .val (.ref t2), .val (.ref t2)] [(.ref b2), (.ref b1)])) rfl (by rw [hml]; rfl) (argsL := [(.ref b1), (.ref b2)]) (rest := []) (lenOf own_pd__28_5bB_5bB_29Z rfl) rfl (by show 2 * 0 + _ ≤ _; exact Nat.le_of_eq rfl) (hb hby d_rm_eqs_44) (fun _ _ => ⟨rfl, e23, (by decide : 0 + 0 ≤ _), (by decide : 0 + 0 ≤ _)⟩)
      dsimp only [Pt.U, Pt.locs, Pt.cells, Pt.slots] at X24 l24 y24 z24 st24 hQ24
      subst l24 y24 z24
      obtain ⟨rfl, M24, K24⟩ := hQ24
      have N24 := Fr.app N0 M24
      refine own_by st24 ?_
      refine own_by (fun _ k => XS.ifYes X24.here hx rfl (pc0 := 47) (pc' := 54) rfl (hb hby d_rm_eqs_47) rfl ((if0 _ _).trans (teq (by decide : (0 : Int32) = (0 : Int32))).1) (by decide) (by decide) k) ?_
      show own_Go p e below (T24.setTop (mkF m 54 #[.val (.ref t1), .val (.ref t2), .val (.ref t2)] [])) _
      refine own_by (fun _ k => XS.iconst X24.here hx rfl (hb hby d_rm_eqs_54) k) ?_
      obtain ⟨fs, hr, hrun, hended, hW, hsame⟩ := X24.leave (v := some (.int (0 : Int32))) (fun h => by rw [Bd.returns] at h; cases h)
      refine ⟨_, _, retN X24 hx (t := .boolean) Bd.returns (by simp) (hb hby d_rm_eqs_55) hr, hrun, hended, _, _, rfl, ?_, ⟨_, rfl⟩, hW, hsame.mono (by decide) (by decide)⟩
      show Q_rm_eqs Z t1 t2 b1 b2 kb1 kb2 x1 (0 : Int32) x2 (2 : Int32) cs h0 n0 _ T24.heap _
      rw [K24]
      exact ⟨(by rw [own_eqs_ne (by decide)]), N24, rfl⟩
    · skip
      show own_Go p e below (s₁.setTop (mkF m 0 #[.val (.ref t1), .val (.ref t2), .unset] [])) _
      have Vo_b1 : Arv Z h0 b1 kb1 .byte (0 : Int32) [] (.int (0 : Int32)) := by have q := Xb1; rw [own_bs_0] at q; exact q
      have lt_Vo_b1 : h0.size > b1 := Vo_b1.lt
      have Vo_b2 : Arv Z h0 b2 kb2 .byte (3 : Int32) [(.int (own_b (own_pk0 x2 &&& (255 : Int32)))), (.int (own_b (own_pk1 x2 &&& (255 : Int32)))), (.int (own_b (own_pk2 x2 &&& (255 : Int32))))] (.int (0 : Int32)) := by have q := Xb2; rw [own_bs_3] at q; exact q
      have lt_Vo_b2 : h0.size > b2 := Vo_b2.lt
      refine own_by (fun _ k => XS.aloadN X0.here hx rfl (hb hby d_rm_eqs_0) rfl rfl k) ?_
      refine own_by (fun _ k => XS.aloadN X0.here hx rfl (hb hby d_rm_eqs_1) rfl rfl k) ?_
      refine own_by (fun _ k => Jvm.RoadKit.acmp (g := (mkF m 2 #[.val (.ref t1), .val (.ref t2), .unset] [(.ref t2), (.ref t1)])) X0 hx rfl rfl rfl (pc0 := 2) (pc' := 7) (same := false) rfl (hb hby d_rm_eqs_2) rfl (decide_eq_false fun q => nt (Value.ref.inj q)) (by decide) (by decide) k) ?_
      show own_Go p e below (s₁.setTop (mkF m 7 #[.val (.ref t1), .val (.ref t2), .unset] [])) _
      refine own_by (fun _ k => XS.aloadN X0.here hx rfl (hb hby d_rm_eqs_7) rfl rfl k) ?_
      obtain ⟨T25, X25, e25, st25⟩ := instY X0 hx hZ hown (own_w hw 61 rfl) e0 (Ins.self Et2) (g := (mkF m 8 #[.val (.ref t1), .val (.ref t2), .unset] [(.ref t2)])) rfl rfl (hb hby d_rm_eqs_8)
      refine own_by st25 ?_
      refine own_by (fun _ k => XS.ifNo X25.here hx rfl (hb hby d_rm_eqs_11) rfl ((if0 _ _).trans (feq (by decide : ¬ ((1 : Int32) = (0 : Int32)))).1) k) ?_
      show own_Go p e below (T25.setTop (mkF m 14 #[.val (.ref t1), .val (.ref t2), .unset] [])) _
      refine own_by (fun _ k => XS.aloadN X25.here hx rfl (hb hby d_rm_eqs_14) rfl rfl k) ?_
      obtain ⟨T26, X26, e26, st26⟩ := castY X25 hx hZ hown (own_w hw 61 rfl) e25 (Ins.self Et2) (g := (mkF m 15 #[.val (.ref t1), .val (.ref t2), .unset] [(.ref t2)])) rfl rfl (hb hby d_rm_eqs_15)
      refine own_by st26 ?_
      refine own_by (fun _ k => XS.astoreN X26.here hx rfl (hb hby d_rm_eqs_18) rfl rfl (l' := #[.val (.ref t1), .val (.ref t2), .val (.ref t2)]) rfl k) ?_
      obtain ⟨T27, X27, e27, st27⟩ := getS2 X26 hx hZ hown (host := "") (Or.inl (own_w hw 21 rfl)) Via.refl e26 (S_COMPACT.ext O0.2) (g := (mkF m 19 #[.val (.ref t1), .val (.ref t2), .val (.ref t2)] [])) rfl (hb hby d_rm_eqs_19)
      refine own_by st27 ?_
      show own_Go p e below (T27.setTop (mkF m 22 #[.val (.ref t1), .val (.ref t2), .val (.ref t2)] [(.int cs)])) _
      refine own_by (fun _ k => XS.ifNo X27.here hx rfl (hb hby d_rm_eqs_22) rfl ((if0 _ _).trans (feq hcs).1) k) ?_
      show own_Go p e below (T27.setTop (mkF m 25 #[.val (.ref t1), .val (.ref t2), .val (.ref t2)] [])) _
      refine own_by (fun _ k => XS.aloadN X27.here hx rfl (hb hby d_rm_eqs_25) rfl rfl k) ?_
      obtain ⟨T28, X28, e28, st28⟩ := getF X27 hx hZ hown (host := "") (Or.inl (own_w hw 33 rfl)) Via.refl e27 Fc1 (g := (mkF m 26 #[.val (.ref t1), .val (.ref t2), .val (.ref t2)] [(.ref t1)])) rfl rfl (hb hby d_rm_eqs_26)
      refine own_by st28 ?_
      refine own_by (fun _ k => XS.aloadN X28.here hx rfl (hb hby d_rm_eqs_29) rfl rfl k) ?_
      obtain ⟨T29, X29, e29, st29⟩ := getF X28 hx hZ hown (host := "") (Or.inl (own_w hw 33 rfl)) Via.refl e28 Fc2 (g := (mkF m 30 #[.val (.ref t1), .val (.ref t2), .val (.ref t2)] [(.ref t2), (.int (0 : Int32))])) rfl rfl (hb hby d_rm_eqs_30)
      refine own_by st29 ?_
      show own_Go p e below (T29.setTop (mkF m 33 #[.val (.ref t1), .val (.ref t2), .val (.ref t2)] [(.int (0 : Int32)), (.int (0 : Int32))])) _
      refine own_by (fun _ k => XS.icmpNo X29.here hx rfl (hb hby d_rm_eqs_33) rfl (teq (by decide : (0 : Int32) = (0 : Int32))).2 k) ?_
      show own_Go p e below (T29.setTop (mkF m 36 #[.val (.ref t1), .val (.ref t2), .val (.ref t2)] [])) _
      refine own_by (fun _ k => XS.aloadN X29.here hx rfl (hb hby d_rm_eqs_36) rfl rfl k) ?_
      obtain ⟨T30, X30, e30, st30⟩ := getF X29 hx hZ hown (host := "") (Or.inl (own_w hw 35 rfl)) Via.refl e29 Fv1 (g := (mkF m 37 #[.val (.ref t1), .val (.ref t2), .val (.ref t2)] [(.ref t1)])) rfl rfl (hb hby d_rm_eqs_37)
      refine own_by st30 ?_
      refine own_by (fun _ k => XS.aloadN X30.here hx rfl (hb hby d_rm_eqs_40) rfl rfl k) ?_
      obtain ⟨T31, X31, e31, st31⟩ := getF X30 hx hZ hown (host := "") (Or.inl (own_w hw 35 rfl)) Via.refl e30 Fv2 (g := (mkF m 41 #[.val (.ref t1), .val (.ref t2), .val (.ref t2)] [(.ref t2), (.ref b1)])) rfl rfl (hb hby d_rm_eqs_41)
      refine own_by st31 ?_
      show own_Go p e below (T31.setTop (mkF m 44 #[.val (.ref t1), .val (.ref t2), .val (.ref t2)] [(.ref b2), (.ref b1)])) _
      obtain ⟨_, _, ⟨T32, L32, k32, n32⟩, -, X32, ⟨Lc32, hQ32, l32, y32, z32⟩, st32⟩ := Jvm.LawKit.callS X31 hx (y := (⟨"java/lang/StringLatin1", "equals", "([B[B)Z"⟩ : MethodName)) hown (mvT hZ (own_w hw 62 rfl)) (mvT hZ (own_w hw 63 rfl)) (mvT hZ (own_w hw 64 rfl)) (mvT hZ (own_w hw 65 rfl)) (by decide) (backOf (W := 0) (rm_leq_0_3 l Z a0 hw [] b1 b2 kb1 kb2 (own_b (own_pk0 x2 &&& (255 : Int32))) (own_b (own_pk1 x2 &&& (255 : Int32))) (own_b (own_pk2 x2 &&& (255 : Int32))) h0 n0 O0 Vo_b1 Vo_b2) hZ (own_w hw 65 rfl) (own_w hw 64 rfl) (by decide) (by decide)) (g := (mkF m 44 #[.val (.ref t1), .val (.ref t2), .val (.ref t2)] [(.ref b2), (.ref b1)])) rfl (by rw [hml]; rfl) (argsL := [(.ref b1), (.ref b2)]) (rest := []) (lenOf own_pd__28_5bB_5bB_29Z rfl) rfl (by show 2 * 0 + _ ≤ _; exact Nat.le_of_eq rfl) (hb hby d_rm_eqs_44) (fun _ _ => ⟨rfl, e31, (by decide : 0 + 0 ≤ _), (by decide : 0 + 0 ≤ _)⟩)
      dsimp only [Pt.U, Pt.locs, Pt.cells, Pt.slots] at X32 l32 y32 z32 st32 hQ32
      subst l32 y32 z32
      obtain ⟨rfl, M32, K32⟩ := hQ32
      have N32 := Fr.app N0 M32
      refine own_by st32 ?_
      refine own_by (fun _ k => XS.ifYes X32.here hx rfl (pc0 := 47) (pc' := 54) rfl (hb hby d_rm_eqs_47) rfl ((if0 _ _).trans (teq (by decide : (0 : Int32) = (0 : Int32))).1) (by decide) (by decide) k) ?_
      show own_Go p e below (T32.setTop (mkF m 54 #[.val (.ref t1), .val (.ref t2), .val (.ref t2)] [])) _
      refine own_by (fun _ k => XS.iconst X32.here hx rfl (hb hby d_rm_eqs_54) k) ?_
      obtain ⟨fs, hr, hrun, hended, hW, hsame⟩ := X32.leave (v := some (.int (0 : Int32))) (fun h => by rw [Bd.returns] at h; cases h)
      refine ⟨_, _, retN X32 hx (t := .boolean) Bd.returns (by simp) (hb hby d_rm_eqs_55) hr, hrun, hended, _, _, rfl, ?_, ⟨_, rfl⟩, hW, hsame.mono (by decide) (by decide)⟩
      show Q_rm_eqs Z t1 t2 b1 b2 kb1 kb2 x1 (0 : Int32) x2 (3 : Int32) cs h0 n0 _ T32.heap _
      rw [K32]
      exact ⟨(by rw [own_eqs_ne (by decide)]), N32, rfl⟩
  · skip
    show own_Go p e below (s₁.setTop (mkF m 0 #[.val (.ref t1), .val (.ref t2), .unset] [])) _
    rcases hn2 with rfl | rfl | rfl | rfl
    · skip
      show own_Go p e below (s₁.setTop (mkF m 0 #[.val (.ref t1), .val (.ref t2), .unset] [])) _
      have Vo_b1 : Arv Z h0 b1 kb1 .byte (1 : Int32) [(.int (own_b (own_pk0 x1 &&& (255 : Int32))))] (.int (0 : Int32)) := by have q := Xb1; rw [own_bs_1] at q; exact q
      have lt_Vo_b1 : h0.size > b1 := Vo_b1.lt
      have Vo_b2 : Arv Z h0 b2 kb2 .byte (0 : Int32) [] (.int (0 : Int32)) := by have q := Xb2; rw [own_bs_0] at q; exact q
      have lt_Vo_b2 : h0.size > b2 := Vo_b2.lt
      refine own_by (fun _ k => XS.aloadN X0.here hx rfl (hb hby d_rm_eqs_0) rfl rfl k) ?_
      refine own_by (fun _ k => XS.aloadN X0.here hx rfl (hb hby d_rm_eqs_1) rfl rfl k) ?_
      refine own_by (fun _ k => Jvm.RoadKit.acmp (g := (mkF m 2 #[.val (.ref t1), .val (.ref t2), .unset] [(.ref t2), (.ref t1)])) X0 hx rfl rfl rfl (pc0 := 2) (pc' := 7) (same := false) rfl (hb hby d_rm_eqs_2) rfl (decide_eq_false fun q => nt (Value.ref.inj q)) (by decide) (by decide) k) ?_
      show own_Go p e below (s₁.setTop (mkF m 7 #[.val (.ref t1), .val (.ref t2), .unset] [])) _
      refine own_by (fun _ k => XS.aloadN X0.here hx rfl (hb hby d_rm_eqs_7) rfl rfl k) ?_
      obtain ⟨T33, X33, e33, st33⟩ := instY X0 hx hZ hown (own_w hw 61 rfl) e0 (Ins.self Et2) (g := (mkF m 8 #[.val (.ref t1), .val (.ref t2), .unset] [(.ref t2)])) rfl rfl (hb hby d_rm_eqs_8)
      refine own_by st33 ?_
      refine own_by (fun _ k => XS.ifNo X33.here hx rfl (hb hby d_rm_eqs_11) rfl ((if0 _ _).trans (feq (by decide : ¬ ((1 : Int32) = (0 : Int32)))).1) k) ?_
      show own_Go p e below (T33.setTop (mkF m 14 #[.val (.ref t1), .val (.ref t2), .unset] [])) _
      refine own_by (fun _ k => XS.aloadN X33.here hx rfl (hb hby d_rm_eqs_14) rfl rfl k) ?_
      obtain ⟨T34, X34, e34, st34⟩ := castY X33 hx hZ hown (own_w hw 61 rfl) e33 (Ins.self Et2) (g := (mkF m 15 #[.val (.ref t1), .val (.ref t2), .unset] [(.ref t2)])) rfl rfl (hb hby d_rm_eqs_15)
      refine own_by st34 ?_
      refine own_by (fun _ k => XS.astoreN X34.here hx rfl (hb hby d_rm_eqs_18) rfl rfl (l' := #[.val (.ref t1), .val (.ref t2), .val (.ref t2)]) rfl k) ?_
      obtain ⟨T35, X35, e35, st35⟩ := getS2 X34 hx hZ hown (host := "") (Or.inl (own_w hw 21 rfl)) Via.refl e34 (S_COMPACT.ext O0.2) (g := (mkF m 19 #[.val (.ref t1), .val (.ref t2), .val (.ref t2)] [])) rfl (hb hby d_rm_eqs_19)
      refine own_by st35 ?_
      show own_Go p e below (T35.setTop (mkF m 22 #[.val (.ref t1), .val (.ref t2), .val (.ref t2)] [(.int cs)])) _
      refine own_by (fun _ k => XS.ifNo X35.here hx rfl (hb hby d_rm_eqs_22) rfl ((if0 _ _).trans (feq hcs).1) k) ?_
      show own_Go p e below (T35.setTop (mkF m 25 #[.val (.ref t1), .val (.ref t2), .val (.ref t2)] [])) _
      refine own_by (fun _ k => XS.aloadN X35.here hx rfl (hb hby d_rm_eqs_25) rfl rfl k) ?_
      obtain ⟨T36, X36, e36, st36⟩ := getF X35 hx hZ hown (host := "") (Or.inl (own_w hw 33 rfl)) Via.refl e35 Fc1 (g := (mkF m 26 #[.val (.ref t1), .val (.ref t2), .val (.ref t2)] [(.ref t1)])) rfl rfl (hb hby d_rm_eqs_26)
      refine own_by st36 ?_
      refine own_by (fun _ k => XS.aloadN X36.here hx rfl (hb hby d_rm_eqs_29) rfl rfl k) ?_
      obtain ⟨T37, X37, e37, st37⟩ := getF X36 hx hZ hown (host := "") (Or.inl (own_w hw 33 rfl)) Via.refl e36 Fc2 (g := (mkF m 30 #[.val (.ref t1), .val (.ref t2), .val (.ref t2)] [(.ref t2), (.int (0 : Int32))])) rfl rfl (hb hby d_rm_eqs_30)
      refine own_by st37 ?_
      show own_Go p e below (T37.setTop (mkF m 33 #[.val (.ref t1), .val (.ref t2), .val (.ref t2)] [(.int (0 : Int32)), (.int (0 : Int32))])) _
      refine own_by (fun _ k => XS.icmpNo X37.here hx rfl (hb hby d_rm_eqs_33) rfl (teq (by decide : (0 : Int32) = (0 : Int32))).2 k) ?_
      show own_Go p e below (T37.setTop (mkF m 36 #[.val (.ref t1), .val (.ref t2), .val (.ref t2)] [])) _
      refine own_by (fun _ k => XS.aloadN X37.here hx rfl (hb hby d_rm_eqs_36) rfl rfl k) ?_
      obtain ⟨T38, X38, e38, st38⟩ := getF X37 hx hZ hown (host := "") (Or.inl (own_w hw 35 rfl)) Via.refl e37 Fv1 (g := (mkF m 37 #[.val (.ref t1), .val (.ref t2), .val (.ref t2)] [(.ref t1)])) rfl rfl (hb hby d_rm_eqs_37)
      refine own_by st38 ?_
      refine own_by (fun _ k => XS.aloadN X38.here hx rfl (hb hby d_rm_eqs_40) rfl rfl k) ?_
      obtain ⟨T39, X39, e39, st39⟩ := getF X38 hx hZ hown (host := "") (Or.inl (own_w hw 35 rfl)) Via.refl e38 Fv2 (g := (mkF m 41 #[.val (.ref t1), .val (.ref t2), .val (.ref t2)] [(.ref t2), (.ref b1)])) rfl rfl (hb hby d_rm_eqs_41)
      refine own_by st39 ?_
      show own_Go p e below (T39.setTop (mkF m 44 #[.val (.ref t1), .val (.ref t2), .val (.ref t2)] [(.ref b2), (.ref b1)])) _
      obtain ⟨_, _, ⟨T40, L40, k40, n40⟩, -, X40, ⟨Lc40, hQ40, l40, y40, z40⟩, st40⟩ := Jvm.LawKit.callS X39 hx (y := (⟨"java/lang/StringLatin1", "equals", "([B[B)Z"⟩ : MethodName)) hown (mvT hZ (own_w hw 62 rfl)) (mvT hZ (own_w hw 63 rfl)) (mvT hZ (own_w hw 64 rfl)) (mvT hZ (own_w hw 65 rfl)) (by decide) (backOf (W := 0) (rm_leq_1_0 l Z a0 hw [] b1 b2 kb1 kb2 (own_b (own_pk0 x1 &&& (255 : Int32))) h0 n0 O0 Vo_b1 Vo_b2) hZ (own_w hw 65 rfl) (own_w hw 64 rfl) (by decide) (by decide)) (g := (mkF m 44 #[.val (.ref t1), .val (.ref t2), .val (.ref t2)] [(.ref b2), (.ref b1)])) rfl (by rw [hml]; rfl) (argsL := [(.ref b1), (.ref b2)]) (rest := []) (lenOf own_pd__28_5bB_5bB_29Z rfl) rfl (by show 2 * 0 + _ ≤ _; exact Nat.le_of_eq rfl) (hb hby d_rm_eqs_44) (fun _ _ => ⟨rfl, e39, (by decide : 0 + 0 ≤ _), (by decide : 0 + 0 ≤ _)⟩)
      dsimp only [Pt.U, Pt.locs, Pt.cells, Pt.slots] at X40 l40 y40 z40 st40 hQ40
      subst l40 y40 z40
      obtain ⟨rfl, M40, K40⟩ := hQ40
      have N40 := Fr.app N0 M40
      refine own_by st40 ?_
      refine own_by (fun _ k => XS.ifYes X40.here hx rfl (pc0 := 47) (pc' := 54) rfl (hb hby d_rm_eqs_47) rfl ((if0 _ _).trans (teq (by decide : (0 : Int32) = (0 : Int32))).1) (by decide) (by decide) k) ?_
      show own_Go p e below (T40.setTop (mkF m 54 #[.val (.ref t1), .val (.ref t2), .val (.ref t2)] [])) _
      refine own_by (fun _ k => XS.iconst X40.here hx rfl (hb hby d_rm_eqs_54) k) ?_
      obtain ⟨fs, hr, hrun, hended, hW, hsame⟩ := X40.leave (v := some (.int (0 : Int32))) (fun h => by rw [Bd.returns] at h; cases h)
      refine ⟨_, _, retN X40 hx (t := .boolean) Bd.returns (by simp) (hb hby d_rm_eqs_55) hr, hrun, hended, _, _, rfl, ?_, ⟨_, rfl⟩, hW, hsame.mono (by decide) (by decide)⟩
      show Q_rm_eqs Z t1 t2 b1 b2 kb1 kb2 x1 (1 : Int32) x2 (0 : Int32) cs h0 n0 _ T40.heap _
      rw [K40]
      exact ⟨(by rw [own_eqs_ne (by decide)]), N40, rfl⟩
    · skip
      show own_Go p e below (s₁.setTop (mkF m 0 #[.val (.ref t1), .val (.ref t2), .unset] [])) _
      have Vo_b1 : Arv Z h0 b1 kb1 .byte (1 : Int32) [(.int (own_b (own_pk0 x1 &&& (255 : Int32))))] (.int (0 : Int32)) := by have q := Xb1; rw [own_bs_1] at q; exact q
      have lt_Vo_b1 : h0.size > b1 := Vo_b1.lt
      have Vo_b2 : Arv Z h0 b2 kb2 .byte (1 : Int32) [(.int (own_b (own_pk0 x2 &&& (255 : Int32))))] (.int (0 : Int32)) := by have q := Xb2; rw [own_bs_1] at q; exact q
      have lt_Vo_b2 : h0.size > b2 := Vo_b2.lt
      refine own_by (fun _ k => XS.aloadN X0.here hx rfl (hb hby d_rm_eqs_0) rfl rfl k) ?_
      refine own_by (fun _ k => XS.aloadN X0.here hx rfl (hb hby d_rm_eqs_1) rfl rfl k) ?_
      refine own_by (fun _ k => Jvm.RoadKit.acmp (g := (mkF m 2 #[.val (.ref t1), .val (.ref t2), .unset] [(.ref t2), (.ref t1)])) X0 hx rfl rfl rfl (pc0 := 2) (pc' := 7) (same := false) rfl (hb hby d_rm_eqs_2) rfl (decide_eq_false fun q => nt (Value.ref.inj q)) (by decide) (by decide) k) ?_
      show own_Go p e below (s₁.setTop (mkF m 7 #[.val (.ref t1), .val (.ref t2), .unset] [])) _
      refine own_by (fun _ k => XS.aloadN X0.here hx rfl (hb hby d_rm_eqs_7) rfl rfl k) ?_
      obtain ⟨T41, X41, e41, st41⟩ := instY X0 hx hZ hown (own_w hw 61 rfl) e0 (Ins.self Et2) (g := (mkF m 8 #[.val (.ref t1), .val (.ref t2), .unset] [(.ref t2)])) rfl rfl (hb hby d_rm_eqs_8)
      refine own_by st41 ?_
      refine own_by (fun _ k => XS.ifNo X41.here hx rfl (hb hby d_rm_eqs_11) rfl ((if0 _ _).trans (feq (by decide : ¬ ((1 : Int32) = (0 : Int32)))).1) k) ?_
      show own_Go p e below (T41.setTop (mkF m 14 #[.val (.ref t1), .val (.ref t2), .unset] [])) _
      refine own_by (fun _ k => XS.aloadN X41.here hx rfl (hb hby d_rm_eqs_14) rfl rfl k) ?_
      obtain ⟨T42, X42, e42, st42⟩ := castY X41 hx hZ hown (own_w hw 61 rfl) e41 (Ins.self Et2) (g := (mkF m 15 #[.val (.ref t1), .val (.ref t2), .unset] [(.ref t2)])) rfl rfl (hb hby d_rm_eqs_15)
      refine own_by st42 ?_
      refine own_by (fun _ k => XS.astoreN X42.here hx rfl (hb hby d_rm_eqs_18) rfl rfl (l' := #[.val (.ref t1), .val (.ref t2), .val (.ref t2)]) rfl k) ?_
      obtain ⟨T43, X43, e43, st43⟩ := getS2 X42 hx hZ hown (host := "") (Or.inl (own_w hw 21 rfl)) Via.refl e42 (S_COMPACT.ext O0.2) (g := (mkF m 19 #[.val (.ref t1), .val (.ref t2), .val (.ref t2)] [])) rfl (hb hby d_rm_eqs_19)
      refine own_by st43 ?_
      show own_Go p e below (T43.setTop (mkF m 22 #[.val (.ref t1), .val (.ref t2), .val (.ref t2)] [(.int cs)])) _
      refine own_by (fun _ k => XS.ifNo X43.here hx rfl (hb hby d_rm_eqs_22) rfl ((if0 _ _).trans (feq hcs).1) k) ?_
      show own_Go p e below (T43.setTop (mkF m 25 #[.val (.ref t1), .val (.ref t2), .val (.ref t2)] [])) _
      refine own_by (fun _ k => XS.aloadN X43.here hx rfl (hb hby d_rm_eqs_25) rfl rfl k) ?_
      obtain ⟨T44, X44, e44, st44⟩ := getF X43 hx hZ hown (host := "") (Or.inl (own_w hw 33 rfl)) Via.refl e43 Fc1 (g := (mkF m 26 #[.val (.ref t1), .val (.ref t2), .val (.ref t2)] [(.ref t1)])) rfl rfl (hb hby d_rm_eqs_26)
      refine own_by st44 ?_
      refine own_by (fun _ k => XS.aloadN X44.here hx rfl (hb hby d_rm_eqs_29) rfl rfl k) ?_
      obtain ⟨T45, X45, e45, st45⟩ := getF X44 hx hZ hown (host := "") (Or.inl (own_w hw 33 rfl)) Via.refl e44 Fc2 (g := (mkF m 30 #[.val (.ref t1), .val (.ref t2), .val (.ref t2)] [(.ref t2), (.int (0 : Int32))])) rfl rfl (hb hby d_rm_eqs_30)
      refine own_by st45 ?_
      show own_Go p e below (T45.setTop (mkF m 33 #[.val (.ref t1), .val (.ref t2), .val (.ref t2)] [(.int (0 : Int32)), (.int (0 : Int32))])) _
      refine own_by (fun _ k => XS.icmpNo X45.here hx rfl (hb hby d_rm_eqs_33) rfl (teq (by decide : (0 : Int32) = (0 : Int32))).2 k) ?_
      show own_Go p e below (T45.setTop (mkF m 36 #[.val (.ref t1), .val (.ref t2), .val (.ref t2)] [])) _
      refine own_by (fun _ k => XS.aloadN X45.here hx rfl (hb hby d_rm_eqs_36) rfl rfl k) ?_
      obtain ⟨T46, X46, e46, st46⟩ := getF X45 hx hZ hown (host := "") (Or.inl (own_w hw 35 rfl)) Via.refl e45 Fv1 (g := (mkF m 37 #[.val (.ref t1), .val (.ref t2), .val (.ref t2)] [(.ref t1)])) rfl rfl (hb hby d_rm_eqs_37)
      refine own_by st46 ?_
      refine own_by (fun _ k => XS.aloadN X46.here hx rfl (hb hby d_rm_eqs_40) rfl rfl k) ?_
      obtain ⟨T47, X47, e47, st47⟩ := getF X46 hx hZ hown (host := "") (Or.inl (own_w hw 35 rfl)) Via.refl e46 Fv2 (g := (mkF m 41 #[.val (.ref t1), .val (.ref t2), .val (.ref t2)] [(.ref t2), (.ref b1)])) rfl rfl (hb hby d_rm_eqs_41)
      refine own_by st47 ?_
      show own_Go p e below (T47.setTop (mkF m 44 #[.val (.ref t1), .val (.ref t2), .val (.ref t2)] [(.ref b2), (.ref b1)])) _
      obtain ⟨_, _, ⟨T48, L48, k48, n48⟩, -, X48, ⟨Lc48, hQ48, l48, y48, z48⟩, st48⟩ := Jvm.LawKit.callS X47 hx (y := (⟨"java/lang/StringLatin1", "equals", "([B[B)Z"⟩ : MethodName)) hown (mvT hZ (own_w hw 62 rfl)) (mvT hZ (own_w hw 63 rfl)) (mvT hZ (own_w hw 64 rfl)) (mvT hZ (own_w hw 65 rfl)) (by decide) (backOf (W := 0) (rm_leq_1_1 l Z a0 hw [] b1 b2 kb1 kb2 (own_b (own_pk0 x1 &&& (255 : Int32))) (own_b (own_pk0 x2 &&& (255 : Int32))) h0 n0 O0 Vo_b1 Vo_b2) hZ (own_w hw 65 rfl) (own_w hw 64 rfl) (by decide) (by decide)) (g := (mkF m 44 #[.val (.ref t1), .val (.ref t2), .val (.ref t2)] [(.ref b2), (.ref b1)])) rfl (by rw [hml]; rfl) (argsL := [(.ref b1), (.ref b2)]) (rest := []) (lenOf own_pd__28_5bB_5bB_29Z rfl) rfl (by show 2 * 0 + _ ≤ _; exact Nat.le_of_eq rfl) (hb hby d_rm_eqs_44) (fun _ _ => ⟨rfl, e47, (by decide : 0 + 0 ≤ _), (by decide : 0 + 0 ≤ _)⟩)
      dsimp only [Pt.U, Pt.locs, Pt.cells, Pt.slots] at X48 l48 y48 z48 st48 hQ48
      subst l48 y48 z48
      obtain ⟨rfl, M48, K48⟩ := hQ48
      have N48 := Fr.app N0 M48
      refine own_by st48 ?_
      by_cases hc49 : (own_all [((own_b (own_pk0 x1 &&& (255 : Int32))), (own_b (own_pk0 x2 &&& (255 : Int32))))]) = (0 : Int32)
      · skip
        refine own_by (fun _ k => XS.ifYes X48.here hx rfl (pc0 := 47) (pc' := 54) rfl (hb hby d_rm_eqs_47) rfl ((if0 _ _).trans (teq hc49).1) (by decide) (by decide) k) ?_
        show own_Go p e below (T48.setTop (mkF m 54 #[.val (.ref t1), .val (.ref t2), .val (.ref t2)] [])) _
        refine own_by (fun _ k => XS.iconst X48.here hx rfl (hb hby d_rm_eqs_54) k) ?_
        obtain ⟨fs, hr, hrun, hended, hW, hsame⟩ := X48.leave (v := some (.int (0 : Int32))) (fun h => by rw [Bd.returns] at h; cases h)
        refine ⟨_, _, retN X48 hx (t := .boolean) Bd.returns (by simp) (hb hby d_rm_eqs_55) hr, hrun, hended, _, _, rfl, ?_, ⟨_, rfl⟩, hW, hsame.mono (by decide) (by decide)⟩
        show Q_rm_eqs Z t1 t2 b1 b2 kb1 kb2 x1 (1 : Int32) x2 (1 : Int32) cs h0 n0 _ T48.heap _
        rw [K48]
        exact ⟨(by rw [own_eqs_eq rfl, own_pre_1]; exact own_all_ret0 hc49), N48, rfl⟩
      · skip
        refine own_by (fun _ k => XS.ifNo X48.here hx rfl (hb hby d_rm_eqs_47) rfl ((if0 _ _).trans (feq hc49).1) k) ?_
        show own_Go p e below (T48.setTop (mkF m 50 #[.val (.ref t1), .val (.ref t2), .val (.ref t2)] [])) _
        refine own_by (fun _ k => XS.iconst X48.here hx rfl (hb hby d_rm_eqs_50) k) ?_
        refine own_by (fun _ k => XS.goto X48.here hx rfl (pc0 := 51) (pc' := 55) rfl (hb hby d_rm_eqs_51) (by decide) (by decide) k) ?_
        obtain ⟨fs, hr, hrun, hended, hW, hsame⟩ := X48.leave (v := some (.int (1 : Int32))) (fun h => by rw [Bd.returns] at h; cases h)
        refine ⟨_, _, retN X48 hx (t := .boolean) Bd.returns (by simp) (hb hby d_rm_eqs_55) hr, hrun, hended, _, _, rfl, ?_, ⟨_, rfl⟩, hW, hsame.mono (by decide) (by decide)⟩
        show Q_rm_eqs Z t1 t2 b1 b2 kb1 kb2 x1 (1 : Int32) x2 (1 : Int32) cs h0 n0 _ T48.heap _
        rw [K48]
        exact ⟨(by rw [own_eqs_eq rfl, own_pre_1]; exact own_all_ret1 hc49), N48, rfl⟩
    · skip
      show own_Go p e below (s₁.setTop (mkF m 0 #[.val (.ref t1), .val (.ref t2), .unset] [])) _
      have Vo_b1 : Arv Z h0 b1 kb1 .byte (1 : Int32) [(.int (own_b (own_pk0 x1 &&& (255 : Int32))))] (.int (0 : Int32)) := by have q := Xb1; rw [own_bs_1] at q; exact q
      have lt_Vo_b1 : h0.size > b1 := Vo_b1.lt
      have Vo_b2 : Arv Z h0 b2 kb2 .byte (2 : Int32) [(.int (own_b (own_pk0 x2 &&& (255 : Int32)))), (.int (own_b (own_pk1 x2 &&& (255 : Int32))))] (.int (0 : Int32)) := by have q := Xb2; rw [own_bs_2] at q; exact q
      have lt_Vo_b2 : h0.size > b2 := Vo_b2.lt
      refine own_by (fun _ k => XS.aloadN X0.here hx rfl (hb hby d_rm_eqs_0) rfl rfl k) ?_
      refine own_by (fun _ k => XS.aloadN X0.here hx rfl (hb hby d_rm_eqs_1) rfl rfl k) ?_
      refine own_by (fun _ k => Jvm.RoadKit.acmp (g := (mkF m 2 #[.val (.ref t1), .val (.ref t2), .unset] [(.ref t2), (.ref t1)])) X0 hx rfl rfl rfl (pc0 := 2) (pc' := 7) (same := false) rfl (hb hby d_rm_eqs_2) rfl (decide_eq_false fun q => nt (Value.ref.inj q)) (by decide) (by decide) k) ?_
      show own_Go p e below (s₁.setTop (mkF m 7 #[.val (.ref t1), .val (.ref t2), .unset] [])) _
      refine own_by (fun _ k => XS.aloadN X0.here hx rfl (hb hby d_rm_eqs_7) rfl rfl k) ?_
      obtain ⟨T50, X50, e50, st50⟩ := instY X0 hx hZ hown (own_w hw 61 rfl) e0 (Ins.self Et2) (g := (mkF m 8 #[.val (.ref t1), .val (.ref t2), .unset] [(.ref t2)])) rfl rfl (hb hby d_rm_eqs_8)
      refine own_by st50 ?_
      refine own_by (fun _ k => XS.ifNo X50.here hx rfl (hb hby d_rm_eqs_11) rfl ((if0 _ _).trans (feq (by decide : ¬ ((1 : Int32) = (0 : Int32)))).1) k) ?_
      show own_Go p e below (T50.setTop (mkF m 14 #[.val (.ref t1), .val (.ref t2), .unset] [])) _
      refine own_by (fun _ k => XS.aloadN X50.here hx rfl (hb hby d_rm_eqs_14) rfl rfl k) ?_
      obtain ⟨T51, X51, e51, st51⟩ := castY X50 hx hZ hown (own_w hw 61 rfl) e50 (Ins.self Et2) (g := (mkF m 15 #[.val (.ref t1), .val (.ref t2), .unset] [(.ref t2)])) rfl rfl (hb hby d_rm_eqs_15)
      refine own_by st51 ?_
      refine own_by (fun _ k => XS.astoreN X51.here hx rfl (hb hby d_rm_eqs_18) rfl rfl (l' := #[.val (.ref t1), .val (.ref t2), .val (.ref t2)]) rfl k) ?_
      obtain ⟨T52, X52, e52, st52⟩ := getS2 X51 hx hZ hown (host := "") (Or.inl (own_w hw 21 rfl)) Via.refl e51 (S_COMPACT.ext O0.2) (g := (mkF m 19 #[.val (.ref t1), .val (.ref t2), .val (.ref t2)] [])) rfl (hb hby d_rm_eqs_19)
      refine own_by st52 ?_
      show own_Go p e below (T52.setTop (mkF m 22 #[.val (.ref t1), .val (.ref t2), .val (.ref t2)] [(.int cs)])) _
      refine own_by (fun _ k => XS.ifNo X52.here hx rfl (hb hby d_rm_eqs_22) rfl ((if0 _ _).trans (feq hcs).1) k) ?_
      show own_Go p e below (T52.setTop (mkF m 25 #[.val (.ref t1), .val (.ref t2), .val (.ref t2)] [])) _
      refine own_by (fun _ k => XS.aloadN X52.here hx rfl (hb hby d_rm_eqs_25) rfl rfl k) ?_
      obtain ⟨T53, X53, e53, st53⟩ := getF X52 hx hZ hown (host := "") (Or.inl (own_w hw 33 rfl)) Via.refl e52 Fc1 (g := (mkF m 26 #[.val (.ref t1), .val (.ref t2), .val (.ref t2)] [(.ref t1)])) rfl rfl (hb hby d_rm_eqs_26)
      refine own_by st53 ?_
      refine own_by (fun _ k => XS.aloadN X53.here hx rfl (hb hby d_rm_eqs_29) rfl rfl k) ?_
      obtain ⟨T54, X54, e54, st54⟩ := getF X53 hx hZ hown (host := "") (Or.inl (own_w hw 33 rfl)) Via.refl e53 Fc2 (g := (mkF m 30 #[.val (.ref t1), .val (.ref t2), .val (.ref t2)] [(.ref t2), (.int (0 : Int32))])) rfl rfl (hb hby d_rm_eqs_30)
      refine own_by st54 ?_
      show own_Go p e below (T54.setTop (mkF m 33 #[.val (.ref t1), .val (.ref t2), .val (.ref t2)] [(.int (0 : Int32)), (.int (0 : Int32))])) _
      refine own_by (fun _ k => XS.icmpNo X54.here hx rfl (hb hby d_rm_eqs_33) rfl (teq (by decide : (0 : Int32) = (0 : Int32))).2 k) ?_
      show own_Go p e below (T54.setTop (mkF m 36 #[.val (.ref t1), .val (.ref t2), .val (.ref t2)] [])) _
      refine own_by (fun _ k => XS.aloadN X54.here hx rfl (hb hby d_rm_eqs_36) rfl rfl k) ?_
      obtain ⟨T55, X55, e55, st55⟩ := getF X54 hx hZ hown (host := "") (Or.inl (own_w hw 35 rfl)) Via.refl e54 Fv1 (g := (mkF m 37 #[.val (.ref t1), .val (.ref t2), .val (.ref t2)] [(.ref t1)])) rfl rfl (hb hby d_rm_eqs_37)
      refine own_by st55 ?_
      refine own_by (fun _ k => XS.aloadN X55.here hx rfl (hb hby d_rm_eqs_40) rfl rfl k) ?_
      obtain ⟨T56, X56, e56, st56⟩ := getF X55 hx hZ hown (host := "") (Or.inl (own_w hw 35 rfl)) Via.refl e55 Fv2 (g := (mkF m 41 #[.val (.ref t1), .val (.ref t2), .val (.ref t2)] [(.ref t2), (.ref b1)])) rfl rfl (hb hby d_rm_eqs_41)
      refine own_by st56 ?_
      show own_Go p e below (T56.setTop (mkF m 44 #[.val (.ref t1), .val (.ref t2), .val (.ref t2)] [(.ref b2), (.ref b1)])) _
      obtain ⟨_, _, ⟨T57, L57, k57, n57⟩, -, X57, ⟨Lc57, hQ57, l57, y57, z57⟩, st57⟩ := Jvm.LawKit.callS X56 hx (y := (⟨"java/lang/StringLatin1", "equals", "([B[B)Z"⟩ : MethodName)) hown (mvT hZ (own_w hw 62 rfl)) (mvT hZ (own_w hw 63 rfl)) (mvT hZ (own_w hw 64 rfl)) (mvT hZ (own_w hw 65 rfl)) (by decide) (backOf (W := 0) (rm_leq_1_2 l Z a0 hw [] b1 b2 kb1 kb2 (own_b (own_pk0 x1 &&& (255 : Int32))) (own_b (own_pk0 x2 &&& (255 : Int32))) (own_b (own_pk1 x2 &&& (255 : Int32))) h0 n0 O0 Vo_b1 Vo_b2) hZ (own_w hw 65 rfl) (own_w hw 64 rfl) (by decide) (by decide)) (g := (mkF m 44 #[.val (.ref t1), .val (.ref t2), .val (.ref t2)] [(.ref b2), (.ref b1)])) rfl (by rw [hml]; rfl) (argsL := [(.ref b1), (.ref b2)]) (rest := []) (lenOf own_pd__28_5bB_5bB_29Z rfl) rfl (by show 2 * 0 + _ ≤ _; exact Nat.le_of_eq rfl) (hb hby d_rm_eqs_44) (fun _ _ => ⟨rfl, e56, (by decide : 0 + 0 ≤ _), (by decide : 0 + 0 ≤ _)⟩)
      dsimp only [Pt.U, Pt.locs, Pt.cells, Pt.slots] at X57 l57 y57 z57 st57 hQ57
      subst l57 y57 z57
      obtain ⟨rfl, M57, K57⟩ := hQ57
      have N57 := Fr.app N0 M57
      refine own_by st57 ?_
      refine own_by (fun _ k => XS.ifYes X57.here hx rfl (pc0 := 47) (pc' := 54) rfl (hb hby d_rm_eqs_47) rfl ((if0 _ _).trans (teq (by decide : (0 : Int32) = (0 : Int32))).1) (by decide) (by decide) k) ?_
      show own_Go p e below (T57.setTop (mkF m 54 #[.val (.ref t1), .val (.ref t2), .val (.ref t2)] [])) _
      refine own_by (fun _ k => XS.iconst X57.here hx rfl (hb hby d_rm_eqs_54) k) ?_
      obtain ⟨fs, hr, hrun, hended, hW, hsame⟩ := X57.leave (v := some (.int (0 : Int32))) (fun h => by rw [Bd.returns] at h; cases h)
      refine ⟨_, _, retN X57 hx (t := .boolean) Bd.returns (by simp) (hb hby d_rm_eqs_55) hr, hrun, hended, _, _, rfl, ?_, ⟨_, rfl⟩, hW, hsame.mono (by decide) (by decide)⟩
      show Q_rm_eqs Z t1 t2 b1 b2 kb1 kb2 x1 (1 : Int32) x2 (2 : Int32) cs h0 n0 _ T57.heap _
      rw [K57]
      exact ⟨(by rw [own_eqs_ne (by decide)]), N57, rfl⟩
    · skip
      show own_Go p e below (s₁.setTop (mkF m 0 #[.val (.ref t1), .val (.ref t2), .unset] [])) _
      have Vo_b1 : Arv Z h0 b1 kb1 .byte (1 : Int32) [(.int (own_b (own_pk0 x1 &&& (255 : Int32))))] (.int (0 : Int32)) := by have q := Xb1; rw [own_bs_1] at q; exact q
      have lt_Vo_b1 : h0.size > b1 := Vo_b1.lt
      have Vo_b2 : Arv Z h0 b2 kb2 .byte (3 : Int32) [(.int (own_b (own_pk0 x2 &&& (255 : Int32)))), (.int (own_b (own_pk1 x2 &&& (255 : Int32)))), (.int (own_b (own_pk2 x2 &&& (255 : Int32))))] (.int (0 : Int32)) := by have q := Xb2; rw [own_bs_3] at q; exact q
      have lt_Vo_b2 : h0.size > b2 := Vo_b2.lt
      refine own_by (fun _ k => XS.aloadN X0.here hx rfl (hb hby d_rm_eqs_0) rfl rfl k) ?_
      refine own_by (fun _ k => XS.aloadN X0.here hx rfl (hb hby d_rm_eqs_1) rfl rfl k) ?_
      refine own_by (fun _ k => Jvm.RoadKit.acmp (g := (mkF m 2 #[.val (.ref t1), .val (.ref t2), .unset] [(.ref t2), (.ref t1)])) X0 hx rfl rfl rfl (pc0 := 2) (pc' := 7) (same := false) rfl (hb hby d_rm_eqs_2) rfl (decide_eq_false fun q => nt (Value.ref.inj q)) (by decide) (by decide) k) ?_
      show own_Go p e below (s₁.setTop (mkF m 7 #[.val (.ref t1), .val (.ref t2), .unset] [])) _
      refine own_by (fun _ k => XS.aloadN X0.here hx rfl (hb hby d_rm_eqs_7) rfl rfl k) ?_
      obtain ⟨T58, X58, e58, st58⟩ := instY X0 hx hZ hown (own_w hw 61 rfl) e0 (Ins.self Et2) (g := (mkF m 8 #[.val (.ref t1), .val (.ref t2), .unset] [(.ref t2)])) rfl rfl (hb hby d_rm_eqs_8)
      refine own_by st58 ?_
      refine own_by (fun _ k => XS.ifNo X58.here hx rfl (hb hby d_rm_eqs_11) rfl ((if0 _ _).trans (feq (by decide : ¬ ((1 : Int32) = (0 : Int32)))).1) k) ?_
      show own_Go p e below (T58.setTop (mkF m 14 #[.val (.ref t1), .val (.ref t2), .unset] [])) _
      refine own_by (fun _ k => XS.aloadN X58.here hx rfl (hb hby d_rm_eqs_14) rfl rfl k) ?_
      obtain ⟨T59, X59, e59, st59⟩ := castY X58 hx hZ hown (own_w hw 61 rfl) e58 (Ins.self Et2) (g := (mkF m 15 #[.val (.ref t1), .val (.ref t2), .unset] [(.ref t2)])) rfl rfl (hb hby d_rm_eqs_15)
      refine own_by st59 ?_
      refine own_by (fun _ k => XS.astoreN X59.here hx rfl (hb hby d_rm_eqs_18) rfl rfl (l' := #[.val (.ref t1), .val (.ref t2), .val (.ref t2)]) rfl k) ?_
      obtain ⟨T60, X60, e60, st60⟩ := getS2 X59 hx hZ hown (host := "") (Or.inl (own_w hw 21 rfl)) Via.refl e59 (S_COMPACT.ext O0.2) (g := (mkF m 19 #[.val (.ref t1), .val (.ref t2), .val (.ref t2)] [])) rfl (hb hby d_rm_eqs_19)
      refine own_by st60 ?_
      show own_Go p e below (T60.setTop (mkF m 22 #[.val (.ref t1), .val (.ref t2), .val (.ref t2)] [(.int cs)])) _
      refine own_by (fun _ k => XS.ifNo X60.here hx rfl (hb hby d_rm_eqs_22) rfl ((if0 _ _).trans (feq hcs).1) k) ?_
      show own_Go p e below (T60.setTop (mkF m 25 #[.val (.ref t1), .val (.ref t2), .val (.ref t2)] [])) _
      refine own_by (fun _ k => XS.aloadN X60.here hx rfl (hb hby d_rm_eqs_25) rfl rfl k) ?_
      obtain ⟨T61, X61, e61, st61⟩ := getF X60 hx hZ hown (host := "") (Or.inl (own_w hw 33 rfl)) Via.refl e60 Fc1 (g := (mkF m 26 #[.val (.ref t1), .val (.ref t2), .val (.ref t2)] [(.ref t1)])) rfl rfl (hb hby d_rm_eqs_26)
      refine own_by st61 ?_
      refine own_by (fun _ k => XS.aloadN X61.here hx rfl (hb hby d_rm_eqs_29) rfl rfl k) ?_
      obtain ⟨T62, X62, e62, st62⟩ := getF X61 hx hZ hown (host := "") (Or.inl (own_w hw 33 rfl)) Via.refl e61 Fc2 (g := (mkF m 30 #[.val (.ref t1), .val (.ref t2), .val (.ref t2)] [(.ref t2), (.int (0 : Int32))])) rfl rfl (hb hby d_rm_eqs_30)
      refine own_by st62 ?_
      show own_Go p e below (T62.setTop (mkF m 33 #[.val (.ref t1), .val (.ref t2), .val (.ref t2)] [(.int (0 : Int32)), (.int (0 : Int32))])) _
      refine own_by (fun _ k => XS.icmpNo X62.here hx rfl (hb hby d_rm_eqs_33) rfl (teq (by decide : (0 : Int32) = (0 : Int32))).2 k) ?_
      show own_Go p e below (T62.setTop (mkF m 36 #[.val (.ref t1), .val (.ref t2), .val (.ref t2)] [])) _
      refine own_by (fun _ k => XS.aloadN X62.here hx rfl (hb hby d_rm_eqs_36) rfl rfl k) ?_
      obtain ⟨T63, X63, e63, st63⟩ := getF X62 hx hZ hown (host := "") (Or.inl (own_w hw 35 rfl)) Via.refl e62 Fv1 (g := (mkF m 37 #[.val (.ref t1), .val (.ref t2), .val (.ref t2)] [(.ref t1)])) rfl rfl (hb hby d_rm_eqs_37)
      refine own_by st63 ?_
      refine own_by (fun _ k => XS.aloadN X63.here hx rfl (hb hby d_rm_eqs_40) rfl rfl k) ?_
      obtain ⟨T64, X64, e64, st64⟩ := getF X63 hx hZ hown (host := "") (Or.inl (own_w hw 35 rfl)) Via.refl e63 Fv2 (g := (mkF m 41 #[.val (.ref t1), .val (.ref t2), .val (.ref t2)] [(.ref t2), (.ref b1)])) rfl rfl (hb hby d_rm_eqs_41)
      refine own_by st64 ?_
      show own_Go p e below (T64.setTop (mkF m 44 #[.val (.ref t1), .val (.ref t2), .val (.ref t2)] [(.ref b2), (.ref b1)])) _
      obtain ⟨_, _, ⟨T65, L65, k65, n65⟩, -, X65, ⟨Lc65, hQ65, l65, y65, z65⟩, st65⟩ := Jvm.LawKit.callS X64 hx (y := (⟨"java/lang/StringLatin1", "equals", "([B[B)Z"⟩ : MethodName)) hown (mvT hZ (own_w hw 62 rfl)) (mvT hZ (own_w hw 63 rfl)) (mvT hZ (own_w hw 64 rfl)) (mvT hZ (own_w hw 65 rfl)) (by decide) (backOf (W := 0) (rm_leq_1_3 l Z a0 hw [] b1 b2 kb1 kb2 (own_b (own_pk0 x1 &&& (255 : Int32))) (own_b (own_pk0 x2 &&& (255 : Int32))) (own_b (own_pk1 x2 &&& (255 : Int32))) (own_b (own_pk2 x2 &&& (255 : Int32))) h0 n0 O0 Vo_b1 Vo_b2) hZ (own_w hw 65 rfl) (own_w hw 64 rfl) (by decide) (by decide)) (g := (mkF m 44 #[.val (.ref t1), .val (.ref t2), .val (.ref t2)] [(.ref b2), (.ref b1)])) rfl (by rw [hml]; rfl) (argsL := [(.ref b1), (.ref b2)]) (rest := []) (lenOf own_pd__28_5bB_5bB_29Z rfl) rfl (by show 2 * 0 + _ ≤ _; exact Nat.le_of_eq rfl) (hb hby d_rm_eqs_44) (fun _ _ => ⟨rfl, e64, (by decide : 0 + 0 ≤ _), (by decide : 0 + 0 ≤ _)⟩)
      dsimp only [Pt.U, Pt.locs, Pt.cells, Pt.slots] at X65 l65 y65 z65 st65 hQ65
      subst l65 y65 z65
      obtain ⟨rfl, M65, K65⟩ := hQ65
      have N65 := Fr.app N0 M65
      refine own_by st65 ?_
      refine own_by (fun _ k => XS.ifYes X65.here hx rfl (pc0 := 47) (pc' := 54) rfl (hb hby d_rm_eqs_47) rfl ((if0 _ _).trans (teq (by decide : (0 : Int32) = (0 : Int32))).1) (by decide) (by decide) k) ?_
      show own_Go p e below (T65.setTop (mkF m 54 #[.val (.ref t1), .val (.ref t2), .val (.ref t2)] [])) _
      refine own_by (fun _ k => XS.iconst X65.here hx rfl (hb hby d_rm_eqs_54) k) ?_
      obtain ⟨fs, hr, hrun, hended, hW, hsame⟩ := X65.leave (v := some (.int (0 : Int32))) (fun h => by rw [Bd.returns] at h; cases h)
      refine ⟨_, _, retN X65 hx (t := .boolean) Bd.returns (by simp) (hb hby d_rm_eqs_55) hr, hrun, hended, _, _, rfl, ?_, ⟨_, rfl⟩, hW, hsame.mono (by decide) (by decide)⟩
      show Q_rm_eqs Z t1 t2 b1 b2 kb1 kb2 x1 (1 : Int32) x2 (3 : Int32) cs h0 n0 _ T65.heap _
      rw [K65]
      exact ⟨(by rw [own_eqs_ne (by decide)]), N65, rfl⟩
  · skip
    show own_Go p e below (s₁.setTop (mkF m 0 #[.val (.ref t1), .val (.ref t2), .unset] [])) _
    rcases hn2 with rfl | rfl | rfl | rfl
    · skip
      show own_Go p e below (s₁.setTop (mkF m 0 #[.val (.ref t1), .val (.ref t2), .unset] [])) _
      have Vo_b1 : Arv Z h0 b1 kb1 .byte (2 : Int32) [(.int (own_b (own_pk0 x1 &&& (255 : Int32)))), (.int (own_b (own_pk1 x1 &&& (255 : Int32))))] (.int (0 : Int32)) := by have q := Xb1; rw [own_bs_2] at q; exact q
      have lt_Vo_b1 : h0.size > b1 := Vo_b1.lt
      have Vo_b2 : Arv Z h0 b2 kb2 .byte (0 : Int32) [] (.int (0 : Int32)) := by have q := Xb2; rw [own_bs_0] at q; exact q
      have lt_Vo_b2 : h0.size > b2 := Vo_b2.lt
      refine own_by (fun _ k => XS.aloadN X0.here hx rfl (hb hby d_rm_eqs_0) rfl rfl k) ?_
      refine own_by (fun _ k => XS.aloadN X0.here hx rfl (hb hby d_rm_eqs_1) rfl rfl k) ?_
      refine own_by (fun _ k => Jvm.RoadKit.acmp (g := (mkF m 2 #[.val (.ref t1), .val (.ref t2), .unset] [(.ref t2), (.ref t1)])) X0 hx rfl rfl rfl (pc0 := 2) (pc' := 7) (same := false) rfl (hb hby d_rm_eqs_2) rfl (decide_eq_false fun q => nt (Value.ref.inj q)) (by decide) (by decide) k) ?_
      show own_Go p e below (s₁.setTop (mkF m 7 #[.val (.ref t1), .val (.ref t2), .unset] [])) _
      refine own_by (fun _ k => XS.aloadN X0.here hx rfl (hb hby d_rm_eqs_7) rfl rfl k) ?_
      obtain ⟨T66, X66, e66, st66⟩ := instY X0 hx hZ hown (own_w hw 61 rfl) e0 (Ins.self Et2) (g := (mkF m 8 #[.val (.ref t1), .val (.ref t2), .unset] [(.ref t2)])) rfl rfl (hb hby d_rm_eqs_8)
      refine own_by st66 ?_
      refine own_by (fun _ k => XS.ifNo X66.here hx rfl (hb hby d_rm_eqs_11) rfl ((if0 _ _).trans (feq (by decide : ¬ ((1 : Int32) = (0 : Int32)))).1) k) ?_
      show own_Go p e below (T66.setTop (mkF m 14 #[.val (.ref t1), .val (.ref t2), .unset] [])) _
      refine own_by (fun _ k => XS.aloadN X66.here hx rfl (hb hby d_rm_eqs_14) rfl rfl k) ?_
      obtain ⟨T67, X67, e67, st67⟩ := castY X66 hx hZ hown (own_w hw 61 rfl) e66 (Ins.self Et2) (g := (mkF m 15 #[.val (.ref t1), .val (.ref t2), .unset] [(.ref t2)])) rfl rfl (hb hby d_rm_eqs_15)
      refine own_by st67 ?_
      refine own_by (fun _ k => XS.astoreN X67.here hx rfl (hb hby d_rm_eqs_18) rfl rfl (l' := #[.val (.ref t1), .val (.ref t2), .val (.ref t2)]) rfl k) ?_
      obtain ⟨T68, X68, e68, st68⟩ := getS2 X67 hx hZ hown (host := "") (Or.inl (own_w hw 21 rfl)) Via.refl e67 (S_COMPACT.ext O0.2) (g := (mkF m 19 #[.val (.ref t1), .val (.ref t2), .val (.ref t2)] [])) rfl (hb hby d_rm_eqs_19)
      refine own_by st68 ?_
      show own_Go p e below (T68.setTop (mkF m 22 #[.val (.ref t1), .val (.ref t2), .val (.ref t2)] [(.int cs)])) _
      refine own_by (fun _ k => XS.ifNo X68.here hx rfl (hb hby d_rm_eqs_22) rfl ((if0 _ _).trans (feq hcs).1) k) ?_
      show own_Go p e below (T68.setTop (mkF m 25 #[.val (.ref t1), .val (.ref t2), .val (.ref t2)] [])) _
      refine own_by (fun _ k => XS.aloadN X68.here hx rfl (hb hby d_rm_eqs_25) rfl rfl k) ?_
      obtain ⟨T69, X69, e69, st69⟩ := getF X68 hx hZ hown (host := "") (Or.inl (own_w hw 33 rfl)) Via.refl e68 Fc1 (g := (mkF m 26 #[.val (.ref t1), .val (.ref t2), .val (.ref t2)] [(.ref t1)])) rfl rfl (hb hby d_rm_eqs_26)
      refine own_by st69 ?_
      refine own_by (fun _ k => XS.aloadN X69.here hx rfl (hb hby d_rm_eqs_29) rfl rfl k) ?_
      obtain ⟨T70, X70, e70, st70⟩ := getF X69 hx hZ hown (host := "") (Or.inl (own_w hw 33 rfl)) Via.refl e69 Fc2 (g := (mkF m 30 #[.val (.ref t1), .val (.ref t2), .val (.ref t2)] [(.ref t2), (.int (0 : Int32))])) rfl rfl (hb hby d_rm_eqs_30)
      refine own_by st70 ?_
      show own_Go p e below (T70.setTop (mkF m 33 #[.val (.ref t1), .val (.ref t2), .val (.ref t2)] [(.int (0 : Int32)), (.int (0 : Int32))])) _
      refine own_by (fun _ k => XS.icmpNo X70.here hx rfl (hb hby d_rm_eqs_33) rfl (teq (by decide : (0 : Int32) = (0 : Int32))).2 k) ?_
      show own_Go p e below (T70.setTop (mkF m 36 #[.val (.ref t1), .val (.ref t2), .val (.ref t2)] [])) _
      refine own_by (fun _ k => XS.aloadN X70.here hx rfl (hb hby d_rm_eqs_36) rfl rfl k) ?_
      obtain ⟨T71, X71, e71, st71⟩ := getF X70 hx hZ hown (host := "") (Or.inl (own_w hw 35 rfl)) Via.refl e70 Fv1 (g := (mkF m 37 #[.val (.ref t1), .val (.ref t2), .val (.ref t2)] [(.ref t1)])) rfl rfl (hb hby d_rm_eqs_37)
      refine own_by st71 ?_
      refine own_by (fun _ k => XS.aloadN X71.here hx rfl (hb hby d_rm_eqs_40) rfl rfl k) ?_
      obtain ⟨T72, X72, e72, st72⟩ := getF X71 hx hZ hown (host := "") (Or.inl (own_w hw 35 rfl)) Via.refl e71 Fv2 (g := (mkF m 41 #[.val (.ref t1), .val (.ref t2), .val (.ref t2)] [(.ref t2), (.ref b1)])) rfl rfl (hb hby d_rm_eqs_41)
      refine own_by st72 ?_
      show own_Go p e below (T72.setTop (mkF m 44 #[.val (.ref t1), .val (.ref t2), .val (.ref t2)] [(.ref b2), (.ref b1)])) _
      obtain ⟨_, _, ⟨T73, L73, k73, n73⟩, -, X73, ⟨Lc73, hQ73, l73, y73, z73⟩, st73⟩ := Jvm.LawKit.callS X72 hx (y := (⟨"java/lang/StringLatin1", "equals", "([B[B)Z"⟩ : MethodName)) hown (mvT hZ (own_w hw 62 rfl)) (mvT hZ (own_w hw 63 rfl)) (mvT hZ (own_w hw 64 rfl)) (mvT hZ (own_w hw 65 rfl)) (by decide) (backOf (W := 0) (rm_leq_2_0 l Z a0 hw [] b1 b2 kb1 kb2 (own_b (own_pk0 x1 &&& (255 : Int32))) (own_b (own_pk1 x1 &&& (255 : Int32))) h0 n0 O0 Vo_b1 Vo_b2) hZ (own_w hw 65 rfl) (own_w hw 64 rfl) (by decide) (by decide)) (g := (mkF m 44 #[.val (.ref t1), .val (.ref t2), .val (.ref t2)] [(.ref b2), (.ref b1)])) rfl (by rw [hml]; rfl) (argsL := [(.ref b1), (.ref b2)]) (rest := []) (lenOf own_pd__28_5bB_5bB_29Z rfl) rfl (by show 2 * 0 + _ ≤ _; exact Nat.le_of_eq rfl) (hb hby d_rm_eqs_44) (fun _ _ => ⟨rfl, e72, (by decide : 0 + 0 ≤ _), (by decide : 0 + 0 ≤ _)⟩)
      dsimp only [Pt.U, Pt.locs, Pt.cells, Pt.slots] at X73 l73 y73 z73 st73 hQ73
      subst l73 y73 z73
      obtain ⟨rfl, M73, K73⟩ := hQ73
      have N73 := Fr.app N0 M73
      refine own_by st73 ?_
      refine own_by (fun _ k => XS.ifYes X73.here hx rfl (pc0 := 47) (pc' := 54) rfl (hb hby d_rm_eqs_47) rfl ((if0 _ _).trans (teq (by decide : (0 : Int32) = (0 : Int32))).1) (by decide) (by decide) k) ?_
      show own_Go p e below (T73.setTop (mkF m 54 #[.val (.ref t1), .val (.ref t2), .val (.ref t2)] [])) _
      refine own_by (fun _ k => XS.iconst X73.here hx rfl (hb hby d_rm_eqs_54) k) ?_
      obtain ⟨fs, hr, hrun, hended, hW, hsame⟩ := X73.leave (v := some (.int (0 : Int32))) (fun h => by rw [Bd.returns] at h; cases h)
      refine ⟨_, _, retN X73 hx (t := .boolean) Bd.returns (by simp) (hb hby d_rm_eqs_55) hr, hrun, hended, _, _, rfl, ?_, ⟨_, rfl⟩, hW, hsame.mono (by decide) (by decide)⟩
      show Q_rm_eqs Z t1 t2 b1 b2 kb1 kb2 x1 (2 : Int32) x2 (0 : Int32) cs h0 n0 _ T73.heap _
      rw [K73]
      exact ⟨(by rw [own_eqs_ne (by decide)]), N73, rfl⟩
    · skip
      show own_Go p e below (s₁.setTop (mkF m 0 #[.val (.ref t1), .val (.ref t2), .unset] [])) _
      have Vo_b1 : Arv Z h0 b1 kb1 .byte (2 : Int32) [(.int (own_b (own_pk0 x1 &&& (255 : Int32)))), (.int (own_b (own_pk1 x1 &&& (255 : Int32))))] (.int (0 : Int32)) := by have q := Xb1; rw [own_bs_2] at q; exact q
      have lt_Vo_b1 : h0.size > b1 := Vo_b1.lt
      have Vo_b2 : Arv Z h0 b2 kb2 .byte (1 : Int32) [(.int (own_b (own_pk0 x2 &&& (255 : Int32))))] (.int (0 : Int32)) := by have q := Xb2; rw [own_bs_1] at q; exact q
      have lt_Vo_b2 : h0.size > b2 := Vo_b2.lt
      refine own_by (fun _ k => XS.aloadN X0.here hx rfl (hb hby d_rm_eqs_0) rfl rfl k) ?_
      refine own_by (fun _ k => XS.aloadN X0.here hx rfl (hb hby d_rm_eqs_1) rfl rfl k) ?_
      refine own_by (fun _ k => Jvm.RoadKit.acmp (g := (mkF m 2 #[.val (.ref t1), .val (.ref t2), .unset] [(.ref t2), (.ref t1)])) X0 hx rfl rfl rfl (pc0 := 2) (pc' := 7) (same := false) rfl (hb hby d_rm_eqs_2) rfl (decide_eq_false fun q => nt (Value.ref.inj q)) (by decide) (by decide) k) ?_
      show own_Go p e below (s₁.setTop (mkF m 7 #[.val (.ref t1), .val (.ref t2), .unset] [])) _
      refine own_by (fun _ k => XS.aloadN X0.here hx rfl (hb hby d_rm_eqs_7) rfl rfl k) ?_
      obtain ⟨T74, X74, e74, st74⟩ := instY X0 hx hZ hown (own_w hw 61 rfl) e0 (Ins.self Et2) (g := (mkF m 8 #[.val (.ref t1), .val (.ref t2), .unset] [(.ref t2)])) rfl rfl (hb hby d_rm_eqs_8)
      refine own_by st74 ?_
      refine own_by (fun _ k => XS.ifNo X74.here hx rfl (hb hby d_rm_eqs_11) rfl ((if0 _ _).trans (feq (by decide : ¬ ((1 : Int32) = (0 : Int32)))).1) k) ?_
      show own_Go p e below (T74.setTop (mkF m 14 #[.val (.ref t1), .val (.ref t2), .unset] [])) _
      refine own_by (fun _ k => XS.aloadN X74.here hx rfl (hb hby d_rm_eqs_14) rfl rfl k) ?_
      obtain ⟨T75, X75, e75, st75⟩ := castY X74 hx hZ hown (own_w hw 61 rfl) e74 (Ins.self Et2) (g := (mkF m 15 #[.val (.ref t1), .val (.ref t2), .unset] [(.ref t2)])) rfl rfl (hb hby d_rm_eqs_15)
      refine own_by st75 ?_
      refine own_by (fun _ k => XS.astoreN X75.here hx rfl (hb hby d_rm_eqs_18) rfl rfl (l' := #[.val (.ref t1), .val (.ref t2), .val (.ref t2)]) rfl k) ?_
      obtain ⟨T76, X76, e76, st76⟩ := getS2 X75 hx hZ hown (host := "") (Or.inl (own_w hw 21 rfl)) Via.refl e75 (S_COMPACT.ext O0.2) (g := (mkF m 19 #[.val (.ref t1), .val (.ref t2), .val (.ref t2)] [])) rfl (hb hby d_rm_eqs_19)
      refine own_by st76 ?_
      show own_Go p e below (T76.setTop (mkF m 22 #[.val (.ref t1), .val (.ref t2), .val (.ref t2)] [(.int cs)])) _
      refine own_by (fun _ k => XS.ifNo X76.here hx rfl (hb hby d_rm_eqs_22) rfl ((if0 _ _).trans (feq hcs).1) k) ?_
      show own_Go p e below (T76.setTop (mkF m 25 #[.val (.ref t1), .val (.ref t2), .val (.ref t2)] [])) _
      refine own_by (fun _ k => XS.aloadN X76.here hx rfl (hb hby d_rm_eqs_25) rfl rfl k) ?_
      obtain ⟨T77, X77, e77, st77⟩ := getF X76 hx hZ hown (host := "") (Or.inl (own_w hw 33 rfl)) Via.refl e76 Fc1 (g := (mkF m 26 #[.val (.ref t1), .val (.ref t2), .val (.ref t2)] [(.ref t1)])) rfl rfl (hb hby d_rm_eqs_26)
      refine own_by st77 ?_
      refine own_by (fun _ k => XS.aloadN X77.here hx rfl (hb hby d_rm_eqs_29) rfl rfl k) ?_
      obtain ⟨T78, X78, e78, st78⟩ := getF X77 hx hZ hown (host := "") (Or.inl (own_w hw 33 rfl)) Via.refl e77 Fc2 (g := (mkF m 30 #[.val (.ref t1), .val (.ref t2), .val (.ref t2)] [(.ref t2), (.int (0 : Int32))])) rfl rfl (hb hby d_rm_eqs_30)
      refine own_by st78 ?_
      show own_Go p e below (T78.setTop (mkF m 33 #[.val (.ref t1), .val (.ref t2), .val (.ref t2)] [(.int (0 : Int32)), (.int (0 : Int32))])) _
      refine own_by (fun _ k => XS.icmpNo X78.here hx rfl (hb hby d_rm_eqs_33) rfl (teq (by decide : (0 : Int32) = (0 : Int32))).2 k) ?_
      show own_Go p e below (T78.setTop (mkF m 36 #[.val (.ref t1), .val (.ref t2), .val (.ref t2)] [])) _
      refine own_by (fun _ k => XS.aloadN X78.here hx rfl (hb hby d_rm_eqs_36) rfl rfl k) ?_
      obtain ⟨T79, X79, e79, st79⟩ := getF X78 hx hZ hown (host := "") (Or.inl (own_w hw 35 rfl)) Via.refl e78 Fv1 (g := (mkF m 37 #[.val (.ref t1), .val (.ref t2), .val (.ref t2)] [(.ref t1)])) rfl rfl (hb hby d_rm_eqs_37)
      refine own_by st79 ?_
      refine own_by (fun _ k => XS.aloadN X79.here hx rfl (hb hby d_rm_eqs_40) rfl rfl k) ?_
      obtain ⟨T80, X80, e80, st80⟩ := getF X79 hx hZ hown (host := "") (Or.inl (own_w hw 35 rfl)) Via.refl e79 Fv2 (g := (mkF m 41 #[.val (.ref t1), .val (.ref t2), .val (.ref t2)] [(.ref t2), (.ref b1)])) rfl rfl (hb hby d_rm_eqs_41)
      refine own_by st80 ?_
      show own_Go p e below (T80.setTop (mkF m 44 #[.val (.ref t1), .val (.ref t2), .val (.ref t2)] [(.ref b2), (.ref b1)])) _
      obtain ⟨_, _, ⟨T81, L81, k81, n81⟩, -, X81, ⟨Lc81, hQ81, l81, y81, z81⟩, st81⟩ := Jvm.LawKit.callS X80 hx (y := (⟨"java/lang/StringLatin1", "equals", "([B[B)Z"⟩ : MethodName)) hown (mvT hZ (own_w hw 62 rfl)) (mvT hZ (own_w hw 63 rfl)) (mvT hZ (own_w hw 64 rfl)) (mvT hZ (own_w hw 65 rfl)) (by decide) (backOf (W := 0) (rm_leq_2_1 l Z a0 hw [] b1 b2 kb1 kb2 (own_b (own_pk0 x1 &&& (255 : Int32))) (own_b (own_pk1 x1 &&& (255 : Int32))) (own_b (own_pk0 x2 &&& (255 : Int32))) h0 n0 O0 Vo_b1 Vo_b2) hZ (own_w hw 65 rfl) (own_w hw 64 rfl) (by decide) (by decide)) (g := (mkF m 44 #[.val (.ref t1), .val (.ref t2), .val (.ref t2)] [(.ref b2), (.ref b1)])) rfl (by rw [hml]; rfl) (argsL := [(.ref b1), (.ref b2)]) (rest := []) (lenOf own_pd__28_5bB_5bB_29Z rfl) rfl (by show 2 * 0 + _ ≤ _; exact Nat.le_of_eq rfl) (hb hby d_rm_eqs_44) (fun _ _ => ⟨rfl, e80, (by decide : 0 + 0 ≤ _), (by decide : 0 + 0 ≤ _)⟩)
      dsimp only [Pt.U, Pt.locs, Pt.cells, Pt.slots] at X81 l81 y81 z81 st81 hQ81
      subst l81 y81 z81
      obtain ⟨rfl, M81, K81⟩ := hQ81
      have N81 := Fr.app N0 M81
      refine own_by st81 ?_
      refine own_by (fun _ k => XS.ifYes X81.here hx rfl (pc0 := 47) (pc' := 54) rfl (hb hby d_rm_eqs_47) rfl ((if0 _ _).trans (teq (by decide : (0 : Int32) = (0 : Int32))).1) (by decide) (by decide) k) ?_
      show own_Go p e below (T81.setTop (mkF m 54 #[.val (.ref t1), .val (.ref t2), .val (.ref t2)] [])) _
      refine own_by (fun _ k => XS.iconst X81.here hx rfl (hb hby d_rm_eqs_54) k) ?_
      obtain ⟨fs, hr, hrun, hended, hW, hsame⟩ := X81.leave (v := some (.int (0 : Int32))) (fun h => by rw [Bd.returns] at h; cases h)
      refine ⟨_, _, retN X81 hx (t := .boolean) Bd.returns (by simp) (hb hby d_rm_eqs_55) hr, hrun, hended, _, _, rfl, ?_, ⟨_, rfl⟩, hW, hsame.mono (by decide) (by decide)⟩
      show Q_rm_eqs Z t1 t2 b1 b2 kb1 kb2 x1 (2 : Int32) x2 (1 : Int32) cs h0 n0 _ T81.heap _
      rw [K81]
      exact ⟨(by rw [own_eqs_ne (by decide)]), N81, rfl⟩
    · skip
      show own_Go p e below (s₁.setTop (mkF m 0 #[.val (.ref t1), .val (.ref t2), .unset] [])) _
      have Vo_b1 : Arv Z h0 b1 kb1 .byte (2 : Int32) [(.int (own_b (own_pk0 x1 &&& (255 : Int32)))), (.int (own_b (own_pk1 x1 &&& (255 : Int32))))] (.int (0 : Int32)) := by have q := Xb1; rw [own_bs_2] at q; exact q
      have lt_Vo_b1 : h0.size > b1 := Vo_b1.lt
      have Vo_b2 : Arv Z h0 b2 kb2 .byte (2 : Int32) [(.int (own_b (own_pk0 x2 &&& (255 : Int32)))), (.int (own_b (own_pk1 x2 &&& (255 : Int32))))] (.int (0 : Int32)) := by have q := Xb2; rw [own_bs_2] at q; exact q
      have lt_Vo_b2 : h0.size > b2 := Vo_b2.lt
      refine own_by (fun _ k => XS.aloadN X0.here hx rfl (hb hby d_rm_eqs_0) rfl rfl k) ?_
      refine own_by (fun _ k => XS.aloadN X0.here hx rfl (hb hby d_rm_eqs_1) rfl rfl k) ?_
      refine own_by (fun _ k => Jvm.RoadKit.acmp (g := (mkF m 2 #[.val (.ref t1), .val (.ref t2), .unset] [(.ref t2), (.ref t1)])) X0 hx rfl rfl rfl (pc0 := 2) (pc' := 7) (same := false) rfl (hb hby d_rm_eqs_2) rfl (decide_eq_false fun q => nt (Value.ref.inj q)) (by decide) (by decide) k) ?_
      show own_Go p e below (s₁.setTop (mkF m 7 #[.val (.ref t1), .val (.ref t2), .unset] [])) _
      refine own_by (fun _ k => XS.aloadN X0.here hx rfl (hb hby d_rm_eqs_7) rfl rfl k) ?_
      obtain ⟨T82, X82, e82, st82⟩ := instY X0 hx hZ hown (own_w hw 61 rfl) e0 (Ins.self Et2) (g := (mkF m 8 #[.val (.ref t1), .val (.ref t2), .unset] [(.ref t2)])) rfl rfl (hb hby d_rm_eqs_8)
      refine own_by st82 ?_
      refine own_by (fun _ k => XS.ifNo X82.here hx rfl (hb hby d_rm_eqs_11) rfl ((if0 _ _).trans (feq (by decide : ¬ ((1 : Int32) = (0 : Int32)))).1) k) ?_
      show own_Go p e below (T82.setTop (mkF m 14 #[.val (.ref t1), .val (.ref t2), .unset] [])) _
      refine own_by (fun _ k => XS.aloadN X82.here hx rfl (hb hby d_rm_eqs_14) rfl rfl k) ?_
      obtain ⟨T83, X83, e83, st83⟩ := castY X82 hx hZ hown (own_w hw 61 rfl) e82 (Ins.self Et2) (g := (mkF m 15 #[.val (.ref t1), .val (.ref t2), .unset] [(.ref t2)])) rfl rfl (hb hby d_rm_eqs_15)
      refine own_by st83 ?_
      refine own_by (fun _ k => XS.astoreN X83.here hx rfl (hb hby d_rm_eqs_18) rfl rfl (l' := #[.val (.ref t1), .val (.ref t2), .val (.ref t2)]) rfl k) ?_
      obtain ⟨T84, X84, e84, st84⟩ := getS2 X83 hx hZ hown (host := "") (Or.inl (own_w hw 21 rfl)) Via.refl e83 (S_COMPACT.ext O0.2) (g := (mkF m 19 #[.val (.ref t1), .val (.ref t2), .val (.ref t2)] [])) rfl (hb hby d_rm_eqs_19)
      refine own_by st84 ?_
      show own_Go p e below (T84.setTop (mkF m 22 #[.val (.ref t1), .val (.ref t2), .val (.ref t2)] [(.int cs)])) _
      refine own_by (fun _ k => XS.ifNo X84.here hx rfl (hb hby d_rm_eqs_22) rfl ((if0 _ _).trans (feq hcs).1) k) ?_
      show own_Go p e below (T84.setTop (mkF m 25 #[.val (.ref t1), .val (.ref t2), .val (.ref t2)] [])) _
      refine own_by (fun _ k => XS.aloadN X84.here hx rfl (hb hby d_rm_eqs_25) rfl rfl k) ?_
      obtain ⟨T85, X85, e85, st85⟩ := getF X84 hx hZ hown (host := "") (Or.inl (own_w hw 33 rfl)) Via.refl e84 Fc1 (g := (mkF m 26 #[.val (.ref t1), .val (.ref t2), .val (.ref t2)] [(.ref t1)])) rfl rfl (hb hby d_rm_eqs_26)
      refine own_by st85 ?_
      refine own_by (fun _ k => XS.aloadN X85.here hx rfl (hb hby d_rm_eqs_29) rfl rfl k) ?_
      obtain ⟨T86, X86, e86, st86⟩ := getF X85 hx hZ hown (host := "") (Or.inl (own_w hw 33 rfl)) Via.refl e85 Fc2 (g := (mkF m 30 #[.val (.ref t1), .val (.ref t2), .val (.ref t2)] [(.ref t2), (.int (0 : Int32))])) rfl rfl (hb hby d_rm_eqs_30)
      refine own_by st86 ?_
      show own_Go p e below (T86.setTop (mkF m 33 #[.val (.ref t1), .val (.ref t2), .val (.ref t2)] [(.int (0 : Int32)), (.int (0 : Int32))])) _
      refine own_by (fun _ k => XS.icmpNo X86.here hx rfl (hb hby d_rm_eqs_33) rfl (teq (by decide : (0 : Int32) = (0 : Int32))).2 k) ?_
      show own_Go p e below (T86.setTop (mkF m 36 #[.val (.ref t1), .val (.ref t2), .val (.ref t2)] [])) _
      refine own_by (fun _ k => XS.aloadN X86.here hx rfl (hb hby d_rm_eqs_36) rfl rfl k) ?_
      obtain ⟨T87, X87, e87, st87⟩ := getF X86 hx hZ hown (host := "") (Or.inl (own_w hw 35 rfl)) Via.refl e86 Fv1 (g := (mkF m 37 #[.val (.ref t1), .val (.ref t2), .val (.ref t2)] [(.ref t1)])) rfl rfl (hb hby d_rm_eqs_37)
      refine own_by st87 ?_
      refine own_by (fun _ k => XS.aloadN X87.here hx rfl (hb hby d_rm_eqs_40) rfl rfl k) ?_
      obtain ⟨T88, X88, e88, st88⟩ := getF X87 hx hZ hown (host := "") (Or.inl (own_w hw 35 rfl)) Via.refl e87 Fv2 (g := (mkF m 41 #[.val (.ref t1), .val (.ref t2), .val (.ref t2)] [(.ref t2), (.ref b1)])) rfl rfl (hb hby d_rm_eqs_41)
      refine own_by st88 ?_
      show own_Go p e below (T88.setTop (mkF m 44 #[.val (.ref t1), .val (.ref t2), .val (.ref t2)] [(.ref b2), (.ref b1)])) _
      obtain ⟨_, _, ⟨T89, L89, k89, n89⟩, -, X89, ⟨Lc89, hQ89, l89, y89, z89⟩, st89⟩ := Jvm.LawKit.callS X88 hx (y := (⟨"java/lang/StringLatin1", "equals", "([B[B)Z"⟩ : MethodName)) hown (mvT hZ (own_w hw 62 rfl)) (mvT hZ (own_w hw 63 rfl)) (mvT hZ (own_w hw 64 rfl)) (mvT hZ (own_w hw 65 rfl)) (by decide) (backOf (W := 0) (rm_leq_2_2 l Z a0 hw [] b1 b2 kb1 kb2 (own_b (own_pk0 x1 &&& (255 : Int32))) (own_b (own_pk1 x1 &&& (255 : Int32))) (own_b (own_pk0 x2 &&& (255 : Int32))) (own_b (own_pk1 x2 &&& (255 : Int32))) h0 n0 O0 Vo_b1 Vo_b2) hZ (own_w hw 65 rfl) (own_w hw 64 rfl) (by decide) (by decide)) (g := (mkF m 44 #[.val (.ref t1), .val (.ref t2), .val (.ref t2)] [(.ref b2), (.ref b1)])) rfl (by rw [hml]; rfl) (argsL := [(.ref b1), (.ref b2)]) (rest := []) (lenOf own_pd__28_5bB_5bB_29Z rfl) rfl (by show 2 * 0 + _ ≤ _; exact Nat.le_of_eq rfl) (hb hby d_rm_eqs_44) (fun _ _ => ⟨rfl, e88, (by decide : 0 + 0 ≤ _), (by decide : 0 + 0 ≤ _)⟩)
      dsimp only [Pt.U, Pt.locs, Pt.cells, Pt.slots] at X89 l89 y89 z89 st89 hQ89
      subst l89 y89 z89
      obtain ⟨rfl, M89, K89⟩ := hQ89
      have N89 := Fr.app N0 M89
      refine own_by st89 ?_
      by_cases hc90 : (own_all [((own_b (own_pk0 x1 &&& (255 : Int32))), (own_b (own_pk0 x2 &&& (255 : Int32)))), ((own_b (own_pk1 x1 &&& (255 : Int32))), (own_b (own_pk1 x2 &&& (255 : Int32))))]) = (0 : Int32)
      · skip
        refine own_by (fun _ k => XS.ifYes X89.here hx rfl (pc0 := 47) (pc' := 54) rfl (hb hby d_rm_eqs_47) rfl ((if0 _ _).trans (teq hc90).1) (by decide) (by decide) k) ?_
        show own_Go p e below (T89.setTop (mkF m 54 #[.val (.ref t1), .val (.ref t2), .val (.ref t2)] [])) _
        refine own_by (fun _ k => XS.iconst X89.here hx rfl (hb hby d_rm_eqs_54) k) ?_
        obtain ⟨fs, hr, hrun, hended, hW, hsame⟩ := X89.leave (v := some (.int (0 : Int32))) (fun h => by rw [Bd.returns] at h; cases h)
        refine ⟨_, _, retN X89 hx (t := .boolean) Bd.returns (by simp) (hb hby d_rm_eqs_55) hr, hrun, hended, _, _, rfl, ?_, ⟨_, rfl⟩, hW, hsame.mono (by decide) (by decide)⟩
        show Q_rm_eqs Z t1 t2 b1 b2 kb1 kb2 x1 (2 : Int32) x2 (2 : Int32) cs h0 n0 _ T89.heap _
        rw [K89]
        exact ⟨(by rw [own_eqs_eq rfl, own_pre_2]; exact own_all_ret0 hc90), N89, rfl⟩
      · skip
        refine own_by (fun _ k => XS.ifNo X89.here hx rfl (hb hby d_rm_eqs_47) rfl ((if0 _ _).trans (feq hc90).1) k) ?_
        show own_Go p e below (T89.setTop (mkF m 50 #[.val (.ref t1), .val (.ref t2), .val (.ref t2)] [])) _
        refine own_by (fun _ k => XS.iconst X89.here hx rfl (hb hby d_rm_eqs_50) k) ?_
        refine own_by (fun _ k => XS.goto X89.here hx rfl (pc0 := 51) (pc' := 55) rfl (hb hby d_rm_eqs_51) (by decide) (by decide) k) ?_
        obtain ⟨fs, hr, hrun, hended, hW, hsame⟩ := X89.leave (v := some (.int (1 : Int32))) (fun h => by rw [Bd.returns] at h; cases h)
        refine ⟨_, _, retN X89 hx (t := .boolean) Bd.returns (by simp) (hb hby d_rm_eqs_55) hr, hrun, hended, _, _, rfl, ?_, ⟨_, rfl⟩, hW, hsame.mono (by decide) (by decide)⟩
        show Q_rm_eqs Z t1 t2 b1 b2 kb1 kb2 x1 (2 : Int32) x2 (2 : Int32) cs h0 n0 _ T89.heap _
        rw [K89]
        exact ⟨(by rw [own_eqs_eq rfl, own_pre_2]; exact own_all_ret1 hc90), N89, rfl⟩
    · skip
      show own_Go p e below (s₁.setTop (mkF m 0 #[.val (.ref t1), .val (.ref t2), .unset] [])) _
      have Vo_b1 : Arv Z h0 b1 kb1 .byte (2 : Int32) [(.int (own_b (own_pk0 x1 &&& (255 : Int32)))), (.int (own_b (own_pk1 x1 &&& (255 : Int32))))] (.int (0 : Int32)) := by have q := Xb1; rw [own_bs_2] at q; exact q
      have lt_Vo_b1 : h0.size > b1 := Vo_b1.lt
      have Vo_b2 : Arv Z h0 b2 kb2 .byte (3 : Int32) [(.int (own_b (own_pk0 x2 &&& (255 : Int32)))), (.int (own_b (own_pk1 x2 &&& (255 : Int32)))), (.int (own_b (own_pk2 x2 &&& (255 : Int32))))] (.int (0 : Int32)) := by have q := Xb2; rw [own_bs_3] at q; exact q
      have lt_Vo_b2 : h0.size > b2 := Vo_b2.lt
      refine own_by (fun _ k => XS.aloadN X0.here hx rfl (hb hby d_rm_eqs_0) rfl rfl k) ?_
      refine own_by (fun _ k => XS.aloadN X0.here hx rfl (hb hby d_rm_eqs_1) rfl rfl k) ?_
      refine own_by (fun _ k => Jvm.RoadKit.acmp (g := (mkF m 2 #[.val (.ref t1), .val (.ref t2), .unset] [(.ref t2), (.ref t1)])) X0 hx rfl rfl rfl (pc0 := 2) (pc' := 7) (same := false) rfl (hb hby d_rm_eqs_2) rfl (decide_eq_false fun q => nt (Value.ref.inj q)) (by decide) (by decide) k) ?_
      show own_Go p e below (s₁.setTop (mkF m 7 #[.val (.ref t1), .val (.ref t2), .unset] [])) _
      refine own_by (fun _ k => XS.aloadN X0.here hx rfl (hb hby d_rm_eqs_7) rfl rfl k) ?_
      obtain ⟨T91, X91, e91, st91⟩ := instY X0 hx hZ hown (own_w hw 61 rfl) e0 (Ins.self Et2) (g := (mkF m 8 #[.val (.ref t1), .val (.ref t2), .unset] [(.ref t2)])) rfl rfl (hb hby d_rm_eqs_8)
      refine own_by st91 ?_
      refine own_by (fun _ k => XS.ifNo X91.here hx rfl (hb hby d_rm_eqs_11) rfl ((if0 _ _).trans (feq (by decide : ¬ ((1 : Int32) = (0 : Int32)))).1) k) ?_
      show own_Go p e below (T91.setTop (mkF m 14 #[.val (.ref t1), .val (.ref t2), .unset] [])) _
      refine own_by (fun _ k => XS.aloadN X91.here hx rfl (hb hby d_rm_eqs_14) rfl rfl k) ?_
      obtain ⟨T92, X92, e92, st92⟩ := castY X91 hx hZ hown (own_w hw 61 rfl) e91 (Ins.self Et2) (g := (mkF m 15 #[.val (.ref t1), .val (.ref t2), .unset] [(.ref t2)])) rfl rfl (hb hby d_rm_eqs_15)
      refine own_by st92 ?_
      refine own_by (fun _ k => XS.astoreN X92.here hx rfl (hb hby d_rm_eqs_18) rfl rfl (l' := #[.val (.ref t1), .val (.ref t2), .val (.ref t2)]) rfl k) ?_
      obtain ⟨T93, X93, e93, st93⟩ := getS2 X92 hx hZ hown (host := "") (Or.inl (own_w hw 21 rfl)) Via.refl e92 (S_COMPACT.ext O0.2) (g := (mkF m 19 #[.val (.ref t1), .val (.ref t2), .val (.ref t2)] [])) rfl (hb hby d_rm_eqs_19)
      refine own_by st93 ?_
      show own_Go p e below (T93.setTop (mkF m 22 #[.val (.ref t1), .val (.ref t2), .val (.ref t2)] [(.int cs)])) _
      refine own_by (fun _ k => XS.ifNo X93.here hx rfl (hb hby d_rm_eqs_22) rfl ((if0 _ _).trans (feq hcs).1) k) ?_
      show own_Go p e below (T93.setTop (mkF m 25 #[.val (.ref t1), .val (.ref t2), .val (.ref t2)] [])) _
      refine own_by (fun _ k => XS.aloadN X93.here hx rfl (hb hby d_rm_eqs_25) rfl rfl k) ?_
      obtain ⟨T94, X94, e94, st94⟩ := getF X93 hx hZ hown (host := "") (Or.inl (own_w hw 33 rfl)) Via.refl e93 Fc1 (g := (mkF m 26 #[.val (.ref t1), .val (.ref t2), .val (.ref t2)] [(.ref t1)])) rfl rfl (hb hby d_rm_eqs_26)
      refine own_by st94 ?_
      refine own_by (fun _ k => XS.aloadN X94.here hx rfl (hb hby d_rm_eqs_29) rfl rfl k) ?_
      obtain ⟨T95, X95, e95, st95⟩ := getF X94 hx hZ hown (host := "") (Or.inl (own_w hw 33 rfl)) Via.refl e94 Fc2 (g := (mkF m 30 #[.val (.ref t1), .val (.ref t2), .val (.ref t2)] [(.ref t2), (.int (0 : Int32))])) rfl rfl (hb hby d_rm_eqs_30)
      refine own_by st95 ?_
      show own_Go p e below (T95.setTop (mkF m 33 #[.val (.ref t1), .val (.ref t2), .val (.ref t2)] [(.int (0 : Int32)), (.int (0 : Int32))])) _
      refine own_by (fun _ k => XS.icmpNo X95.here hx rfl (hb hby d_rm_eqs_33) rfl (teq (by decide : (0 : Int32) = (0 : Int32))).2 k) ?_
      show own_Go p e below (T95.setTop (mkF m 36 #[.val (.ref t1), .val (.ref t2), .val (.ref t2)] [])) _
      refine own_by (fun _ k => XS.aloadN X95.here hx rfl (hb hby d_rm_eqs_36) rfl rfl k) ?_
      obtain ⟨T96, X96, e96, st96⟩ := getF X95 hx hZ hown (host := "") (Or.inl (own_w hw 35 rfl)) Via.refl e95 Fv1 (g := (mkF m 37 #[.val (.ref t1), .val (.ref t2), .val (.ref t2)] [(.ref t1)])) rfl rfl (hb hby d_rm_eqs_37)
      refine own_by st96 ?_
      refine own_by (fun _ k => XS.aloadN X96.here hx rfl (hb hby d_rm_eqs_40) rfl rfl k) ?_
      obtain ⟨T97, X97, e97, st97⟩ := getF X96 hx hZ hown (host := "") (Or.inl (own_w hw 35 rfl)) Via.refl e96 Fv2 (g := (mkF m 41 #[.val (.ref t1), .val (.ref t2), .val (.ref t2)] [(.ref t2), (.ref b1)])) rfl rfl (hb hby d_rm_eqs_41)
      refine own_by st97 ?_
      show own_Go p e below (T97.setTop (mkF m 44 #[.val (.ref t1), .val (.ref t2), .val (.ref t2)] [(.ref b2), (.ref b1)])) _
      obtain ⟨_, _, ⟨T98, L98, k98, n98⟩, -, X98, ⟨Lc98, hQ98, l98, y98, z98⟩, st98⟩ := Jvm.LawKit.callS X97 hx (y := (⟨"java/lang/StringLatin1", "equals", "([B[B)Z"⟩ : MethodName)) hown (mvT hZ (own_w hw 62 rfl)) (mvT hZ (own_w hw 63 rfl)) (mvT hZ (own_w hw 64 rfl)) (mvT hZ (own_w hw 65 rfl)) (by decide) (backOf (W := 0) (rm_leq_2_3 l Z a0 hw [] b1 b2 kb1 kb2 (own_b (own_pk0 x1 &&& (255 : Int32))) (own_b (own_pk1 x1 &&& (255 : Int32))) (own_b (own_pk0 x2 &&& (255 : Int32))) (own_b (own_pk1 x2 &&& (255 : Int32))) (own_b (own_pk2 x2 &&& (255 : Int32))) h0 n0 O0 Vo_b1 Vo_b2) hZ (own_w hw 65 rfl) (own_w hw 64 rfl) (by decide) (by decide)) (g := (mkF m 44 #[.val (.ref t1), .val (.ref t2), .val (.ref t2)] [(.ref b2), (.ref b1)])) rfl (by rw [hml]; rfl) (argsL := [(.ref b1), (.ref b2)]) (rest := []) (lenOf own_pd__28_5bB_5bB_29Z rfl) rfl (by show 2 * 0 + _ ≤ _; exact Nat.le_of_eq rfl) (hb hby d_rm_eqs_44) (fun _ _ => ⟨rfl, e97, (by decide : 0 + 0 ≤ _), (by decide : 0 + 0 ≤ _)⟩)
      dsimp only [Pt.U, Pt.locs, Pt.cells, Pt.slots] at X98 l98 y98 z98 st98 hQ98
      subst l98 y98 z98
      obtain ⟨rfl, M98, K98⟩ := hQ98
      have N98 := Fr.app N0 M98
      refine own_by st98 ?_
      refine own_by (fun _ k => XS.ifYes X98.here hx rfl (pc0 := 47) (pc' := 54) rfl (hb hby d_rm_eqs_47) rfl ((if0 _ _).trans (teq (by decide : (0 : Int32) = (0 : Int32))).1) (by decide) (by decide) k) ?_
      show own_Go p e below (T98.setTop (mkF m 54 #[.val (.ref t1), .val (.ref t2), .val (.ref t2)] [])) _
      refine own_by (fun _ k => XS.iconst X98.here hx rfl (hb hby d_rm_eqs_54) k) ?_
      obtain ⟨fs, hr, hrun, hended, hW, hsame⟩ := X98.leave (v := some (.int (0 : Int32))) (fun h => by rw [Bd.returns] at h; cases h)
      refine ⟨_, _, retN X98 hx (t := .boolean) Bd.returns (by simp) (hb hby d_rm_eqs_55) hr, hrun, hended, _, _, rfl, ?_, ⟨_, rfl⟩, hW, hsame.mono (by decide) (by decide)⟩
      show Q_rm_eqs Z t1 t2 b1 b2 kb1 kb2 x1 (2 : Int32) x2 (3 : Int32) cs h0 n0 _ T98.heap _
      rw [K98]
      exact ⟨(by rw [own_eqs_ne (by decide)]), N98, rfl⟩
  · skip
    show own_Go p e below (s₁.setTop (mkF m 0 #[.val (.ref t1), .val (.ref t2), .unset] [])) _
    rcases hn2 with rfl | rfl | rfl | rfl
    · skip
      show own_Go p e below (s₁.setTop (mkF m 0 #[.val (.ref t1), .val (.ref t2), .unset] [])) _
      have Vo_b1 : Arv Z h0 b1 kb1 .byte (3 : Int32) [(.int (own_b (own_pk0 x1 &&& (255 : Int32)))), (.int (own_b (own_pk1 x1 &&& (255 : Int32)))), (.int (own_b (own_pk2 x1 &&& (255 : Int32))))] (.int (0 : Int32)) := by have q := Xb1; rw [own_bs_3] at q; exact q
      have lt_Vo_b1 : h0.size > b1 := Vo_b1.lt
      have Vo_b2 : Arv Z h0 b2 kb2 .byte (0 : Int32) [] (.int (0 : Int32)) := by have q := Xb2; rw [own_bs_0] at q; exact q
      have lt_Vo_b2 : h0.size > b2 := Vo_b2.lt
      refine own_by (fun _ k => XS.aloadN X0.here hx rfl (hb hby d_rm_eqs_0) rfl rfl k) ?_
      refine own_by (fun _ k => XS.aloadN X0.here hx rfl (hb hby d_rm_eqs_1) rfl rfl k) ?_
      refine own_by (fun _ k => Jvm.RoadKit.acmp (g := (mkF m 2 #[.val (.ref t1), .val (.ref t2), .unset] [(.ref t2), (.ref t1)])) X0 hx rfl rfl rfl (pc0 := 2) (pc' := 7) (same := false) rfl (hb hby d_rm_eqs_2) rfl (decide_eq_false fun q => nt (Value.ref.inj q)) (by decide) (by decide) k) ?_
      show own_Go p e below (s₁.setTop (mkF m 7 #[.val (.ref t1), .val (.ref t2), .unset] [])) _
      refine own_by (fun _ k => XS.aloadN X0.here hx rfl (hb hby d_rm_eqs_7) rfl rfl k) ?_
      obtain ⟨T99, X99, e99, st99⟩ := instY X0 hx hZ hown (own_w hw 61 rfl) e0 (Ins.self Et2) (g := (mkF m 8 #[.val (.ref t1), .val (.ref t2), .unset] [(.ref t2)])) rfl rfl (hb hby d_rm_eqs_8)
      refine own_by st99 ?_
      refine own_by (fun _ k => XS.ifNo X99.here hx rfl (hb hby d_rm_eqs_11) rfl ((if0 _ _).trans (feq (by decide : ¬ ((1 : Int32) = (0 : Int32)))).1) k) ?_
      show own_Go p e below (T99.setTop (mkF m 14 #[.val (.ref t1), .val (.ref t2), .unset] [])) _
      refine own_by (fun _ k => XS.aloadN X99.here hx rfl (hb hby d_rm_eqs_14) rfl rfl k) ?_
      obtain ⟨T100, X100, e100, st100⟩ := castY X99 hx hZ hown (own_w hw 61 rfl) e99 (Ins.self Et2) (g := (mkF m 15 #[.val (.ref t1), .val (.ref t2), .unset] [(.ref t2)])) rfl rfl (hb hby d_rm_eqs_15)
      refine own_by st100 ?_
      refine own_by (fun _ k => XS.astoreN X100.here hx rfl (hb hby d_rm_eqs_18) rfl rfl (l' := #[.val (.ref t1), .val (.ref t2), .val (.ref t2)]) rfl k) ?_
      obtain ⟨T101, X101, e101, st101⟩ := getS2 X100 hx hZ hown (host := "") (Or.inl (own_w hw 21 rfl)) Via.refl e100 (S_COMPACT.ext O0.2) (g := (mkF m 19 #[.val (.ref t1), .val (.ref t2), .val (.ref t2)] [])) rfl (hb hby d_rm_eqs_19)
      refine own_by st101 ?_
      show own_Go p e below (T101.setTop (mkF m 22 #[.val (.ref t1), .val (.ref t2), .val (.ref t2)] [(.int cs)])) _
      refine own_by (fun _ k => XS.ifNo X101.here hx rfl (hb hby d_rm_eqs_22) rfl ((if0 _ _).trans (feq hcs).1) k) ?_
      show own_Go p e below (T101.setTop (mkF m 25 #[.val (.ref t1), .val (.ref t2), .val (.ref t2)] [])) _
      refine own_by (fun _ k => XS.aloadN X101.here hx rfl (hb hby d_rm_eqs_25) rfl rfl k) ?_
      obtain ⟨T102, X102, e102, st102⟩ := getF X101 hx hZ hown (host := "") (Or.inl (own_w hw 33 rfl)) Via.refl e101 Fc1 (g := (mkF m 26 #[.val (.ref t1), .val (.ref t2), .val (.ref t2)] [(.ref t1)])) rfl rfl (hb hby d_rm_eqs_26)
      refine own_by st102 ?_
      refine own_by (fun _ k => XS.aloadN X102.here hx rfl (hb hby d_rm_eqs_29) rfl rfl k) ?_
      obtain ⟨T103, X103, e103, st103⟩ := getF X102 hx hZ hown (host := "") (Or.inl (own_w hw 33 rfl)) Via.refl e102 Fc2 (g := (mkF m 30 #[.val (.ref t1), .val (.ref t2), .val (.ref t2)] [(.ref t2), (.int (0 : Int32))])) rfl rfl (hb hby d_rm_eqs_30)
      refine own_by st103 ?_
      show own_Go p e below (T103.setTop (mkF m 33 #[.val (.ref t1), .val (.ref t2), .val (.ref t2)] [(.int (0 : Int32)), (.int (0 : Int32))])) _
      refine own_by (fun _ k => XS.icmpNo X103.here hx rfl (hb hby d_rm_eqs_33) rfl (teq (by decide : (0 : Int32) = (0 : Int32))).2 k) ?_
      show own_Go p e below (T103.setTop (mkF m 36 #[.val (.ref t1), .val (.ref t2), .val (.ref t2)] [])) _
      refine own_by (fun _ k => XS.aloadN X103.here hx rfl (hb hby d_rm_eqs_36) rfl rfl k) ?_
      obtain ⟨T104, X104, e104, st104⟩ := getF X103 hx hZ hown (host := "") (Or.inl (own_w hw 35 rfl)) Via.refl e103 Fv1 (g := (mkF m 37 #[.val (.ref t1), .val (.ref t2), .val (.ref t2)] [(.ref t1)])) rfl rfl (hb hby d_rm_eqs_37)
      refine own_by st104 ?_
      refine own_by (fun _ k => XS.aloadN X104.here hx rfl (hb hby d_rm_eqs_40) rfl rfl k) ?_
      obtain ⟨T105, X105, e105, st105⟩ := getF X104 hx hZ hown (host := "") (Or.inl (own_w hw 35 rfl)) Via.refl e104 Fv2 (g := (mkF m 41 #[.val (.ref t1), .val (.ref t2), .val (.ref t2)] [(.ref t2), (.ref b1)])) rfl rfl (hb hby d_rm_eqs_41)
      refine own_by st105 ?_
      show own_Go p e below (T105.setTop (mkF m 44 #[.val (.ref t1), .val (.ref t2), .val (.ref t2)] [(.ref b2), (.ref b1)])) _
      obtain ⟨_, _, ⟨T106, L106, k106, n106⟩, -, X106, ⟨Lc106, hQ106, l106, y106, z106⟩, st106⟩ := Jvm.LawKit.callS X105 hx (y := (⟨"java/lang/StringLatin1", "equals", "([B[B)Z"⟩ : MethodName)) hown (mvT hZ (own_w hw 62 rfl)) (mvT hZ (own_w hw 63 rfl)) (mvT hZ (own_w hw 64 rfl)) (mvT hZ (own_w hw 65 rfl)) (by decide) (backOf (W := 0) (rm_leq_3_0 l Z a0 hw [] b1 b2 kb1 kb2 (own_b (own_pk0 x1 &&& (255 : Int32))) (own_b (own_pk1 x1 &&& (255 : Int32))) (own_b (own_pk2 x1 &&& (255 : Int32))) h0 n0 O0 Vo_b1 Vo_b2) hZ (own_w hw 65 rfl) (own_w hw 64 rfl) (by decide) (by decide)) (g := (mkF m 44 #[.val (.ref t1), .val (.ref t2), .val (.ref t2)] [(.ref b2), (.ref b1)])) rfl (by rw [hml]; rfl) (argsL := [(.ref b1), (.ref b2)]) (rest := []) (lenOf own_pd__28_5bB_5bB_29Z rfl) rfl (by show 2 * 0 + _ ≤ _; exact Nat.le_of_eq rfl) (hb hby d_rm_eqs_44) (fun _ _ => ⟨rfl, e105, (by decide : 0 + 0 ≤ _), (by decide : 0 + 0 ≤ _)⟩)
      dsimp only [Pt.U, Pt.locs, Pt.cells, Pt.slots] at X106 l106 y106 z106 st106 hQ106
      subst l106 y106 z106
      obtain ⟨rfl, M106, K106⟩ := hQ106
      have N106 := Fr.app N0 M106
      refine own_by st106 ?_
      refine own_by (fun _ k => XS.ifYes X106.here hx rfl (pc0 := 47) (pc' := 54) rfl (hb hby d_rm_eqs_47) rfl ((if0 _ _).trans (teq (by decide : (0 : Int32) = (0 : Int32))).1) (by decide) (by decide) k) ?_
      show own_Go p e below (T106.setTop (mkF m 54 #[.val (.ref t1), .val (.ref t2), .val (.ref t2)] [])) _
      refine own_by (fun _ k => XS.iconst X106.here hx rfl (hb hby d_rm_eqs_54) k) ?_
      obtain ⟨fs, hr, hrun, hended, hW, hsame⟩ := X106.leave (v := some (.int (0 : Int32))) (fun h => by rw [Bd.returns] at h; cases h)
      refine ⟨_, _, retN X106 hx (t := .boolean) Bd.returns (by simp) (hb hby d_rm_eqs_55) hr, hrun, hended, _, _, rfl, ?_, ⟨_, rfl⟩, hW, hsame.mono (by decide) (by decide)⟩
      show Q_rm_eqs Z t1 t2 b1 b2 kb1 kb2 x1 (3 : Int32) x2 (0 : Int32) cs h0 n0 _ T106.heap _
      rw [K106]
      exact ⟨(by rw [own_eqs_ne (by decide)]), N106, rfl⟩
    · skip
      show own_Go p e below (s₁.setTop (mkF m 0 #[.val (.ref t1), .val (.ref t2), .unset] [])) _
      have Vo_b1 : Arv Z h0 b1 kb1 .byte (3 : Int32) [(.int (own_b (own_pk0 x1 &&& (255 : Int32)))), (.int (own_b (own_pk1 x1 &&& (255 : Int32)))), (.int (own_b (own_pk2 x1 &&& (255 : Int32))))] (.int (0 : Int32)) := by have q := Xb1; rw [own_bs_3] at q; exact q
      have lt_Vo_b1 : h0.size > b1 := Vo_b1.lt
      have Vo_b2 : Arv Z h0 b2 kb2 .byte (1 : Int32) [(.int (own_b (own_pk0 x2 &&& (255 : Int32))))] (.int (0 : Int32)) := by have q := Xb2; rw [own_bs_1] at q; exact q
      have lt_Vo_b2 : h0.size > b2 := Vo_b2.lt
      refine own_by (fun _ k => XS.aloadN X0.here hx rfl (hb hby d_rm_eqs_0) rfl rfl k) ?_
      refine own_by (fun _ k => XS.aloadN X0.here hx rfl (hb hby d_rm_eqs_1) rfl rfl k) ?_
      refine own_by (fun _ k => Jvm.RoadKit.acmp (g := (mkF m 2 #[.val (.ref t1), .val (.ref t2), .unset] [(.ref t2), (.ref t1)])) X0 hx rfl rfl rfl (pc0 := 2) (pc' := 7) (same := false) rfl (hb hby d_rm_eqs_2) rfl (decide_eq_false fun q => nt (Value.ref.inj q)) (by decide) (by decide) k) ?_
      show own_Go p e below (s₁.setTop (mkF m 7 #[.val (.ref t1), .val (.ref t2), .unset] [])) _
      refine own_by (fun _ k => XS.aloadN X0.here hx rfl (hb hby d_rm_eqs_7) rfl rfl k) ?_
      obtain ⟨T107, X107, e107, st107⟩ := instY X0 hx hZ hown (own_w hw 61 rfl) e0 (Ins.self Et2) (g := (mkF m 8 #[.val (.ref t1), .val (.ref t2), .unset] [(.ref t2)])) rfl rfl (hb hby d_rm_eqs_8)
      refine own_by st107 ?_
      refine own_by (fun _ k => XS.ifNo X107.here hx rfl (hb hby d_rm_eqs_11) rfl ((if0 _ _).trans (feq (by decide : ¬ ((1 : Int32) = (0 : Int32)))).1) k) ?_
      show own_Go p e below (T107.setTop (mkF m 14 #[.val (.ref t1), .val (.ref t2), .unset] [])) _
      refine own_by (fun _ k => XS.aloadN X107.here hx rfl (hb hby d_rm_eqs_14) rfl rfl k) ?_
      obtain ⟨T108, X108, e108, st108⟩ := castY X107 hx hZ hown (own_w hw 61 rfl) e107 (Ins.self Et2) (g := (mkF m 15 #[.val (.ref t1), .val (.ref t2), .unset] [(.ref t2)])) rfl rfl (hb hby d_rm_eqs_15)
      refine own_by st108 ?_
      refine own_by (fun _ k => XS.astoreN X108.here hx rfl (hb hby d_rm_eqs_18) rfl rfl (l' := #[.val (.ref t1), .val (.ref t2), .val (.ref t2)]) rfl k) ?_
      obtain ⟨T109, X109, e109, st109⟩ := getS2 X108 hx hZ hown (host := "") (Or.inl (own_w hw 21 rfl)) Via.refl e108 (S_COMPACT.ext O0.2) (g := (mkF m 19 #[.val (.ref t1), .val (.ref t2), .val (.ref t2)] [])) rfl (hb hby d_rm_eqs_19)
      refine own_by st109 ?_
      show own_Go p e below (T109.setTop (mkF m 22 #[.val (.ref t1), .val (.ref t2), .val (.ref t2)] [(.int cs)])) _
      refine own_by (fun _ k => XS.ifNo X109.here hx rfl (hb hby d_rm_eqs_22) rfl ((if0 _ _).trans (feq hcs).1) k) ?_
      show own_Go p e below (T109.setTop (mkF m 25 #[.val (.ref t1), .val (.ref t2), .val (.ref t2)] [])) _
      refine own_by (fun _ k => XS.aloadN X109.here hx rfl (hb hby d_rm_eqs_25) rfl rfl k) ?_
      obtain ⟨T110, X110, e110, st110⟩ := getF X109 hx hZ hown (host := "") (Or.inl (own_w hw 33 rfl)) Via.refl e109 Fc1 (g := (mkF m 26 #[.val (.ref t1), .val (.ref t2), .val (.ref t2)] [(.ref t1)])) rfl rfl (hb hby d_rm_eqs_26)
      refine own_by st110 ?_
      refine own_by (fun _ k => XS.aloadN X110.here hx rfl (hb hby d_rm_eqs_29) rfl rfl k) ?_
      obtain ⟨T111, X111, e111, st111⟩ := getF X110 hx hZ hown (host := "") (Or.inl (own_w hw 33 rfl)) Via.refl e110 Fc2 (g := (mkF m 30 #[.val (.ref t1), .val (.ref t2), .val (.ref t2)] [(.ref t2), (.int (0 : Int32))])) rfl rfl (hb hby d_rm_eqs_30)
      refine own_by st111 ?_
      show own_Go p e below (T111.setTop (mkF m 33 #[.val (.ref t1), .val (.ref t2), .val (.ref t2)] [(.int (0 : Int32)), (.int (0 : Int32))])) _
      refine own_by (fun _ k => XS.icmpNo X111.here hx rfl (hb hby d_rm_eqs_33) rfl (teq (by decide : (0 : Int32) = (0 : Int32))).2 k) ?_
      show own_Go p e below (T111.setTop (mkF m 36 #[.val (.ref t1), .val (.ref t2), .val (.ref t2)] [])) _
      refine own_by (fun _ k => XS.aloadN X111.here hx rfl (hb hby d_rm_eqs_36) rfl rfl k) ?_
      obtain ⟨T112, X112, e112, st112⟩ := getF X111 hx hZ hown (host := "") (Or.inl (own_w hw 35 rfl)) Via.refl e111 Fv1 (g := (mkF m 37 #[.val (.ref t1), .val (.ref t2), .val (.ref t2)] [(.ref t1)])) rfl rfl (hb hby d_rm_eqs_37)
      refine own_by st112 ?_
      refine own_by (fun _ k => XS.aloadN X112.here hx rfl (hb hby d_rm_eqs_40) rfl rfl k) ?_
      obtain ⟨T113, X113, e113, st113⟩ := getF X112 hx hZ hown (host := "") (Or.inl (own_w hw 35 rfl)) Via.refl e112 Fv2 (g := (mkF m 41 #[.val (.ref t1), .val (.ref t2), .val (.ref t2)] [(.ref t2), (.ref b1)])) rfl rfl (hb hby d_rm_eqs_41)
      refine own_by st113 ?_
      show own_Go p e below (T113.setTop (mkF m 44 #[.val (.ref t1), .val (.ref t2), .val (.ref t2)] [(.ref b2), (.ref b1)])) _
      obtain ⟨_, _, ⟨T114, L114, k114, n114⟩, -, X114, ⟨Lc114, hQ114, l114, y114, z114⟩, st114⟩ := Jvm.LawKit.callS X113 hx (y := (⟨"java/lang/StringLatin1", "equals", "([B[B)Z"⟩ : MethodName)) hown (mvT hZ (own_w hw 62 rfl)) (mvT hZ (own_w hw 63 rfl)) (mvT hZ (own_w hw 64 rfl)) (mvT hZ (own_w hw 65 rfl)) (by decide) (backOf (W := 0) (rm_leq_3_1 l Z a0 hw [] b1 b2 kb1 kb2 (own_b (own_pk0 x1 &&& (255 : Int32))) (own_b (own_pk1 x1 &&& (255 : Int32))) (own_b (own_pk2 x1 &&& (255 : Int32))) (own_b (own_pk0 x2 &&& (255 : Int32))) h0 n0 O0 Vo_b1 Vo_b2) hZ (own_w hw 65 rfl) (own_w hw 64 rfl) (by decide) (by decide)) (g := (mkF m 44 #[.val (.ref t1), .val (.ref t2), .val (.ref t2)] [(.ref b2), (.ref b1)])) rfl (by rw [hml]; rfl) (argsL := [(.ref b1), (.ref b2)]) (rest := []) (lenOf own_pd__28_5bB_5bB_29Z rfl) rfl (by show 2 * 0 + _ ≤ _; exact Nat.le_of_eq rfl) (hb hby d_rm_eqs_44) (fun _ _ => ⟨rfl, e113, (by decide : 0 + 0 ≤ _), (by decide : 0 + 0 ≤ _)⟩)
      dsimp only [Pt.U, Pt.locs, Pt.cells, Pt.slots] at X114 l114 y114 z114 st114 hQ114
      subst l114 y114 z114
      obtain ⟨rfl, M114, K114⟩ := hQ114
      have N114 := Fr.app N0 M114
      refine own_by st114 ?_
      refine own_by (fun _ k => XS.ifYes X114.here hx rfl (pc0 := 47) (pc' := 54) rfl (hb hby d_rm_eqs_47) rfl ((if0 _ _).trans (teq (by decide : (0 : Int32) = (0 : Int32))).1) (by decide) (by decide) k) ?_
      show own_Go p e below (T114.setTop (mkF m 54 #[.val (.ref t1), .val (.ref t2), .val (.ref t2)] [])) _
      refine own_by (fun _ k => XS.iconst X114.here hx rfl (hb hby d_rm_eqs_54) k) ?_
      obtain ⟨fs, hr, hrun, hended, hW, hsame⟩ := X114.leave (v := some (.int (0 : Int32))) (fun h => by rw [Bd.returns] at h; cases h)
      refine ⟨_, _, retN X114 hx (t := .boolean) Bd.returns (by simp) (hb hby d_rm_eqs_55) hr, hrun, hended, _, _, rfl, ?_, ⟨_, rfl⟩, hW, hsame.mono (by decide) (by decide)⟩
      show Q_rm_eqs Z t1 t2 b1 b2 kb1 kb2 x1 (3 : Int32) x2 (1 : Int32) cs h0 n0 _ T114.heap _
      rw [K114]
      exact ⟨(by rw [own_eqs_ne (by decide)]), N114, rfl⟩
    · skip
      show own_Go p e below (s₁.setTop (mkF m 0 #[.val (.ref t1), .val (.ref t2), .unset] [])) _
      have Vo_b1 : Arv Z h0 b1 kb1 .byte (3 : Int32) [(.int (own_b (own_pk0 x1 &&& (255 : Int32)))), (.int (own_b (own_pk1 x1 &&& (255 : Int32)))), (.int (own_b (own_pk2 x1 &&& (255 : Int32))))] (.int (0 : Int32)) := by have q := Xb1; rw [own_bs_3] at q; exact q
      have lt_Vo_b1 : h0.size > b1 := Vo_b1.lt
      have Vo_b2 : Arv Z h0 b2 kb2 .byte (2 : Int32) [(.int (own_b (own_pk0 x2 &&& (255 : Int32)))), (.int (own_b (own_pk1 x2 &&& (255 : Int32))))] (.int (0 : Int32)) := by have q := Xb2; rw [own_bs_2] at q; exact q
      have lt_Vo_b2 : h0.size > b2 := Vo_b2.lt
      refine own_by (fun _ k => XS.aloadN X0.here hx rfl (hb hby d_rm_eqs_0) rfl rfl k) ?_
      refine own_by (fun _ k => XS.aloadN X0.here hx rfl (hb hby d_rm_eqs_1) rfl rfl k) ?_
      refine own_by (fun _ k => Jvm.RoadKit.acmp (g := (mkF m 2 #[.val (.ref t1), .val (.ref t2), .unset] [(.ref t2), (.ref t1)])) X0 hx rfl rfl rfl (pc0 := 2) (pc' := 7) (same := false) rfl (hb hby d_rm_eqs_2) rfl (decide_eq_false fun q => nt (Value.ref.inj q)) (by decide) (by decide) k) ?_
      show own_Go p e below (s₁.setTop (mkF m 7 #[.val (.ref t1), .val (.ref t2), .unset] [])) _
      refine own_by (fun _ k => XS.aloadN X0.here hx rfl (hb hby d_rm_eqs_7) rfl rfl k) ?_
      obtain ⟨T115, X115, e115, st115⟩ := instY X0 hx hZ hown (own_w hw 61 rfl) e0 (Ins.self Et2) (g := (mkF m 8 #[.val (.ref t1), .val (.ref t2), .unset] [(.ref t2)])) rfl rfl (hb hby d_rm_eqs_8)
      refine own_by st115 ?_
      refine own_by (fun _ k => XS.ifNo X115.here hx rfl (hb hby d_rm_eqs_11) rfl ((if0 _ _).trans (feq (by decide : ¬ ((1 : Int32) = (0 : Int32)))).1) k) ?_
      show own_Go p e below (T115.setTop (mkF m 14 #[.val (.ref t1), .val (.ref t2), .unset] [])) _
      refine own_by (fun _ k => XS.aloadN X115.here hx rfl (hb hby d_rm_eqs_14) rfl rfl k) ?_
      obtain ⟨T116, X116, e116, st116⟩ := castY X115 hx hZ hown (own_w hw 61 rfl) e115 (Ins.self Et2) (g := (mkF m 15 #[.val (.ref t1), .val (.ref t2), .unset] [(.ref t2)])) rfl rfl (hb hby d_rm_eqs_15)
      refine own_by st116 ?_
      refine own_by (fun _ k => XS.astoreN X116.here hx rfl (hb hby d_rm_eqs_18) rfl rfl (l' := #[.val (.ref t1), .val (.ref t2), .val (.ref t2)]) rfl k) ?_
      obtain ⟨T117, X117, e117, st117⟩ := getS2 X116 hx hZ hown (host := "") (Or.inl (own_w hw 21 rfl)) Via.refl e116 (S_COMPACT.ext O0.2) (g := (mkF m 19 #[.val (.ref t1), .val (.ref t2), .val (.ref t2)] [])) rfl (hb hby d_rm_eqs_19)
      refine own_by st117 ?_
      show own_Go p e below (T117.setTop (mkF m 22 #[.val (.ref t1), .val (.ref t2), .val (.ref t2)] [(.int cs)])) _
      refine own_by (fun _ k => XS.ifNo X117.here hx rfl (hb hby d_rm_eqs_22) rfl ((if0 _ _).trans (feq hcs).1) k) ?_
      show own_Go p e below (T117.setTop (mkF m 25 #[.val (.ref t1), .val (.ref t2), .val (.ref t2)] [])) _
      refine own_by (fun _ k => XS.aloadN X117.here hx rfl (hb hby d_rm_eqs_25) rfl rfl k) ?_
      obtain ⟨T118, X118, e118, st118⟩ := getF X117 hx hZ hown (host := "") (Or.inl (own_w hw 33 rfl)) Via.refl e117 Fc1 (g := (mkF m 26 #[.val (.ref t1), .val (.ref t2), .val (.ref t2)] [(.ref t1)])) rfl rfl (hb hby d_rm_eqs_26)
      refine own_by st118 ?_
      refine own_by (fun _ k => XS.aloadN X118.here hx rfl (hb hby d_rm_eqs_29) rfl rfl k) ?_
      obtain ⟨T119, X119, e119, st119⟩ := getF X118 hx hZ hown (host := "") (Or.inl (own_w hw 33 rfl)) Via.refl e118 Fc2 (g := (mkF m 30 #[.val (.ref t1), .val (.ref t2), .val (.ref t2)] [(.ref t2), (.int (0 : Int32))])) rfl rfl (hb hby d_rm_eqs_30)
      refine own_by st119 ?_
      show own_Go p e below (T119.setTop (mkF m 33 #[.val (.ref t1), .val (.ref t2), .val (.ref t2)] [(.int (0 : Int32)), (.int (0 : Int32))])) _
      refine own_by (fun _ k => XS.icmpNo X119.here hx rfl (hb hby d_rm_eqs_33) rfl (teq (by decide : (0 : Int32) = (0 : Int32))).2 k) ?_
      show own_Go p e below (T119.setTop (mkF m 36 #[.val (.ref t1), .val (.ref t2), .val (.ref t2)] [])) _
      refine own_by (fun _ k => XS.aloadN X119.here hx rfl (hb hby d_rm_eqs_36) rfl rfl k) ?_
      obtain ⟨T120, X120, e120, st120⟩ := getF X119 hx hZ hown (host := "") (Or.inl (own_w hw 35 rfl)) Via.refl e119 Fv1 (g := (mkF m 37 #[.val (.ref t1), .val (.ref t2), .val (.ref t2)] [(.ref t1)])) rfl rfl (hb hby d_rm_eqs_37)
      refine own_by st120 ?_
      refine own_by (fun _ k => XS.aloadN X120.here hx rfl (hb hby d_rm_eqs_40) rfl rfl k) ?_
      obtain ⟨T121, X121, e121, st121⟩ := getF X120 hx hZ hown (host := "") (Or.inl (own_w hw 35 rfl)) Via.refl e120 Fv2 (g := (mkF m 41 #[.val (.ref t1), .val (.ref t2), .val (.ref t2)] [(.ref t2), (.ref b1)])) rfl rfl (hb hby d_rm_eqs_41)
      refine own_by st121 ?_
      show own_Go p e below (T121.setTop (mkF m 44 #[.val (.ref t1), .val (.ref t2), .val (.ref t2)] [(.ref b2), (.ref b1)])) _
      obtain ⟨_, _, ⟨T122, L122, k122, n122⟩, -, X122, ⟨Lc122, hQ122, l122, y122, z122⟩, st122⟩ := Jvm.LawKit.callS X121 hx (y := (⟨"java/lang/StringLatin1", "equals", "([B[B)Z"⟩ : MethodName)) hown (mvT hZ (own_w hw 62 rfl)) (mvT hZ (own_w hw 63 rfl)) (mvT hZ (own_w hw 64 rfl)) (mvT hZ (own_w hw 65 rfl)) (by decide) (backOf (W := 0) (rm_leq_3_2 l Z a0 hw [] b1 b2 kb1 kb2 (own_b (own_pk0 x1 &&& (255 : Int32))) (own_b (own_pk1 x1 &&& (255 : Int32))) (own_b (own_pk2 x1 &&& (255 : Int32))) (own_b (own_pk0 x2 &&& (255 : Int32))) (own_b (own_pk1 x2 &&& (255 : Int32))) h0 n0 O0 Vo_b1 Vo_b2) hZ (own_w hw 65 rfl) (own_w hw 64 rfl) (by decide) (by decide)) (g := (mkF m 44 #[.val (.ref t1), .val (.ref t2), .val (.ref t2)] [(.ref b2), (.ref b1)])) rfl (by rw [hml]; rfl) (argsL := [(.ref b1), (.ref b2)]) (rest := []) (lenOf own_pd__28_5bB_5bB_29Z rfl) rfl (by show 2 * 0 + _ ≤ _; exact Nat.le_of_eq rfl) (hb hby d_rm_eqs_44) (fun _ _ => ⟨rfl, e121, (by decide : 0 + 0 ≤ _), (by decide : 0 + 0 ≤ _)⟩)
      dsimp only [Pt.U, Pt.locs, Pt.cells, Pt.slots] at X122 l122 y122 z122 st122 hQ122
      subst l122 y122 z122
      obtain ⟨rfl, M122, K122⟩ := hQ122
      have N122 := Fr.app N0 M122
      refine own_by st122 ?_
      refine own_by (fun _ k => XS.ifYes X122.here hx rfl (pc0 := 47) (pc' := 54) rfl (hb hby d_rm_eqs_47) rfl ((if0 _ _).trans (teq (by decide : (0 : Int32) = (0 : Int32))).1) (by decide) (by decide) k) ?_
      show own_Go p e below (T122.setTop (mkF m 54 #[.val (.ref t1), .val (.ref t2), .val (.ref t2)] [])) _
      refine own_by (fun _ k => XS.iconst X122.here hx rfl (hb hby d_rm_eqs_54) k) ?_
      obtain ⟨fs, hr, hrun, hended, hW, hsame⟩ := X122.leave (v := some (.int (0 : Int32))) (fun h => by rw [Bd.returns] at h; cases h)
      refine ⟨_, _, retN X122 hx (t := .boolean) Bd.returns (by simp) (hb hby d_rm_eqs_55) hr, hrun, hended, _, _, rfl, ?_, ⟨_, rfl⟩, hW, hsame.mono (by decide) (by decide)⟩
      show Q_rm_eqs Z t1 t2 b1 b2 kb1 kb2 x1 (3 : Int32) x2 (2 : Int32) cs h0 n0 _ T122.heap _
      rw [K122]
      exact ⟨(by rw [own_eqs_ne (by decide)]), N122, rfl⟩
    · skip
      show own_Go p e below (s₁.setTop (mkF m 0 #[.val (.ref t1), .val (.ref t2), .unset] [])) _
      have Vo_b1 : Arv Z h0 b1 kb1 .byte (3 : Int32) [(.int (own_b (own_pk0 x1 &&& (255 : Int32)))), (.int (own_b (own_pk1 x1 &&& (255 : Int32)))), (.int (own_b (own_pk2 x1 &&& (255 : Int32))))] (.int (0 : Int32)) := by have q := Xb1; rw [own_bs_3] at q; exact q
      have lt_Vo_b1 : h0.size > b1 := Vo_b1.lt
      have Vo_b2 : Arv Z h0 b2 kb2 .byte (3 : Int32) [(.int (own_b (own_pk0 x2 &&& (255 : Int32)))), (.int (own_b (own_pk1 x2 &&& (255 : Int32)))), (.int (own_b (own_pk2 x2 &&& (255 : Int32))))] (.int (0 : Int32)) := by have q := Xb2; rw [own_bs_3] at q; exact q
      have lt_Vo_b2 : h0.size > b2 := Vo_b2.lt
      refine own_by (fun _ k => XS.aloadN X0.here hx rfl (hb hby d_rm_eqs_0) rfl rfl k) ?_
      refine own_by (fun _ k => XS.aloadN X0.here hx rfl (hb hby d_rm_eqs_1) rfl rfl k) ?_
      refine own_by (fun _ k => Jvm.RoadKit.acmp (g := (mkF m 2 #[.val (.ref t1), .val (.ref t2), .unset] [(.ref t2), (.ref t1)])) X0 hx rfl rfl rfl (pc0 := 2) (pc' := 7) (same := false) rfl (hb hby d_rm_eqs_2) rfl (decide_eq_false fun q => nt (Value.ref.inj q)) (by decide) (by decide) k) ?_
      show own_Go p e below (s₁.setTop (mkF m 7 #[.val (.ref t1), .val (.ref t2), .unset] [])) _
      refine own_by (fun _ k => XS.aloadN X0.here hx rfl (hb hby d_rm_eqs_7) rfl rfl k) ?_
      obtain ⟨T123, X123, e123, st123⟩ := instY X0 hx hZ hown (own_w hw 61 rfl) e0 (Ins.self Et2) (g := (mkF m 8 #[.val (.ref t1), .val (.ref t2), .unset] [(.ref t2)])) rfl rfl (hb hby d_rm_eqs_8)
      refine own_by st123 ?_
      refine own_by (fun _ k => XS.ifNo X123.here hx rfl (hb hby d_rm_eqs_11) rfl ((if0 _ _).trans (feq (by decide : ¬ ((1 : Int32) = (0 : Int32)))).1) k) ?_
      show own_Go p e below (T123.setTop (mkF m 14 #[.val (.ref t1), .val (.ref t2), .unset] [])) _
      refine own_by (fun _ k => XS.aloadN X123.here hx rfl (hb hby d_rm_eqs_14) rfl rfl k) ?_
      obtain ⟨T124, X124, e124, st124⟩ := castY X123 hx hZ hown (own_w hw 61 rfl) e123 (Ins.self Et2) (g := (mkF m 15 #[.val (.ref t1), .val (.ref t2), .unset] [(.ref t2)])) rfl rfl (hb hby d_rm_eqs_15)
      refine own_by st124 ?_
      refine own_by (fun _ k => XS.astoreN X124.here hx rfl (hb hby d_rm_eqs_18) rfl rfl (l' := #[.val (.ref t1), .val (.ref t2), .val (.ref t2)]) rfl k) ?_
      obtain ⟨T125, X125, e125, st125⟩ := getS2 X124 hx hZ hown (host := "") (Or.inl (own_w hw 21 rfl)) Via.refl e124 (S_COMPACT.ext O0.2) (g := (mkF m 19 #[.val (.ref t1), .val (.ref t2), .val (.ref t2)] [])) rfl (hb hby d_rm_eqs_19)
      refine own_by st125 ?_
      show own_Go p e below (T125.setTop (mkF m 22 #[.val (.ref t1), .val (.ref t2), .val (.ref t2)] [(.int cs)])) _
      refine own_by (fun _ k => XS.ifNo X125.here hx rfl (hb hby d_rm_eqs_22) rfl ((if0 _ _).trans (feq hcs).1) k) ?_
      show own_Go p e below (T125.setTop (mkF m 25 #[.val (.ref t1), .val (.ref t2), .val (.ref t2)] [])) _
      refine own_by (fun _ k => XS.aloadN X125.here hx rfl (hb hby d_rm_eqs_25) rfl rfl k) ?_
      obtain ⟨T126, X126, e126, st126⟩ := getF X125 hx hZ hown (host := "") (Or.inl (own_w hw 33 rfl)) Via.refl e125 Fc1 (g := (mkF m 26 #[.val (.ref t1), .val (.ref t2), .val (.ref t2)] [(.ref t1)])) rfl rfl (hb hby d_rm_eqs_26)
      refine own_by st126 ?_
      refine own_by (fun _ k => XS.aloadN X126.here hx rfl (hb hby d_rm_eqs_29) rfl rfl k) ?_
      obtain ⟨T127, X127, e127, st127⟩ := getF X126 hx hZ hown (host := "") (Or.inl (own_w hw 33 rfl)) Via.refl e126 Fc2 (g := (mkF m 30 #[.val (.ref t1), .val (.ref t2), .val (.ref t2)] [(.ref t2), (.int (0 : Int32))])) rfl rfl (hb hby d_rm_eqs_30)
      refine own_by st127 ?_
      show own_Go p e below (T127.setTop (mkF m 33 #[.val (.ref t1), .val (.ref t2), .val (.ref t2)] [(.int (0 : Int32)), (.int (0 : Int32))])) _
      refine own_by (fun _ k => XS.icmpNo X127.here hx rfl (hb hby d_rm_eqs_33) rfl (teq (by decide : (0 : Int32) = (0 : Int32))).2 k) ?_
      show own_Go p e below (T127.setTop (mkF m 36 #[.val (.ref t1), .val (.ref t2), .val (.ref t2)] [])) _
      refine own_by (fun _ k => XS.aloadN X127.here hx rfl (hb hby d_rm_eqs_36) rfl rfl k) ?_
      obtain ⟨T128, X128, e128, st128⟩ := getF X127 hx hZ hown (host := "") (Or.inl (own_w hw 35 rfl)) Via.refl e127 Fv1 (g := (mkF m 37 #[.val (.ref t1), .val (.ref t2), .val (.ref t2)] [(.ref t1)])) rfl rfl (hb hby d_rm_eqs_37)
      refine own_by st128 ?_
      refine own_by (fun _ k => XS.aloadN X128.here hx rfl (hb hby d_rm_eqs_40) rfl rfl k) ?_
      obtain ⟨T129, X129, e129, st129⟩ := getF X128 hx hZ hown (host := "") (Or.inl (own_w hw 35 rfl)) Via.refl e128 Fv2 (g := (mkF m 41 #[.val (.ref t1), .val (.ref t2), .val (.ref t2)] [(.ref t2), (.ref b1)])) rfl rfl (hb hby d_rm_eqs_41)
      refine own_by st129 ?_
      show own_Go p e below (T129.setTop (mkF m 44 #[.val (.ref t1), .val (.ref t2), .val (.ref t2)] [(.ref b2), (.ref b1)])) _
      obtain ⟨_, _, ⟨T130, L130, k130, n130⟩, -, X130, ⟨Lc130, hQ130, l130, y130, z130⟩, st130⟩ := Jvm.LawKit.callS X129 hx (y := (⟨"java/lang/StringLatin1", "equals", "([B[B)Z"⟩ : MethodName)) hown (mvT hZ (own_w hw 62 rfl)) (mvT hZ (own_w hw 63 rfl)) (mvT hZ (own_w hw 64 rfl)) (mvT hZ (own_w hw 65 rfl)) (by decide) (backOf (W := 0) (rm_leq_3_3 l Z a0 hw [] b1 b2 kb1 kb2 (own_b (own_pk0 x1 &&& (255 : Int32))) (own_b (own_pk1 x1 &&& (255 : Int32))) (own_b (own_pk2 x1 &&& (255 : Int32))) (own_b (own_pk0 x2 &&& (255 : Int32))) (own_b (own_pk1 x2 &&& (255 : Int32))) (own_b (own_pk2 x2 &&& (255 : Int32))) h0 n0 O0 Vo_b1 Vo_b2) hZ (own_w hw 65 rfl) (own_w hw 64 rfl) (by decide) (by decide)) (g := (mkF m 44 #[.val (.ref t1), .val (.ref t2), .val (.ref t2)] [(.ref b2), (.ref b1)])) rfl (by rw [hml]; rfl) (argsL := [(.ref b1), (.ref b2)]) (rest := []) (lenOf own_pd__28_5bB_5bB_29Z rfl) rfl (by show 2 * 0 + _ ≤ _; exact Nat.le_of_eq rfl) (hb hby d_rm_eqs_44) (fun _ _ => ⟨rfl, e129, (by decide : 0 + 0 ≤ _), (by decide : 0 + 0 ≤ _)⟩)
      dsimp only [Pt.U, Pt.locs, Pt.cells, Pt.slots] at X130 l130 y130 z130 st130 hQ130
      subst l130 y130 z130
      obtain ⟨rfl, M130, K130⟩ := hQ130
      have N130 := Fr.app N0 M130
      refine own_by st130 ?_
      by_cases hc131 : (own_all [((own_b (own_pk0 x1 &&& (255 : Int32))), (own_b (own_pk0 x2 &&& (255 : Int32)))), ((own_b (own_pk1 x1 &&& (255 : Int32))), (own_b (own_pk1 x2 &&& (255 : Int32)))), ((own_b (own_pk2 x1 &&& (255 : Int32))), (own_b (own_pk2 x2 &&& (255 : Int32))))]) = (0 : Int32)
      · skip
        refine own_by (fun _ k => XS.ifYes X130.here hx rfl (pc0 := 47) (pc' := 54) rfl (hb hby d_rm_eqs_47) rfl ((if0 _ _).trans (teq hc131).1) (by decide) (by decide) k) ?_
        show own_Go p e below (T130.setTop (mkF m 54 #[.val (.ref t1), .val (.ref t2), .val (.ref t2)] [])) _
        refine own_by (fun _ k => XS.iconst X130.here hx rfl (hb hby d_rm_eqs_54) k) ?_
        obtain ⟨fs, hr, hrun, hended, hW, hsame⟩ := X130.leave (v := some (.int (0 : Int32))) (fun h => by rw [Bd.returns] at h; cases h)
        refine ⟨_, _, retN X130 hx (t := .boolean) Bd.returns (by simp) (hb hby d_rm_eqs_55) hr, hrun, hended, _, _, rfl, ?_, ⟨_, rfl⟩, hW, hsame.mono (by decide) (by decide)⟩
        show Q_rm_eqs Z t1 t2 b1 b2 kb1 kb2 x1 (3 : Int32) x2 (3 : Int32) cs h0 n0 _ T130.heap _
        rw [K130]
        exact ⟨(by rw [own_eqs_eq rfl, own_pre_3]; exact own_all_ret0 hc131), N130, rfl⟩
      · skip
        refine own_by (fun _ k => XS.ifNo X130.here hx rfl (hb hby d_rm_eqs_47) rfl ((if0 _ _).trans (feq hc131).1) k) ?_
        show own_Go p e below (T130.setTop (mkF m 50 #[.val (.ref t1), .val (.ref t2), .val (.ref t2)] [])) _
        refine own_by (fun _ k => XS.iconst X130.here hx rfl (hb hby d_rm_eqs_50) k) ?_
        refine own_by (fun _ k => XS.goto X130.here hx rfl (pc0 := 51) (pc' := 55) rfl (hb hby d_rm_eqs_51) (by decide) (by decide) k) ?_
        obtain ⟨fs, hr, hrun, hended, hW, hsame⟩ := X130.leave (v := some (.int (1 : Int32))) (fun h => by rw [Bd.returns] at h; cases h)
        refine ⟨_, _, retN X130 hx (t := .boolean) Bd.returns (by simp) (hb hby d_rm_eqs_55) hr, hrun, hended, _, _, rfl, ?_, ⟨_, rfl⟩, hW, hsame.mono (by decide) (by decide)⟩
        show Q_rm_eqs Z t1 t2 b1 b2 kb1 kb2 x1 (3 : Int32) x2 (3 : Int32) cs h0 n0 _ T130.heap _
        rw [K130]
        exact ⟨(by rw [own_eqs_eq rfl, own_pre_3]; exact own_all_ret1 hc131), N130, rfl⟩
theorem d_rm_einit_0 : decode prog_11_method_1_code 0 = .ok (.aload_n 0, 1) := by decide +kernel
theorem d_rm_einit_1 : decode prog_11_method_1_code 1 = .ok (.invokespecial 1, 3) := by decide +kernel
theorem d_rm_einit_4 : decode prog_11_method_1_code 4 = .ok (.aload_n 0, 1) := by decide +kernel
theorem d_rm_einit_5 : decode prog_11_method_1_code 5 = .ok (.aload_n 1, 1) := by decide +kernel
theorem d_rm_einit_6 : decode prog_11_method_1_code 6 = .ok (.putfield 7, 3) := by decide +kernel
theorem d_rm_einit_9 : decode prog_11_method_1_code 9 = .ok (.return_, 1) := by decide +kernel
def Q_rm_einit (Z : State) (t1 : Addr) (r1 : Addr) (h0 : Heap) (n0 : Nat) (v : Option Value) (h : Heap) (L : List Loc) : Prop := v = none ∧ Fr n0 L ∧ Keep h0 h [t1] ∧ Exa Z h t1 "com/example/living_lease/livinglease/redis/Resp$Error" ∧ Fld Z h t1 "com/example/living_lease/livinglease/redis/Resp$Error" "message" "Ljava/lang/String;" (.ref r1)
theorem ef_rm_einit (m : MethodId) (t1 : Addr) (r1 : Addr) : entryFrame m #[(.ref t1), (.ref r1)] 2 = mkF m 0 #[.val (.ref t1), .val (.ref r1)] [] := by first | (simp [entryFrame, mkF, argsToLocals, Value.category]; done) | rfl
set_option maxRecDepth 65536 in
set_option maxHeartbeats 40000000 in
theorem rm_einit (l : Launch) (Z : State) (a0 : Array Value) (hw : ∀ d ∈ tables_1, d.before a0 Z = true) (ws : List Jvm.Cond) (t1 : Addr) (r1 : Addr) (h0 : Heap) (n0 : Nat) (O0 : Old Z n0 h0) (Et : Exa Z h0 t1 "com/example/living_lease/livinglease/redis/Resp$Error") (Fm : Fld Z h0 t1 "com/example/living_lease/livinglease/redis/Resp$Error" "message" "Ljava/lang/String;" .null) (gt : n0 ≤ t1) :
    MetFree l (⟨"com/example/living_lease/livinglease/redis/Resp$Error", "<init>", "(Ljava/lang/String;)V"⟩ : MethodName) (head1 (Jvm.Cond.code (⟨"com/example/living_lease/livinglease/redis/Resp$Error", "<init>", "(Ljava/lang/String;)V"⟩ : MethodName) prog_11_method_1_code 2 none :: ws) ({ frames := 1, cells := 0, slots := 0, locals := 12 } : Room)) (fun a U => a = #[(.ref t1), (.ref r1)] ∧ Z.Warmed39 U.vm ∧ U.heap = h0) (fun _ _ _ _ _ => True) (fun _ U o U' => ∃ v L, o = .returned v ∧ Q_rm_einit Z t1 r1 h0 n0 v U'.heap L ∧ FrameEnd U o U' L ({ frames := 1, cells := 0, slots := 0, locals := 12 } : Room).cells ({ frames := 1, cells := 0, slots := 0, locals := 12 } : Room).slots) := by
  refine MetFree.of_bodySF (plainFor_of_name own_pn_com_example_living_lease_livinglease_redis_Resp_Error) hisR ?_
  intro p e s m args below meth c s₁ Bd hml0 hP hK
  obtain ⟨rfl, hZ, hh⟩ := hP
  have hx := Bd.exec
  have hby := Bd.bytes
  have hml : c.maxLocals = 2 := hml0
  have hown : s.vm.findClass "com/example/living_lease/livinglease/redis/Resp$Error" = some m.cls := findClass_of_methodNamed Bd.named
  have hnm := (name_of_methodNamed Bd.named Bd.method).1
  have X0 : Stand p l e ({ frames := 1, cells := 0, slots := 0, locals := 12 } : Room) s m #[(.ref t1), (.ref r1)] below meth c s₁ [] 0 0 := Stand.of_body Bd
  have e0 : s₁.heap = h0 := by rw [← hh, Bd.state]; rfl
  have N0 := Fr.nil n0
  have Z0 : n0 ≤ h0.size := by rw [← O0.1]; exact O0.2.1
  show own_Go p e below (s₁.setTop (entryFrame m #[(.ref t1), (.ref r1)] 2)) (fun t o => ∃ v L, o = .returned v ∧ Q_rm_einit Z t1 r1 h0 n0 v t.heap L ∧ FrameEnd s o t L ({ frames := 1, cells := 0, slots := 0, locals := 12 } : Room).cells ({ frames := 1, cells := 0, slots := 0, locals := 12 } : Room).slots)
  rw [ef_rm_einit m t1 r1]
  have lt_Et : h0.size > t1 := Et.lt
  have lt_Fm : h0.size > t1 := Fm.lt
  refine own_by (fun _ k => XS.aloadN X0.here hx rfl (hb hby d_rm_einit_0) rfl rfl k) ?_
  obtain ⟨T1, X1, e1, st1⟩ := initO X0 hx hZ hown (own_w hw 46 rfl) (own_w hw 19 rfl) (own_w hw 20 rfl) e0 (g := (mkF m 1 #[.val (.ref t1), .val (.ref r1)] [(.ref t1)])) rfl (by rw [hml]; rfl) rfl (hb hby d_rm_einit_1) (by decide) (W := 0) (by show 2 * 0 + _ ≤ _; exact Nat.le_of_eq rfl) (by decide)
  refine own_by st1 ?_
  refine own_by (fun _ k => XS.aloadN X1.here hx rfl (hb hby d_rm_einit_4) rfl rfl k) ?_
  refine own_by (fun _ k => XS.aloadN X1.here hx rfl (hb hby d_rm_einit_5) rfl rfl k) ?_
  show own_Go p e below (T1.setTop (mkF m 6 #[.val (.ref t1), .val (.ref r1)] [(.ref r1), (.ref t1)])) _
  obtain ⟨T2, h2, X2, e2, W2, st2⟩ := putF X1 hx hZ hown (host := "") (Or.inl (own_w hw 47 rfl)) Via.refl e1 Fm Et (Or.inr ⟨(own_w hw 48 rfl), rfl, hnm⟩) (own_w hw 41 rfl) (ty := (.object "java/lang/String")) (by decide) rfl rfl (g := (mkF m 6 #[.val (.ref t1), .val (.ref r1)] [(.ref r1), (.ref t1)])) rfl rfl (hb hby d_rm_einit_6)
  refine own_by st2 ?_
  have z2 := W2.size
  have N2 := Fr.snoc X2 N0 (by omega)
  have Fw2 : Fld Z h2 t1 "com/example/living_lease/livinglease/redis/Resp$Error" "message" "Ljava/lang/String;" (.ref r1) := Fm.same W2
  have fc3 : Exa Z h2 t1 "com/example/living_lease/livinglease/redis/Resp$Error" := (Et.wr W2)
  have K4 : Keep h0 h2 [t1] := ((Keep.refl h0 [t1]).wr W2 (Or.inl (List.mem_of_getElem? (i := 0) rfl)))
  obtain ⟨fs, hr, hrun, hended, hW, hsame⟩ := X2.leave (v := none) (fun h => rfl)
  refine ⟨_, _, X2.returnOut hx Bd.returns (hb hby d_rm_einit_9) hr, hrun, hended, _, _, rfl, ?_, ⟨_, rfl⟩, hW, hsame.mono (by decide) (by decide)⟩
  show Q_rm_einit Z t1 r1 h0 n0 _ T2.heap _
  rw [e2]
  exact ⟨rfl, N2, K4, fc3, Fw2⟩
theorem d_rm_qself_0 : decode prog_11_method_3_code 0 = .ok (.aload_n 1, 1) := by decide +kernel
theorem d_rm_qself_1 : decode prog_11_method_3_code 1 = .ok (.instanceof 8, 3) := by decide +kernel
theorem d_rm_qself_4 : decode prog_11_method_3_code 4 = .ok (.ifCond .eq 26, 3) := by decide +kernel
theorem d_rm_qself_7 : decode prog_11_method_3_code 7 = .ok (.aload_n 1, 1) := by decide +kernel
theorem d_rm_qself_8 : decode prog_11_method_3_code 8 = .ok (.checkcast 8, 3) := by decide +kernel
theorem d_rm_qself_11 : decode prog_11_method_3_code 11 = .ok (.astore_n 2, 1) := by decide +kernel
theorem d_rm_qself_12 : decode prog_11_method_3_code 12 = .ok (.aload_n 0, 1) := by decide +kernel
theorem d_rm_qself_13 : decode prog_11_method_3_code 13 = .ok (.getfield 7, 3) := by decide +kernel
theorem d_rm_qself_16 : decode prog_11_method_3_code 16 = .ok (.aload_n 2, 1) := by decide +kernel
theorem d_rm_qself_17 : decode prog_11_method_3_code 17 = .ok (.getfield 7, 3) := by decide +kernel
theorem d_rm_qself_20 : decode prog_11_method_3_code 20 = .ok (.invokevirtual 13, 3) := by decide +kernel
theorem d_rm_qself_23 : decode prog_11_method_3_code 23 = .ok (.ifCond .eq 7, 3) := by decide +kernel
theorem d_rm_qself_26 : decode prog_11_method_3_code 26 = .ok (.iconst 1, 1) := by decide +kernel
theorem d_rm_qself_27 : decode prog_11_method_3_code 27 = .ok (.goto 4, 3) := by decide +kernel
theorem d_rm_qself_31 : decode prog_11_method_3_code 31 = .ok (.ireturn, 1) := by decide +kernel
def Q_rm_qself (Z : State) (t1 : Addr) (r1 : Addr) (h0 : Heap) (n0 : Nat) (v : Option Value) (h : Heap) (L : List Loc) : Prop := v = some (.int (1 : Int32)) ∧ Fr n0 L ∧ h = h0
theorem ef_rm_qself (m : MethodId) (t1 : Addr) (r1 : Addr) : entryFrame m #[(.ref t1), (.ref t1)] 3 = mkF m 0 #[.val (.ref t1), .val (.ref t1), .unset] [] := by first | (simp [entryFrame, mkF, argsToLocals, Value.category]; done) | rfl
set_option maxRecDepth 65536 in
set_option maxHeartbeats 40000000 in
theorem rm_qself (l : Launch) (Z : State) (a0 : Array Value) (hw : ∀ d ∈ tables_1, d.before a0 Z = true) (ws : List Jvm.Cond) (t1 : Addr) (r1 : Addr) (h0 : Heap) (n0 : Nat) (O0 : Old Z n0 h0) (Et : Exa Z h0 t1 "com/example/living_lease/livinglease/redis/Resp$Error") (Fm : Fld Z h0 t1 "com/example/living_lease/livinglease/redis/Resp$Error" "message" "Ljava/lang/String;" (.ref r1)) (Er : Exa Z h0 r1 "java/lang/String") :
    MetFree l (⟨"com/example/living_lease/livinglease/redis/Resp$Error", "equals", "(Ljava/lang/Object;)Z"⟩ : MethodName) (head1 (Jvm.Cond.code (⟨"com/example/living_lease/livinglease/redis/Resp$Error", "equals", "(Ljava/lang/Object;)Z"⟩ : MethodName) prog_11_method_3_code 3 (some .boolean) :: ws) ({ frames := 1, cells := 0, slots := 0, locals := 14 } : Room)) (fun a U => a = #[(.ref t1), (.ref t1)] ∧ Z.Warmed39 U.vm ∧ U.heap = h0) (fun _ _ _ _ _ => True) (fun _ U o U' => ∃ v L, o = .returned v ∧ Q_rm_qself Z t1 r1 h0 n0 v U'.heap L ∧ FrameEnd U o U' L ({ frames := 1, cells := 0, slots := 0, locals := 14 } : Room).cells ({ frames := 1, cells := 0, slots := 0, locals := 14 } : Room).slots) := by
  refine MetFree.of_bodySF (plainFor_of_name own_pn_com_example_living_lease_livinglease_redis_Resp_Error) hisR ?_
  intro p e s m args below meth c s₁ Bd hml0 hP hK
  obtain ⟨rfl, hZ, hh⟩ := hP
  have hx := Bd.exec
  have hby := Bd.bytes
  have hml : c.maxLocals = 3 := hml0
  have hown : s.vm.findClass "com/example/living_lease/livinglease/redis/Resp$Error" = some m.cls := findClass_of_methodNamed Bd.named
  have hnm := (name_of_methodNamed Bd.named Bd.method).1
  have X0 : Stand p l e ({ frames := 1, cells := 0, slots := 0, locals := 14 } : Room) s m #[(.ref t1), (.ref t1)] below meth c s₁ [] 0 0 := Stand.of_body Bd
  have e0 : s₁.heap = h0 := by rw [← hh, Bd.state]; rfl
  have N0 := Fr.nil n0
  have Z0 : n0 ≤ h0.size := by rw [← O0.1]; exact O0.2.1
  show own_Go p e below (s₁.setTop (entryFrame m #[(.ref t1), (.ref t1)] 3)) (fun t o => ∃ v L, o = .returned v ∧ Q_rm_qself Z t1 r1 h0 n0 v t.heap L ∧ FrameEnd s o t L ({ frames := 1, cells := 0, slots := 0, locals := 14 } : Room).cells ({ frames := 1, cells := 0, slots := 0, locals := 14 } : Room).slots)
  rw [ef_rm_qself m t1 r1]
  have lt_Et : h0.size > t1 := Et.lt
  have lt_Fm : h0.size > t1 := Fm.lt
  have lt_Er : h0.size > r1 := Er.lt
  refine own_by (fun _ k => XS.aloadN X0.here hx rfl (hb hby d_rm_qself_0) rfl rfl k) ?_
  obtain ⟨T1, X1, e1, st1⟩ := instY X0 hx hZ hown (own_w hw 54 rfl) e0 (Ins.self Et) (g := (mkF m 1 #[.val (.ref t1), .val (.ref t1), .unset] [(.ref t1)])) rfl rfl (hb hby d_rm_qself_1)
  refine own_by st1 ?_
  refine own_by (fun _ k => XS.ifNo X1.here hx rfl (hb hby d_rm_qself_4) rfl ((if0 _ _).trans (feq (by decide : ¬ ((1 : Int32) = (0 : Int32)))).1) k) ?_
  show own_Go p e below (T1.setTop (mkF m 7 #[.val (.ref t1), .val (.ref t1), .unset] [])) _
  refine own_by (fun _ k => XS.aloadN X1.here hx rfl (hb hby d_rm_qself_7) rfl rfl k) ?_
  obtain ⟨T2, X2, e2, st2⟩ := castY X1 hx hZ hown (own_w hw 54 rfl) e1 (Ins.self Et) (g := (mkF m 8 #[.val (.ref t1), .val (.ref t1), .unset] [(.ref t1)])) rfl rfl (hb hby d_rm_qself_8)
  refine own_by st2 ?_
  refine own_by (fun _ k => XS.astoreN X2.here hx rfl (hb hby d_rm_qself_11) rfl rfl (l' := #[.val (.ref t1), .val (.ref t1), .val (.ref t1)]) rfl k) ?_
  refine own_by (fun _ k => XS.aloadN X2.here hx rfl (hb hby d_rm_qself_12) rfl rfl k) ?_
  show own_Go p e below (T2.setTop (mkF m 13 #[.val (.ref t1), .val (.ref t1), .val (.ref t1)] [(.ref t1)])) _
  obtain ⟨T3, X3, e3, st3⟩ := getF X2 hx hZ hown (host := "") (Or.inl (own_w hw 47 rfl)) Via.refl e2 Fm (g := (mkF m 13 #[.val (.ref t1), .val (.ref t1), .val (.ref t1)] [(.ref t1)])) rfl rfl (hb hby d_rm_qself_13)
  refine own_by st3 ?_
  refine own_by (fun _ k => XS.aloadN X3.here hx rfl (hb hby d_rm_qself_16) rfl rfl k) ?_
  obtain ⟨T4, X4, e4, st4⟩ := getF X3 hx hZ hown (host := "") (Or.inl (own_w hw 47 rfl)) Via.refl e3 Fm (g := (mkF m 17 #[.val (.ref t1), .val (.ref t1), .val (.ref t1)] [(.ref t1), (.ref r1)])) rfl rfl (hb hby d_rm_qself_17)
  refine own_by st4 ?_
  obtain ⟨cq5, kq5, q5a, q5b, q5c⟩ := isOf hZ e4 Er
  obtain ⟨_, _, ⟨T5, L5, k5, n5⟩, -, X5, ⟨Lc5, hQ5, l5, y5, z5⟩, st5⟩ := X4.virtualBack hx (y := (⟨"java/lang/String", "equals", "(Ljava/lang/Object;)Z"⟩ : MethodName)) (z := (⟨"java/lang/String", "equals", "(Ljava/lang/Object;)Z"⟩ : MethodName)) hown (mvT hZ (own_w hw 56 rfl)) (mvT hZ (own_w hw 57 rfl)) (notFace_of_selects (args := #[]) (mvT hZ (own_w hw 59 rfl))) (mvT hZ (own_w hw 59 rfl)) (mvT hZ (own_w hw 58 rfl)) (by decide) (backOf (W := 0) (rm_eqsame l Z a0 hw [] r1 h0 n0 O0) hZ (own_w hw 60 rfl) (own_w hw 6 rfl) (by decide) (by decide)) q5a q5c (g := (mkF m 20 #[.val (.ref t1), .val (.ref t1), .val (.ref t1)] [(.ref r1), (.ref r1)])) rfl (by rw [hml]; rfl) (Steps.refl _) (argsL := [(.ref r1)]) (rest := []) (lenOf own_pd__28Ljava_2flang_2fObject_3b_29Z rfl) rfl (by show 2 * 0 + _ ≤ _; exact Nat.le_of_eq rfl) (hb hby d_rm_qself_20) (fun _ _ => ⟨rfl, e4, (by decide : 0 + 0 ≤ _), (by decide : 0 + 0 ≤ _)⟩)
  dsimp only [Pt.U, Pt.locs, Pt.cells, Pt.slots] at X5 l5 y5 z5 st5 hQ5
  subst l5 y5 z5
  obtain ⟨rfl, M5, K5⟩ := hQ5
  have N5 := Fr.app N0 M5
  refine own_by (fun _ k => st5.trans k) ?_
  show own_Go p e below (T5.setTop (mkF m 23 #[.val (.ref t1), .val (.ref t1), .val (.ref t1)] [(.int (1 : Int32))])) _
  refine own_by (fun _ k => XS.ifNo X5.here hx rfl (hb hby d_rm_qself_23) rfl ((if0 _ _).trans (feq (by decide : ¬ ((1 : Int32) = (0 : Int32)))).1) k) ?_
  show own_Go p e below (T5.setTop (mkF m 26 #[.val (.ref t1), .val (.ref t1), .val (.ref t1)] [])) _
  refine own_by (fun _ k => XS.iconst X5.here hx rfl (hb hby d_rm_qself_26) k) ?_
  refine own_by (fun _ k => XS.goto X5.here hx rfl (pc0 := 27) (pc' := 31) rfl (hb hby d_rm_qself_27) (by decide) (by decide) k) ?_
  obtain ⟨fs, hr, hrun, hended, hW, hsame⟩ := X5.leave (v := some (.int (1 : Int32))) (fun h => by rw [Bd.returns] at h; cases h)
  refine ⟨_, _, retN X5 hx (t := .boolean) Bd.returns (by simp) (hb hby d_rm_qself_31) hr, hrun, hended, _, _, rfl, ?_, ⟨_, rfl⟩, hW, hsame.mono (by decide) (by decide)⟩
  show Q_rm_qself Z t1 r1 h0 n0 _ T5.heap _
  rw [K5]
  exact ⟨rfl, N5, rfl⟩
theorem d_rm_qstr_0 : decode prog_11_method_3_code 0 = .ok (.aload_n 1, 1) := by decide +kernel
theorem d_rm_qstr_1 : decode prog_11_method_3_code 1 = .ok (.instanceof 8, 3) := by decide +kernel
theorem d_rm_qstr_4 : decode prog_11_method_3_code 4 = .ok (.ifCond .eq 26, 3) := by decide +kernel
theorem d_rm_qstr_30 : decode prog_11_method_3_code 30 = .ok (.iconst 0, 1) := by decide +kernel
theorem d_rm_qstr_31 : decode prog_11_method_3_code 31 = .ok (.ireturn, 1) := by decide +kernel
def Q_rm_qstr (Z : State) (t1 : Addr) (r2 : Addr) (h0 : Heap) (n0 : Nat) (v : Option Value) (h : Heap) (L : List Loc) : Prop := v = some (.int (0 : Int32)) ∧ Fr n0 L ∧ h = h0
theorem ef_rm_qstr (m : MethodId) (t1 : Addr) (r2 : Addr) : entryFrame m #[(.ref t1), (.ref r2)] 3 = mkF m 0 #[.val (.ref t1), .val (.ref r2), .unset] [] := by first | (simp [entryFrame, mkF, argsToLocals, Value.category]; done) | rfl
set_option maxRecDepth 65536 in
set_option maxHeartbeats 40000000 in
theorem rm_qstr (l : Launch) (Z : State) (a0 : Array Value) (hw : ∀ d ∈ tables_1, d.before a0 Z = true) (ws : List Jvm.Cond) (t1 : Addr) (r2 : Addr) (h0 : Heap) (n0 : Nat) (O0 : Old Z n0 h0) (Er : Exa Z h0 r2 "java/lang/String") :
    MetFree l (⟨"com/example/living_lease/livinglease/redis/Resp$Error", "equals", "(Ljava/lang/Object;)Z"⟩ : MethodName) (head1 (Jvm.Cond.code (⟨"com/example/living_lease/livinglease/redis/Resp$Error", "equals", "(Ljava/lang/Object;)Z"⟩ : MethodName) prog_11_method_3_code 3 (some .boolean) :: ws) ({ frames := 0, cells := 0, slots := 0, locals := 0 } : Room)) (fun a U => a = #[(.ref t1), (.ref r2)] ∧ Z.Warmed39 U.vm ∧ U.heap = h0) (fun _ _ _ _ _ => True) (fun _ U o U' => ∃ v L, o = .returned v ∧ Q_rm_qstr Z t1 r2 h0 n0 v U'.heap L ∧ FrameEnd U o U' L ({ frames := 0, cells := 0, slots := 0, locals := 0 } : Room).cells ({ frames := 0, cells := 0, slots := 0, locals := 0 } : Room).slots) := by
  refine MetFree.of_bodySF (plainFor_of_name own_pn_com_example_living_lease_livinglease_redis_Resp_Error) hisR ?_
  intro p e s m args below meth c s₁ Bd hml0 hP hK
  obtain ⟨rfl, hZ, hh⟩ := hP
  have hx := Bd.exec
  have hby := Bd.bytes
  have hml : c.maxLocals = 3 := hml0
  have hown : s.vm.findClass "com/example/living_lease/livinglease/redis/Resp$Error" = some m.cls := findClass_of_methodNamed Bd.named
  have hnm := (name_of_methodNamed Bd.named Bd.method).1
  have X0 : Stand p l e ({ frames := 0, cells := 0, slots := 0, locals := 0 } : Room) s m #[(.ref t1), (.ref r2)] below meth c s₁ [] 0 0 := Stand.of_body Bd
  have e0 : s₁.heap = h0 := by rw [← hh, Bd.state]; rfl
  have N0 := Fr.nil n0
  have Z0 : n0 ≤ h0.size := by rw [← O0.1]; exact O0.2.1
  show own_Go p e below (s₁.setTop (entryFrame m #[(.ref t1), (.ref r2)] 3)) (fun t o => ∃ v L, o = .returned v ∧ Q_rm_qstr Z t1 r2 h0 n0 v t.heap L ∧ FrameEnd s o t L ({ frames := 0, cells := 0, slots := 0, locals := 0 } : Room).cells ({ frames := 0, cells := 0, slots := 0, locals := 0 } : Room).slots)
  rw [ef_rm_qstr m t1 r2]
  have lt_Er : h0.size > r2 := Er.lt
  refine own_by (fun _ k => XS.aloadN X0.here hx rfl (hb hby d_rm_qstr_0) rfl rfl k) ?_
  obtain ⟨T1, X1, e1, st1⟩ := instNo X0 hx hZ hown (own_w hw 54 rfl) e0 Er (own_not_sub (a0 := a0) (own_w hw 66 rfl) (own_w hw 67 rfl) (own_w hw 41 rfl) (by decide) (by decide)) (g := (mkF m 1 #[.val (.ref t1), .val (.ref r2), .unset] [(.ref r2)])) rfl rfl (hb hby d_rm_qstr_1)
  refine own_by st1 ?_
  refine own_by (fun _ k => XS.ifYes X1.here hx rfl (pc0 := 4) (pc' := 30) rfl (hb hby d_rm_qstr_4) rfl ((if0 _ _).trans (teq (by decide : (0 : Int32) = (0 : Int32))).1) (by decide) (by decide) k) ?_
  show own_Go p e below (T1.setTop (mkF m 30 #[.val (.ref t1), .val (.ref r2), .unset] [])) _
  refine own_by (fun _ k => XS.iconst X1.here hx rfl (hb hby d_rm_qstr_30) k) ?_
  obtain ⟨fs, hr, hrun, hended, hW, hsame⟩ := X1.leave (v := some (.int (0 : Int32))) (fun h => by rw [Bd.returns] at h; cases h)
  refine ⟨_, _, retN X1 hx (t := .boolean) Bd.returns (by simp) (hb hby d_rm_qstr_31) hr, hrun, hended, _, _, rfl, ?_, ⟨_, rfl⟩, hW, hsame.mono (by decide) (by decide)⟩
  show Q_rm_qstr Z t1 r2 h0 n0 _ T1.heap _
  rw [e1]
  exact ⟨rfl, N0, rfl⟩
theorem d_rm_qnull_0 : decode prog_11_method_3_code 0 = .ok (.aload_n 1, 1) := by decide +kernel
theorem d_rm_qnull_1 : decode prog_11_method_3_code 1 = .ok (.instanceof 8, 3) := by decide +kernel
theorem d_rm_qnull_4 : decode prog_11_method_3_code 4 = .ok (.ifCond .eq 26, 3) := by decide +kernel
theorem d_rm_qnull_30 : decode prog_11_method_3_code 30 = .ok (.iconst 0, 1) := by decide +kernel
theorem d_rm_qnull_31 : decode prog_11_method_3_code 31 = .ok (.ireturn, 1) := by decide +kernel
def Q_rm_qnull (Z : State) (t1 : Addr) (h0 : Heap) (n0 : Nat) (v : Option Value) (h : Heap) (L : List Loc) : Prop := v = some (.int (0 : Int32)) ∧ Fr n0 L ∧ h = h0
theorem ef_rm_qnull (m : MethodId) (t1 : Addr) : entryFrame m #[(.ref t1), .null] 3 = mkF m 0 #[.val (.ref t1), .val .null, .unset] [] := by first | (simp [entryFrame, mkF, argsToLocals, Value.category]; done) | rfl
set_option maxRecDepth 65536 in
set_option maxHeartbeats 40000000 in
theorem rm_qnull (l : Launch) (Z : State) (a0 : Array Value) (hw : ∀ d ∈ tables_1, d.before a0 Z = true) (ws : List Jvm.Cond) (t1 : Addr) (h0 : Heap) (n0 : Nat) (O0 : Old Z n0 h0) :
    MetFree l (⟨"com/example/living_lease/livinglease/redis/Resp$Error", "equals", "(Ljava/lang/Object;)Z"⟩ : MethodName) (head1 (Jvm.Cond.code (⟨"com/example/living_lease/livinglease/redis/Resp$Error", "equals", "(Ljava/lang/Object;)Z"⟩ : MethodName) prog_11_method_3_code 3 (some .boolean) :: ws) ({ frames := 0, cells := 0, slots := 0, locals := 0 } : Room)) (fun a U => a = #[(.ref t1), .null] ∧ Z.Warmed39 U.vm ∧ U.heap = h0) (fun _ _ _ _ _ => True) (fun _ U o U' => ∃ v L, o = .returned v ∧ Q_rm_qnull Z t1 h0 n0 v U'.heap L ∧ FrameEnd U o U' L ({ frames := 0, cells := 0, slots := 0, locals := 0 } : Room).cells ({ frames := 0, cells := 0, slots := 0, locals := 0 } : Room).slots) := by
  refine MetFree.of_bodySF (plainFor_of_name own_pn_com_example_living_lease_livinglease_redis_Resp_Error) hisR ?_
  intro p e s m args below meth c s₁ Bd hml0 hP hK
  obtain ⟨rfl, hZ, hh⟩ := hP
  have hx := Bd.exec
  have hby := Bd.bytes
  have hml : c.maxLocals = 3 := hml0
  have hown : s.vm.findClass "com/example/living_lease/livinglease/redis/Resp$Error" = some m.cls := findClass_of_methodNamed Bd.named
  have hnm := (name_of_methodNamed Bd.named Bd.method).1
  have X0 : Stand p l e ({ frames := 0, cells := 0, slots := 0, locals := 0 } : Room) s m #[(.ref t1), .null] below meth c s₁ [] 0 0 := Stand.of_body Bd
  have e0 : s₁.heap = h0 := by rw [← hh, Bd.state]; rfl
  have N0 := Fr.nil n0
  have Z0 : n0 ≤ h0.size := by rw [← O0.1]; exact O0.2.1
  show own_Go p e below (s₁.setTop (entryFrame m #[(.ref t1), .null] 3)) (fun t o => ∃ v L, o = .returned v ∧ Q_rm_qnull Z t1 h0 n0 v t.heap L ∧ FrameEnd s o t L ({ frames := 0, cells := 0, slots := 0, locals := 0 } : Room).cells ({ frames := 0, cells := 0, slots := 0, locals := 0 } : Room).slots)
  rw [ef_rm_qnull m t1]
  refine own_by (fun _ k => XS.aloadN X0.here hx rfl (hb hby d_rm_qnull_0) rfl rfl k) ?_
  refine own_by (X0.instanceofNull hx (g := (mkF m 1 #[.val (.ref t1), .val .null, .unset] [.null])) rfl rfl (hb hby d_rm_qnull_1)) ?_
  refine own_by (fun _ k => XS.ifYes X0.here hx rfl (pc0 := 4) (pc' := 30) rfl (hb hby d_rm_qnull_4) rfl ((if0 _ _).trans (teq (by decide : (0 : Int32) = (0 : Int32))).1) (by decide) (by decide) k) ?_
  show own_Go p e below (s₁.setTop (mkF m 30 #[.val (.ref t1), .val .null, .unset] [])) _
  refine own_by (fun _ k => XS.iconst X0.here hx rfl (hb hby d_rm_qnull_30) k) ?_
  obtain ⟨fs, hr, hrun, hended, hW, hsame⟩ := X0.leave (v := some (.int (0 : Int32))) (fun h => by rw [Bd.returns] at h; cases h)
  refine ⟨_, _, retN X0 hx (t := .boolean) Bd.returns (by simp) (hb hby d_rm_qnull_31) hr, hrun, hended, _, _, rfl, ?_, ⟨_, rfl⟩, hW, hsame.mono (by decide) (by decide)⟩
  show Q_rm_qnull Z t1 h0 n0 _ s₁.heap _
  rw [e0]
  exact ⟨rfl, N0, rfl⟩
theorem d_rm_qerr_0 : decode prog_11_method_3_code 0 = .ok (.aload_n 1, 1) := by decide +kernel
theorem d_rm_qerr_1 : decode prog_11_method_3_code 1 = .ok (.instanceof 8, 3) := by decide +kernel
theorem d_rm_qerr_4 : decode prog_11_method_3_code 4 = .ok (.ifCond .eq 26, 3) := by decide +kernel
theorem d_rm_qerr_7 : decode prog_11_method_3_code 7 = .ok (.aload_n 1, 1) := by decide +kernel
theorem d_rm_qerr_8 : decode prog_11_method_3_code 8 = .ok (.checkcast 8, 3) := by decide +kernel
theorem d_rm_qerr_11 : decode prog_11_method_3_code 11 = .ok (.astore_n 2, 1) := by decide +kernel
theorem d_rm_qerr_12 : decode prog_11_method_3_code 12 = .ok (.aload_n 0, 1) := by decide +kernel
theorem d_rm_qerr_13 : decode prog_11_method_3_code 13 = .ok (.getfield 7, 3) := by decide +kernel
theorem d_rm_qerr_16 : decode prog_11_method_3_code 16 = .ok (.aload_n 2, 1) := by decide +kernel
theorem d_rm_qerr_17 : decode prog_11_method_3_code 17 = .ok (.getfield 7, 3) := by decide +kernel
theorem d_rm_qerr_20 : decode prog_11_method_3_code 20 = .ok (.invokevirtual 13, 3) := by decide +kernel
theorem d_rm_qerr_23 : decode prog_11_method_3_code 23 = .ok (.ifCond .eq 7, 3) := by decide +kernel
theorem d_rm_qerr_26 : decode prog_11_method_3_code 26 = .ok (.iconst 1, 1) := by decide +kernel
theorem d_rm_qerr_27 : decode prog_11_method_3_code 27 = .ok (.goto 4, 3) := by decide +kernel
theorem d_rm_qerr_30 : decode prog_11_method_3_code 30 = .ok (.iconst 0, 1) := by decide +kernel
theorem d_rm_qerr_31 : decode prog_11_method_3_code 31 = .ok (.ireturn, 1) := by decide +kernel
def Q_rm_qerr (Z : State) (t1 : Addr) (t2 : Addr) (r1 : Addr) (r2 : Addr) (b1 : Addr) (b2 : Addr) (kb1 : ClassId) (kb2 : ClassId) (x1 : Int32) (n1 : Int32) (x2 : Int32) (n2 : Int32) (cs : Int32) (h0 : Heap) (n0 : Nat) (v : Option Value) (h : Heap) (L : List Loc) : Prop := v = some (.int (own_eqs x1 n1 x2 n2)) ∧ Fr n0 L ∧ h = h0
theorem ef_rm_qerr (m : MethodId) (t1 : Addr) (t2 : Addr) (r1 : Addr) (r2 : Addr) (b1 : Addr) (b2 : Addr) (kb1 : ClassId) (kb2 : ClassId) (x1 : Int32) (n1 : Int32) (x2 : Int32) (n2 : Int32) (cs : Int32) : entryFrame m #[(.ref t1), (.ref t2)] 3 = mkF m 0 #[.val (.ref t1), .val (.ref t2), .unset] [] := by first | (simp [entryFrame, mkF, argsToLocals, Value.category]; done) | rfl
set_option maxRecDepth 65536 in
set_option maxHeartbeats 40000000 in
theorem rm_qerr (l : Launch) (Z : State) (a0 : Array Value) (hw : ∀ d ∈ tables_1, d.before a0 Z = true) (ws : List Jvm.Cond) (t1 : Addr) (t2 : Addr) (r1 : Addr) (r2 : Addr) (b1 : Addr) (b2 : Addr) (kb1 : ClassId) (kb2 : ClassId) (x1 : Int32) (n1 : Int32) (x2 : Int32) (n2 : Int32) (cs : Int32) (h0 : Heap) (n0 : Nat) (O0 : Old Z n0 h0) (S_COMPACT : Sta Z Z.heap "java/lang/String" "COMPACT_STRINGS" "Z" (.int cs)) (Et1 : Exa Z h0 t1 "com/example/living_lease/livinglease/redis/Resp$Error") (Fm1 : Fld Z h0 t1 "com/example/living_lease/livinglease/redis/Resp$Error" "message" "Ljava/lang/String;" (.ref r1)) (Et2 : Exa Z h0 t2 "com/example/living_lease/livinglease/redis/Resp$Error") (Fm2 : Fld Z h0 t2 "com/example/living_lease/livinglease/redis/Resp$Error" "message" "Ljava/lang/String;" (.ref r2)) (Er1 : Exa Z h0 r1 "java/lang/String") (Fc1 : Fld Z h0 r1 "java/lang/String" "coder" "B" (.int (0 : Int32))) (Fv1 : Fld Z h0 r1 "java/lang/String" "value" "[B" (.ref b1)) (Xb1 : Arv Z h0 b1 kb1 .byte n1 (own_bs x1 n1) (.int (0 : Int32))) (Er2 : Exa Z h0 r2 "java/lang/String") (Fc2 : Fld Z h0 r2 "java/lang/String" "coder" "B" (.int (0 : Int32))) (Fv2 : Fld Z h0 r2 "java/lang/String" "value" "[B" (.ref b2)) (Xb2 : Arv Z h0 b2 kb2 .byte n2 (own_bs x2 n2) (.int (0 : Int32))) (hcs : ¬ (cs = (0 : Int32))) (nt : ¬ (r1 = r2)) (hn1 : n1 = 0 ∨ n1 = 1 ∨ n1 = 2 ∨ n1 = 3) (hn2 : n2 = 0 ∨ n2 = 1 ∨ n2 = 2 ∨ n2 = 3) :
    MetFree l (⟨"com/example/living_lease/livinglease/redis/Resp$Error", "equals", "(Ljava/lang/Object;)Z"⟩ : MethodName) (head1 (Jvm.Cond.code (⟨"com/example/living_lease/livinglease/redis/Resp$Error", "equals", "(Ljava/lang/Object;)Z"⟩ : MethodName) prog_11_method_3_code 3 (some .boolean) :: ws) ({ frames := 2, cells := 0, slots := 0, locals := 28 } : Room)) (fun a U => a = #[(.ref t1), (.ref t2)] ∧ Z.Warmed39 U.vm ∧ U.heap = h0) (fun _ _ _ _ _ => True) (fun _ U o U' => ∃ v L, o = .returned v ∧ Q_rm_qerr Z t1 t2 r1 r2 b1 b2 kb1 kb2 x1 n1 x2 n2 cs h0 n0 v U'.heap L ∧ FrameEnd U o U' L ({ frames := 2, cells := 0, slots := 0, locals := 28 } : Room).cells ({ frames := 2, cells := 0, slots := 0, locals := 28 } : Room).slots) := by
  refine MetFree.of_bodySF (plainFor_of_name own_pn_com_example_living_lease_livinglease_redis_Resp_Error) hisR ?_
  intro p e s m args below meth c s₁ Bd hml0 hP hK
  obtain ⟨rfl, hZ, hh⟩ := hP
  have hx := Bd.exec
  have hby := Bd.bytes
  have hml : c.maxLocals = 3 := hml0
  have hown : s.vm.findClass "com/example/living_lease/livinglease/redis/Resp$Error" = some m.cls := findClass_of_methodNamed Bd.named
  have hnm := (name_of_methodNamed Bd.named Bd.method).1
  have X0 : Stand p l e ({ frames := 2, cells := 0, slots := 0, locals := 28 } : Room) s m #[(.ref t1), (.ref t2)] below meth c s₁ [] 0 0 := Stand.of_body Bd
  have e0 : s₁.heap = h0 := by rw [← hh, Bd.state]; rfl
  have N0 := Fr.nil n0
  have Z0 : n0 ≤ h0.size := by rw [← O0.1]; exact O0.2.1
  show own_Go p e below (s₁.setTop (entryFrame m #[(.ref t1), (.ref t2)] 3)) (fun t o => ∃ v L, o = .returned v ∧ Q_rm_qerr Z t1 t2 r1 r2 b1 b2 kb1 kb2 x1 n1 x2 n2 cs h0 n0 v t.heap L ∧ FrameEnd s o t L ({ frames := 2, cells := 0, slots := 0, locals := 28 } : Room).cells ({ frames := 2, cells := 0, slots := 0, locals := 28 } : Room).slots)
  rw [ef_rm_qerr m t1 t2 r1 r2 b1 b2 kb1 kb2 x1 n1 x2 n2 cs]
  have lt_Et1 : h0.size > t1 := Et1.lt
  have lt_Fm1 : h0.size > t1 := Fm1.lt
  have lt_Et2 : h0.size > t2 := Et2.lt
  have lt_Fm2 : h0.size > t2 := Fm2.lt
  have lt_Er1 : h0.size > r1 := Er1.lt
  have lt_Fc1 : h0.size > r1 := Fc1.lt
  have lt_Fv1 : h0.size > r1 := Fv1.lt
  have lt_Xb1 : h0.size > b1 := Xb1.lt
  have lt_Er2 : h0.size > r2 := Er2.lt
  have lt_Fc2 : h0.size > r2 := Fc2.lt
  have lt_Fv2 : h0.size > r2 := Fv2.lt
  have lt_Xb2 : h0.size > b2 := Xb2.lt
  refine own_by (fun _ k => XS.aloadN X0.here hx rfl (hb hby d_rm_qerr_0) rfl rfl k) ?_
  obtain ⟨T1, X1, e1, st1⟩ := instY X0 hx hZ hown (own_w hw 54 rfl) e0 (Ins.self Et2) (g := (mkF m 1 #[.val (.ref t1), .val (.ref t2), .unset] [(.ref t2)])) rfl rfl (hb hby d_rm_qerr_1)
  refine own_by st1 ?_
  refine own_by (fun _ k => XS.ifNo X1.here hx rfl (hb hby d_rm_qerr_4) rfl ((if0 _ _).trans (feq (by decide : ¬ ((1 : Int32) = (0 : Int32)))).1) k) ?_
  show own_Go p e below (T1.setTop (mkF m 7 #[.val (.ref t1), .val (.ref t2), .unset] [])) _
  refine own_by (fun _ k => XS.aloadN X1.here hx rfl (hb hby d_rm_qerr_7) rfl rfl k) ?_
  obtain ⟨T2, X2, e2, st2⟩ := castY X1 hx hZ hown (own_w hw 54 rfl) e1 (Ins.self Et2) (g := (mkF m 8 #[.val (.ref t1), .val (.ref t2), .unset] [(.ref t2)])) rfl rfl (hb hby d_rm_qerr_8)
  refine own_by st2 ?_
  refine own_by (fun _ k => XS.astoreN X2.here hx rfl (hb hby d_rm_qerr_11) rfl rfl (l' := #[.val (.ref t1), .val (.ref t2), .val (.ref t2)]) rfl k) ?_
  refine own_by (fun _ k => XS.aloadN X2.here hx rfl (hb hby d_rm_qerr_12) rfl rfl k) ?_
  show own_Go p e below (T2.setTop (mkF m 13 #[.val (.ref t1), .val (.ref t2), .val (.ref t2)] [(.ref t1)])) _
  obtain ⟨T3, X3, e3, st3⟩ := getF X2 hx hZ hown (host := "") (Or.inl (own_w hw 47 rfl)) Via.refl e2 Fm1 (g := (mkF m 13 #[.val (.ref t1), .val (.ref t2), .val (.ref t2)] [(.ref t1)])) rfl rfl (hb hby d_rm_qerr_13)
  refine own_by st3 ?_
  refine own_by (fun _ k => XS.aloadN X3.here hx rfl (hb hby d_rm_qerr_16) rfl rfl k) ?_
  obtain ⟨T4, X4, e4, st4⟩ := getF X3 hx hZ hown (host := "") (Or.inl (own_w hw 47 rfl)) Via.refl e3 Fm2 (g := (mkF m 17 #[.val (.ref t1), .val (.ref t2), .val (.ref t2)] [(.ref t2), (.ref r1)])) rfl rfl (hb hby d_rm_qerr_17)
  refine own_by st4 ?_
  obtain ⟨cq5, kq5, q5a, q5b, q5c⟩ := isOf hZ e4 Er1
  obtain ⟨_, _, ⟨T5, L5, k5, n5⟩, -, X5, ⟨Lc5, hQ5, l5, y5, z5⟩, st5⟩ := X4.virtualBack hx (y := (⟨"java/lang/String", "equals", "(Ljava/lang/Object;)Z"⟩ : MethodName)) (z := (⟨"java/lang/String", "equals", "(Ljava/lang/Object;)Z"⟩ : MethodName)) hown (mvT hZ (own_w hw 56 rfl)) (mvT hZ (own_w hw 57 rfl)) (notFace_of_selects (args := #[]) (mvT hZ (own_w hw 59 rfl))) (mvT hZ (own_w hw 59 rfl)) (mvT hZ (own_w hw 58 rfl)) (by decide) (backOf (W := 0) (rm_eqs l Z a0 hw [] r1 r2 b1 b2 kb1 kb2 x1 n1 x2 n2 cs h0 n0 O0 S_COMPACT Er1 Fc1 Fv1 Xb1 Er2 Fc2 Fv2 Xb2 hcs nt hn1 hn2) hZ (own_w hw 60 rfl) (own_w hw 6 rfl) (by decide) (by decide)) q5a q5c (g := (mkF m 20 #[.val (.ref t1), .val (.ref t2), .val (.ref t2)] [(.ref r2), (.ref r1)])) rfl (by rw [hml]; rfl) (Steps.refl _) (argsL := [(.ref r2)]) (rest := []) (lenOf own_pd__28Ljava_2flang_2fObject_3b_29Z rfl) rfl (by show 2 * 0 + _ ≤ _; exact Nat.le_of_eq rfl) (hb hby d_rm_qerr_20) (fun _ _ => ⟨rfl, e4, (by decide : 0 + 0 ≤ _), (by decide : 0 + 0 ≤ _)⟩)
  dsimp only [Pt.U, Pt.locs, Pt.cells, Pt.slots] at X5 l5 y5 z5 st5 hQ5
  subst l5 y5 z5
  obtain ⟨rfl, M5, K5⟩ := hQ5
  have N5 := Fr.app N0 M5
  refine own_by (fun _ k => st5.trans k) ?_
  show own_Go p e below (T5.setTop (mkF m 23 #[.val (.ref t1), .val (.ref t2), .val (.ref t2)] [(.int (own_eqs x1 n1 x2 n2))])) _
  by_cases hc6 : (own_eqs x1 n1 x2 n2) = (0 : Int32)
  · skip
    refine own_by (fun _ k => XS.ifYes X5.here hx rfl (pc0 := 23) (pc' := 30) rfl (hb hby d_rm_qerr_23) rfl ((if0 _ _).trans (teq hc6).1) (by decide) (by decide) k) ?_
    show own_Go p e below (T5.setTop (mkF m 30 #[.val (.ref t1), .val (.ref t2), .val (.ref t2)] [])) _
    refine own_by (fun _ k => XS.iconst X5.here hx rfl (hb hby d_rm_qerr_30) k) ?_
    obtain ⟨fs, hr, hrun, hended, hW, hsame⟩ := X5.leave (v := some (.int (0 : Int32))) (fun h => by rw [Bd.returns] at h; cases h)
    refine ⟨_, _, retN X5 hx (t := .boolean) Bd.returns (by simp) (hb hby d_rm_qerr_31) hr, hrun, hended, _, _, rfl, ?_, ⟨_, rfl⟩, hW, hsame.mono (by decide) (by decide)⟩
    show Q_rm_qerr Z t1 t2 r1 r2 b1 b2 kb1 kb2 x1 n1 x2 n2 cs h0 n0 _ T5.heap _
    rw [K5]
    exact ⟨(own_eqs_ret0 hc6), N5, rfl⟩
  · skip
    refine own_by (fun _ k => XS.ifNo X5.here hx rfl (hb hby d_rm_qerr_23) rfl ((if0 _ _).trans (feq hc6).1) k) ?_
    show own_Go p e below (T5.setTop (mkF m 26 #[.val (.ref t1), .val (.ref t2), .val (.ref t2)] [])) _
    refine own_by (fun _ k => XS.iconst X5.here hx rfl (hb hby d_rm_qerr_26) k) ?_
    refine own_by (fun _ k => XS.goto X5.here hx rfl (pc0 := 27) (pc' := 31) rfl (hb hby d_rm_qerr_27) (by decide) (by decide) k) ?_
    obtain ⟨fs, hr, hrun, hended, hW, hsame⟩ := X5.leave (v := some (.int (1 : Int32))) (fun h => by rw [Bd.returns] at h; cases h)
    refine ⟨_, _, retN X5 hx (t := .boolean) Bd.returns (by simp) (hb hby d_rm_qerr_31) hr, hrun, hended, _, _, rfl, ?_, ⟨_, rfl⟩, hW, hsame.mono (by decide) (by decide)⟩
    show Q_rm_qerr Z t1 t2 r1 r2 b1 b2 kb1 kb2 x1 n1 x2 n2 cs h0 n0 _ T5.heap _
    rw [K5]
    exact ⟨(own_eqs_ret1 hc6), N5, rfl⟩
def Q_rm_law (Z : State) (x1 : Int32) (y1 : Int32) (f1 : Int32) (cs : Int32) (h0 : Heap) (n0 : Nat) (v : Option Value) (h : Heap) (L : List Loc) : Prop := v = some (.int (1 : Int32)) ∧ Fr n0 L ∧ Keep h0 h []
theorem ef_rm_law (m : MethodId) (x1 : Int32) (y1 : Int32) (f1 : Int32) (cs : Int32) : entryFrame m #[(.int x1), (.int y1), (.int f1)] maxLocals = mkF m 0 #[.val (.int x1), .val (.int y1), .val (.int f1), .unset, .unset, .unset, .unset, .unset, .unset, .unset, .unset, .unset] [] := by first | (simp [entryFrame, mkF, argsToLocals, Value.category, maxLocals]; done) | rfl
set_option maxRecDepth 65536 in
set_option maxHeartbeats 40000000 in
theorem rm_law (l : Launch) (Z : State) (a0 : Array Value) (hw : ∀ d ∈ tables_1, d.before a0 Z = true) (ws : List Jvm.Cond) (x1 : Int32) (y1 : Int32) (f1 : Int32) (cs : Int32) (h0 : Heap) (n0 : Nat) (O0 : Old Z n0 h0) (hEL : EW Z a0 own_EL) (S_COMPACT : Sta Z Z.heap "java/lang/String" "COMPACT_STRINGS" "Z" (.int cs)) (hcs : ¬ (cs = (0 : Int32))) :
    MetFree l x (head1 (Jvm.Cond.code x code maxLocals ret :: ws) room_1) (fun a U => a = #[(.int x1), (.int y1), (.int f1)] ∧ Z.Warmed39 U.vm ∧ U.heap = h0 ∧ CHv Z own_EL U.vm h0) (fun _ _ _ _ _ => True) (fun _ U o U' => ∃ v L, o = .returned v ∧ Q_rm_law Z x1 y1 f1 cs h0 n0 v U'.heap L ∧ CHr Z own_EL U.vm U.heap U'.vm U'.heap ∧ ReturnedEndW U o U' L room_1.cells room_1.slots) := by
  refine MetFree.of_bodySF (plainFor_of_name own_pn_com_example_living_lease_livinglease_redis_ErrorEqualsPinLaw) hisR ?_
  intro p e s m args below meth c s₁ Bd hml0 hP hK
  obtain ⟨rfl, hZ, hh, hC⟩ := hP
  have hx := Bd.exec
  have hby := Bd.bytes
  have hml : c.maxLocals = 12 := hml0
  have hown : s.vm.findClass "com/example/living_lease/livinglease/redis/ErrorEqualsPinLaw" = some m.cls := findClass_of_methodNamed Bd.named
  have hnm := (name_of_methodNamed Bd.named Bd.method).1
  have X0 : Stand p l e room_1 (s.setVm s.vm) m #[(.int x1), (.int y1), (.int f1)] below meth c s₁ [] 0 0 := Stand.of_body Bd
  have S0 : s.Since s.vm h0.size := (State.WarmedH.refl s).since _
  have hZ : Z.Warmed39 (s.setVm s.vm).vm := hZ
  have hown : (s.setVm s.vm).vm.findClass "com/example/living_lease/livinglease/redis/ErrorEqualsPinLaw" = some m.cls := hown
  have R0 : CHr Z own_EL s.vm h0 s.vm h0 := CHr.refl hC
  have e0 : s₁.heap = h0 := by rw [← hh, Bd.state]; rfl
  have N0 := Fr.nil n0
  have Z0 : n0 ≤ h0.size := by rw [← O0.1]; exact O0.2.1
  show own_Go p e below (s₁.setTop (entryFrame m #[(.int x1), (.int y1), (.int f1)] maxLocals)) (fun t o => ∃ v L, o = .returned v ∧ Q_rm_law Z x1 y1 f1 cs h0 n0 v t.heap L ∧ CHr Z own_EL s.vm s.heap t.vm t.heap ∧ ReturnedEndW s o t L room_1.cells room_1.slots)
  rw [ef_rm_law m x1 y1 f1 cs]
  refine own_by (fun _ k => XS.iloadN X0.here hx rfl (hb hby at_0) rfl k) ?_
  refine own_by (fun _ k => XS.iconst X0.here hx rfl (hb hby at_1) k) ?_
  refine own_by (fun _ k => XS.iand X0.here hx rfl (hb hby at_2) rfl k) ?_
  refine own_by (fun _ k => XS.istoreN X0.here hx rfl (hb hby at_3) rfl (l' := #[.val (.int x1), .val (.int y1), .val (.int f1), .val (.int (f1 &&& (3 : Int32))), .unset, .unset, .unset, .unset, .unset, .unset, .unset, .unset]) rfl k) ?_
  show own_Go p e below (s₁.setTop (mkF m 4 #[.val (.int x1), .val (.int y1), .val (.int f1), .val (.int (f1 &&& (3 : Int32))), .unset, .unset, .unset, .unset, .unset, .unset, .unset, .unset] [])) _
  obtain ⟨la, e_la⟩ : ∃ z, z = (f1 &&& (3 : Int32)) := ⟨_, rfl⟩
  rw [← e_la]
  have h_la := own_and3 e_la
  refine own_by (fun _ k => XS.iloadN X0.here hx rfl (hb hby at_4) rfl k) ?_
  refine own_by (fun _ k => XS.iconst X0.here hx rfl (hb hby at_5) k) ?_
  refine own_by (fun _ k => XS.iushr X0.here hx rfl (hb hby at_6) rfl k) ?_
  refine own_by (fun _ k => XS.iconst X0.here hx rfl (hb hby at_7) k) ?_
  show own_Go p e below (s₁.setTop (mkF m 8 #[.val (.int x1), .val (.int y1), .val (.int f1), .val (.int la), .unset, .unset, .unset, .unset, .unset, .unset, .unset, .unset] [(.int (3 : Int32)), (.int ((f1.toUInt32 >>> ((2 : Int32) &&& 31).toUInt32).toInt32))])) _
  refine own_by (fun _ k => XS.iand X0.here hx rfl (hb hby at_8) rfl k) ?_
  refine own_by (fun _ k => XS.istore X0.here hx rfl (hb hby at_9) rfl (l' := #[.val (.int x1), .val (.int y1), .val (.int f1), .val (.int la), .val (.int (((f1.toUInt32 >>> ((2 : Int32) &&& 31).toUInt32).toInt32) &&& (3 : Int32))), .unset, .unset, .unset, .unset, .unset, .unset, .unset]) rfl k) ?_
  show own_Go p e below (s₁.setTop (mkF m 11 #[.val (.int x1), .val (.int y1), .val (.int f1), .val (.int la), .val (.int (((f1.toUInt32 >>> ((2 : Int32) &&& 31).toUInt32).toInt32) &&& (3 : Int32))), .unset, .unset, .unset, .unset, .unset, .unset, .unset] [])) _
  obtain ⟨lb, e_lb⟩ : ∃ z, z = (((f1.toUInt32 >>> ((2 : Int32) &&& 31).toUInt32).toInt32) &&& (3 : Int32)) := ⟨_, rfl⟩
  rw [← e_lb]
  have h_lb := own_and3 e_lb
  refine own_by (fun _ k => XS.iloadN X0.here hx rfl (hb hby at_11) rfl k) ?_
  refine own_by (fun _ k => XS.iconst X0.here hx rfl (hb hby at_12) k) ?_
  refine own_by (fun _ k => XS.iushr X0.here hx rfl (hb hby at_13) rfl k) ?_
  refine own_by (fun _ k => XS.iconst X0.here hx rfl (hb hby at_14) k) ?_
  show own_Go p e below (s₁.setTop (mkF m 15 #[.val (.int x1), .val (.int y1), .val (.int f1), .val (.int la), .val (.int lb), .unset, .unset, .unset, .unset, .unset, .unset, .unset] [(.int (3 : Int32)), (.int ((f1.toUInt32 >>> ((4 : Int32) &&& 31).toUInt32).toInt32))])) _
  refine own_by (fun _ k => XS.iand X0.here hx rfl (hb hby at_15) rfl k) ?_
  refine own_by (fun _ k => XS.istore X0.here hx rfl (hb hby at_16) rfl (l' := #[.val (.int x1), .val (.int y1), .val (.int f1), .val (.int la), .val (.int lb), .val (.int (((f1.toUInt32 >>> ((4 : Int32) &&& 31).toUInt32).toInt32) &&& (3 : Int32))), .unset, .unset, .unset, .unset, .unset, .unset]) rfl k) ?_
  show own_Go p e below (s₁.setTop (mkF m 18 #[.val (.int x1), .val (.int y1), .val (.int f1), .val (.int la), .val (.int lb), .val (.int (((f1.toUInt32 >>> ((4 : Int32) &&& 31).toUInt32).toInt32) &&& (3 : Int32))), .unset, .unset, .unset, .unset, .unset, .unset] [])) _
  obtain ⟨md, e_md⟩ : ∃ z, z = (((f1.toUInt32 >>> ((4 : Int32) &&& 31).toUInt32).toInt32) &&& (3 : Int32)) := ⟨_, rfl⟩
  rw [← e_md]
  refine own_by (fun _ k => XS.iload X0.here hx rfl (hb hby at_18) rfl k) ?_
  show own_Go p e below (s₁.setTop (mkF m 20 #[.val (.int x1), .val (.int y1), .val (.int f1), .val (.int la), .val (.int lb), .val (.int md), .unset, .unset, .unset, .unset, .unset, .unset] [(.int md)])) _
  have jn1 : ∀ (Tj1 : State), (∃ lc, Stand p l e room_1 (s.setVm s.vm) m #[(.int x1), (.int y1), (.int f1)] below meth c Tj1 lc 0 0 ∧ Fr n0 lc) → Tj1.heap = h0 → ∀ (yy : Int32), (True) → own_Go p e below (Tj1.setTop (mkF m 28 #[.val (.int x1), .val (.int y1), .val (.int f1), .val (.int la), .val (.int lb), .val (.int md), .unset, .unset, .unset, .unset, .unset, .unset] [(.int yy)])) (fun t o => ∃ v L, o = .returned v ∧ Q_rm_law Z x1 y1 f1 cs h0 n0 v t.heap L ∧ CHr Z own_EL s.vm s.heap t.vm t.heap ∧ ReturnedEndW s o t L room_1.cells room_1.slots) := by
    rintro Tj1 ⟨lc1, Xj1, Nj1⟩ ej1 yy hj1
    refine own_by (fun _ k => XS.istore Xj1.here hx rfl (hb hby at_28) rfl (l' := #[.val (.int x1), .val (.int y1), .val (.int f1), .val (.int la), .val (.int lb), .val (.int md), .val (.int yy), .unset, .unset, .unset, .unset, .unset]) rfl k) ?_
    refine own_by (fun _ k => XS.iloadN Xj1.here hx rfl (hb hby at_30) rfl k) ?_
    refine own_by (fun _ k => XS.iloadN Xj1.here hx rfl (hb hby at_31) rfl k) ?_
    obtain ⟨_, _, ⟨T2, L2, k2, n2⟩, -, X2, S'2, gr2, ⟨Lc2, hQ2, l2, y2, z2, C2⟩, st2⟩ := callSS Xj1 hx (y := (⟨"com/example/living_lease/livinglease/redis/ErrorEqualsPinLaw", "str", "(II)Ljava/lang/String;"⟩ : MethodName)) hown (mvT hZ (own_w hw 0 rfl)) (mvT hZ (own_w hw 1 rfl)) (mvT hZ (own_w hw 2 rfl)) (mvT hZ (own_w hw 3 rfl)) (by decide) (backOfSH (W := 0) (rm_str l Z a0 hw [] x1 la cs h0 n0 O0 hEL S_COMPACT hcs h_la) hZ (own_w hw 3 rfl) (own_w hw 2 rfl) (by decide) (by decide) hEL R0.1) (g := (mkF m 32 #[.val (.int x1), .val (.int y1), .val (.int f1), .val (.int la), .val (.int lb), .val (.int md), .val (.int yy), .unset, .unset, .unset, .unset, .unset] [(.int la), (.int x1)])) rfl (by rw [hml]; rfl) (argsL := [(.int x1), (.int la)]) (rest := []) (lenOf own_pd__28II_29Ljava_2flang_2fString_3b rfl) rfl (by show 2 * 0 + _ ≤ _; exact Nat.le_of_eq rfl) (hb hby at_32) (fun _ _ => ⟨rfl, ej1, (by decide : 0 + 6 ≤ _), (by decide : 0 + 12 ≤ _)⟩)
    dsimp only [Pt.U, Pt.locs, Pt.cells, Pt.slots] at X2 l2 y2 z2 st2 hQ2 S'2 gr2 C2
    subst l2 y2 z2
    obtain ⟨X2, S2, hZ2, ho2⟩ := rebS S0 (by first | omega | (rw [ej1]; omega)) X2 S'2 gr2 hZ hown
    obtain ⟨r1_2, b_2, kb_2, rfl, M2, K2, g2_0, g2_1, g2_2, g2_3, r2_0⟩ := hQ2
    have N2 := Fr.app Nj1 M2
    refine own_by (fun _ k => st2.trans k) ?_
    have R2 := R0.trans C2
    have z2 := K2.1
    have lt_g2_0 : T2.heap.size > r1_2 := g2_0.lt
    have lt_g2_1 : T2.heap.size > r1_2 := g2_1.lt
    have lt_g2_2 : T2.heap.size > r1_2 := g2_2.lt
    have lt_g2_3 : T2.heap.size > b_2 := g2_3.lt
    show own_Go p e below (T2.setTop (mkF m 35 #[.val (.int x1), .val (.int y1), .val (.int f1), .val (.int la), .val (.int lb), .val (.int md), .val (.int yy), .unset, .unset, .unset, .unset, .unset] [(.ref r1_2)])) _
    refine own_by (fun _ k => XS.astore X2.here hx rfl (hb hby at_35) rfl rfl (l' := #[.val (.int x1), .val (.int y1), .val (.int f1), .val (.int la), .val (.int lb), .val (.int md), .val (.int yy), .val (.ref r1_2), .unset, .unset, .unset, .unset]) rfl k) ?_
    refine own_by (fun _ k => XS.iload X2.here hx rfl (hb hby at_37) rfl k) ?_
    refine own_by (fun _ k => XS.iload X2.here hx rfl (hb hby at_39) rfl k) ?_
    have O3 : Old Z n0 T2.heap := (O0.keep K2 all0)
    obtain ⟨_, _, ⟨T4, L4, k4, n4⟩, -, X4, S'4, gr4, ⟨Lc4, hQ4, l4, y4, z4, C4⟩, st4⟩ := callSS X2 hx (y := (⟨"com/example/living_lease/livinglease/redis/ErrorEqualsPinLaw", "str", "(II)Ljava/lang/String;"⟩ : MethodName)) ho2 (mvT hZ2 (own_w hw 0 rfl)) (mvT hZ2 (own_w hw 1 rfl)) (mvT hZ2 (own_w hw 2 rfl)) (mvT hZ2 (own_w hw 3 rfl)) (by decide) (backOfSH (W := 0) (rm_str l Z a0 hw [] yy lb cs T2.heap n0 O3 hEL S_COMPACT hcs h_lb) hZ2 (own_w hw 3 rfl) (own_w hw 2 rfl) (by decide) (by decide) hEL R2.1) (g := (mkF m 41 #[.val (.int x1), .val (.int y1), .val (.int f1), .val (.int la), .val (.int lb), .val (.int md), .val (.int yy), .val (.ref r1_2), .unset, .unset, .unset, .unset] [(.int lb), (.int yy)])) rfl (by rw [hml]; rfl) (argsL := [(.int yy), (.int lb)]) (rest := []) (lenOf own_pd__28II_29Ljava_2flang_2fString_3b rfl) rfl (by show 2 * 0 + _ ≤ _; exact Nat.le_of_eq rfl) (hb hby at_41) (fun _ _ => ⟨rfl, rfl, (by decide : 6 + 6 ≤ _), (by decide : 12 + 12 ≤ _)⟩)
    dsimp only [Pt.U, Pt.locs, Pt.cells, Pt.slots] at X4 l4 y4 z4 st4 hQ4 S'4 gr4 C4
    subst l4 y4 z4
    obtain ⟨X4, S4, hZ4, ho4⟩ := rebS S2 (by first | omega | (rw [e0]; omega)) X4 S'4 gr4 hZ2 ho2
    obtain ⟨r1_4, b_4, kb_4, rfl, M4, K4, g4_0, g4_1, g4_2, g4_3, r4_0⟩ := hQ4
    have N4 := Fr.app N2 M4
    refine own_by (fun _ k => st4.trans k) ?_
    have R4 := R2.trans C4
    have z4 := K4.1
    have lt_g4_0 : T4.heap.size > r1_4 := g4_0.lt
    have lt_g4_1 : T4.heap.size > r1_4 := g4_1.lt
    have lt_g4_2 : T4.heap.size > r1_4 := g4_2.lt
    have lt_g4_3 : T4.heap.size > b_4 := g4_3.lt
    show own_Go p e below (T4.setTop (mkF m 44 #[.val (.int x1), .val (.int y1), .val (.int f1), .val (.int la), .val (.int lb), .val (.int md), .val (.int yy), .val (.ref r1_2), .unset, .unset, .unset, .unset] [(.ref r1_4)])) _
    refine own_by (fun _ k => XS.astore X4.here hx rfl (hb hby at_44) rfl rfl (l' := #[.val (.int x1), .val (.int y1), .val (.int f1), .val (.int la), .val (.int lb), .val (.int md), .val (.int yy), .val (.ref r1_2), .val (.ref r1_4), .unset, .unset, .unset]) rfl k) ?_
    obtain ⟨T5, h5, X5, e5, E5, A5, D5, U5, st5⟩ := newO X4 hx hZ4 ho4 (own_w hw 40 rfl) (own_w hw 41 rfl) (own_w hw 42 rfl) rfl (g := (mkF m 46 #[.val (.int x1), .val (.int y1), .val (.int f1), .val (.int la), .val (.int lb), .val (.int md), .val (.int yy), .val (.ref r1_2), .val (.ref r1_4), .unset, .unset, .unset] [])) rfl (hb hby at_46) (by decide) (by decide)
    obtain ⟨ob5, g5⟩ : ∃ z, z = T4.heap.size := ⟨_, rfl⟩
    rw [← g5] at A5 D5 U5 st5
    refine own_by st5 ?_
    have z5 := E5.1
    have lt5 : h5.size > ob5 := A5.lt
    have R5 := R4.trans (CHr.ext E5 R4.1)
    refine own_by (fun _ k => XS.dup X5.here hx rfl (hb hby at_49) rfl rfl k) ?_
    refine own_by (fun _ k => XS.aload X5.here hx rfl (hb hby at_50) rfl rfl k) ?_
    show own_Go p e below (T5.setTop (mkF m 52 #[.val (.int x1), .val (.int y1), .val (.int f1), .val (.int la), .val (.int lb), .val (.int md), .val (.int yy), .val (.ref r1_2), .val (.ref r1_4), .unset, .unset, .unset] [(.ref r1_2), (.ref ob5), (.ref ob5)])) _
    have O6 : Old Z n0 h5 := ((O3.keep K4 all0).ext E5)
    obtain ⟨_, _, ⟨T7, L7, k7, n7⟩, -, X7, ⟨Lc7, hQ7, l7, y7, z7⟩, st7⟩ := X5.specialBack hx (y := (⟨"com/example/living_lease/livinglease/redis/Resp$Error", "<init>", "(Ljava/lang/String;)V"⟩ : MethodName)) rfl ho4 (mvT hZ4 (own_w hw 43 rfl)) (mvT hZ4 (own_w hw 44 rfl)) (mvT hZ4 (own_w hw 45 rfl)) (by decide) (backOf (W := 1) (rm_einit l Z a0 hw [] ob5 r1_2 h5 n0 O6 A5 (show Fld Z h5 ob5 "com/example/living_lease/livinglease/redis/Resp$Error" "message" "Ljava/lang/String;" .null from D5 (Or.inr (own_w hw 48 rfl)) (ty := (.object "java/lang/String")) (by decide)) (by first | assumption | omega | decide)) hZ4 (own_w hw 45 rfl) (own_w hw 42 rfl) (by decide) (by decide)) (g := (mkF m 52 #[.val (.int x1), .val (.int y1), .val (.int f1), .val (.int la), .val (.int lb), .val (.int md), .val (.int yy), .val (.ref r1_2), .val (.ref r1_4), .unset, .unset, .unset] [(.ref r1_2), (.ref ob5), (.ref ob5)])) rfl (by rw [hml]; rfl) (Steps.refl _) (a := ob5) (argsL := [(.ref r1_2)]) (rest := [(.ref ob5)]) (lenOf own_pd__28Ljava_2flang_2fString_3b_29V rfl) rfl (by show 2 * 0 + _ ≤ _; exact Nat.le_of_eq rfl) (hb hby at_52) (fun _ _ => ⟨rfl, e5, (by decide : 13 + 0 ≤ _), (by decide : 25 + 0 ≤ _)⟩)
    dsimp only [Pt.U, Pt.locs, Pt.cells, Pt.slots] at X7 l7 y7 z7 st7 hQ7
    subst l7 y7 z7
    obtain ⟨rfl, M7, K7, g7_0, g7_1⟩ := hQ7
    have N7 := Fr.app N4 M7
    refine own_by (fun _ k => st7.trans k) ?_
    have sk7 : ∀ x ∈ ([ob5] : List Addr), Safe Z own_EL T4.vm h5 x := (sfS (Safe.exa hZ4.alike A5 (by decide) (by decide)) sf0)
    have R7 := R5.trans (CHr.keep K7 sk7 R5.1)
    have z7 := K7.1
    have lt_g7_0 : T7.heap.size > ob5 := g7_0.lt
    have lt_g7_1 : T7.heap.size > ob5 := g7_1.lt
    refine own_by (fun _ k => XS.astore X7.here hx rfl (hb hby at_55) rfl rfl (l' := #[.val (.int x1), .val (.int y1), .val (.int f1), .val (.int la), .val (.int lb), .val (.int md), .val (.int yy), .val (.ref r1_2), .val (.ref r1_4), .val (.ref ob5), .unset, .unset]) rfl k) ?_
    refine own_by (fun _ k => XS.aload X7.here hx rfl (hb hby at_57) rfl rfl k) ?_
    refine own_by (fun _ k => XS.aload X7.here hx rfl (hb hby at_59) rfl rfl k) ?_
    show own_Go p e below (T7.setTop (mkF m 61 #[.val (.int x1), .val (.int y1), .val (.int f1), .val (.int la), .val (.int lb), .val (.int md), .val (.int yy), .val (.ref r1_2), .val (.ref r1_4), .val (.ref ob5), .unset, .unset] [(.ref ob5), (.ref ob5)])) _
    have fc8 : Exa Z T7.heap r1_2 "java/lang/String" := (((g2_0.keep K4).ext E5).keep K7)
    have O9 : Old Z n0 T7.heap := (O6.keep K7 (allS (by omega) all0))
    obtain ⟨cq10, kq10, q10a, q10b, q10c⟩ := isOf hZ4 rfl g7_0
    obtain ⟨_, _, ⟨T10, L10, k10, n10⟩, -, X10, ⟨Lc10, hQ10, l10, y10, z10⟩, st10⟩ := X7.virtualBack hx (y := (⟨"com/example/living_lease/livinglease/redis/Resp$Error", "equals", "(Ljava/lang/Object;)Z"⟩ : MethodName)) (z := (⟨"com/example/living_lease/livinglease/redis/Resp$Error", "equals", "(Ljava/lang/Object;)Z"⟩ : MethodName)) ho4 (mvT hZ4 (own_w hw 49 rfl)) (mvT hZ4 (own_w hw 50 rfl)) (notFace_of_selects (args := #[]) (mvT hZ4 (own_w hw 52 rfl))) (mvT hZ4 (own_w hw 52 rfl)) (mvT hZ4 (own_w hw 51 rfl)) (by decide) (backOf (W := 0) (rm_qself l Z a0 hw [] ob5 r1_2 T7.heap n0 O9 g7_0 g7_1 fc8) hZ4 (own_w hw 53 rfl) (own_w hw 42 rfl) (by decide) (by decide)) q10a q10c (g := (mkF m 61 #[.val (.int x1), .val (.int y1), .val (.int f1), .val (.int la), .val (.int lb), .val (.int md), .val (.int yy), .val (.ref r1_2), .val (.ref r1_4), .val (.ref ob5), .unset, .unset] [(.ref ob5), (.ref ob5)])) rfl (by rw [hml]; rfl) (Steps.refl _) (argsL := [(.ref ob5)]) (rest := []) (lenOf own_pd__28Ljava_2flang_2fObject_3b_29Z rfl) rfl (by show 2 * 0 + _ ≤ _; exact Nat.le_of_eq rfl) (hb hby at_61) (fun _ _ => ⟨rfl, rfl, (by decide : 13 + 0 ≤ _), (by decide : 25 + 0 ≤ _)⟩)
    dsimp only [Pt.U, Pt.locs, Pt.cells, Pt.slots] at X10 l10 y10 z10 st10 hQ10
    subst l10 y10 z10
    obtain ⟨rfl, M10, K10⟩ := hQ10
    have N10 := Fr.app N7 M10
    refine own_by (fun _ k => st10.trans k) ?_
    refine own_by (fun _ k => XS.ifYes X10.here hx rfl (pc0 := 64) (pc' := 69) rfl (hb hby at_64) rfl ((if0 _ _).trans (feq (by decide : ¬ ((1 : Int32) = (0 : Int32)))).2) (by decide) (by decide) k) ?_
    show own_Go p e below (T10.setTop (mkF m 69 #[.val (.int x1), .val (.int y1), .val (.int f1), .val (.int la), .val (.int lb), .val (.int md), .val (.int yy), .val (.ref r1_2), .val (.ref r1_4), .val (.ref ob5), .unset, .unset] [])) _
    refine own_by (fun _ k => XS.iload X10.here hx rfl (hb hby at_69) rfl k) ?_
    refine own_by (fun _ k => XS.iconst X10.here hx rfl (hb hby at_71) k) ?_
    by_cases hc11 : md = (2 : Int32)
    · skip
      refine own_by (fun _ k => XS.icmpNo X10.here hx rfl (hb hby at_72) rfl (teq hc11).2 k) ?_
      show own_Go p e below (T10.setTop (mkF m 75 #[.val (.int x1), .val (.int y1), .val (.int f1), .val (.int la), .val (.int lb), .val (.int md), .val (.int yy), .val (.ref r1_2), .val (.ref r1_4), .val (.ref ob5), .unset, .unset] [])) _
      refine own_by (fun _ k => XS.aload X10.here hx rfl (hb hby at_75) rfl rfl k) ?_
      refine own_by (fun _ k => XS.astore X10.here hx rfl (hb hby at_77) rfl rfl (l' := #[.val (.int x1), .val (.int y1), .val (.int f1), .val (.int la), .val (.int lb), .val (.int md), .val (.int yy), .val (.ref r1_2), .val (.ref r1_4), .val (.ref ob5), .val (.ref r1_2), .unset]) rfl k) ?_
      refine own_by (fun _ k => XS.aload X10.here hx rfl (hb hby at_79) rfl rfl k) ?_
      refine own_by (fun _ k => XS.aload X10.here hx rfl (hb hby at_81) rfl rfl k) ?_
      show own_Go p e below (T10.setTop (mkF m 83 #[.val (.int x1), .val (.int y1), .val (.int f1), .val (.int la), .val (.int lb), .val (.int md), .val (.int yy), .val (.ref r1_2), .val (.ref r1_4), .val (.ref ob5), .val (.ref r1_2), .unset] [(.ref r1_2), (.ref ob5)])) _
      obtain ⟨cq12, kq12, q12a, q12b, q12c⟩ := isOf hZ4 K10 g7_0
      obtain ⟨_, _, ⟨T12, L12, k12, n12⟩, -, X12, ⟨Lc12, hQ12, l12, y12, z12⟩, st12⟩ := X10.virtualBack hx (y := (⟨"com/example/living_lease/livinglease/redis/Resp$Error", "equals", "(Ljava/lang/Object;)Z"⟩ : MethodName)) (z := (⟨"com/example/living_lease/livinglease/redis/Resp$Error", "equals", "(Ljava/lang/Object;)Z"⟩ : MethodName)) ho4 (mvT hZ4 (own_w hw 49 rfl)) (mvT hZ4 (own_w hw 50 rfl)) (notFace_of_selects (args := #[]) (mvT hZ4 (own_w hw 52 rfl))) (mvT hZ4 (own_w hw 52 rfl)) (mvT hZ4 (own_w hw 51 rfl)) (by decide) (backOf (W := 0) (rm_qstr l Z a0 hw [] ob5 r1_2 T7.heap n0 O9 fc8) hZ4 (own_w hw 53 rfl) (own_w hw 42 rfl) (by decide) (by decide)) q12a q12c (g := (mkF m 83 #[.val (.int x1), .val (.int y1), .val (.int f1), .val (.int la), .val (.int lb), .val (.int md), .val (.int yy), .val (.ref r1_2), .val (.ref r1_4), .val (.ref ob5), .val (.ref r1_2), .unset] [(.ref r1_2), (.ref ob5)])) rfl (by rw [hml]; rfl) (Steps.refl _) (argsL := [(.ref r1_2)]) (rest := []) (lenOf own_pd__28Ljava_2flang_2fObject_3b_29Z rfl) rfl (by show 2 * 0 + _ ≤ _; exact Nat.le_of_eq rfl) (hb hby at_83) (fun _ _ => ⟨rfl, K10, (by decide : 13 + 0 ≤ _), (by decide : 25 + 0 ≤ _)⟩)
      dsimp only [Pt.U, Pt.locs, Pt.cells, Pt.slots] at X12 l12 y12 z12 st12 hQ12
      subst l12 y12 z12
      obtain ⟨rfl, M12, K12⟩ := hQ12
      have N12 := Fr.app N10 M12
      refine own_by (fun _ k => st12.trans k) ?_
      refine own_by (fun _ k => XS.ifNo X12.here hx rfl (hb hby at_86) rfl ((if0 _ _).trans (teq (by decide : (0 : Int32) = (0 : Int32))).2) k) ?_
      show own_Go p e below (T12.setTop (mkF m 89 #[.val (.int x1), .val (.int y1), .val (.int f1), .val (.int la), .val (.int lb), .val (.int md), .val (.int yy), .val (.ref r1_2), .val (.ref r1_4), .val (.ref ob5), .val (.ref r1_2), .unset] [])) _
      refine own_by (fun _ k => XS.iconst X12.here hx rfl (hb hby at_89) k) ?_
      refine own_by (fun _ k => XS.goto X12.here hx rfl (pc0 := 90) (pc' := 94) rfl (hb hby at_90) (by decide) (by decide) k) ?_
      have K13 : Keep h0 T7.heap [] := (((((Keep.refl h0 []).trans K2 all0).trans K4 all0).ext E5).trans K7 (allS (P := fun x => x ∈ [] ∨ h0.size ≤ x) (Or.inr (by omega)) all0))
      obtain ⟨fs, hr, hrun, hended, hW⟩ := X12.leaveW S4 (by first | omega | (rw [K12]; omega)) (v := some (.int (1 : Int32))) (fun h => by rw [Bd.returns] at h; cases h)
      have RR := R7.trans (CHv.at X12 hZ4 hEL R7.1)
      have RR' : CHr Z own_EL s.vm s.heap T12.vm T12.heap := by rw [hh, K12]; exact RR
      refine ⟨_, _, retN X12 hx (t := .boolean) Bd.returns (by simp) (hb hby at_94) hr, hrun, hended, _, _, rfl, ?_, RR', ⟨_, rfl⟩, hW.2.1, hW.2.2.1, hW.2.2.2.mono (by decide) (by decide)⟩
      show Q_rm_law Z x1 y1 f1 cs h0 n0 _ T12.heap _
      rw [K12]
      exact ⟨rfl, N12, K13⟩
    · skip
      refine own_by (fun _ k => XS.icmpYes X10.here hx rfl (pc0 := 72) (pc' := 95) rfl (hb hby at_72) rfl (feq hc11).2 (by decide) (by decide) k) ?_
      show own_Go p e below (T10.setTop (mkF m 95 #[.val (.int x1), .val (.int y1), .val (.int f1), .val (.int la), .val (.int lb), .val (.int md), .val (.int yy), .val (.ref r1_2), .val (.ref r1_4), .val (.ref ob5), .unset, .unset] [])) _
      refine own_by (fun _ k => XS.iload X10.here hx rfl (hb hby at_95) rfl k) ?_
      refine own_by (fun _ k => XS.iconst X10.here hx rfl (hb hby at_97) k) ?_
      by_cases hc14 : md = (3 : Int32)
      · skip
        refine own_by (fun _ k => XS.icmpNo X10.here hx rfl (hb hby at_98) rfl (teq hc14).2 k) ?_
        show own_Go p e below (T10.setTop (mkF m 101 #[.val (.int x1), .val (.int y1), .val (.int f1), .val (.int la), .val (.int lb), .val (.int md), .val (.int yy), .val (.ref r1_2), .val (.ref r1_4), .val (.ref ob5), .unset, .unset] [])) _
        refine own_by (fun _ k => XS.aload X10.here hx rfl (hb hby at_101) rfl rfl k) ?_
        refine own_by (fun _ k => XS.aconstNull X10.here hx rfl (hb hby at_103) k) ?_
        obtain ⟨cq15, kq15, q15a, q15b, q15c⟩ := isOf hZ4 K10 g7_0
        obtain ⟨_, _, ⟨T15, L15, k15, n15⟩, -, X15, ⟨Lc15, hQ15, l15, y15, z15⟩, st15⟩ := X10.virtualBack hx (y := (⟨"com/example/living_lease/livinglease/redis/Resp$Error", "equals", "(Ljava/lang/Object;)Z"⟩ : MethodName)) (z := (⟨"com/example/living_lease/livinglease/redis/Resp$Error", "equals", "(Ljava/lang/Object;)Z"⟩ : MethodName)) ho4 (mvT hZ4 (own_w hw 49 rfl)) (mvT hZ4 (own_w hw 50 rfl)) (notFace_of_selects (args := #[]) (mvT hZ4 (own_w hw 52 rfl))) (mvT hZ4 (own_w hw 52 rfl)) (mvT hZ4 (own_w hw 51 rfl)) (by decide) (backOf (W := 0) (rm_qnull l Z a0 hw [] ob5 T7.heap n0 O9) hZ4 (own_w hw 53 rfl) (own_w hw 42 rfl) (by decide) (by decide)) q15a q15c (g := (mkF m 104 #[.val (.int x1), .val (.int y1), .val (.int f1), .val (.int la), .val (.int lb), .val (.int md), .val (.int yy), .val (.ref r1_2), .val (.ref r1_4), .val (.ref ob5), .unset, .unset] [.null, (.ref ob5)])) rfl (by rw [hml]; rfl) (Steps.refl _) (argsL := [.null]) (rest := []) (lenOf own_pd__28Ljava_2flang_2fObject_3b_29Z rfl) rfl (by show 2 * 0 + _ ≤ _; exact Nat.le_of_eq rfl) (hb hby at_104) (fun _ _ => ⟨rfl, K10, (by decide : 13 + 0 ≤ _), (by decide : 25 + 0 ≤ _)⟩)
        dsimp only [Pt.U, Pt.locs, Pt.cells, Pt.slots] at X15 l15 y15 z15 st15 hQ15
        subst l15 y15 z15
        obtain ⟨rfl, M15, K15⟩ := hQ15
        have N15 := Fr.app N10 M15
        refine own_by (fun _ k => st15.trans k) ?_
        refine own_by (fun _ k => XS.ifNo X15.here hx rfl (hb hby at_107) rfl ((if0 _ _).trans (teq (by decide : (0 : Int32) = (0 : Int32))).2) k) ?_
        show own_Go p e below (T15.setTop (mkF m 110 #[.val (.int x1), .val (.int y1), .val (.int f1), .val (.int la), .val (.int lb), .val (.int md), .val (.int yy), .val (.ref r1_2), .val (.ref r1_4), .val (.ref ob5), .unset, .unset] [])) _
        refine own_by (fun _ k => XS.iconst X15.here hx rfl (hb hby at_110) k) ?_
        refine own_by (fun _ k => XS.goto X15.here hx rfl (pc0 := 111) (pc' := 115) rfl (hb hby at_111) (by decide) (by decide) k) ?_
        have K16 : Keep h0 T7.heap [] := (((((Keep.refl h0 []).trans K2 all0).trans K4 all0).ext E5).trans K7 (allS (P := fun x => x ∈ [] ∨ h0.size ≤ x) (Or.inr (by omega)) all0))
        obtain ⟨fs, hr, hrun, hended, hW⟩ := X15.leaveW S4 (by first | omega | (rw [K15]; omega)) (v := some (.int (1 : Int32))) (fun h => by rw [Bd.returns] at h; cases h)
        have RR := R7.trans (CHv.at X15 hZ4 hEL R7.1)
        have RR' : CHr Z own_EL s.vm s.heap T15.vm T15.heap := by rw [hh, K15]; exact RR
        refine ⟨_, _, retN X15 hx (t := .boolean) Bd.returns (by simp) (hb hby at_115) hr, hrun, hended, _, _, rfl, ?_, RR', ⟨_, rfl⟩, hW.2.1, hW.2.2.1, hW.2.2.2.mono (by decide) (by decide)⟩
        show Q_rm_law Z x1 y1 f1 cs h0 n0 _ T15.heap _
        rw [K15]
        exact ⟨rfl, N15, K16⟩
      · skip
        refine own_by (fun _ k => XS.icmpYes X10.here hx rfl (pc0 := 98) (pc' := 116) rfl (hb hby at_98) rfl (feq hc14).2 (by decide) (by decide) k) ?_
        show own_Go p e below (T10.setTop (mkF m 116 #[.val (.int x1), .val (.int y1), .val (.int f1), .val (.int la), .val (.int lb), .val (.int md), .val (.int yy), .val (.ref r1_2), .val (.ref r1_4), .val (.ref ob5), .unset, .unset] [])) _
        obtain ⟨T17, h17, X17, e17, E17, A17, D17, U17, st17⟩ := newO X10 hx hZ4 ho4 (own_w hw 40 rfl) (own_w hw 41 rfl) (own_w hw 42 rfl) K10 (g := (mkF m 116 #[.val (.int x1), .val (.int y1), .val (.int f1), .val (.int la), .val (.int lb), .val (.int md), .val (.int yy), .val (.ref r1_2), .val (.ref r1_4), .val (.ref ob5), .unset, .unset] [])) rfl (hb hby at_116) (by decide) (by decide)
        obtain ⟨ob17, g17⟩ : ∃ z, z = T7.heap.size := ⟨_, rfl⟩
        rw [← g17] at A17 D17 U17 st17
        refine own_by st17 ?_
        have z17 := E17.1
        have lt17 : h17.size > ob17 := A17.lt
        have R17 := R7.trans (CHr.ext E17 R7.1)
        refine own_by (fun _ k => XS.dup X17.here hx rfl (hb hby at_119) rfl rfl k) ?_
        refine own_by (fun _ k => XS.aload X17.here hx rfl (hb hby at_120) rfl rfl k) ?_
        have O18 : Old Z n0 h17 := (O9.ext E17)
        obtain ⟨_, _, ⟨T19, L19, k19, n19⟩, -, X19, ⟨Lc19, hQ19, l19, y19, z19⟩, st19⟩ := X17.specialBack hx (y := (⟨"com/example/living_lease/livinglease/redis/Resp$Error", "<init>", "(Ljava/lang/String;)V"⟩ : MethodName)) rfl ho4 (mvT hZ4 (own_w hw 43 rfl)) (mvT hZ4 (own_w hw 44 rfl)) (mvT hZ4 (own_w hw 45 rfl)) (by decide) (backOf (W := 1) (rm_einit l Z a0 hw [] ob17 r1_4 h17 n0 O18 A17 (show Fld Z h17 ob17 "com/example/living_lease/livinglease/redis/Resp$Error" "message" "Ljava/lang/String;" .null from D17 (Or.inr (own_w hw 48 rfl)) (ty := (.object "java/lang/String")) (by decide)) (by first | assumption | omega | decide)) hZ4 (own_w hw 45 rfl) (own_w hw 42 rfl) (by decide) (by decide)) (g := (mkF m 122 #[.val (.int x1), .val (.int y1), .val (.int f1), .val (.int la), .val (.int lb), .val (.int md), .val (.int yy), .val (.ref r1_2), .val (.ref r1_4), .val (.ref ob5), .unset, .unset] [(.ref r1_4), (.ref ob17), (.ref ob17)])) rfl (by rw [hml]; rfl) (Steps.refl _) (a := ob17) (argsL := [(.ref r1_4)]) (rest := [(.ref ob17)]) (lenOf own_pd__28Ljava_2flang_2fString_3b_29V rfl) rfl (by show 2 * 0 + _ ≤ _; exact Nat.le_of_eq rfl) (hb hby at_122) (fun _ _ => ⟨rfl, e17, (by decide : 14 + 0 ≤ _), (by decide : 26 + 0 ≤ _)⟩)
        dsimp only [Pt.U, Pt.locs, Pt.cells, Pt.slots] at X19 l19 y19 z19 st19 hQ19
        subst l19 y19 z19
        obtain ⟨rfl, M19, K19, g19_0, g19_1⟩ := hQ19
        have N19 := Fr.app N10 M19
        refine own_by (fun _ k => st19.trans k) ?_
        have sk19 : ∀ x ∈ ([ob17] : List Addr), Safe Z own_EL T4.vm h17 x := (sfS (Safe.exa hZ4.alike A17 (by decide) (by decide)) sf0)
        have R19 := R17.trans (CHr.keep K19 sk19 R17.1)
        have z19 := K19.1
        have lt_g19_0 : T19.heap.size > ob17 := g19_0.lt
        have lt_g19_1 : T19.heap.size > ob17 := g19_1.lt
        show own_Go p e below (T19.setTop (mkF m 125 #[.val (.int x1), .val (.int y1), .val (.int f1), .val (.int la), .val (.int lb), .val (.int md), .val (.int yy), .val (.ref r1_2), .val (.ref r1_4), .val (.ref ob5), .unset, .unset] [(.ref ob17)])) _
        refine own_by (fun _ k => XS.astore X19.here hx rfl (hb hby at_125) rfl rfl (l' := #[.val (.int x1), .val (.int y1), .val (.int f1), .val (.int la), .val (.int lb), .val (.int md), .val (.int yy), .val (.ref r1_2), .val (.ref r1_4), .val (.ref ob5), .val (.ref ob17), .unset]) rfl k) ?_
        show own_Go p e below (T19.setTop (mkF m 127 #[.val (.int x1), .val (.int y1), .val (.int f1), .val (.int la), .val (.int lb), .val (.int md), .val (.int yy), .val (.ref r1_2), .val (.ref r1_4), .val (.ref ob5), .val (.ref ob17), .unset] [])) _
        have h_la' := h_la
        have h_lb' := h_lb
        rcases h_la' with rfl | rfl | rfl | rfl
        · skip
          show own_Go p e below (T19.setTop (mkF m 127 #[.val (.int x1), .val (.int y1), .val (.int f1), .val (.int (0 : Int32)), .val (.int lb), .val (.int md), .val (.int yy), .val (.ref r1_2), .val (.ref r1_4), .val (.ref ob5), .val (.ref ob17), .unset] [])) _
          refine own_by (fun _ k => XS.iloadN X19.here hx rfl (hb hby at_127) rfl k) ?_
          refine own_by (fun _ k => XS.iload X19.here hx rfl (hb hby at_128) rfl k) ?_
          by_cases hc20 : (0 : Int32) = lb
          · skip
            refine own_by (fun _ k => XS.icmpNo X19.here hx rfl (hb hby at_130) rfl (teq hc20).2 k) ?_
            show own_Go p e below (T19.setTop (mkF m 133 #[.val (.int x1), .val (.int y1), .val (.int f1), .val (.int (0 : Int32)), .val (.int lb), .val (.int md), .val (.int yy), .val (.ref r1_2), .val (.ref r1_4), .val (.ref ob5), .val (.ref ob17), .unset] [])) _
            refine own_by (fun _ k => XS.iloadN X19.here hx rfl (hb hby at_133) rfl k) ?_
            refine own_by (fun _ k => XS.iconst X19.here hx rfl (hb hby at_134) k) ?_
            refine own_by (fun _ k => XS.icmpYes X19.here hx rfl (pc0 := 135) (pc' := 152) rfl (hb hby at_135) rfl (tlt (by decide : (0 : Int32) < (1 : Int32))).1 (by decide) (by decide) k) ?_
            show own_Go p e below (T19.setTop (mkF m 152 #[.val (.int x1), .val (.int y1), .val (.int f1), .val (.int (0 : Int32)), .val (.int lb), .val (.int md), .val (.int yy), .val (.ref r1_2), .val (.ref r1_4), .val (.ref ob5), .val (.ref ob17), .unset] [])) _
            refine own_by (fun _ k => XS.iloadN X19.here hx rfl (hb hby at_152) rfl k) ?_
            refine own_by (fun _ k => XS.iconst X19.here hx rfl (hb hby at_153) k) ?_
            refine own_by (fun _ k => XS.icmpYes X19.here hx rfl (pc0 := 154) (pc' := 171) rfl (hb hby at_154) rfl (tlt (by decide : (0 : Int32) < (2 : Int32))).1 (by decide) (by decide) k) ?_
            show own_Go p e below (T19.setTop (mkF m 171 #[.val (.int x1), .val (.int y1), .val (.int f1), .val (.int (0 : Int32)), .val (.int lb), .val (.int md), .val (.int yy), .val (.ref r1_2), .val (.ref r1_4), .val (.ref ob5), .val (.ref ob17), .unset] [])) _
            refine own_by (fun _ k => XS.iloadN X19.here hx rfl (hb hby at_171) rfl k) ?_
            refine own_by (fun _ k => XS.iconst X19.here hx rfl (hb hby at_172) k) ?_
            refine own_by (fun _ k => XS.icmpYes X19.here hx rfl (pc0 := 173) (pc' := 190) rfl (hb hby at_173) rfl (tlt (by decide : (0 : Int32) < (3 : Int32))).1 (by decide) (by decide) k) ?_
            show own_Go p e below (T19.setTop (mkF m 190 #[.val (.int x1), .val (.int y1), .val (.int f1), .val (.int (0 : Int32)), .val (.int lb), .val (.int md), .val (.int yy), .val (.ref r1_2), .val (.ref r1_4), .val (.ref ob5), .val (.ref ob17), .unset] [])) _
            refine own_by (fun _ k => XS.iconst X19.here hx rfl (hb hby at_190) k) ?_
            refine own_by (fun _ k => XS.goto X19.here hx rfl (pc0 := 191) (pc' := 195) rfl (hb hby at_191) (by decide) (by decide) k) ?_
            refine own_by (fun _ k => XS.istore X19.here hx rfl (hb hby at_195) rfl (l' := #[.val (.int x1), .val (.int y1), .val (.int f1), .val (.int (0 : Int32)), .val (.int lb), .val (.int md), .val (.int yy), .val (.ref r1_2), .val (.ref r1_4), .val (.ref ob5), .val (.ref ob17), .val (.int (1 : Int32))]) rfl k) ?_
            refine own_by (fun _ k => XS.aload X19.here hx rfl (hb hby at_197) rfl rfl k) ?_
            show own_Go p e below (T19.setTop (mkF m 199 #[.val (.int x1), .val (.int y1), .val (.int f1), .val (.int (0 : Int32)), .val (.int lb), .val (.int md), .val (.int yy), .val (.ref r1_2), .val (.ref r1_4), .val (.ref ob5), .val (.ref ob17), .val (.int (1 : Int32))] [(.ref ob5)])) _
            refine own_by (fun _ k => XS.aload X19.here hx rfl (hb hby at_199) rfl rfl k) ?_
            have fc21 : Exa Z T19.heap ob5 "com/example/living_lease/livinglease/redis/Resp$Error" := ((g7_0.ext E17).keep K19)
            have fc22 : Fld Z T19.heap ob5 "com/example/living_lease/livinglease/redis/Resp$Error" "message" "Ljava/lang/String;" (.ref r1_2) := ((g7_1.ext E17).keep K19 (ninS (own_ne (by omega)) nin0))
            have fc23 : Exa Z T19.heap r1_2 "java/lang/String" := ((fc8.ext E17).keep K19)
            have fc24 : Fld Z T19.heap r1_2 "java/lang/String" "coder" "B" (.int (0 : Int32)) := (((((g2_1.keep K4 nin0).ext E5).keep K7 (ninS (own_ne (by omega)) nin0)).ext E17).keep K19 (ninS (own_ne (by omega)) nin0))
            have fc25 : Fld Z T19.heap r1_2 "java/lang/String" "value" "[B" (.ref b_2) := (((((g2_2.keep K4 nin0).ext E5).keep K7 (ninS (own_ne (by omega)) nin0)).ext E17).keep K19 (ninS (own_ne (by omega)) nin0))
            have fc26 : Arv Z T19.heap b_2 kb_2 .byte (0 : Int32) (own_bs x1 (0 : Int32)) (.int (0 : Int32)) := (((((g2_3.keep K4 nin0).ext E5).keep K7 (ninS (own_ne (by omega)) nin0)).ext E17).keep K19 (ninS (own_ne (by omega)) nin0))
            have fc27 : Exa Z T19.heap r1_4 "java/lang/String" := ((((g4_0.ext E5).keep K7).ext E17).keep K19)
            have fc28 : Fld Z T19.heap r1_4 "java/lang/String" "coder" "B" (.int (0 : Int32)) := ((((g4_1.ext E5).keep K7 (ninS (own_ne (by omega)) nin0)).ext E17).keep K19 (ninS (own_ne (by omega)) nin0))
            have fc29 : Fld Z T19.heap r1_4 "java/lang/String" "value" "[B" (.ref b_4) := ((((g4_2.ext E5).keep K7 (ninS (own_ne (by omega)) nin0)).ext E17).keep K19 (ninS (own_ne (by omega)) nin0))
            have fc30 : Arv Z T19.heap b_4 kb_4 .byte lb (own_bs yy lb) (.int (0 : Int32)) := ((((g4_3.ext E5).keep K7 (ninS (own_ne (by omega)) nin0)).ext E17).keep K19 (ninS (own_ne (by omega)) nin0))
            have O31 : Old Z n0 T19.heap := (O18.keep K19 (allS (by omega) all0))
            obtain ⟨cq32, kq32, q32a, q32b, q32c⟩ := isOf hZ4 rfl fc21
            obtain ⟨_, _, ⟨T32, L32, k32, n32⟩, -, X32, ⟨Lc32, hQ32, l32, y32, z32⟩, st32⟩ := X19.virtualBack hx (y := (⟨"com/example/living_lease/livinglease/redis/Resp$Error", "equals", "(Ljava/lang/Object;)Z"⟩ : MethodName)) (z := (⟨"com/example/living_lease/livinglease/redis/Resp$Error", "equals", "(Ljava/lang/Object;)Z"⟩ : MethodName)) ho4 (mvT hZ4 (own_w hw 49 rfl)) (mvT hZ4 (own_w hw 50 rfl)) (notFace_of_selects (args := #[]) (mvT hZ4 (own_w hw 52 rfl))) (mvT hZ4 (own_w hw 52 rfl)) (mvT hZ4 (own_w hw 51 rfl)) (by decide) (backOf (W := 0) (rm_qerr l Z a0 hw [] ob5 ob17 r1_2 r1_4 b_2 b_4 kb_2 kb_4 x1 (0 : Int32) yy lb cs T19.heap n0 O31 S_COMPACT fc21 fc22 g19_0 g19_1 fc23 fc24 fc25 fc26 fc27 fc28 fc29 fc30 hcs (own_ne (by omega)) h_la h_lb) hZ4 (own_w hw 53 rfl) (own_w hw 42 rfl) (by decide) (by decide)) q32a q32c (g := (mkF m 201 #[.val (.int x1), .val (.int y1), .val (.int f1), .val (.int (0 : Int32)), .val (.int lb), .val (.int md), .val (.int yy), .val (.ref r1_2), .val (.ref r1_4), .val (.ref ob5), .val (.ref ob17), .val (.int (1 : Int32))] [(.ref ob17), (.ref ob5)])) rfl (by rw [hml]; rfl) (Steps.refl _) (argsL := [(.ref ob17)]) (rest := []) (lenOf own_pd__28Ljava_2flang_2fObject_3b_29Z rfl) rfl (by show 2 * 0 + _ ≤ _; exact Nat.le_of_eq rfl) (hb hby at_201) (fun _ _ => ⟨rfl, rfl, (by decide : 14 + 0 ≤ _), (by decide : 26 + 0 ≤ _)⟩)
            dsimp only [Pt.U, Pt.locs, Pt.cells, Pt.slots] at X32 l32 y32 z32 st32 hQ32
            subst l32 y32 z32
            obtain ⟨rfl, M32, K32⟩ := hQ32
            have N32 := Fr.app N19 M32
            refine own_by (fun _ k => st32.trans k) ?_
            refine own_by (fun _ k => XS.iload X32.here hx rfl (hb hby at_204) rfl k) ?_
            refine own_by (fun _ k => XS.icmpNo X32.here hx rfl (hb hby at_206) rfl (teq ((own_eqs_eq hc20).trans (own_pre_0 _ _))).2 k) ?_
            show own_Go p e below (T32.setTop (mkF m 209 #[.val (.int x1), .val (.int y1), .val (.int f1), .val (.int (0 : Int32)), .val (.int lb), .val (.int md), .val (.int yy), .val (.ref r1_2), .val (.ref r1_4), .val (.ref ob5), .val (.ref ob17), .val (.int (1 : Int32))] [])) _
            refine own_by (fun _ k => XS.aload X32.here hx rfl (hb hby at_209) rfl rfl k) ?_
            refine own_by (fun _ k => XS.aload X32.here hx rfl (hb hby at_211) rfl rfl k) ?_
            obtain ⟨cq33, kq33, q33a, q33b, q33c⟩ := isOf hZ4 K32 g19_0
            obtain ⟨_, _, ⟨T33, L33, k33, n33⟩, -, X33, ⟨Lc33, hQ33, l33, y33, z33⟩, st33⟩ := X32.virtualBack hx (y := (⟨"com/example/living_lease/livinglease/redis/Resp$Error", "equals", "(Ljava/lang/Object;)Z"⟩ : MethodName)) (z := (⟨"com/example/living_lease/livinglease/redis/Resp$Error", "equals", "(Ljava/lang/Object;)Z"⟩ : MethodName)) ho4 (mvT hZ4 (own_w hw 49 rfl)) (mvT hZ4 (own_w hw 50 rfl)) (notFace_of_selects (args := #[]) (mvT hZ4 (own_w hw 52 rfl))) (mvT hZ4 (own_w hw 52 rfl)) (mvT hZ4 (own_w hw 51 rfl)) (by decide) (backOf (W := 0) (rm_qerr l Z a0 hw [] ob17 ob5 r1_4 r1_2 b_4 b_2 kb_4 kb_2 yy lb x1 (0 : Int32) cs T19.heap n0 O31 S_COMPACT g19_0 g19_1 fc21 fc22 fc27 fc28 fc29 fc30 fc23 fc24 fc25 fc26 hcs (own_ne (by omega)) h_lb h_la) hZ4 (own_w hw 53 rfl) (own_w hw 42 rfl) (by decide) (by decide)) q33a q33c (g := (mkF m 213 #[.val (.int x1), .val (.int y1), .val (.int f1), .val (.int (0 : Int32)), .val (.int lb), .val (.int md), .val (.int yy), .val (.ref r1_2), .val (.ref r1_4), .val (.ref ob5), .val (.ref ob17), .val (.int (1 : Int32))] [(.ref ob5), (.ref ob17)])) rfl (by rw [hml]; rfl) (Steps.refl _) (argsL := [(.ref ob5)]) (rest := []) (lenOf own_pd__28Ljava_2flang_2fObject_3b_29Z rfl) rfl (by show 2 * 0 + _ ≤ _; exact Nat.le_of_eq rfl) (hb hby at_213) (fun _ _ => ⟨rfl, K32, (by decide : 14 + 0 ≤ _), (by decide : 26 + 0 ≤ _)⟩)
            dsimp only [Pt.U, Pt.locs, Pt.cells, Pt.slots] at X33 l33 y33 z33 st33 hQ33
            subst l33 y33 z33
            obtain ⟨rfl, M33, K33⟩ := hQ33
            have N33 := Fr.app N32 M33
            refine own_by (fun _ k => st33.trans k) ?_
            refine own_by (fun _ k => XS.iload X33.here hx rfl (hb hby at_216) rfl k) ?_
            show own_Go p e below (T33.setTop (mkF m 218 #[.val (.int x1), .val (.int y1), .val (.int f1), .val (.int (0 : Int32)), .val (.int lb), .val (.int md), .val (.int yy), .val (.ref r1_2), .val (.ref r1_4), .val (.ref ob5), .val (.ref ob17), .val (.int (1 : Int32))] [(.int (1 : Int32)), (.int (own_eqs yy lb x1 (0 : Int32)))])) _
            refine own_by (fun _ k => XS.icmpNo X33.here hx rfl (hb hby at_218) rfl (teq (by rw [← hc20]; exact (own_eqs_eq rfl).trans (own_pre_0 _ _))).2 k) ?_
            show own_Go p e below (T33.setTop (mkF m 221 #[.val (.int x1), .val (.int y1), .val (.int f1), .val (.int (0 : Int32)), .val (.int lb), .val (.int md), .val (.int yy), .val (.ref r1_2), .val (.ref r1_4), .val (.ref ob5), .val (.ref ob17), .val (.int (1 : Int32))] [])) _
            refine own_by (fun _ k => XS.iconst X33.here hx rfl (hb hby at_221) k) ?_
            refine own_by (fun _ k => XS.goto X33.here hx rfl (pc0 := 222) (pc' := 226) rfl (hb hby at_222) (by decide) (by decide) k) ?_
            have K34 : Keep h0 T19.heap [] := (((((((Keep.refl h0 []).trans K2 all0).trans K4 all0).ext E5).trans K7 (allS (P := fun x => x ∈ [] ∨ h0.size ≤ x) (Or.inr (by omega)) all0)).ext E17).trans K19 (allS (P := fun x => x ∈ [] ∨ h0.size ≤ x) (Or.inr (by omega)) all0))
            obtain ⟨fs, hr, hrun, hended, hW⟩ := X33.leaveW S4 (by first | omega | (rw [K33]; omega)) (v := some (.int (1 : Int32))) (fun h => by rw [Bd.returns] at h; cases h)
            have RR := R19.trans (CHv.at X33 hZ4 hEL R19.1)
            have RR' : CHr Z own_EL s.vm s.heap T33.vm T33.heap := by rw [hh, K33]; exact RR
            refine ⟨_, _, retN X33 hx (t := .boolean) Bd.returns (by simp) (hb hby at_226) hr, hrun, hended, _, _, rfl, ?_, RR', ⟨_, rfl⟩, hW.2.1, hW.2.2.1, hW.2.2.2.mono (by decide) (by decide)⟩
            show Q_rm_law Z x1 y1 f1 cs h0 n0 _ T33.heap _
            rw [K33]
            exact ⟨rfl, N33, K34⟩
          · skip
            refine own_by (fun _ k => XS.icmpYes X19.here hx rfl (pc0 := 130) (pc' := 194) rfl (hb hby at_130) rfl (feq hc20).2 (by decide) (by decide) k) ?_
            show own_Go p e below (T19.setTop (mkF m 194 #[.val (.int x1), .val (.int y1), .val (.int f1), .val (.int (0 : Int32)), .val (.int lb), .val (.int md), .val (.int yy), .val (.ref r1_2), .val (.ref r1_4), .val (.ref ob5), .val (.ref ob17), .unset] [])) _
            refine own_by (fun _ k => XS.iconst X19.here hx rfl (hb hby at_194) k) ?_
            refine own_by (fun _ k => XS.istore X19.here hx rfl (hb hby at_195) rfl (l' := #[.val (.int x1), .val (.int y1), .val (.int f1), .val (.int (0 : Int32)), .val (.int lb), .val (.int md), .val (.int yy), .val (.ref r1_2), .val (.ref r1_4), .val (.ref ob5), .val (.ref ob17), .val (.int (0 : Int32))]) rfl k) ?_
            refine own_by (fun _ k => XS.aload X19.here hx rfl (hb hby at_197) rfl rfl k) ?_
            refine own_by (fun _ k => XS.aload X19.here hx rfl (hb hby at_199) rfl rfl k) ?_
            show own_Go p e below (T19.setTop (mkF m 201 #[.val (.int x1), .val (.int y1), .val (.int f1), .val (.int (0 : Int32)), .val (.int lb), .val (.int md), .val (.int yy), .val (.ref r1_2), .val (.ref r1_4), .val (.ref ob5), .val (.ref ob17), .val (.int (0 : Int32))] [(.ref ob17), (.ref ob5)])) _
            have fc35 : Exa Z T19.heap ob5 "com/example/living_lease/livinglease/redis/Resp$Error" := ((g7_0.ext E17).keep K19)
            have fc36 : Fld Z T19.heap ob5 "com/example/living_lease/livinglease/redis/Resp$Error" "message" "Ljava/lang/String;" (.ref r1_2) := ((g7_1.ext E17).keep K19 (ninS (own_ne (by omega)) nin0))
            have fc37 : Exa Z T19.heap r1_2 "java/lang/String" := ((fc8.ext E17).keep K19)
            have fc38 : Fld Z T19.heap r1_2 "java/lang/String" "coder" "B" (.int (0 : Int32)) := (((((g2_1.keep K4 nin0).ext E5).keep K7 (ninS (own_ne (by omega)) nin0)).ext E17).keep K19 (ninS (own_ne (by omega)) nin0))
            have fc39 : Fld Z T19.heap r1_2 "java/lang/String" "value" "[B" (.ref b_2) := (((((g2_2.keep K4 nin0).ext E5).keep K7 (ninS (own_ne (by omega)) nin0)).ext E17).keep K19 (ninS (own_ne (by omega)) nin0))
            have fc40 : Arv Z T19.heap b_2 kb_2 .byte (0 : Int32) (own_bs x1 (0 : Int32)) (.int (0 : Int32)) := (((((g2_3.keep K4 nin0).ext E5).keep K7 (ninS (own_ne (by omega)) nin0)).ext E17).keep K19 (ninS (own_ne (by omega)) nin0))
            have fc41 : Exa Z T19.heap r1_4 "java/lang/String" := ((((g4_0.ext E5).keep K7).ext E17).keep K19)
            have fc42 : Fld Z T19.heap r1_4 "java/lang/String" "coder" "B" (.int (0 : Int32)) := ((((g4_1.ext E5).keep K7 (ninS (own_ne (by omega)) nin0)).ext E17).keep K19 (ninS (own_ne (by omega)) nin0))
            have fc43 : Fld Z T19.heap r1_4 "java/lang/String" "value" "[B" (.ref b_4) := ((((g4_2.ext E5).keep K7 (ninS (own_ne (by omega)) nin0)).ext E17).keep K19 (ninS (own_ne (by omega)) nin0))
            have fc44 : Arv Z T19.heap b_4 kb_4 .byte lb (own_bs yy lb) (.int (0 : Int32)) := ((((g4_3.ext E5).keep K7 (ninS (own_ne (by omega)) nin0)).ext E17).keep K19 (ninS (own_ne (by omega)) nin0))
            have O45 : Old Z n0 T19.heap := (O18.keep K19 (allS (by omega) all0))
            obtain ⟨cq46, kq46, q46a, q46b, q46c⟩ := isOf hZ4 rfl fc35
            obtain ⟨_, _, ⟨T46, L46, k46, n46⟩, -, X46, ⟨Lc46, hQ46, l46, y46, z46⟩, st46⟩ := X19.virtualBack hx (y := (⟨"com/example/living_lease/livinglease/redis/Resp$Error", "equals", "(Ljava/lang/Object;)Z"⟩ : MethodName)) (z := (⟨"com/example/living_lease/livinglease/redis/Resp$Error", "equals", "(Ljava/lang/Object;)Z"⟩ : MethodName)) ho4 (mvT hZ4 (own_w hw 49 rfl)) (mvT hZ4 (own_w hw 50 rfl)) (notFace_of_selects (args := #[]) (mvT hZ4 (own_w hw 52 rfl))) (mvT hZ4 (own_w hw 52 rfl)) (mvT hZ4 (own_w hw 51 rfl)) (by decide) (backOf (W := 0) (rm_qerr l Z a0 hw [] ob5 ob17 r1_2 r1_4 b_2 b_4 kb_2 kb_4 x1 (0 : Int32) yy lb cs T19.heap n0 O45 S_COMPACT fc35 fc36 g19_0 g19_1 fc37 fc38 fc39 fc40 fc41 fc42 fc43 fc44 hcs (own_ne (by omega)) h_la h_lb) hZ4 (own_w hw 53 rfl) (own_w hw 42 rfl) (by decide) (by decide)) q46a q46c (g := (mkF m 201 #[.val (.int x1), .val (.int y1), .val (.int f1), .val (.int (0 : Int32)), .val (.int lb), .val (.int md), .val (.int yy), .val (.ref r1_2), .val (.ref r1_4), .val (.ref ob5), .val (.ref ob17), .val (.int (0 : Int32))] [(.ref ob17), (.ref ob5)])) rfl (by rw [hml]; rfl) (Steps.refl _) (argsL := [(.ref ob17)]) (rest := []) (lenOf own_pd__28Ljava_2flang_2fObject_3b_29Z rfl) rfl (by show 2 * 0 + _ ≤ _; exact Nat.le_of_eq rfl) (hb hby at_201) (fun _ _ => ⟨rfl, rfl, (by decide : 14 + 0 ≤ _), (by decide : 26 + 0 ≤ _)⟩)
            dsimp only [Pt.U, Pt.locs, Pt.cells, Pt.slots] at X46 l46 y46 z46 st46 hQ46
            subst l46 y46 z46
            obtain ⟨rfl, M46, K46⟩ := hQ46
            have N46 := Fr.app N19 M46
            refine own_by (fun _ k => st46.trans k) ?_
            refine own_by (fun _ k => XS.iload X46.here hx rfl (hb hby at_204) rfl k) ?_
            refine own_by (fun _ k => XS.icmpNo X46.here hx rfl (hb hby at_206) rfl (teq (own_eqs_ne hc20)).2 k) ?_
            show own_Go p e below (T46.setTop (mkF m 209 #[.val (.int x1), .val (.int y1), .val (.int f1), .val (.int (0 : Int32)), .val (.int lb), .val (.int md), .val (.int yy), .val (.ref r1_2), .val (.ref r1_4), .val (.ref ob5), .val (.ref ob17), .val (.int (0 : Int32))] [])) _
            refine own_by (fun _ k => XS.aload X46.here hx rfl (hb hby at_209) rfl rfl k) ?_
            refine own_by (fun _ k => XS.aload X46.here hx rfl (hb hby at_211) rfl rfl k) ?_
            obtain ⟨cq47, kq47, q47a, q47b, q47c⟩ := isOf hZ4 K46 g19_0
            obtain ⟨_, _, ⟨T47, L47, k47, n47⟩, -, X47, ⟨Lc47, hQ47, l47, y47, z47⟩, st47⟩ := X46.virtualBack hx (y := (⟨"com/example/living_lease/livinglease/redis/Resp$Error", "equals", "(Ljava/lang/Object;)Z"⟩ : MethodName)) (z := (⟨"com/example/living_lease/livinglease/redis/Resp$Error", "equals", "(Ljava/lang/Object;)Z"⟩ : MethodName)) ho4 (mvT hZ4 (own_w hw 49 rfl)) (mvT hZ4 (own_w hw 50 rfl)) (notFace_of_selects (args := #[]) (mvT hZ4 (own_w hw 52 rfl))) (mvT hZ4 (own_w hw 52 rfl)) (mvT hZ4 (own_w hw 51 rfl)) (by decide) (backOf (W := 0) (rm_qerr l Z a0 hw [] ob17 ob5 r1_4 r1_2 b_4 b_2 kb_4 kb_2 yy lb x1 (0 : Int32) cs T19.heap n0 O45 S_COMPACT g19_0 g19_1 fc35 fc36 fc41 fc42 fc43 fc44 fc37 fc38 fc39 fc40 hcs (own_ne (by omega)) h_lb h_la) hZ4 (own_w hw 53 rfl) (own_w hw 42 rfl) (by decide) (by decide)) q47a q47c (g := (mkF m 213 #[.val (.int x1), .val (.int y1), .val (.int f1), .val (.int (0 : Int32)), .val (.int lb), .val (.int md), .val (.int yy), .val (.ref r1_2), .val (.ref r1_4), .val (.ref ob5), .val (.ref ob17), .val (.int (0 : Int32))] [(.ref ob5), (.ref ob17)])) rfl (by rw [hml]; rfl) (Steps.refl _) (argsL := [(.ref ob5)]) (rest := []) (lenOf own_pd__28Ljava_2flang_2fObject_3b_29Z rfl) rfl (by show 2 * 0 + _ ≤ _; exact Nat.le_of_eq rfl) (hb hby at_213) (fun _ _ => ⟨rfl, K46, (by decide : 14 + 0 ≤ _), (by decide : 26 + 0 ≤ _)⟩)
            dsimp only [Pt.U, Pt.locs, Pt.cells, Pt.slots] at X47 l47 y47 z47 st47 hQ47
            subst l47 y47 z47
            obtain ⟨rfl, M47, K47⟩ := hQ47
            have N47 := Fr.app N46 M47
            refine own_by (fun _ k => st47.trans k) ?_
            refine own_by (fun _ k => XS.iload X47.here hx rfl (hb hby at_216) rfl k) ?_
            show own_Go p e below (T47.setTop (mkF m 218 #[.val (.int x1), .val (.int y1), .val (.int f1), .val (.int (0 : Int32)), .val (.int lb), .val (.int md), .val (.int yy), .val (.ref r1_2), .val (.ref r1_4), .val (.ref ob5), .val (.ref ob17), .val (.int (0 : Int32))] [(.int (0 : Int32)), (.int (own_eqs yy lb x1 (0 : Int32)))])) _
            refine own_by (fun _ k => XS.icmpNo X47.here hx rfl (hb hby at_218) rfl (teq (own_eqs_ne (fun q => hc20 q.symm))).2 k) ?_
            show own_Go p e below (T47.setTop (mkF m 221 #[.val (.int x1), .val (.int y1), .val (.int f1), .val (.int (0 : Int32)), .val (.int lb), .val (.int md), .val (.int yy), .val (.ref r1_2), .val (.ref r1_4), .val (.ref ob5), .val (.ref ob17), .val (.int (0 : Int32))] [])) _
            refine own_by (fun _ k => XS.iconst X47.here hx rfl (hb hby at_221) k) ?_
            refine own_by (fun _ k => XS.goto X47.here hx rfl (pc0 := 222) (pc' := 226) rfl (hb hby at_222) (by decide) (by decide) k) ?_
            have K48 : Keep h0 T19.heap [] := (((((((Keep.refl h0 []).trans K2 all0).trans K4 all0).ext E5).trans K7 (allS (P := fun x => x ∈ [] ∨ h0.size ≤ x) (Or.inr (by omega)) all0)).ext E17).trans K19 (allS (P := fun x => x ∈ [] ∨ h0.size ≤ x) (Or.inr (by omega)) all0))
            obtain ⟨fs, hr, hrun, hended, hW⟩ := X47.leaveW S4 (by first | omega | (rw [K47]; omega)) (v := some (.int (1 : Int32))) (fun h => by rw [Bd.returns] at h; cases h)
            have RR := R19.trans (CHv.at X47 hZ4 hEL R19.1)
            have RR' : CHr Z own_EL s.vm s.heap T47.vm T47.heap := by rw [hh, K47]; exact RR
            refine ⟨_, _, retN X47 hx (t := .boolean) Bd.returns (by simp) (hb hby at_226) hr, hrun, hended, _, _, rfl, ?_, RR', ⟨_, rfl⟩, hW.2.1, hW.2.2.1, hW.2.2.2.mono (by decide) (by decide)⟩
            show Q_rm_law Z x1 y1 f1 cs h0 n0 _ T47.heap _
            rw [K47]
            exact ⟨rfl, N47, K48⟩
        · skip
          show own_Go p e below (T19.setTop (mkF m 127 #[.val (.int x1), .val (.int y1), .val (.int f1), .val (.int (1 : Int32)), .val (.int lb), .val (.int md), .val (.int yy), .val (.ref r1_2), .val (.ref r1_4), .val (.ref ob5), .val (.ref ob17), .unset] [])) _
          refine own_by (fun _ k => XS.iloadN X19.here hx rfl (hb hby at_127) rfl k) ?_
          refine own_by (fun _ k => XS.iload X19.here hx rfl (hb hby at_128) rfl k) ?_
          by_cases hc49 : (1 : Int32) = lb
          · skip
            refine own_by (fun _ k => XS.icmpNo X19.here hx rfl (hb hby at_130) rfl (teq hc49).2 k) ?_
            show own_Go p e below (T19.setTop (mkF m 133 #[.val (.int x1), .val (.int y1), .val (.int f1), .val (.int (1 : Int32)), .val (.int lb), .val (.int md), .val (.int yy), .val (.ref r1_2), .val (.ref r1_4), .val (.ref ob5), .val (.ref ob17), .unset] [])) _
            refine own_by (fun _ k => XS.iloadN X19.here hx rfl (hb hby at_133) rfl k) ?_
            refine own_by (fun _ k => XS.iconst X19.here hx rfl (hb hby at_134) k) ?_
            refine own_by (fun _ k => XS.icmpNo X19.here hx rfl (hb hby at_135) rfl (flt (by decide : ¬ ((1 : Int32) < (1 : Int32)))).1 k) ?_
            show own_Go p e below (T19.setTop (mkF m 138 #[.val (.int x1), .val (.int y1), .val (.int f1), .val (.int (1 : Int32)), .val (.int lb), .val (.int md), .val (.int yy), .val (.ref r1_2), .val (.ref r1_4), .val (.ref ob5), .val (.ref ob17), .unset] [])) _
            refine own_by (fun _ k => XS.iloadN X19.here hx rfl (hb hby at_138) rfl k) ?_
            refine own_by (fun _ k => XS.iconst X19.here hx rfl (hb hby at_139) k) ?_
            have O50 : Old Z n0 T19.heap := (O18.keep K19 (allS (by omega) all0))
            obtain ⟨_, _, ⟨T51, L51, k51, n51⟩, -, X51, ⟨Lc51, hQ51, l51, y51, z51⟩, st51⟩ := Jvm.LawKit.callS X19 hx (y := (⟨"com/example/living_lease/livinglease/redis/ErrorEqualsPinLaw", "ch", "(II)C"⟩ : MethodName)) ho4 (mvT hZ4 (own_w hw 8 rfl)) (mvT hZ4 (own_w hw 9 rfl)) (mvT hZ4 (own_w hw 2 rfl)) (mvT hZ4 (own_w hw 10 rfl)) (by decide) (backOf (W := 0) (rm_chr0 l Z a0 hw [] x1 T19.heap n0 O50) hZ4 (own_w hw 10 rfl) (own_w hw 2 rfl) (by decide) (by decide)) (g := (mkF m 140 #[.val (.int x1), .val (.int y1), .val (.int f1), .val (.int (1 : Int32)), .val (.int lb), .val (.int md), .val (.int yy), .val (.ref r1_2), .val (.ref r1_4), .val (.ref ob5), .val (.ref ob17), .unset] [(.int (0 : Int32)), (.int x1)])) rfl (by rw [hml]; rfl) (argsL := [(.int x1), (.int (0 : Int32))]) (rest := []) (lenOf own_pd__28II_29C rfl) rfl (by show 2 * 0 + _ ≤ _; exact Nat.le_of_eq rfl) (hb hby at_140) (fun _ _ => ⟨rfl, rfl, (by decide : 14 + 0 ≤ _), (by decide : 26 + 0 ≤ _)⟩)
            dsimp only [Pt.U, Pt.locs, Pt.cells, Pt.slots] at X51 l51 y51 z51 st51 hQ51
            subst l51 y51 z51
            obtain ⟨rfl, M51, K51⟩ := hQ51
            have N51 := Fr.app N19 M51
            refine own_by st51 ?_
            refine own_by (fun _ k => XS.iload X51.here hx rfl (hb hby at_143) rfl k) ?_
            show own_Go p e below (T51.setTop (mkF m 145 #[.val (.int x1), .val (.int y1), .val (.int f1), .val (.int (1 : Int32)), .val (.int lb), .val (.int md), .val (.int yy), .val (.ref r1_2), .val (.ref r1_4), .val (.ref ob5), .val (.ref ob17), .unset] [(.int yy), (.int (own_pk0 x1 &&& (255 : Int32)))])) _
            refine own_by (fun _ k => XS.iconst X51.here hx rfl (hb hby at_145) k) ?_
            obtain ⟨_, _, ⟨T52, L52, k52, n52⟩, -, X52, ⟨Lc52, hQ52, l52, y52, z52⟩, st52⟩ := Jvm.LawKit.callS X51 hx (y := (⟨"com/example/living_lease/livinglease/redis/ErrorEqualsPinLaw", "ch", "(II)C"⟩ : MethodName)) ho4 (mvT hZ4 (own_w hw 8 rfl)) (mvT hZ4 (own_w hw 9 rfl)) (mvT hZ4 (own_w hw 2 rfl)) (mvT hZ4 (own_w hw 10 rfl)) (by decide) (backOf (W := 1) (rm_chr0 l Z a0 hw [] yy T19.heap n0 O50) hZ4 (own_w hw 10 rfl) (own_w hw 2 rfl) (by decide) (by decide)) (g := (mkF m 146 #[.val (.int x1), .val (.int y1), .val (.int f1), .val (.int (1 : Int32)), .val (.int lb), .val (.int md), .val (.int yy), .val (.ref r1_2), .val (.ref r1_4), .val (.ref ob5), .val (.ref ob17), .unset] [(.int (0 : Int32)), (.int yy), (.int (own_pk0 x1 &&& (255 : Int32)))])) rfl (by rw [hml]; rfl) (argsL := [(.int yy), (.int (0 : Int32))]) (rest := [(.int (own_pk0 x1 &&& (255 : Int32)))]) (lenOf own_pd__28II_29C rfl) rfl (by show 2 * 0 + _ ≤ _; exact Nat.le_of_eq rfl) (hb hby at_146) (fun _ _ => ⟨rfl, K51, (by decide : 14 + 0 ≤ _), (by decide : 26 + 0 ≤ _)⟩)
            dsimp only [Pt.U, Pt.locs, Pt.cells, Pt.slots] at X52 l52 y52 z52 st52 hQ52
            subst l52 y52 z52
            obtain ⟨rfl, M52, K52⟩ := hQ52
            have N52 := Fr.app N51 M52
            refine own_by st52 ?_
            by_cases hc53 : (own_pk0 x1 &&& (255 : Int32)) = (own_pk0 yy &&& (255 : Int32))
            · skip
              refine own_by (fun _ k => XS.icmpNo X52.here hx rfl (hb hby at_149) rfl (teq hc53).2 k) ?_
              show own_Go p e below (T52.setTop (mkF m 152 #[.val (.int x1), .val (.int y1), .val (.int f1), .val (.int (1 : Int32)), .val (.int lb), .val (.int md), .val (.int yy), .val (.ref r1_2), .val (.ref r1_4), .val (.ref ob5), .val (.ref ob17), .unset] [])) _
              refine own_by (fun _ k => XS.iloadN X52.here hx rfl (hb hby at_152) rfl k) ?_
              refine own_by (fun _ k => XS.iconst X52.here hx rfl (hb hby at_153) k) ?_
              refine own_by (fun _ k => XS.icmpYes X52.here hx rfl (pc0 := 154) (pc' := 171) rfl (hb hby at_154) rfl (tlt (by decide : (1 : Int32) < (2 : Int32))).1 (by decide) (by decide) k) ?_
              show own_Go p e below (T52.setTop (mkF m 171 #[.val (.int x1), .val (.int y1), .val (.int f1), .val (.int (1 : Int32)), .val (.int lb), .val (.int md), .val (.int yy), .val (.ref r1_2), .val (.ref r1_4), .val (.ref ob5), .val (.ref ob17), .unset] [])) _
              refine own_by (fun _ k => XS.iloadN X52.here hx rfl (hb hby at_171) rfl k) ?_
              refine own_by (fun _ k => XS.iconst X52.here hx rfl (hb hby at_172) k) ?_
              refine own_by (fun _ k => XS.icmpYes X52.here hx rfl (pc0 := 173) (pc' := 190) rfl (hb hby at_173) rfl (tlt (by decide : (1 : Int32) < (3 : Int32))).1 (by decide) (by decide) k) ?_
              show own_Go p e below (T52.setTop (mkF m 190 #[.val (.int x1), .val (.int y1), .val (.int f1), .val (.int (1 : Int32)), .val (.int lb), .val (.int md), .val (.int yy), .val (.ref r1_2), .val (.ref r1_4), .val (.ref ob5), .val (.ref ob17), .unset] [])) _
              refine own_by (fun _ k => XS.iconst X52.here hx rfl (hb hby at_190) k) ?_
              refine own_by (fun _ k => XS.goto X52.here hx rfl (pc0 := 191) (pc' := 195) rfl (hb hby at_191) (by decide) (by decide) k) ?_
              refine own_by (fun _ k => XS.istore X52.here hx rfl (hb hby at_195) rfl (l' := #[.val (.int x1), .val (.int y1), .val (.int f1), .val (.int (1 : Int32)), .val (.int lb), .val (.int md), .val (.int yy), .val (.ref r1_2), .val (.ref r1_4), .val (.ref ob5), .val (.ref ob17), .val (.int (1 : Int32))]) rfl k) ?_
              refine own_by (fun _ k => XS.aload X52.here hx rfl (hb hby at_197) rfl rfl k) ?_
              show own_Go p e below (T52.setTop (mkF m 199 #[.val (.int x1), .val (.int y1), .val (.int f1), .val (.int (1 : Int32)), .val (.int lb), .val (.int md), .val (.int yy), .val (.ref r1_2), .val (.ref r1_4), .val (.ref ob5), .val (.ref ob17), .val (.int (1 : Int32))] [(.ref ob5)])) _
              refine own_by (fun _ k => XS.aload X52.here hx rfl (hb hby at_199) rfl rfl k) ?_
              have fc54 : Exa Z T19.heap ob5 "com/example/living_lease/livinglease/redis/Resp$Error" := ((g7_0.ext E17).keep K19)
              have fc55 : Fld Z T19.heap ob5 "com/example/living_lease/livinglease/redis/Resp$Error" "message" "Ljava/lang/String;" (.ref r1_2) := ((g7_1.ext E17).keep K19 (ninS (own_ne (by omega)) nin0))
              have fc56 : Exa Z T19.heap r1_2 "java/lang/String" := ((fc8.ext E17).keep K19)
              have fc57 : Fld Z T19.heap r1_2 "java/lang/String" "coder" "B" (.int (0 : Int32)) := (((((g2_1.keep K4 nin0).ext E5).keep K7 (ninS (own_ne (by omega)) nin0)).ext E17).keep K19 (ninS (own_ne (by omega)) nin0))
              have fc58 : Fld Z T19.heap r1_2 "java/lang/String" "value" "[B" (.ref b_2) := (((((g2_2.keep K4 nin0).ext E5).keep K7 (ninS (own_ne (by omega)) nin0)).ext E17).keep K19 (ninS (own_ne (by omega)) nin0))
              have fc59 : Arv Z T19.heap b_2 kb_2 .byte (1 : Int32) (own_bs x1 (1 : Int32)) (.int (0 : Int32)) := (((((g2_3.keep K4 nin0).ext E5).keep K7 (ninS (own_ne (by omega)) nin0)).ext E17).keep K19 (ninS (own_ne (by omega)) nin0))
              have fc60 : Exa Z T19.heap r1_4 "java/lang/String" := ((((g4_0.ext E5).keep K7).ext E17).keep K19)
              have fc61 : Fld Z T19.heap r1_4 "java/lang/String" "coder" "B" (.int (0 : Int32)) := ((((g4_1.ext E5).keep K7 (ninS (own_ne (by omega)) nin0)).ext E17).keep K19 (ninS (own_ne (by omega)) nin0))
              have fc62 : Fld Z T19.heap r1_4 "java/lang/String" "value" "[B" (.ref b_4) := ((((g4_2.ext E5).keep K7 (ninS (own_ne (by omega)) nin0)).ext E17).keep K19 (ninS (own_ne (by omega)) nin0))
              have fc63 : Arv Z T19.heap b_4 kb_4 .byte lb (own_bs yy lb) (.int (0 : Int32)) := ((((g4_3.ext E5).keep K7 (ninS (own_ne (by omega)) nin0)).ext E17).keep K19 (ninS (own_ne (by omega)) nin0))
              obtain ⟨cq64, kq64, q64a, q64b, q64c⟩ := isOf hZ4 K52 fc54
              obtain ⟨_, _, ⟨T64, L64, k64, n64⟩, -, X64, ⟨Lc64, hQ64, l64, y64, z64⟩, st64⟩ := X52.virtualBack hx (y := (⟨"com/example/living_lease/livinglease/redis/Resp$Error", "equals", "(Ljava/lang/Object;)Z"⟩ : MethodName)) (z := (⟨"com/example/living_lease/livinglease/redis/Resp$Error", "equals", "(Ljava/lang/Object;)Z"⟩ : MethodName)) ho4 (mvT hZ4 (own_w hw 49 rfl)) (mvT hZ4 (own_w hw 50 rfl)) (notFace_of_selects (args := #[]) (mvT hZ4 (own_w hw 52 rfl))) (mvT hZ4 (own_w hw 52 rfl)) (mvT hZ4 (own_w hw 51 rfl)) (by decide) (backOf (W := 0) (rm_qerr l Z a0 hw [] ob5 ob17 r1_2 r1_4 b_2 b_4 kb_2 kb_4 x1 (1 : Int32) yy lb cs T19.heap n0 O50 S_COMPACT fc54 fc55 g19_0 g19_1 fc56 fc57 fc58 fc59 fc60 fc61 fc62 fc63 hcs (own_ne (by omega)) h_la h_lb) hZ4 (own_w hw 53 rfl) (own_w hw 42 rfl) (by decide) (by decide)) q64a q64c (g := (mkF m 201 #[.val (.int x1), .val (.int y1), .val (.int f1), .val (.int (1 : Int32)), .val (.int lb), .val (.int md), .val (.int yy), .val (.ref r1_2), .val (.ref r1_4), .val (.ref ob5), .val (.ref ob17), .val (.int (1 : Int32))] [(.ref ob17), (.ref ob5)])) rfl (by rw [hml]; rfl) (Steps.refl _) (argsL := [(.ref ob17)]) (rest := []) (lenOf own_pd__28Ljava_2flang_2fObject_3b_29Z rfl) rfl (by show 2 * 0 + _ ≤ _; exact Nat.le_of_eq rfl) (hb hby at_201) (fun _ _ => ⟨rfl, K52, (by decide : 14 + 0 ≤ _), (by decide : 26 + 0 ≤ _)⟩)
              dsimp only [Pt.U, Pt.locs, Pt.cells, Pt.slots] at X64 l64 y64 z64 st64 hQ64
              subst l64 y64 z64
              obtain ⟨rfl, M64, K64⟩ := hQ64
              have N64 := Fr.app N52 M64
              refine own_by (fun _ k => st64.trans k) ?_
              refine own_by (fun _ k => XS.iload X64.here hx rfl (hb hby at_204) rfl k) ?_
              refine own_by (fun _ k => XS.icmpNo X64.here hx rfl (hb hby at_206) rfl (teq ((own_eqs_eq hc49).trans ((own_pre_1 _ _).trans ((own_all_pos (own_b_inj.mpr hc53)).trans rfl)))).2 k) ?_
              show own_Go p e below (T64.setTop (mkF m 209 #[.val (.int x1), .val (.int y1), .val (.int f1), .val (.int (1 : Int32)), .val (.int lb), .val (.int md), .val (.int yy), .val (.ref r1_2), .val (.ref r1_4), .val (.ref ob5), .val (.ref ob17), .val (.int (1 : Int32))] [])) _
              refine own_by (fun _ k => XS.aload X64.here hx rfl (hb hby at_209) rfl rfl k) ?_
              refine own_by (fun _ k => XS.aload X64.here hx rfl (hb hby at_211) rfl rfl k) ?_
              obtain ⟨cq65, kq65, q65a, q65b, q65c⟩ := isOf hZ4 K64 g19_0
              obtain ⟨_, _, ⟨T65, L65, k65, n65⟩, -, X65, ⟨Lc65, hQ65, l65, y65, z65⟩, st65⟩ := X64.virtualBack hx (y := (⟨"com/example/living_lease/livinglease/redis/Resp$Error", "equals", "(Ljava/lang/Object;)Z"⟩ : MethodName)) (z := (⟨"com/example/living_lease/livinglease/redis/Resp$Error", "equals", "(Ljava/lang/Object;)Z"⟩ : MethodName)) ho4 (mvT hZ4 (own_w hw 49 rfl)) (mvT hZ4 (own_w hw 50 rfl)) (notFace_of_selects (args := #[]) (mvT hZ4 (own_w hw 52 rfl))) (mvT hZ4 (own_w hw 52 rfl)) (mvT hZ4 (own_w hw 51 rfl)) (by decide) (backOf (W := 0) (rm_qerr l Z a0 hw [] ob17 ob5 r1_4 r1_2 b_4 b_2 kb_4 kb_2 yy lb x1 (1 : Int32) cs T19.heap n0 O50 S_COMPACT g19_0 g19_1 fc54 fc55 fc60 fc61 fc62 fc63 fc56 fc57 fc58 fc59 hcs (own_ne (by omega)) h_lb h_la) hZ4 (own_w hw 53 rfl) (own_w hw 42 rfl) (by decide) (by decide)) q65a q65c (g := (mkF m 213 #[.val (.int x1), .val (.int y1), .val (.int f1), .val (.int (1 : Int32)), .val (.int lb), .val (.int md), .val (.int yy), .val (.ref r1_2), .val (.ref r1_4), .val (.ref ob5), .val (.ref ob17), .val (.int (1 : Int32))] [(.ref ob5), (.ref ob17)])) rfl (by rw [hml]; rfl) (Steps.refl _) (argsL := [(.ref ob5)]) (rest := []) (lenOf own_pd__28Ljava_2flang_2fObject_3b_29Z rfl) rfl (by show 2 * 0 + _ ≤ _; exact Nat.le_of_eq rfl) (hb hby at_213) (fun _ _ => ⟨rfl, K64, (by decide : 14 + 0 ≤ _), (by decide : 26 + 0 ≤ _)⟩)
              dsimp only [Pt.U, Pt.locs, Pt.cells, Pt.slots] at X65 l65 y65 z65 st65 hQ65
              subst l65 y65 z65
              obtain ⟨rfl, M65, K65⟩ := hQ65
              have N65 := Fr.app N64 M65
              refine own_by (fun _ k => st65.trans k) ?_
              refine own_by (fun _ k => XS.iload X65.here hx rfl (hb hby at_216) rfl k) ?_
              show own_Go p e below (T65.setTop (mkF m 218 #[.val (.int x1), .val (.int y1), .val (.int f1), .val (.int (1 : Int32)), .val (.int lb), .val (.int md), .val (.int yy), .val (.ref r1_2), .val (.ref r1_4), .val (.ref ob5), .val (.ref ob17), .val (.int (1 : Int32))] [(.int (1 : Int32)), (.int (own_eqs yy lb x1 (1 : Int32)))])) _
              refine own_by (fun _ k => XS.icmpNo X65.here hx rfl (hb hby at_218) rfl (teq (by rw [← hc49]; exact (own_eqs_eq rfl).trans ((own_pre_1 _ _).trans ((own_all_pos (own_b_inj.mpr hc53.symm)).trans rfl)))).2 k) ?_
              show own_Go p e below (T65.setTop (mkF m 221 #[.val (.int x1), .val (.int y1), .val (.int f1), .val (.int (1 : Int32)), .val (.int lb), .val (.int md), .val (.int yy), .val (.ref r1_2), .val (.ref r1_4), .val (.ref ob5), .val (.ref ob17), .val (.int (1 : Int32))] [])) _
              refine own_by (fun _ k => XS.iconst X65.here hx rfl (hb hby at_221) k) ?_
              refine own_by (fun _ k => XS.goto X65.here hx rfl (pc0 := 222) (pc' := 226) rfl (hb hby at_222) (by decide) (by decide) k) ?_
              have K66 : Keep h0 T19.heap [] := (((((((Keep.refl h0 []).trans K2 all0).trans K4 all0).ext E5).trans K7 (allS (P := fun x => x ∈ [] ∨ h0.size ≤ x) (Or.inr (by omega)) all0)).ext E17).trans K19 (allS (P := fun x => x ∈ [] ∨ h0.size ≤ x) (Or.inr (by omega)) all0))
              obtain ⟨fs, hr, hrun, hended, hW⟩ := X65.leaveW S4 (by first | omega | (rw [K65]; omega)) (v := some (.int (1 : Int32))) (fun h => by rw [Bd.returns] at h; cases h)
              have RR := R19.trans (CHv.at X65 hZ4 hEL R19.1)
              have RR' : CHr Z own_EL s.vm s.heap T65.vm T65.heap := by rw [hh, K65]; exact RR
              refine ⟨_, _, retN X65 hx (t := .boolean) Bd.returns (by simp) (hb hby at_226) hr, hrun, hended, _, _, rfl, ?_, RR', ⟨_, rfl⟩, hW.2.1, hW.2.2.1, hW.2.2.2.mono (by decide) (by decide)⟩
              show Q_rm_law Z x1 y1 f1 cs h0 n0 _ T65.heap _
              rw [K65]
              exact ⟨rfl, N65, K66⟩
            · skip
              refine own_by (fun _ k => XS.icmpYes X52.here hx rfl (pc0 := 149) (pc' := 194) rfl (hb hby at_149) rfl (feq hc53).2 (by decide) (by decide) k) ?_
              show own_Go p e below (T52.setTop (mkF m 194 #[.val (.int x1), .val (.int y1), .val (.int f1), .val (.int (1 : Int32)), .val (.int lb), .val (.int md), .val (.int yy), .val (.ref r1_2), .val (.ref r1_4), .val (.ref ob5), .val (.ref ob17), .unset] [])) _
              refine own_by (fun _ k => XS.iconst X52.here hx rfl (hb hby at_194) k) ?_
              refine own_by (fun _ k => XS.istore X52.here hx rfl (hb hby at_195) rfl (l' := #[.val (.int x1), .val (.int y1), .val (.int f1), .val (.int (1 : Int32)), .val (.int lb), .val (.int md), .val (.int yy), .val (.ref r1_2), .val (.ref r1_4), .val (.ref ob5), .val (.ref ob17), .val (.int (0 : Int32))]) rfl k) ?_
              refine own_by (fun _ k => XS.aload X52.here hx rfl (hb hby at_197) rfl rfl k) ?_
              refine own_by (fun _ k => XS.aload X52.here hx rfl (hb hby at_199) rfl rfl k) ?_
              show own_Go p e below (T52.setTop (mkF m 201 #[.val (.int x1), .val (.int y1), .val (.int f1), .val (.int (1 : Int32)), .val (.int lb), .val (.int md), .val (.int yy), .val (.ref r1_2), .val (.ref r1_4), .val (.ref ob5), .val (.ref ob17), .val (.int (0 : Int32))] [(.ref ob17), (.ref ob5)])) _
              have fc67 : Exa Z T19.heap ob5 "com/example/living_lease/livinglease/redis/Resp$Error" := ((g7_0.ext E17).keep K19)
              have fc68 : Fld Z T19.heap ob5 "com/example/living_lease/livinglease/redis/Resp$Error" "message" "Ljava/lang/String;" (.ref r1_2) := ((g7_1.ext E17).keep K19 (ninS (own_ne (by omega)) nin0))
              have fc69 : Exa Z T19.heap r1_2 "java/lang/String" := ((fc8.ext E17).keep K19)
              have fc70 : Fld Z T19.heap r1_2 "java/lang/String" "coder" "B" (.int (0 : Int32)) := (((((g2_1.keep K4 nin0).ext E5).keep K7 (ninS (own_ne (by omega)) nin0)).ext E17).keep K19 (ninS (own_ne (by omega)) nin0))
              have fc71 : Fld Z T19.heap r1_2 "java/lang/String" "value" "[B" (.ref b_2) := (((((g2_2.keep K4 nin0).ext E5).keep K7 (ninS (own_ne (by omega)) nin0)).ext E17).keep K19 (ninS (own_ne (by omega)) nin0))
              have fc72 : Arv Z T19.heap b_2 kb_2 .byte (1 : Int32) (own_bs x1 (1 : Int32)) (.int (0 : Int32)) := (((((g2_3.keep K4 nin0).ext E5).keep K7 (ninS (own_ne (by omega)) nin0)).ext E17).keep K19 (ninS (own_ne (by omega)) nin0))
              have fc73 : Exa Z T19.heap r1_4 "java/lang/String" := ((((g4_0.ext E5).keep K7).ext E17).keep K19)
              have fc74 : Fld Z T19.heap r1_4 "java/lang/String" "coder" "B" (.int (0 : Int32)) := ((((g4_1.ext E5).keep K7 (ninS (own_ne (by omega)) nin0)).ext E17).keep K19 (ninS (own_ne (by omega)) nin0))
              have fc75 : Fld Z T19.heap r1_4 "java/lang/String" "value" "[B" (.ref b_4) := ((((g4_2.ext E5).keep K7 (ninS (own_ne (by omega)) nin0)).ext E17).keep K19 (ninS (own_ne (by omega)) nin0))
              have fc76 : Arv Z T19.heap b_4 kb_4 .byte lb (own_bs yy lb) (.int (0 : Int32)) := ((((g4_3.ext E5).keep K7 (ninS (own_ne (by omega)) nin0)).ext E17).keep K19 (ninS (own_ne (by omega)) nin0))
              obtain ⟨cq77, kq77, q77a, q77b, q77c⟩ := isOf hZ4 K52 fc67
              obtain ⟨_, _, ⟨T77, L77, k77, n77⟩, -, X77, ⟨Lc77, hQ77, l77, y77, z77⟩, st77⟩ := X52.virtualBack hx (y := (⟨"com/example/living_lease/livinglease/redis/Resp$Error", "equals", "(Ljava/lang/Object;)Z"⟩ : MethodName)) (z := (⟨"com/example/living_lease/livinglease/redis/Resp$Error", "equals", "(Ljava/lang/Object;)Z"⟩ : MethodName)) ho4 (mvT hZ4 (own_w hw 49 rfl)) (mvT hZ4 (own_w hw 50 rfl)) (notFace_of_selects (args := #[]) (mvT hZ4 (own_w hw 52 rfl))) (mvT hZ4 (own_w hw 52 rfl)) (mvT hZ4 (own_w hw 51 rfl)) (by decide) (backOf (W := 0) (rm_qerr l Z a0 hw [] ob5 ob17 r1_2 r1_4 b_2 b_4 kb_2 kb_4 x1 (1 : Int32) yy lb cs T19.heap n0 O50 S_COMPACT fc67 fc68 g19_0 g19_1 fc69 fc70 fc71 fc72 fc73 fc74 fc75 fc76 hcs (own_ne (by omega)) h_la h_lb) hZ4 (own_w hw 53 rfl) (own_w hw 42 rfl) (by decide) (by decide)) q77a q77c (g := (mkF m 201 #[.val (.int x1), .val (.int y1), .val (.int f1), .val (.int (1 : Int32)), .val (.int lb), .val (.int md), .val (.int yy), .val (.ref r1_2), .val (.ref r1_4), .val (.ref ob5), .val (.ref ob17), .val (.int (0 : Int32))] [(.ref ob17), (.ref ob5)])) rfl (by rw [hml]; rfl) (Steps.refl _) (argsL := [(.ref ob17)]) (rest := []) (lenOf own_pd__28Ljava_2flang_2fObject_3b_29Z rfl) rfl (by show 2 * 0 + _ ≤ _; exact Nat.le_of_eq rfl) (hb hby at_201) (fun _ _ => ⟨rfl, K52, (by decide : 14 + 0 ≤ _), (by decide : 26 + 0 ≤ _)⟩)
              dsimp only [Pt.U, Pt.locs, Pt.cells, Pt.slots] at X77 l77 y77 z77 st77 hQ77
              subst l77 y77 z77
              obtain ⟨rfl, M77, K77⟩ := hQ77
              have N77 := Fr.app N52 M77
              refine own_by (fun _ k => st77.trans k) ?_
              refine own_by (fun _ k => XS.iload X77.here hx rfl (hb hby at_204) rfl k) ?_
              refine own_by (fun _ k => XS.icmpNo X77.here hx rfl (hb hby at_206) rfl (teq ((own_eqs_eq hc49).trans ((own_pre_1 _ _).trans (own_all_neg fun q => hc53 (own_b_inj.mp q))))).2 k) ?_
              show own_Go p e below (T77.setTop (mkF m 209 #[.val (.int x1), .val (.int y1), .val (.int f1), .val (.int (1 : Int32)), .val (.int lb), .val (.int md), .val (.int yy), .val (.ref r1_2), .val (.ref r1_4), .val (.ref ob5), .val (.ref ob17), .val (.int (0 : Int32))] [])) _
              refine own_by (fun _ k => XS.aload X77.here hx rfl (hb hby at_209) rfl rfl k) ?_
              refine own_by (fun _ k => XS.aload X77.here hx rfl (hb hby at_211) rfl rfl k) ?_
              obtain ⟨cq78, kq78, q78a, q78b, q78c⟩ := isOf hZ4 K77 g19_0
              obtain ⟨_, _, ⟨T78, L78, k78, n78⟩, -, X78, ⟨Lc78, hQ78, l78, y78, z78⟩, st78⟩ := X77.virtualBack hx (y := (⟨"com/example/living_lease/livinglease/redis/Resp$Error", "equals", "(Ljava/lang/Object;)Z"⟩ : MethodName)) (z := (⟨"com/example/living_lease/livinglease/redis/Resp$Error", "equals", "(Ljava/lang/Object;)Z"⟩ : MethodName)) ho4 (mvT hZ4 (own_w hw 49 rfl)) (mvT hZ4 (own_w hw 50 rfl)) (notFace_of_selects (args := #[]) (mvT hZ4 (own_w hw 52 rfl))) (mvT hZ4 (own_w hw 52 rfl)) (mvT hZ4 (own_w hw 51 rfl)) (by decide) (backOf (W := 0) (rm_qerr l Z a0 hw [] ob17 ob5 r1_4 r1_2 b_4 b_2 kb_4 kb_2 yy lb x1 (1 : Int32) cs T19.heap n0 O50 S_COMPACT g19_0 g19_1 fc67 fc68 fc73 fc74 fc75 fc76 fc69 fc70 fc71 fc72 hcs (own_ne (by omega)) h_lb h_la) hZ4 (own_w hw 53 rfl) (own_w hw 42 rfl) (by decide) (by decide)) q78a q78c (g := (mkF m 213 #[.val (.int x1), .val (.int y1), .val (.int f1), .val (.int (1 : Int32)), .val (.int lb), .val (.int md), .val (.int yy), .val (.ref r1_2), .val (.ref r1_4), .val (.ref ob5), .val (.ref ob17), .val (.int (0 : Int32))] [(.ref ob5), (.ref ob17)])) rfl (by rw [hml]; rfl) (Steps.refl _) (argsL := [(.ref ob5)]) (rest := []) (lenOf own_pd__28Ljava_2flang_2fObject_3b_29Z rfl) rfl (by show 2 * 0 + _ ≤ _; exact Nat.le_of_eq rfl) (hb hby at_213) (fun _ _ => ⟨rfl, K77, (by decide : 14 + 0 ≤ _), (by decide : 26 + 0 ≤ _)⟩)
              dsimp only [Pt.U, Pt.locs, Pt.cells, Pt.slots] at X78 l78 y78 z78 st78 hQ78
              subst l78 y78 z78
              obtain ⟨rfl, M78, K78⟩ := hQ78
              have N78 := Fr.app N77 M78
              refine own_by (fun _ k => st78.trans k) ?_
              refine own_by (fun _ k => XS.iload X78.here hx rfl (hb hby at_216) rfl k) ?_
              show own_Go p e below (T78.setTop (mkF m 218 #[.val (.int x1), .val (.int y1), .val (.int f1), .val (.int (1 : Int32)), .val (.int lb), .val (.int md), .val (.int yy), .val (.ref r1_2), .val (.ref r1_4), .val (.ref ob5), .val (.ref ob17), .val (.int (0 : Int32))] [(.int (0 : Int32)), (.int (own_eqs yy lb x1 (1 : Int32)))])) _
              refine own_by (fun _ k => XS.icmpNo X78.here hx rfl (hb hby at_218) rfl (teq (by rw [← hc49]; exact (own_eqs_eq rfl).trans ((own_pre_1 _ _).trans (own_all_neg fun q => hc53 (own_b_inj.mp q).symm)))).2 k) ?_
              show own_Go p e below (T78.setTop (mkF m 221 #[.val (.int x1), .val (.int y1), .val (.int f1), .val (.int (1 : Int32)), .val (.int lb), .val (.int md), .val (.int yy), .val (.ref r1_2), .val (.ref r1_4), .val (.ref ob5), .val (.ref ob17), .val (.int (0 : Int32))] [])) _
              refine own_by (fun _ k => XS.iconst X78.here hx rfl (hb hby at_221) k) ?_
              refine own_by (fun _ k => XS.goto X78.here hx rfl (pc0 := 222) (pc' := 226) rfl (hb hby at_222) (by decide) (by decide) k) ?_
              have K79 : Keep h0 T19.heap [] := (((((((Keep.refl h0 []).trans K2 all0).trans K4 all0).ext E5).trans K7 (allS (P := fun x => x ∈ [] ∨ h0.size ≤ x) (Or.inr (by omega)) all0)).ext E17).trans K19 (allS (P := fun x => x ∈ [] ∨ h0.size ≤ x) (Or.inr (by omega)) all0))
              obtain ⟨fs, hr, hrun, hended, hW⟩ := X78.leaveW S4 (by first | omega | (rw [K78]; omega)) (v := some (.int (1 : Int32))) (fun h => by rw [Bd.returns] at h; cases h)
              have RR := R19.trans (CHv.at X78 hZ4 hEL R19.1)
              have RR' : CHr Z own_EL s.vm s.heap T78.vm T78.heap := by rw [hh, K78]; exact RR
              refine ⟨_, _, retN X78 hx (t := .boolean) Bd.returns (by simp) (hb hby at_226) hr, hrun, hended, _, _, rfl, ?_, RR', ⟨_, rfl⟩, hW.2.1, hW.2.2.1, hW.2.2.2.mono (by decide) (by decide)⟩
              show Q_rm_law Z x1 y1 f1 cs h0 n0 _ T78.heap _
              rw [K78]
              exact ⟨rfl, N78, K79⟩
          · skip
            refine own_by (fun _ k => XS.icmpYes X19.here hx rfl (pc0 := 130) (pc' := 194) rfl (hb hby at_130) rfl (feq hc49).2 (by decide) (by decide) k) ?_
            show own_Go p e below (T19.setTop (mkF m 194 #[.val (.int x1), .val (.int y1), .val (.int f1), .val (.int (1 : Int32)), .val (.int lb), .val (.int md), .val (.int yy), .val (.ref r1_2), .val (.ref r1_4), .val (.ref ob5), .val (.ref ob17), .unset] [])) _
            refine own_by (fun _ k => XS.iconst X19.here hx rfl (hb hby at_194) k) ?_
            refine own_by (fun _ k => XS.istore X19.here hx rfl (hb hby at_195) rfl (l' := #[.val (.int x1), .val (.int y1), .val (.int f1), .val (.int (1 : Int32)), .val (.int lb), .val (.int md), .val (.int yy), .val (.ref r1_2), .val (.ref r1_4), .val (.ref ob5), .val (.ref ob17), .val (.int (0 : Int32))]) rfl k) ?_
            refine own_by (fun _ k => XS.aload X19.here hx rfl (hb hby at_197) rfl rfl k) ?_
            refine own_by (fun _ k => XS.aload X19.here hx rfl (hb hby at_199) rfl rfl k) ?_
            show own_Go p e below (T19.setTop (mkF m 201 #[.val (.int x1), .val (.int y1), .val (.int f1), .val (.int (1 : Int32)), .val (.int lb), .val (.int md), .val (.int yy), .val (.ref r1_2), .val (.ref r1_4), .val (.ref ob5), .val (.ref ob17), .val (.int (0 : Int32))] [(.ref ob17), (.ref ob5)])) _
            have fc80 : Exa Z T19.heap ob5 "com/example/living_lease/livinglease/redis/Resp$Error" := ((g7_0.ext E17).keep K19)
            have fc81 : Fld Z T19.heap ob5 "com/example/living_lease/livinglease/redis/Resp$Error" "message" "Ljava/lang/String;" (.ref r1_2) := ((g7_1.ext E17).keep K19 (ninS (own_ne (by omega)) nin0))
            have fc82 : Exa Z T19.heap r1_2 "java/lang/String" := ((fc8.ext E17).keep K19)
            have fc83 : Fld Z T19.heap r1_2 "java/lang/String" "coder" "B" (.int (0 : Int32)) := (((((g2_1.keep K4 nin0).ext E5).keep K7 (ninS (own_ne (by omega)) nin0)).ext E17).keep K19 (ninS (own_ne (by omega)) nin0))
            have fc84 : Fld Z T19.heap r1_2 "java/lang/String" "value" "[B" (.ref b_2) := (((((g2_2.keep K4 nin0).ext E5).keep K7 (ninS (own_ne (by omega)) nin0)).ext E17).keep K19 (ninS (own_ne (by omega)) nin0))
            have fc85 : Arv Z T19.heap b_2 kb_2 .byte (1 : Int32) (own_bs x1 (1 : Int32)) (.int (0 : Int32)) := (((((g2_3.keep K4 nin0).ext E5).keep K7 (ninS (own_ne (by omega)) nin0)).ext E17).keep K19 (ninS (own_ne (by omega)) nin0))
            have fc86 : Exa Z T19.heap r1_4 "java/lang/String" := ((((g4_0.ext E5).keep K7).ext E17).keep K19)
            have fc87 : Fld Z T19.heap r1_4 "java/lang/String" "coder" "B" (.int (0 : Int32)) := ((((g4_1.ext E5).keep K7 (ninS (own_ne (by omega)) nin0)).ext E17).keep K19 (ninS (own_ne (by omega)) nin0))
            have fc88 : Fld Z T19.heap r1_4 "java/lang/String" "value" "[B" (.ref b_4) := ((((g4_2.ext E5).keep K7 (ninS (own_ne (by omega)) nin0)).ext E17).keep K19 (ninS (own_ne (by omega)) nin0))
            have fc89 : Arv Z T19.heap b_4 kb_4 .byte lb (own_bs yy lb) (.int (0 : Int32)) := ((((g4_3.ext E5).keep K7 (ninS (own_ne (by omega)) nin0)).ext E17).keep K19 (ninS (own_ne (by omega)) nin0))
            have O90 : Old Z n0 T19.heap := (O18.keep K19 (allS (by omega) all0))
            obtain ⟨cq91, kq91, q91a, q91b, q91c⟩ := isOf hZ4 rfl fc80
            obtain ⟨_, _, ⟨T91, L91, k91, n91⟩, -, X91, ⟨Lc91, hQ91, l91, y91, z91⟩, st91⟩ := X19.virtualBack hx (y := (⟨"com/example/living_lease/livinglease/redis/Resp$Error", "equals", "(Ljava/lang/Object;)Z"⟩ : MethodName)) (z := (⟨"com/example/living_lease/livinglease/redis/Resp$Error", "equals", "(Ljava/lang/Object;)Z"⟩ : MethodName)) ho4 (mvT hZ4 (own_w hw 49 rfl)) (mvT hZ4 (own_w hw 50 rfl)) (notFace_of_selects (args := #[]) (mvT hZ4 (own_w hw 52 rfl))) (mvT hZ4 (own_w hw 52 rfl)) (mvT hZ4 (own_w hw 51 rfl)) (by decide) (backOf (W := 0) (rm_qerr l Z a0 hw [] ob5 ob17 r1_2 r1_4 b_2 b_4 kb_2 kb_4 x1 (1 : Int32) yy lb cs T19.heap n0 O90 S_COMPACT fc80 fc81 g19_0 g19_1 fc82 fc83 fc84 fc85 fc86 fc87 fc88 fc89 hcs (own_ne (by omega)) h_la h_lb) hZ4 (own_w hw 53 rfl) (own_w hw 42 rfl) (by decide) (by decide)) q91a q91c (g := (mkF m 201 #[.val (.int x1), .val (.int y1), .val (.int f1), .val (.int (1 : Int32)), .val (.int lb), .val (.int md), .val (.int yy), .val (.ref r1_2), .val (.ref r1_4), .val (.ref ob5), .val (.ref ob17), .val (.int (0 : Int32))] [(.ref ob17), (.ref ob5)])) rfl (by rw [hml]; rfl) (Steps.refl _) (argsL := [(.ref ob17)]) (rest := []) (lenOf own_pd__28Ljava_2flang_2fObject_3b_29Z rfl) rfl (by show 2 * 0 + _ ≤ _; exact Nat.le_of_eq rfl) (hb hby at_201) (fun _ _ => ⟨rfl, rfl, (by decide : 14 + 0 ≤ _), (by decide : 26 + 0 ≤ _)⟩)
            dsimp only [Pt.U, Pt.locs, Pt.cells, Pt.slots] at X91 l91 y91 z91 st91 hQ91
            subst l91 y91 z91
            obtain ⟨rfl, M91, K91⟩ := hQ91
            have N91 := Fr.app N19 M91
            refine own_by (fun _ k => st91.trans k) ?_
            refine own_by (fun _ k => XS.iload X91.here hx rfl (hb hby at_204) rfl k) ?_
            refine own_by (fun _ k => XS.icmpNo X91.here hx rfl (hb hby at_206) rfl (teq (own_eqs_ne hc49)).2 k) ?_
            show own_Go p e below (T91.setTop (mkF m 209 #[.val (.int x1), .val (.int y1), .val (.int f1), .val (.int (1 : Int32)), .val (.int lb), .val (.int md), .val (.int yy), .val (.ref r1_2), .val (.ref r1_4), .val (.ref ob5), .val (.ref ob17), .val (.int (0 : Int32))] [])) _
            refine own_by (fun _ k => XS.aload X91.here hx rfl (hb hby at_209) rfl rfl k) ?_
            refine own_by (fun _ k => XS.aload X91.here hx rfl (hb hby at_211) rfl rfl k) ?_
            obtain ⟨cq92, kq92, q92a, q92b, q92c⟩ := isOf hZ4 K91 g19_0
            obtain ⟨_, _, ⟨T92, L92, k92, n92⟩, -, X92, ⟨Lc92, hQ92, l92, y92, z92⟩, st92⟩ := X91.virtualBack hx (y := (⟨"com/example/living_lease/livinglease/redis/Resp$Error", "equals", "(Ljava/lang/Object;)Z"⟩ : MethodName)) (z := (⟨"com/example/living_lease/livinglease/redis/Resp$Error", "equals", "(Ljava/lang/Object;)Z"⟩ : MethodName)) ho4 (mvT hZ4 (own_w hw 49 rfl)) (mvT hZ4 (own_w hw 50 rfl)) (notFace_of_selects (args := #[]) (mvT hZ4 (own_w hw 52 rfl))) (mvT hZ4 (own_w hw 52 rfl)) (mvT hZ4 (own_w hw 51 rfl)) (by decide) (backOf (W := 0) (rm_qerr l Z a0 hw [] ob17 ob5 r1_4 r1_2 b_4 b_2 kb_4 kb_2 yy lb x1 (1 : Int32) cs T19.heap n0 O90 S_COMPACT g19_0 g19_1 fc80 fc81 fc86 fc87 fc88 fc89 fc82 fc83 fc84 fc85 hcs (own_ne (by omega)) h_lb h_la) hZ4 (own_w hw 53 rfl) (own_w hw 42 rfl) (by decide) (by decide)) q92a q92c (g := (mkF m 213 #[.val (.int x1), .val (.int y1), .val (.int f1), .val (.int (1 : Int32)), .val (.int lb), .val (.int md), .val (.int yy), .val (.ref r1_2), .val (.ref r1_4), .val (.ref ob5), .val (.ref ob17), .val (.int (0 : Int32))] [(.ref ob5), (.ref ob17)])) rfl (by rw [hml]; rfl) (Steps.refl _) (argsL := [(.ref ob5)]) (rest := []) (lenOf own_pd__28Ljava_2flang_2fObject_3b_29Z rfl) rfl (by show 2 * 0 + _ ≤ _; exact Nat.le_of_eq rfl) (hb hby at_213) (fun _ _ => ⟨rfl, K91, (by decide : 14 + 0 ≤ _), (by decide : 26 + 0 ≤ _)⟩)
            dsimp only [Pt.U, Pt.locs, Pt.cells, Pt.slots] at X92 l92 y92 z92 st92 hQ92
            subst l92 y92 z92
            obtain ⟨rfl, M92, K92⟩ := hQ92
            have N92 := Fr.app N91 M92
            refine own_by (fun _ k => st92.trans k) ?_
            refine own_by (fun _ k => XS.iload X92.here hx rfl (hb hby at_216) rfl k) ?_
            show own_Go p e below (T92.setTop (mkF m 218 #[.val (.int x1), .val (.int y1), .val (.int f1), .val (.int (1 : Int32)), .val (.int lb), .val (.int md), .val (.int yy), .val (.ref r1_2), .val (.ref r1_4), .val (.ref ob5), .val (.ref ob17), .val (.int (0 : Int32))] [(.int (0 : Int32)), (.int (own_eqs yy lb x1 (1 : Int32)))])) _
            refine own_by (fun _ k => XS.icmpNo X92.here hx rfl (hb hby at_218) rfl (teq (own_eqs_ne (fun q => hc49 q.symm))).2 k) ?_
            show own_Go p e below (T92.setTop (mkF m 221 #[.val (.int x1), .val (.int y1), .val (.int f1), .val (.int (1 : Int32)), .val (.int lb), .val (.int md), .val (.int yy), .val (.ref r1_2), .val (.ref r1_4), .val (.ref ob5), .val (.ref ob17), .val (.int (0 : Int32))] [])) _
            refine own_by (fun _ k => XS.iconst X92.here hx rfl (hb hby at_221) k) ?_
            refine own_by (fun _ k => XS.goto X92.here hx rfl (pc0 := 222) (pc' := 226) rfl (hb hby at_222) (by decide) (by decide) k) ?_
            have K93 : Keep h0 T19.heap [] := (((((((Keep.refl h0 []).trans K2 all0).trans K4 all0).ext E5).trans K7 (allS (P := fun x => x ∈ [] ∨ h0.size ≤ x) (Or.inr (by omega)) all0)).ext E17).trans K19 (allS (P := fun x => x ∈ [] ∨ h0.size ≤ x) (Or.inr (by omega)) all0))
            obtain ⟨fs, hr, hrun, hended, hW⟩ := X92.leaveW S4 (by first | omega | (rw [K92]; omega)) (v := some (.int (1 : Int32))) (fun h => by rw [Bd.returns] at h; cases h)
            have RR := R19.trans (CHv.at X92 hZ4 hEL R19.1)
            have RR' : CHr Z own_EL s.vm s.heap T92.vm T92.heap := by rw [hh, K92]; exact RR
            refine ⟨_, _, retN X92 hx (t := .boolean) Bd.returns (by simp) (hb hby at_226) hr, hrun, hended, _, _, rfl, ?_, RR', ⟨_, rfl⟩, hW.2.1, hW.2.2.1, hW.2.2.2.mono (by decide) (by decide)⟩
            show Q_rm_law Z x1 y1 f1 cs h0 n0 _ T92.heap _
            rw [K92]
            exact ⟨rfl, N92, K93⟩
        · skip
          show own_Go p e below (T19.setTop (mkF m 127 #[.val (.int x1), .val (.int y1), .val (.int f1), .val (.int (2 : Int32)), .val (.int lb), .val (.int md), .val (.int yy), .val (.ref r1_2), .val (.ref r1_4), .val (.ref ob5), .val (.ref ob17), .unset] [])) _
          refine own_by (fun _ k => XS.iloadN X19.here hx rfl (hb hby at_127) rfl k) ?_
          refine own_by (fun _ k => XS.iload X19.here hx rfl (hb hby at_128) rfl k) ?_
          by_cases hc94 : (2 : Int32) = lb
          · skip
            refine own_by (fun _ k => XS.icmpNo X19.here hx rfl (hb hby at_130) rfl (teq hc94).2 k) ?_
            show own_Go p e below (T19.setTop (mkF m 133 #[.val (.int x1), .val (.int y1), .val (.int f1), .val (.int (2 : Int32)), .val (.int lb), .val (.int md), .val (.int yy), .val (.ref r1_2), .val (.ref r1_4), .val (.ref ob5), .val (.ref ob17), .unset] [])) _
            refine own_by (fun _ k => XS.iloadN X19.here hx rfl (hb hby at_133) rfl k) ?_
            refine own_by (fun _ k => XS.iconst X19.here hx rfl (hb hby at_134) k) ?_
            refine own_by (fun _ k => XS.icmpNo X19.here hx rfl (hb hby at_135) rfl (flt (by decide : ¬ ((2 : Int32) < (1 : Int32)))).1 k) ?_
            show own_Go p e below (T19.setTop (mkF m 138 #[.val (.int x1), .val (.int y1), .val (.int f1), .val (.int (2 : Int32)), .val (.int lb), .val (.int md), .val (.int yy), .val (.ref r1_2), .val (.ref r1_4), .val (.ref ob5), .val (.ref ob17), .unset] [])) _
            refine own_by (fun _ k => XS.iloadN X19.here hx rfl (hb hby at_138) rfl k) ?_
            refine own_by (fun _ k => XS.iconst X19.here hx rfl (hb hby at_139) k) ?_
            have O95 : Old Z n0 T19.heap := (O18.keep K19 (allS (by omega) all0))
            obtain ⟨_, _, ⟨T96, L96, k96, n96⟩, -, X96, ⟨Lc96, hQ96, l96, y96, z96⟩, st96⟩ := Jvm.LawKit.callS X19 hx (y := (⟨"com/example/living_lease/livinglease/redis/ErrorEqualsPinLaw", "ch", "(II)C"⟩ : MethodName)) ho4 (mvT hZ4 (own_w hw 8 rfl)) (mvT hZ4 (own_w hw 9 rfl)) (mvT hZ4 (own_w hw 2 rfl)) (mvT hZ4 (own_w hw 10 rfl)) (by decide) (backOf (W := 0) (rm_chr0 l Z a0 hw [] x1 T19.heap n0 O95) hZ4 (own_w hw 10 rfl) (own_w hw 2 rfl) (by decide) (by decide)) (g := (mkF m 140 #[.val (.int x1), .val (.int y1), .val (.int f1), .val (.int (2 : Int32)), .val (.int lb), .val (.int md), .val (.int yy), .val (.ref r1_2), .val (.ref r1_4), .val (.ref ob5), .val (.ref ob17), .unset] [(.int (0 : Int32)), (.int x1)])) rfl (by rw [hml]; rfl) (argsL := [(.int x1), (.int (0 : Int32))]) (rest := []) (lenOf own_pd__28II_29C rfl) rfl (by show 2 * 0 + _ ≤ _; exact Nat.le_of_eq rfl) (hb hby at_140) (fun _ _ => ⟨rfl, rfl, (by decide : 14 + 0 ≤ _), (by decide : 26 + 0 ≤ _)⟩)
            dsimp only [Pt.U, Pt.locs, Pt.cells, Pt.slots] at X96 l96 y96 z96 st96 hQ96
            subst l96 y96 z96
            obtain ⟨rfl, M96, K96⟩ := hQ96
            have N96 := Fr.app N19 M96
            refine own_by st96 ?_
            refine own_by (fun _ k => XS.iload X96.here hx rfl (hb hby at_143) rfl k) ?_
            show own_Go p e below (T96.setTop (mkF m 145 #[.val (.int x1), .val (.int y1), .val (.int f1), .val (.int (2 : Int32)), .val (.int lb), .val (.int md), .val (.int yy), .val (.ref r1_2), .val (.ref r1_4), .val (.ref ob5), .val (.ref ob17), .unset] [(.int yy), (.int (own_pk0 x1 &&& (255 : Int32)))])) _
            refine own_by (fun _ k => XS.iconst X96.here hx rfl (hb hby at_145) k) ?_
            obtain ⟨_, _, ⟨T97, L97, k97, n97⟩, -, X97, ⟨Lc97, hQ97, l97, y97, z97⟩, st97⟩ := Jvm.LawKit.callS X96 hx (y := (⟨"com/example/living_lease/livinglease/redis/ErrorEqualsPinLaw", "ch", "(II)C"⟩ : MethodName)) ho4 (mvT hZ4 (own_w hw 8 rfl)) (mvT hZ4 (own_w hw 9 rfl)) (mvT hZ4 (own_w hw 2 rfl)) (mvT hZ4 (own_w hw 10 rfl)) (by decide) (backOf (W := 1) (rm_chr0 l Z a0 hw [] yy T19.heap n0 O95) hZ4 (own_w hw 10 rfl) (own_w hw 2 rfl) (by decide) (by decide)) (g := (mkF m 146 #[.val (.int x1), .val (.int y1), .val (.int f1), .val (.int (2 : Int32)), .val (.int lb), .val (.int md), .val (.int yy), .val (.ref r1_2), .val (.ref r1_4), .val (.ref ob5), .val (.ref ob17), .unset] [(.int (0 : Int32)), (.int yy), (.int (own_pk0 x1 &&& (255 : Int32)))])) rfl (by rw [hml]; rfl) (argsL := [(.int yy), (.int (0 : Int32))]) (rest := [(.int (own_pk0 x1 &&& (255 : Int32)))]) (lenOf own_pd__28II_29C rfl) rfl (by show 2 * 0 + _ ≤ _; exact Nat.le_of_eq rfl) (hb hby at_146) (fun _ _ => ⟨rfl, K96, (by decide : 14 + 0 ≤ _), (by decide : 26 + 0 ≤ _)⟩)
            dsimp only [Pt.U, Pt.locs, Pt.cells, Pt.slots] at X97 l97 y97 z97 st97 hQ97
            subst l97 y97 z97
            obtain ⟨rfl, M97, K97⟩ := hQ97
            have N97 := Fr.app N96 M97
            refine own_by st97 ?_
            by_cases hc98 : (own_pk0 x1 &&& (255 : Int32)) = (own_pk0 yy &&& (255 : Int32))
            · skip
              refine own_by (fun _ k => XS.icmpNo X97.here hx rfl (hb hby at_149) rfl (teq hc98).2 k) ?_
              show own_Go p e below (T97.setTop (mkF m 152 #[.val (.int x1), .val (.int y1), .val (.int f1), .val (.int (2 : Int32)), .val (.int lb), .val (.int md), .val (.int yy), .val (.ref r1_2), .val (.ref r1_4), .val (.ref ob5), .val (.ref ob17), .unset] [])) _
              refine own_by (fun _ k => XS.iloadN X97.here hx rfl (hb hby at_152) rfl k) ?_
              refine own_by (fun _ k => XS.iconst X97.here hx rfl (hb hby at_153) k) ?_
              refine own_by (fun _ k => XS.icmpNo X97.here hx rfl (hb hby at_154) rfl (flt (by decide : ¬ ((2 : Int32) < (2 : Int32)))).1 k) ?_
              show own_Go p e below (T97.setTop (mkF m 157 #[.val (.int x1), .val (.int y1), .val (.int f1), .val (.int (2 : Int32)), .val (.int lb), .val (.int md), .val (.int yy), .val (.ref r1_2), .val (.ref r1_4), .val (.ref ob5), .val (.ref ob17), .unset] [])) _
              refine own_by (fun _ k => XS.iloadN X97.here hx rfl (hb hby at_157) rfl k) ?_
              refine own_by (fun _ k => XS.iconst X97.here hx rfl (hb hby at_158) k) ?_
              obtain ⟨_, _, ⟨T99, L99, k99, n99⟩, -, X99, ⟨Lc99, hQ99, l99, y99, z99⟩, st99⟩ := Jvm.LawKit.callS X97 hx (y := (⟨"com/example/living_lease/livinglease/redis/ErrorEqualsPinLaw", "ch", "(II)C"⟩ : MethodName)) ho4 (mvT hZ4 (own_w hw 8 rfl)) (mvT hZ4 (own_w hw 9 rfl)) (mvT hZ4 (own_w hw 2 rfl)) (mvT hZ4 (own_w hw 10 rfl)) (by decide) (backOf (W := 0) (rm_chr1 l Z a0 hw [] x1 T19.heap n0 O95) hZ4 (own_w hw 10 rfl) (own_w hw 2 rfl) (by decide) (by decide)) (g := (mkF m 159 #[.val (.int x1), .val (.int y1), .val (.int f1), .val (.int (2 : Int32)), .val (.int lb), .val (.int md), .val (.int yy), .val (.ref r1_2), .val (.ref r1_4), .val (.ref ob5), .val (.ref ob17), .unset] [(.int (1 : Int32)), (.int x1)])) rfl (by rw [hml]; rfl) (argsL := [(.int x1), (.int (1 : Int32))]) (rest := []) (lenOf own_pd__28II_29C rfl) rfl (by show 2 * 0 + _ ≤ _; exact Nat.le_of_eq rfl) (hb hby at_159) (fun _ _ => ⟨rfl, K97, (by decide : 14 + 0 ≤ _), (by decide : 26 + 0 ≤ _)⟩)
              dsimp only [Pt.U, Pt.locs, Pt.cells, Pt.slots] at X99 l99 y99 z99 st99 hQ99
              subst l99 y99 z99
              obtain ⟨rfl, M99, K99⟩ := hQ99
              have N99 := Fr.app N97 M99
              refine own_by st99 ?_
              refine own_by (fun _ k => XS.iload X99.here hx rfl (hb hby at_162) rfl k) ?_
              show own_Go p e below (T99.setTop (mkF m 164 #[.val (.int x1), .val (.int y1), .val (.int f1), .val (.int (2 : Int32)), .val (.int lb), .val (.int md), .val (.int yy), .val (.ref r1_2), .val (.ref r1_4), .val (.ref ob5), .val (.ref ob17), .unset] [(.int yy), (.int (own_pk1 x1 &&& (255 : Int32)))])) _
              refine own_by (fun _ k => XS.iconst X99.here hx rfl (hb hby at_164) k) ?_
              obtain ⟨_, _, ⟨T100, L100, k100, n100⟩, -, X100, ⟨Lc100, hQ100, l100, y100, z100⟩, st100⟩ := Jvm.LawKit.callS X99 hx (y := (⟨"com/example/living_lease/livinglease/redis/ErrorEqualsPinLaw", "ch", "(II)C"⟩ : MethodName)) ho4 (mvT hZ4 (own_w hw 8 rfl)) (mvT hZ4 (own_w hw 9 rfl)) (mvT hZ4 (own_w hw 2 rfl)) (mvT hZ4 (own_w hw 10 rfl)) (by decide) (backOf (W := 1) (rm_chr1 l Z a0 hw [] yy T19.heap n0 O95) hZ4 (own_w hw 10 rfl) (own_w hw 2 rfl) (by decide) (by decide)) (g := (mkF m 165 #[.val (.int x1), .val (.int y1), .val (.int f1), .val (.int (2 : Int32)), .val (.int lb), .val (.int md), .val (.int yy), .val (.ref r1_2), .val (.ref r1_4), .val (.ref ob5), .val (.ref ob17), .unset] [(.int (1 : Int32)), (.int yy), (.int (own_pk1 x1 &&& (255 : Int32)))])) rfl (by rw [hml]; rfl) (argsL := [(.int yy), (.int (1 : Int32))]) (rest := [(.int (own_pk1 x1 &&& (255 : Int32)))]) (lenOf own_pd__28II_29C rfl) rfl (by show 2 * 0 + _ ≤ _; exact Nat.le_of_eq rfl) (hb hby at_165) (fun _ _ => ⟨rfl, K99, (by decide : 14 + 0 ≤ _), (by decide : 26 + 0 ≤ _)⟩)
              dsimp only [Pt.U, Pt.locs, Pt.cells, Pt.slots] at X100 l100 y100 z100 st100 hQ100
              subst l100 y100 z100
              obtain ⟨rfl, M100, K100⟩ := hQ100
              have N100 := Fr.app N99 M100
              refine own_by st100 ?_
              by_cases hc101 : (own_pk1 x1 &&& (255 : Int32)) = (own_pk1 yy &&& (255 : Int32))
              · skip
                refine own_by (fun _ k => XS.icmpNo X100.here hx rfl (hb hby at_168) rfl (teq hc101).2 k) ?_
                show own_Go p e below (T100.setTop (mkF m 171 #[.val (.int x1), .val (.int y1), .val (.int f1), .val (.int (2 : Int32)), .val (.int lb), .val (.int md), .val (.int yy), .val (.ref r1_2), .val (.ref r1_4), .val (.ref ob5), .val (.ref ob17), .unset] [])) _
                refine own_by (fun _ k => XS.iloadN X100.here hx rfl (hb hby at_171) rfl k) ?_
                refine own_by (fun _ k => XS.iconst X100.here hx rfl (hb hby at_172) k) ?_
                refine own_by (fun _ k => XS.icmpYes X100.here hx rfl (pc0 := 173) (pc' := 190) rfl (hb hby at_173) rfl (tlt (by decide : (2 : Int32) < (3 : Int32))).1 (by decide) (by decide) k) ?_
                show own_Go p e below (T100.setTop (mkF m 190 #[.val (.int x1), .val (.int y1), .val (.int f1), .val (.int (2 : Int32)), .val (.int lb), .val (.int md), .val (.int yy), .val (.ref r1_2), .val (.ref r1_4), .val (.ref ob5), .val (.ref ob17), .unset] [])) _
                refine own_by (fun _ k => XS.iconst X100.here hx rfl (hb hby at_190) k) ?_
                refine own_by (fun _ k => XS.goto X100.here hx rfl (pc0 := 191) (pc' := 195) rfl (hb hby at_191) (by decide) (by decide) k) ?_
                refine own_by (fun _ k => XS.istore X100.here hx rfl (hb hby at_195) rfl (l' := #[.val (.int x1), .val (.int y1), .val (.int f1), .val (.int (2 : Int32)), .val (.int lb), .val (.int md), .val (.int yy), .val (.ref r1_2), .val (.ref r1_4), .val (.ref ob5), .val (.ref ob17), .val (.int (1 : Int32))]) rfl k) ?_
                refine own_by (fun _ k => XS.aload X100.here hx rfl (hb hby at_197) rfl rfl k) ?_
                show own_Go p e below (T100.setTop (mkF m 199 #[.val (.int x1), .val (.int y1), .val (.int f1), .val (.int (2 : Int32)), .val (.int lb), .val (.int md), .val (.int yy), .val (.ref r1_2), .val (.ref r1_4), .val (.ref ob5), .val (.ref ob17), .val (.int (1 : Int32))] [(.ref ob5)])) _
                refine own_by (fun _ k => XS.aload X100.here hx rfl (hb hby at_199) rfl rfl k) ?_
                have fc102 : Exa Z T19.heap ob5 "com/example/living_lease/livinglease/redis/Resp$Error" := ((g7_0.ext E17).keep K19)
                have fc103 : Fld Z T19.heap ob5 "com/example/living_lease/livinglease/redis/Resp$Error" "message" "Ljava/lang/String;" (.ref r1_2) := ((g7_1.ext E17).keep K19 (ninS (own_ne (by omega)) nin0))
                have fc104 : Exa Z T19.heap r1_2 "java/lang/String" := ((fc8.ext E17).keep K19)
                have fc105 : Fld Z T19.heap r1_2 "java/lang/String" "coder" "B" (.int (0 : Int32)) := (((((g2_1.keep K4 nin0).ext E5).keep K7 (ninS (own_ne (by omega)) nin0)).ext E17).keep K19 (ninS (own_ne (by omega)) nin0))
                have fc106 : Fld Z T19.heap r1_2 "java/lang/String" "value" "[B" (.ref b_2) := (((((g2_2.keep K4 nin0).ext E5).keep K7 (ninS (own_ne (by omega)) nin0)).ext E17).keep K19 (ninS (own_ne (by omega)) nin0))
                have fc107 : Arv Z T19.heap b_2 kb_2 .byte (2 : Int32) (own_bs x1 (2 : Int32)) (.int (0 : Int32)) := (((((g2_3.keep K4 nin0).ext E5).keep K7 (ninS (own_ne (by omega)) nin0)).ext E17).keep K19 (ninS (own_ne (by omega)) nin0))
                have fc108 : Exa Z T19.heap r1_4 "java/lang/String" := ((((g4_0.ext E5).keep K7).ext E17).keep K19)
                have fc109 : Fld Z T19.heap r1_4 "java/lang/String" "coder" "B" (.int (0 : Int32)) := ((((g4_1.ext E5).keep K7 (ninS (own_ne (by omega)) nin0)).ext E17).keep K19 (ninS (own_ne (by omega)) nin0))
                have fc110 : Fld Z T19.heap r1_4 "java/lang/String" "value" "[B" (.ref b_4) := ((((g4_2.ext E5).keep K7 (ninS (own_ne (by omega)) nin0)).ext E17).keep K19 (ninS (own_ne (by omega)) nin0))
                have fc111 : Arv Z T19.heap b_4 kb_4 .byte lb (own_bs yy lb) (.int (0 : Int32)) := ((((g4_3.ext E5).keep K7 (ninS (own_ne (by omega)) nin0)).ext E17).keep K19 (ninS (own_ne (by omega)) nin0))
                obtain ⟨cq112, kq112, q112a, q112b, q112c⟩ := isOf hZ4 K100 fc102
                obtain ⟨_, _, ⟨T112, L112, k112, n112⟩, -, X112, ⟨Lc112, hQ112, l112, y112, z112⟩, st112⟩ := X100.virtualBack hx (y := (⟨"com/example/living_lease/livinglease/redis/Resp$Error", "equals", "(Ljava/lang/Object;)Z"⟩ : MethodName)) (z := (⟨"com/example/living_lease/livinglease/redis/Resp$Error", "equals", "(Ljava/lang/Object;)Z"⟩ : MethodName)) ho4 (mvT hZ4 (own_w hw 49 rfl)) (mvT hZ4 (own_w hw 50 rfl)) (notFace_of_selects (args := #[]) (mvT hZ4 (own_w hw 52 rfl))) (mvT hZ4 (own_w hw 52 rfl)) (mvT hZ4 (own_w hw 51 rfl)) (by decide) (backOf (W := 0) (rm_qerr l Z a0 hw [] ob5 ob17 r1_2 r1_4 b_2 b_4 kb_2 kb_4 x1 (2 : Int32) yy lb cs T19.heap n0 O95 S_COMPACT fc102 fc103 g19_0 g19_1 fc104 fc105 fc106 fc107 fc108 fc109 fc110 fc111 hcs (own_ne (by omega)) h_la h_lb) hZ4 (own_w hw 53 rfl) (own_w hw 42 rfl) (by decide) (by decide)) q112a q112c (g := (mkF m 201 #[.val (.int x1), .val (.int y1), .val (.int f1), .val (.int (2 : Int32)), .val (.int lb), .val (.int md), .val (.int yy), .val (.ref r1_2), .val (.ref r1_4), .val (.ref ob5), .val (.ref ob17), .val (.int (1 : Int32))] [(.ref ob17), (.ref ob5)])) rfl (by rw [hml]; rfl) (Steps.refl _) (argsL := [(.ref ob17)]) (rest := []) (lenOf own_pd__28Ljava_2flang_2fObject_3b_29Z rfl) rfl (by show 2 * 0 + _ ≤ _; exact Nat.le_of_eq rfl) (hb hby at_201) (fun _ _ => ⟨rfl, K100, (by decide : 14 + 0 ≤ _), (by decide : 26 + 0 ≤ _)⟩)
                dsimp only [Pt.U, Pt.locs, Pt.cells, Pt.slots] at X112 l112 y112 z112 st112 hQ112
                subst l112 y112 z112
                obtain ⟨rfl, M112, K112⟩ := hQ112
                have N112 := Fr.app N100 M112
                refine own_by (fun _ k => st112.trans k) ?_
                refine own_by (fun _ k => XS.iload X112.here hx rfl (hb hby at_204) rfl k) ?_
                refine own_by (fun _ k => XS.icmpNo X112.here hx rfl (hb hby at_206) rfl (teq ((own_eqs_eq hc94).trans ((own_pre_2 _ _).trans ((own_all_pos (own_b_inj.mpr hc98)).trans ((own_all_pos (own_b_inj.mpr hc101)).trans rfl))))).2 k) ?_
                show own_Go p e below (T112.setTop (mkF m 209 #[.val (.int x1), .val (.int y1), .val (.int f1), .val (.int (2 : Int32)), .val (.int lb), .val (.int md), .val (.int yy), .val (.ref r1_2), .val (.ref r1_4), .val (.ref ob5), .val (.ref ob17), .val (.int (1 : Int32))] [])) _
                refine own_by (fun _ k => XS.aload X112.here hx rfl (hb hby at_209) rfl rfl k) ?_
                refine own_by (fun _ k => XS.aload X112.here hx rfl (hb hby at_211) rfl rfl k) ?_
                obtain ⟨cq113, kq113, q113a, q113b, q113c⟩ := isOf hZ4 K112 g19_0
                obtain ⟨_, _, ⟨T113, L113, k113, n113⟩, -, X113, ⟨Lc113, hQ113, l113, y113, z113⟩, st113⟩ := X112.virtualBack hx (y := (⟨"com/example/living_lease/livinglease/redis/Resp$Error", "equals", "(Ljava/lang/Object;)Z"⟩ : MethodName)) (z := (⟨"com/example/living_lease/livinglease/redis/Resp$Error", "equals", "(Ljava/lang/Object;)Z"⟩ : MethodName)) ho4 (mvT hZ4 (own_w hw 49 rfl)) (mvT hZ4 (own_w hw 50 rfl)) (notFace_of_selects (args := #[]) (mvT hZ4 (own_w hw 52 rfl))) (mvT hZ4 (own_w hw 52 rfl)) (mvT hZ4 (own_w hw 51 rfl)) (by decide) (backOf (W := 0) (rm_qerr l Z a0 hw [] ob17 ob5 r1_4 r1_2 b_4 b_2 kb_4 kb_2 yy lb x1 (2 : Int32) cs T19.heap n0 O95 S_COMPACT g19_0 g19_1 fc102 fc103 fc108 fc109 fc110 fc111 fc104 fc105 fc106 fc107 hcs (own_ne (by omega)) h_lb h_la) hZ4 (own_w hw 53 rfl) (own_w hw 42 rfl) (by decide) (by decide)) q113a q113c (g := (mkF m 213 #[.val (.int x1), .val (.int y1), .val (.int f1), .val (.int (2 : Int32)), .val (.int lb), .val (.int md), .val (.int yy), .val (.ref r1_2), .val (.ref r1_4), .val (.ref ob5), .val (.ref ob17), .val (.int (1 : Int32))] [(.ref ob5), (.ref ob17)])) rfl (by rw [hml]; rfl) (Steps.refl _) (argsL := [(.ref ob5)]) (rest := []) (lenOf own_pd__28Ljava_2flang_2fObject_3b_29Z rfl) rfl (by show 2 * 0 + _ ≤ _; exact Nat.le_of_eq rfl) (hb hby at_213) (fun _ _ => ⟨rfl, K112, (by decide : 14 + 0 ≤ _), (by decide : 26 + 0 ≤ _)⟩)
                dsimp only [Pt.U, Pt.locs, Pt.cells, Pt.slots] at X113 l113 y113 z113 st113 hQ113
                subst l113 y113 z113
                obtain ⟨rfl, M113, K113⟩ := hQ113
                have N113 := Fr.app N112 M113
                refine own_by (fun _ k => st113.trans k) ?_
                refine own_by (fun _ k => XS.iload X113.here hx rfl (hb hby at_216) rfl k) ?_
                show own_Go p e below (T113.setTop (mkF m 218 #[.val (.int x1), .val (.int y1), .val (.int f1), .val (.int (2 : Int32)), .val (.int lb), .val (.int md), .val (.int yy), .val (.ref r1_2), .val (.ref r1_4), .val (.ref ob5), .val (.ref ob17), .val (.int (1 : Int32))] [(.int (1 : Int32)), (.int (own_eqs yy lb x1 (2 : Int32)))])) _
                refine own_by (fun _ k => XS.icmpNo X113.here hx rfl (hb hby at_218) rfl (teq (by rw [← hc94]; exact (own_eqs_eq rfl).trans ((own_pre_2 _ _).trans ((own_all_pos (own_b_inj.mpr hc98.symm)).trans ((own_all_pos (own_b_inj.mpr hc101.symm)).trans rfl))))).2 k) ?_
                show own_Go p e below (T113.setTop (mkF m 221 #[.val (.int x1), .val (.int y1), .val (.int f1), .val (.int (2 : Int32)), .val (.int lb), .val (.int md), .val (.int yy), .val (.ref r1_2), .val (.ref r1_4), .val (.ref ob5), .val (.ref ob17), .val (.int (1 : Int32))] [])) _
                refine own_by (fun _ k => XS.iconst X113.here hx rfl (hb hby at_221) k) ?_
                refine own_by (fun _ k => XS.goto X113.here hx rfl (pc0 := 222) (pc' := 226) rfl (hb hby at_222) (by decide) (by decide) k) ?_
                have K114 : Keep h0 T19.heap [] := (((((((Keep.refl h0 []).trans K2 all0).trans K4 all0).ext E5).trans K7 (allS (P := fun x => x ∈ [] ∨ h0.size ≤ x) (Or.inr (by omega)) all0)).ext E17).trans K19 (allS (P := fun x => x ∈ [] ∨ h0.size ≤ x) (Or.inr (by omega)) all0))
                obtain ⟨fs, hr, hrun, hended, hW⟩ := X113.leaveW S4 (by first | omega | (rw [K113]; omega)) (v := some (.int (1 : Int32))) (fun h => by rw [Bd.returns] at h; cases h)
                have RR := R19.trans (CHv.at X113 hZ4 hEL R19.1)
                have RR' : CHr Z own_EL s.vm s.heap T113.vm T113.heap := by rw [hh, K113]; exact RR
                refine ⟨_, _, retN X113 hx (t := .boolean) Bd.returns (by simp) (hb hby at_226) hr, hrun, hended, _, _, rfl, ?_, RR', ⟨_, rfl⟩, hW.2.1, hW.2.2.1, hW.2.2.2.mono (by decide) (by decide)⟩
                show Q_rm_law Z x1 y1 f1 cs h0 n0 _ T113.heap _
                rw [K113]
                exact ⟨rfl, N113, K114⟩
              · skip
                refine own_by (fun _ k => XS.icmpYes X100.here hx rfl (pc0 := 168) (pc' := 194) rfl (hb hby at_168) rfl (feq hc101).2 (by decide) (by decide) k) ?_
                show own_Go p e below (T100.setTop (mkF m 194 #[.val (.int x1), .val (.int y1), .val (.int f1), .val (.int (2 : Int32)), .val (.int lb), .val (.int md), .val (.int yy), .val (.ref r1_2), .val (.ref r1_4), .val (.ref ob5), .val (.ref ob17), .unset] [])) _
                refine own_by (fun _ k => XS.iconst X100.here hx rfl (hb hby at_194) k) ?_
                refine own_by (fun _ k => XS.istore X100.here hx rfl (hb hby at_195) rfl (l' := #[.val (.int x1), .val (.int y1), .val (.int f1), .val (.int (2 : Int32)), .val (.int lb), .val (.int md), .val (.int yy), .val (.ref r1_2), .val (.ref r1_4), .val (.ref ob5), .val (.ref ob17), .val (.int (0 : Int32))]) rfl k) ?_
                refine own_by (fun _ k => XS.aload X100.here hx rfl (hb hby at_197) rfl rfl k) ?_
                refine own_by (fun _ k => XS.aload X100.here hx rfl (hb hby at_199) rfl rfl k) ?_
                show own_Go p e below (T100.setTop (mkF m 201 #[.val (.int x1), .val (.int y1), .val (.int f1), .val (.int (2 : Int32)), .val (.int lb), .val (.int md), .val (.int yy), .val (.ref r1_2), .val (.ref r1_4), .val (.ref ob5), .val (.ref ob17), .val (.int (0 : Int32))] [(.ref ob17), (.ref ob5)])) _
                have fc115 : Exa Z T19.heap ob5 "com/example/living_lease/livinglease/redis/Resp$Error" := ((g7_0.ext E17).keep K19)
                have fc116 : Fld Z T19.heap ob5 "com/example/living_lease/livinglease/redis/Resp$Error" "message" "Ljava/lang/String;" (.ref r1_2) := ((g7_1.ext E17).keep K19 (ninS (own_ne (by omega)) nin0))
                have fc117 : Exa Z T19.heap r1_2 "java/lang/String" := ((fc8.ext E17).keep K19)
                have fc118 : Fld Z T19.heap r1_2 "java/lang/String" "coder" "B" (.int (0 : Int32)) := (((((g2_1.keep K4 nin0).ext E5).keep K7 (ninS (own_ne (by omega)) nin0)).ext E17).keep K19 (ninS (own_ne (by omega)) nin0))
                have fc119 : Fld Z T19.heap r1_2 "java/lang/String" "value" "[B" (.ref b_2) := (((((g2_2.keep K4 nin0).ext E5).keep K7 (ninS (own_ne (by omega)) nin0)).ext E17).keep K19 (ninS (own_ne (by omega)) nin0))
                have fc120 : Arv Z T19.heap b_2 kb_2 .byte (2 : Int32) (own_bs x1 (2 : Int32)) (.int (0 : Int32)) := (((((g2_3.keep K4 nin0).ext E5).keep K7 (ninS (own_ne (by omega)) nin0)).ext E17).keep K19 (ninS (own_ne (by omega)) nin0))
                have fc121 : Exa Z T19.heap r1_4 "java/lang/String" := ((((g4_0.ext E5).keep K7).ext E17).keep K19)
                have fc122 : Fld Z T19.heap r1_4 "java/lang/String" "coder" "B" (.int (0 : Int32)) := ((((g4_1.ext E5).keep K7 (ninS (own_ne (by omega)) nin0)).ext E17).keep K19 (ninS (own_ne (by omega)) nin0))
                have fc123 : Fld Z T19.heap r1_4 "java/lang/String" "value" "[B" (.ref b_4) := ((((g4_2.ext E5).keep K7 (ninS (own_ne (by omega)) nin0)).ext E17).keep K19 (ninS (own_ne (by omega)) nin0))
                have fc124 : Arv Z T19.heap b_4 kb_4 .byte lb (own_bs yy lb) (.int (0 : Int32)) := ((((g4_3.ext E5).keep K7 (ninS (own_ne (by omega)) nin0)).ext E17).keep K19 (ninS (own_ne (by omega)) nin0))
                obtain ⟨cq125, kq125, q125a, q125b, q125c⟩ := isOf hZ4 K100 fc115
                obtain ⟨_, _, ⟨T125, L125, k125, n125⟩, -, X125, ⟨Lc125, hQ125, l125, y125, z125⟩, st125⟩ := X100.virtualBack hx (y := (⟨"com/example/living_lease/livinglease/redis/Resp$Error", "equals", "(Ljava/lang/Object;)Z"⟩ : MethodName)) (z := (⟨"com/example/living_lease/livinglease/redis/Resp$Error", "equals", "(Ljava/lang/Object;)Z"⟩ : MethodName)) ho4 (mvT hZ4 (own_w hw 49 rfl)) (mvT hZ4 (own_w hw 50 rfl)) (notFace_of_selects (args := #[]) (mvT hZ4 (own_w hw 52 rfl))) (mvT hZ4 (own_w hw 52 rfl)) (mvT hZ4 (own_w hw 51 rfl)) (by decide) (backOf (W := 0) (rm_qerr l Z a0 hw [] ob5 ob17 r1_2 r1_4 b_2 b_4 kb_2 kb_4 x1 (2 : Int32) yy lb cs T19.heap n0 O95 S_COMPACT fc115 fc116 g19_0 g19_1 fc117 fc118 fc119 fc120 fc121 fc122 fc123 fc124 hcs (own_ne (by omega)) h_la h_lb) hZ4 (own_w hw 53 rfl) (own_w hw 42 rfl) (by decide) (by decide)) q125a q125c (g := (mkF m 201 #[.val (.int x1), .val (.int y1), .val (.int f1), .val (.int (2 : Int32)), .val (.int lb), .val (.int md), .val (.int yy), .val (.ref r1_2), .val (.ref r1_4), .val (.ref ob5), .val (.ref ob17), .val (.int (0 : Int32))] [(.ref ob17), (.ref ob5)])) rfl (by rw [hml]; rfl) (Steps.refl _) (argsL := [(.ref ob17)]) (rest := []) (lenOf own_pd__28Ljava_2flang_2fObject_3b_29Z rfl) rfl (by show 2 * 0 + _ ≤ _; exact Nat.le_of_eq rfl) (hb hby at_201) (fun _ _ => ⟨rfl, K100, (by decide : 14 + 0 ≤ _), (by decide : 26 + 0 ≤ _)⟩)
                dsimp only [Pt.U, Pt.locs, Pt.cells, Pt.slots] at X125 l125 y125 z125 st125 hQ125
                subst l125 y125 z125
                obtain ⟨rfl, M125, K125⟩ := hQ125
                have N125 := Fr.app N100 M125
                refine own_by (fun _ k => st125.trans k) ?_
                refine own_by (fun _ k => XS.iload X125.here hx rfl (hb hby at_204) rfl k) ?_
                refine own_by (fun _ k => XS.icmpNo X125.here hx rfl (hb hby at_206) rfl (teq ((own_eqs_eq hc94).trans ((own_pre_2 _ _).trans ((own_all_pos (own_b_inj.mpr hc98)).trans (own_all_neg fun q => hc101 (own_b_inj.mp q)))))).2 k) ?_
                show own_Go p e below (T125.setTop (mkF m 209 #[.val (.int x1), .val (.int y1), .val (.int f1), .val (.int (2 : Int32)), .val (.int lb), .val (.int md), .val (.int yy), .val (.ref r1_2), .val (.ref r1_4), .val (.ref ob5), .val (.ref ob17), .val (.int (0 : Int32))] [])) _
                refine own_by (fun _ k => XS.aload X125.here hx rfl (hb hby at_209) rfl rfl k) ?_
                refine own_by (fun _ k => XS.aload X125.here hx rfl (hb hby at_211) rfl rfl k) ?_
                obtain ⟨cq126, kq126, q126a, q126b, q126c⟩ := isOf hZ4 K125 g19_0
                obtain ⟨_, _, ⟨T126, L126, k126, n126⟩, -, X126, ⟨Lc126, hQ126, l126, y126, z126⟩, st126⟩ := X125.virtualBack hx (y := (⟨"com/example/living_lease/livinglease/redis/Resp$Error", "equals", "(Ljava/lang/Object;)Z"⟩ : MethodName)) (z := (⟨"com/example/living_lease/livinglease/redis/Resp$Error", "equals", "(Ljava/lang/Object;)Z"⟩ : MethodName)) ho4 (mvT hZ4 (own_w hw 49 rfl)) (mvT hZ4 (own_w hw 50 rfl)) (notFace_of_selects (args := #[]) (mvT hZ4 (own_w hw 52 rfl))) (mvT hZ4 (own_w hw 52 rfl)) (mvT hZ4 (own_w hw 51 rfl)) (by decide) (backOf (W := 0) (rm_qerr l Z a0 hw [] ob17 ob5 r1_4 r1_2 b_4 b_2 kb_4 kb_2 yy lb x1 (2 : Int32) cs T19.heap n0 O95 S_COMPACT g19_0 g19_1 fc115 fc116 fc121 fc122 fc123 fc124 fc117 fc118 fc119 fc120 hcs (own_ne (by omega)) h_lb h_la) hZ4 (own_w hw 53 rfl) (own_w hw 42 rfl) (by decide) (by decide)) q126a q126c (g := (mkF m 213 #[.val (.int x1), .val (.int y1), .val (.int f1), .val (.int (2 : Int32)), .val (.int lb), .val (.int md), .val (.int yy), .val (.ref r1_2), .val (.ref r1_4), .val (.ref ob5), .val (.ref ob17), .val (.int (0 : Int32))] [(.ref ob5), (.ref ob17)])) rfl (by rw [hml]; rfl) (Steps.refl _) (argsL := [(.ref ob5)]) (rest := []) (lenOf own_pd__28Ljava_2flang_2fObject_3b_29Z rfl) rfl (by show 2 * 0 + _ ≤ _; exact Nat.le_of_eq rfl) (hb hby at_213) (fun _ _ => ⟨rfl, K125, (by decide : 14 + 0 ≤ _), (by decide : 26 + 0 ≤ _)⟩)
                dsimp only [Pt.U, Pt.locs, Pt.cells, Pt.slots] at X126 l126 y126 z126 st126 hQ126
                subst l126 y126 z126
                obtain ⟨rfl, M126, K126⟩ := hQ126
                have N126 := Fr.app N125 M126
                refine own_by (fun _ k => st126.trans k) ?_
                refine own_by (fun _ k => XS.iload X126.here hx rfl (hb hby at_216) rfl k) ?_
                show own_Go p e below (T126.setTop (mkF m 218 #[.val (.int x1), .val (.int y1), .val (.int f1), .val (.int (2 : Int32)), .val (.int lb), .val (.int md), .val (.int yy), .val (.ref r1_2), .val (.ref r1_4), .val (.ref ob5), .val (.ref ob17), .val (.int (0 : Int32))] [(.int (0 : Int32)), (.int (own_eqs yy lb x1 (2 : Int32)))])) _
                refine own_by (fun _ k => XS.icmpNo X126.here hx rfl (hb hby at_218) rfl (teq (by rw [← hc94]; exact (own_eqs_eq rfl).trans ((own_pre_2 _ _).trans ((own_all_pos (own_b_inj.mpr hc98.symm)).trans (own_all_neg fun q => hc101 (own_b_inj.mp q).symm))))).2 k) ?_
                show own_Go p e below (T126.setTop (mkF m 221 #[.val (.int x1), .val (.int y1), .val (.int f1), .val (.int (2 : Int32)), .val (.int lb), .val (.int md), .val (.int yy), .val (.ref r1_2), .val (.ref r1_4), .val (.ref ob5), .val (.ref ob17), .val (.int (0 : Int32))] [])) _
                refine own_by (fun _ k => XS.iconst X126.here hx rfl (hb hby at_221) k) ?_
                refine own_by (fun _ k => XS.goto X126.here hx rfl (pc0 := 222) (pc' := 226) rfl (hb hby at_222) (by decide) (by decide) k) ?_
                have K127 : Keep h0 T19.heap [] := (((((((Keep.refl h0 []).trans K2 all0).trans K4 all0).ext E5).trans K7 (allS (P := fun x => x ∈ [] ∨ h0.size ≤ x) (Or.inr (by omega)) all0)).ext E17).trans K19 (allS (P := fun x => x ∈ [] ∨ h0.size ≤ x) (Or.inr (by omega)) all0))
                obtain ⟨fs, hr, hrun, hended, hW⟩ := X126.leaveW S4 (by first | omega | (rw [K126]; omega)) (v := some (.int (1 : Int32))) (fun h => by rw [Bd.returns] at h; cases h)
                have RR := R19.trans (CHv.at X126 hZ4 hEL R19.1)
                have RR' : CHr Z own_EL s.vm s.heap T126.vm T126.heap := by rw [hh, K126]; exact RR
                refine ⟨_, _, retN X126 hx (t := .boolean) Bd.returns (by simp) (hb hby at_226) hr, hrun, hended, _, _, rfl, ?_, RR', ⟨_, rfl⟩, hW.2.1, hW.2.2.1, hW.2.2.2.mono (by decide) (by decide)⟩
                show Q_rm_law Z x1 y1 f1 cs h0 n0 _ T126.heap _
                rw [K126]
                exact ⟨rfl, N126, K127⟩
            · skip
              refine own_by (fun _ k => XS.icmpYes X97.here hx rfl (pc0 := 149) (pc' := 194) rfl (hb hby at_149) rfl (feq hc98).2 (by decide) (by decide) k) ?_
              show own_Go p e below (T97.setTop (mkF m 194 #[.val (.int x1), .val (.int y1), .val (.int f1), .val (.int (2 : Int32)), .val (.int lb), .val (.int md), .val (.int yy), .val (.ref r1_2), .val (.ref r1_4), .val (.ref ob5), .val (.ref ob17), .unset] [])) _
              refine own_by (fun _ k => XS.iconst X97.here hx rfl (hb hby at_194) k) ?_
              refine own_by (fun _ k => XS.istore X97.here hx rfl (hb hby at_195) rfl (l' := #[.val (.int x1), .val (.int y1), .val (.int f1), .val (.int (2 : Int32)), .val (.int lb), .val (.int md), .val (.int yy), .val (.ref r1_2), .val (.ref r1_4), .val (.ref ob5), .val (.ref ob17), .val (.int (0 : Int32))]) rfl k) ?_
              refine own_by (fun _ k => XS.aload X97.here hx rfl (hb hby at_197) rfl rfl k) ?_
              refine own_by (fun _ k => XS.aload X97.here hx rfl (hb hby at_199) rfl rfl k) ?_
              show own_Go p e below (T97.setTop (mkF m 201 #[.val (.int x1), .val (.int y1), .val (.int f1), .val (.int (2 : Int32)), .val (.int lb), .val (.int md), .val (.int yy), .val (.ref r1_2), .val (.ref r1_4), .val (.ref ob5), .val (.ref ob17), .val (.int (0 : Int32))] [(.ref ob17), (.ref ob5)])) _
              have fc128 : Exa Z T19.heap ob5 "com/example/living_lease/livinglease/redis/Resp$Error" := ((g7_0.ext E17).keep K19)
              have fc129 : Fld Z T19.heap ob5 "com/example/living_lease/livinglease/redis/Resp$Error" "message" "Ljava/lang/String;" (.ref r1_2) := ((g7_1.ext E17).keep K19 (ninS (own_ne (by omega)) nin0))
              have fc130 : Exa Z T19.heap r1_2 "java/lang/String" := ((fc8.ext E17).keep K19)
              have fc131 : Fld Z T19.heap r1_2 "java/lang/String" "coder" "B" (.int (0 : Int32)) := (((((g2_1.keep K4 nin0).ext E5).keep K7 (ninS (own_ne (by omega)) nin0)).ext E17).keep K19 (ninS (own_ne (by omega)) nin0))
              have fc132 : Fld Z T19.heap r1_2 "java/lang/String" "value" "[B" (.ref b_2) := (((((g2_2.keep K4 nin0).ext E5).keep K7 (ninS (own_ne (by omega)) nin0)).ext E17).keep K19 (ninS (own_ne (by omega)) nin0))
              have fc133 : Arv Z T19.heap b_2 kb_2 .byte (2 : Int32) (own_bs x1 (2 : Int32)) (.int (0 : Int32)) := (((((g2_3.keep K4 nin0).ext E5).keep K7 (ninS (own_ne (by omega)) nin0)).ext E17).keep K19 (ninS (own_ne (by omega)) nin0))
              have fc134 : Exa Z T19.heap r1_4 "java/lang/String" := ((((g4_0.ext E5).keep K7).ext E17).keep K19)
              have fc135 : Fld Z T19.heap r1_4 "java/lang/String" "coder" "B" (.int (0 : Int32)) := ((((g4_1.ext E5).keep K7 (ninS (own_ne (by omega)) nin0)).ext E17).keep K19 (ninS (own_ne (by omega)) nin0))
              have fc136 : Fld Z T19.heap r1_4 "java/lang/String" "value" "[B" (.ref b_4) := ((((g4_2.ext E5).keep K7 (ninS (own_ne (by omega)) nin0)).ext E17).keep K19 (ninS (own_ne (by omega)) nin0))
              have fc137 : Arv Z T19.heap b_4 kb_4 .byte lb (own_bs yy lb) (.int (0 : Int32)) := ((((g4_3.ext E5).keep K7 (ninS (own_ne (by omega)) nin0)).ext E17).keep K19 (ninS (own_ne (by omega)) nin0))
              obtain ⟨cq138, kq138, q138a, q138b, q138c⟩ := isOf hZ4 K97 fc128
              obtain ⟨_, _, ⟨T138, L138, k138, n138⟩, -, X138, ⟨Lc138, hQ138, l138, y138, z138⟩, st138⟩ := X97.virtualBack hx (y := (⟨"com/example/living_lease/livinglease/redis/Resp$Error", "equals", "(Ljava/lang/Object;)Z"⟩ : MethodName)) (z := (⟨"com/example/living_lease/livinglease/redis/Resp$Error", "equals", "(Ljava/lang/Object;)Z"⟩ : MethodName)) ho4 (mvT hZ4 (own_w hw 49 rfl)) (mvT hZ4 (own_w hw 50 rfl)) (notFace_of_selects (args := #[]) (mvT hZ4 (own_w hw 52 rfl))) (mvT hZ4 (own_w hw 52 rfl)) (mvT hZ4 (own_w hw 51 rfl)) (by decide) (backOf (W := 0) (rm_qerr l Z a0 hw [] ob5 ob17 r1_2 r1_4 b_2 b_4 kb_2 kb_4 x1 (2 : Int32) yy lb cs T19.heap n0 O95 S_COMPACT fc128 fc129 g19_0 g19_1 fc130 fc131 fc132 fc133 fc134 fc135 fc136 fc137 hcs (own_ne (by omega)) h_la h_lb) hZ4 (own_w hw 53 rfl) (own_w hw 42 rfl) (by decide) (by decide)) q138a q138c (g := (mkF m 201 #[.val (.int x1), .val (.int y1), .val (.int f1), .val (.int (2 : Int32)), .val (.int lb), .val (.int md), .val (.int yy), .val (.ref r1_2), .val (.ref r1_4), .val (.ref ob5), .val (.ref ob17), .val (.int (0 : Int32))] [(.ref ob17), (.ref ob5)])) rfl (by rw [hml]; rfl) (Steps.refl _) (argsL := [(.ref ob17)]) (rest := []) (lenOf own_pd__28Ljava_2flang_2fObject_3b_29Z rfl) rfl (by show 2 * 0 + _ ≤ _; exact Nat.le_of_eq rfl) (hb hby at_201) (fun _ _ => ⟨rfl, K97, (by decide : 14 + 0 ≤ _), (by decide : 26 + 0 ≤ _)⟩)
              dsimp only [Pt.U, Pt.locs, Pt.cells, Pt.slots] at X138 l138 y138 z138 st138 hQ138
              subst l138 y138 z138
              obtain ⟨rfl, M138, K138⟩ := hQ138
              have N138 := Fr.app N97 M138
              refine own_by (fun _ k => st138.trans k) ?_
              refine own_by (fun _ k => XS.iload X138.here hx rfl (hb hby at_204) rfl k) ?_
              refine own_by (fun _ k => XS.icmpNo X138.here hx rfl (hb hby at_206) rfl (teq ((own_eqs_eq hc94).trans ((own_pre_2 _ _).trans (own_all_neg fun q => hc98 (own_b_inj.mp q))))).2 k) ?_
              show own_Go p e below (T138.setTop (mkF m 209 #[.val (.int x1), .val (.int y1), .val (.int f1), .val (.int (2 : Int32)), .val (.int lb), .val (.int md), .val (.int yy), .val (.ref r1_2), .val (.ref r1_4), .val (.ref ob5), .val (.ref ob17), .val (.int (0 : Int32))] [])) _
              refine own_by (fun _ k => XS.aload X138.here hx rfl (hb hby at_209) rfl rfl k) ?_
              refine own_by (fun _ k => XS.aload X138.here hx rfl (hb hby at_211) rfl rfl k) ?_
              obtain ⟨cq139, kq139, q139a, q139b, q139c⟩ := isOf hZ4 K138 g19_0
              obtain ⟨_, _, ⟨T139, L139, k139, n139⟩, -, X139, ⟨Lc139, hQ139, l139, y139, z139⟩, st139⟩ := X138.virtualBack hx (y := (⟨"com/example/living_lease/livinglease/redis/Resp$Error", "equals", "(Ljava/lang/Object;)Z"⟩ : MethodName)) (z := (⟨"com/example/living_lease/livinglease/redis/Resp$Error", "equals", "(Ljava/lang/Object;)Z"⟩ : MethodName)) ho4 (mvT hZ4 (own_w hw 49 rfl)) (mvT hZ4 (own_w hw 50 rfl)) (notFace_of_selects (args := #[]) (mvT hZ4 (own_w hw 52 rfl))) (mvT hZ4 (own_w hw 52 rfl)) (mvT hZ4 (own_w hw 51 rfl)) (by decide) (backOf (W := 0) (rm_qerr l Z a0 hw [] ob17 ob5 r1_4 r1_2 b_4 b_2 kb_4 kb_2 yy lb x1 (2 : Int32) cs T19.heap n0 O95 S_COMPACT g19_0 g19_1 fc128 fc129 fc134 fc135 fc136 fc137 fc130 fc131 fc132 fc133 hcs (own_ne (by omega)) h_lb h_la) hZ4 (own_w hw 53 rfl) (own_w hw 42 rfl) (by decide) (by decide)) q139a q139c (g := (mkF m 213 #[.val (.int x1), .val (.int y1), .val (.int f1), .val (.int (2 : Int32)), .val (.int lb), .val (.int md), .val (.int yy), .val (.ref r1_2), .val (.ref r1_4), .val (.ref ob5), .val (.ref ob17), .val (.int (0 : Int32))] [(.ref ob5), (.ref ob17)])) rfl (by rw [hml]; rfl) (Steps.refl _) (argsL := [(.ref ob5)]) (rest := []) (lenOf own_pd__28Ljava_2flang_2fObject_3b_29Z rfl) rfl (by show 2 * 0 + _ ≤ _; exact Nat.le_of_eq rfl) (hb hby at_213) (fun _ _ => ⟨rfl, K138, (by decide : 14 + 0 ≤ _), (by decide : 26 + 0 ≤ _)⟩)
              dsimp only [Pt.U, Pt.locs, Pt.cells, Pt.slots] at X139 l139 y139 z139 st139 hQ139
              subst l139 y139 z139
              obtain ⟨rfl, M139, K139⟩ := hQ139
              have N139 := Fr.app N138 M139
              refine own_by (fun _ k => st139.trans k) ?_
              refine own_by (fun _ k => XS.iload X139.here hx rfl (hb hby at_216) rfl k) ?_
              show own_Go p e below (T139.setTop (mkF m 218 #[.val (.int x1), .val (.int y1), .val (.int f1), .val (.int (2 : Int32)), .val (.int lb), .val (.int md), .val (.int yy), .val (.ref r1_2), .val (.ref r1_4), .val (.ref ob5), .val (.ref ob17), .val (.int (0 : Int32))] [(.int (0 : Int32)), (.int (own_eqs yy lb x1 (2 : Int32)))])) _
              refine own_by (fun _ k => XS.icmpNo X139.here hx rfl (hb hby at_218) rfl (teq (by rw [← hc94]; exact (own_eqs_eq rfl).trans ((own_pre_2 _ _).trans (own_all_neg fun q => hc98 (own_b_inj.mp q).symm)))).2 k) ?_
              show own_Go p e below (T139.setTop (mkF m 221 #[.val (.int x1), .val (.int y1), .val (.int f1), .val (.int (2 : Int32)), .val (.int lb), .val (.int md), .val (.int yy), .val (.ref r1_2), .val (.ref r1_4), .val (.ref ob5), .val (.ref ob17), .val (.int (0 : Int32))] [])) _
              refine own_by (fun _ k => XS.iconst X139.here hx rfl (hb hby at_221) k) ?_
              refine own_by (fun _ k => XS.goto X139.here hx rfl (pc0 := 222) (pc' := 226) rfl (hb hby at_222) (by decide) (by decide) k) ?_
              have K140 : Keep h0 T19.heap [] := (((((((Keep.refl h0 []).trans K2 all0).trans K4 all0).ext E5).trans K7 (allS (P := fun x => x ∈ [] ∨ h0.size ≤ x) (Or.inr (by omega)) all0)).ext E17).trans K19 (allS (P := fun x => x ∈ [] ∨ h0.size ≤ x) (Or.inr (by omega)) all0))
              obtain ⟨fs, hr, hrun, hended, hW⟩ := X139.leaveW S4 (by first | omega | (rw [K139]; omega)) (v := some (.int (1 : Int32))) (fun h => by rw [Bd.returns] at h; cases h)
              have RR := R19.trans (CHv.at X139 hZ4 hEL R19.1)
              have RR' : CHr Z own_EL s.vm s.heap T139.vm T139.heap := by rw [hh, K139]; exact RR
              refine ⟨_, _, retN X139 hx (t := .boolean) Bd.returns (by simp) (hb hby at_226) hr, hrun, hended, _, _, rfl, ?_, RR', ⟨_, rfl⟩, hW.2.1, hW.2.2.1, hW.2.2.2.mono (by decide) (by decide)⟩
              show Q_rm_law Z x1 y1 f1 cs h0 n0 _ T139.heap _
              rw [K139]
              exact ⟨rfl, N139, K140⟩
          · skip
            refine own_by (fun _ k => XS.icmpYes X19.here hx rfl (pc0 := 130) (pc' := 194) rfl (hb hby at_130) rfl (feq hc94).2 (by decide) (by decide) k) ?_
            show own_Go p e below (T19.setTop (mkF m 194 #[.val (.int x1), .val (.int y1), .val (.int f1), .val (.int (2 : Int32)), .val (.int lb), .val (.int md), .val (.int yy), .val (.ref r1_2), .val (.ref r1_4), .val (.ref ob5), .val (.ref ob17), .unset] [])) _
            refine own_by (fun _ k => XS.iconst X19.here hx rfl (hb hby at_194) k) ?_
            refine own_by (fun _ k => XS.istore X19.here hx rfl (hb hby at_195) rfl (l' := #[.val (.int x1), .val (.int y1), .val (.int f1), .val (.int (2 : Int32)), .val (.int lb), .val (.int md), .val (.int yy), .val (.ref r1_2), .val (.ref r1_4), .val (.ref ob5), .val (.ref ob17), .val (.int (0 : Int32))]) rfl k) ?_
            refine own_by (fun _ k => XS.aload X19.here hx rfl (hb hby at_197) rfl rfl k) ?_
            refine own_by (fun _ k => XS.aload X19.here hx rfl (hb hby at_199) rfl rfl k) ?_
            show own_Go p e below (T19.setTop (mkF m 201 #[.val (.int x1), .val (.int y1), .val (.int f1), .val (.int (2 : Int32)), .val (.int lb), .val (.int md), .val (.int yy), .val (.ref r1_2), .val (.ref r1_4), .val (.ref ob5), .val (.ref ob17), .val (.int (0 : Int32))] [(.ref ob17), (.ref ob5)])) _
            have fc141 : Exa Z T19.heap ob5 "com/example/living_lease/livinglease/redis/Resp$Error" := ((g7_0.ext E17).keep K19)
            have fc142 : Fld Z T19.heap ob5 "com/example/living_lease/livinglease/redis/Resp$Error" "message" "Ljava/lang/String;" (.ref r1_2) := ((g7_1.ext E17).keep K19 (ninS (own_ne (by omega)) nin0))
            have fc143 : Exa Z T19.heap r1_2 "java/lang/String" := ((fc8.ext E17).keep K19)
            have fc144 : Fld Z T19.heap r1_2 "java/lang/String" "coder" "B" (.int (0 : Int32)) := (((((g2_1.keep K4 nin0).ext E5).keep K7 (ninS (own_ne (by omega)) nin0)).ext E17).keep K19 (ninS (own_ne (by omega)) nin0))
            have fc145 : Fld Z T19.heap r1_2 "java/lang/String" "value" "[B" (.ref b_2) := (((((g2_2.keep K4 nin0).ext E5).keep K7 (ninS (own_ne (by omega)) nin0)).ext E17).keep K19 (ninS (own_ne (by omega)) nin0))
            have fc146 : Arv Z T19.heap b_2 kb_2 .byte (2 : Int32) (own_bs x1 (2 : Int32)) (.int (0 : Int32)) := (((((g2_3.keep K4 nin0).ext E5).keep K7 (ninS (own_ne (by omega)) nin0)).ext E17).keep K19 (ninS (own_ne (by omega)) nin0))
            have fc147 : Exa Z T19.heap r1_4 "java/lang/String" := ((((g4_0.ext E5).keep K7).ext E17).keep K19)
            have fc148 : Fld Z T19.heap r1_4 "java/lang/String" "coder" "B" (.int (0 : Int32)) := ((((g4_1.ext E5).keep K7 (ninS (own_ne (by omega)) nin0)).ext E17).keep K19 (ninS (own_ne (by omega)) nin0))
            have fc149 : Fld Z T19.heap r1_4 "java/lang/String" "value" "[B" (.ref b_4) := ((((g4_2.ext E5).keep K7 (ninS (own_ne (by omega)) nin0)).ext E17).keep K19 (ninS (own_ne (by omega)) nin0))
            have fc150 : Arv Z T19.heap b_4 kb_4 .byte lb (own_bs yy lb) (.int (0 : Int32)) := ((((g4_3.ext E5).keep K7 (ninS (own_ne (by omega)) nin0)).ext E17).keep K19 (ninS (own_ne (by omega)) nin0))
            have O151 : Old Z n0 T19.heap := (O18.keep K19 (allS (by omega) all0))
            obtain ⟨cq152, kq152, q152a, q152b, q152c⟩ := isOf hZ4 rfl fc141
            obtain ⟨_, _, ⟨T152, L152, k152, n152⟩, -, X152, ⟨Lc152, hQ152, l152, y152, z152⟩, st152⟩ := X19.virtualBack hx (y := (⟨"com/example/living_lease/livinglease/redis/Resp$Error", "equals", "(Ljava/lang/Object;)Z"⟩ : MethodName)) (z := (⟨"com/example/living_lease/livinglease/redis/Resp$Error", "equals", "(Ljava/lang/Object;)Z"⟩ : MethodName)) ho4 (mvT hZ4 (own_w hw 49 rfl)) (mvT hZ4 (own_w hw 50 rfl)) (notFace_of_selects (args := #[]) (mvT hZ4 (own_w hw 52 rfl))) (mvT hZ4 (own_w hw 52 rfl)) (mvT hZ4 (own_w hw 51 rfl)) (by decide) (backOf (W := 0) (rm_qerr l Z a0 hw [] ob5 ob17 r1_2 r1_4 b_2 b_4 kb_2 kb_4 x1 (2 : Int32) yy lb cs T19.heap n0 O151 S_COMPACT fc141 fc142 g19_0 g19_1 fc143 fc144 fc145 fc146 fc147 fc148 fc149 fc150 hcs (own_ne (by omega)) h_la h_lb) hZ4 (own_w hw 53 rfl) (own_w hw 42 rfl) (by decide) (by decide)) q152a q152c (g := (mkF m 201 #[.val (.int x1), .val (.int y1), .val (.int f1), .val (.int (2 : Int32)), .val (.int lb), .val (.int md), .val (.int yy), .val (.ref r1_2), .val (.ref r1_4), .val (.ref ob5), .val (.ref ob17), .val (.int (0 : Int32))] [(.ref ob17), (.ref ob5)])) rfl (by rw [hml]; rfl) (Steps.refl _) (argsL := [(.ref ob17)]) (rest := []) (lenOf own_pd__28Ljava_2flang_2fObject_3b_29Z rfl) rfl (by show 2 * 0 + _ ≤ _; exact Nat.le_of_eq rfl) (hb hby at_201) (fun _ _ => ⟨rfl, rfl, (by decide : 14 + 0 ≤ _), (by decide : 26 + 0 ≤ _)⟩)
            dsimp only [Pt.U, Pt.locs, Pt.cells, Pt.slots] at X152 l152 y152 z152 st152 hQ152
            subst l152 y152 z152
            obtain ⟨rfl, M152, K152⟩ := hQ152
            have N152 := Fr.app N19 M152
            refine own_by (fun _ k => st152.trans k) ?_
            refine own_by (fun _ k => XS.iload X152.here hx rfl (hb hby at_204) rfl k) ?_
            refine own_by (fun _ k => XS.icmpNo X152.here hx rfl (hb hby at_206) rfl (teq (own_eqs_ne hc94)).2 k) ?_
            show own_Go p e below (T152.setTop (mkF m 209 #[.val (.int x1), .val (.int y1), .val (.int f1), .val (.int (2 : Int32)), .val (.int lb), .val (.int md), .val (.int yy), .val (.ref r1_2), .val (.ref r1_4), .val (.ref ob5), .val (.ref ob17), .val (.int (0 : Int32))] [])) _
            refine own_by (fun _ k => XS.aload X152.here hx rfl (hb hby at_209) rfl rfl k) ?_
            refine own_by (fun _ k => XS.aload X152.here hx rfl (hb hby at_211) rfl rfl k) ?_
            obtain ⟨cq153, kq153, q153a, q153b, q153c⟩ := isOf hZ4 K152 g19_0
            obtain ⟨_, _, ⟨T153, L153, k153, n153⟩, -, X153, ⟨Lc153, hQ153, l153, y153, z153⟩, st153⟩ := X152.virtualBack hx (y := (⟨"com/example/living_lease/livinglease/redis/Resp$Error", "equals", "(Ljava/lang/Object;)Z"⟩ : MethodName)) (z := (⟨"com/example/living_lease/livinglease/redis/Resp$Error", "equals", "(Ljava/lang/Object;)Z"⟩ : MethodName)) ho4 (mvT hZ4 (own_w hw 49 rfl)) (mvT hZ4 (own_w hw 50 rfl)) (notFace_of_selects (args := #[]) (mvT hZ4 (own_w hw 52 rfl))) (mvT hZ4 (own_w hw 52 rfl)) (mvT hZ4 (own_w hw 51 rfl)) (by decide) (backOf (W := 0) (rm_qerr l Z a0 hw [] ob17 ob5 r1_4 r1_2 b_4 b_2 kb_4 kb_2 yy lb x1 (2 : Int32) cs T19.heap n0 O151 S_COMPACT g19_0 g19_1 fc141 fc142 fc147 fc148 fc149 fc150 fc143 fc144 fc145 fc146 hcs (own_ne (by omega)) h_lb h_la) hZ4 (own_w hw 53 rfl) (own_w hw 42 rfl) (by decide) (by decide)) q153a q153c (g := (mkF m 213 #[.val (.int x1), .val (.int y1), .val (.int f1), .val (.int (2 : Int32)), .val (.int lb), .val (.int md), .val (.int yy), .val (.ref r1_2), .val (.ref r1_4), .val (.ref ob5), .val (.ref ob17), .val (.int (0 : Int32))] [(.ref ob5), (.ref ob17)])) rfl (by rw [hml]; rfl) (Steps.refl _) (argsL := [(.ref ob5)]) (rest := []) (lenOf own_pd__28Ljava_2flang_2fObject_3b_29Z rfl) rfl (by show 2 * 0 + _ ≤ _; exact Nat.le_of_eq rfl) (hb hby at_213) (fun _ _ => ⟨rfl, K152, (by decide : 14 + 0 ≤ _), (by decide : 26 + 0 ≤ _)⟩)
            dsimp only [Pt.U, Pt.locs, Pt.cells, Pt.slots] at X153 l153 y153 z153 st153 hQ153
            subst l153 y153 z153
            obtain ⟨rfl, M153, K153⟩ := hQ153
            have N153 := Fr.app N152 M153
            refine own_by (fun _ k => st153.trans k) ?_
            refine own_by (fun _ k => XS.iload X153.here hx rfl (hb hby at_216) rfl k) ?_
            show own_Go p e below (T153.setTop (mkF m 218 #[.val (.int x1), .val (.int y1), .val (.int f1), .val (.int (2 : Int32)), .val (.int lb), .val (.int md), .val (.int yy), .val (.ref r1_2), .val (.ref r1_4), .val (.ref ob5), .val (.ref ob17), .val (.int (0 : Int32))] [(.int (0 : Int32)), (.int (own_eqs yy lb x1 (2 : Int32)))])) _
            refine own_by (fun _ k => XS.icmpNo X153.here hx rfl (hb hby at_218) rfl (teq (own_eqs_ne (fun q => hc94 q.symm))).2 k) ?_
            show own_Go p e below (T153.setTop (mkF m 221 #[.val (.int x1), .val (.int y1), .val (.int f1), .val (.int (2 : Int32)), .val (.int lb), .val (.int md), .val (.int yy), .val (.ref r1_2), .val (.ref r1_4), .val (.ref ob5), .val (.ref ob17), .val (.int (0 : Int32))] [])) _
            refine own_by (fun _ k => XS.iconst X153.here hx rfl (hb hby at_221) k) ?_
            refine own_by (fun _ k => XS.goto X153.here hx rfl (pc0 := 222) (pc' := 226) rfl (hb hby at_222) (by decide) (by decide) k) ?_
            have K154 : Keep h0 T19.heap [] := (((((((Keep.refl h0 []).trans K2 all0).trans K4 all0).ext E5).trans K7 (allS (P := fun x => x ∈ [] ∨ h0.size ≤ x) (Or.inr (by omega)) all0)).ext E17).trans K19 (allS (P := fun x => x ∈ [] ∨ h0.size ≤ x) (Or.inr (by omega)) all0))
            obtain ⟨fs, hr, hrun, hended, hW⟩ := X153.leaveW S4 (by first | omega | (rw [K153]; omega)) (v := some (.int (1 : Int32))) (fun h => by rw [Bd.returns] at h; cases h)
            have RR := R19.trans (CHv.at X153 hZ4 hEL R19.1)
            have RR' : CHr Z own_EL s.vm s.heap T153.vm T153.heap := by rw [hh, K153]; exact RR
            refine ⟨_, _, retN X153 hx (t := .boolean) Bd.returns (by simp) (hb hby at_226) hr, hrun, hended, _, _, rfl, ?_, RR', ⟨_, rfl⟩, hW.2.1, hW.2.2.1, hW.2.2.2.mono (by decide) (by decide)⟩
            show Q_rm_law Z x1 y1 f1 cs h0 n0 _ T153.heap _
            rw [K153]
            exact ⟨rfl, N153, K154⟩
        · skip
          show own_Go p e below (T19.setTop (mkF m 127 #[.val (.int x1), .val (.int y1), .val (.int f1), .val (.int (3 : Int32)), .val (.int lb), .val (.int md), .val (.int yy), .val (.ref r1_2), .val (.ref r1_4), .val (.ref ob5), .val (.ref ob17), .unset] [])) _
          refine own_by (fun _ k => XS.iloadN X19.here hx rfl (hb hby at_127) rfl k) ?_
          refine own_by (fun _ k => XS.iload X19.here hx rfl (hb hby at_128) rfl k) ?_
          by_cases hc155 : (3 : Int32) = lb
          · skip
            refine own_by (fun _ k => XS.icmpNo X19.here hx rfl (hb hby at_130) rfl (teq hc155).2 k) ?_
            show own_Go p e below (T19.setTop (mkF m 133 #[.val (.int x1), .val (.int y1), .val (.int f1), .val (.int (3 : Int32)), .val (.int lb), .val (.int md), .val (.int yy), .val (.ref r1_2), .val (.ref r1_4), .val (.ref ob5), .val (.ref ob17), .unset] [])) _
            refine own_by (fun _ k => XS.iloadN X19.here hx rfl (hb hby at_133) rfl k) ?_
            refine own_by (fun _ k => XS.iconst X19.here hx rfl (hb hby at_134) k) ?_
            refine own_by (fun _ k => XS.icmpNo X19.here hx rfl (hb hby at_135) rfl (flt (by decide : ¬ ((3 : Int32) < (1 : Int32)))).1 k) ?_
            show own_Go p e below (T19.setTop (mkF m 138 #[.val (.int x1), .val (.int y1), .val (.int f1), .val (.int (3 : Int32)), .val (.int lb), .val (.int md), .val (.int yy), .val (.ref r1_2), .val (.ref r1_4), .val (.ref ob5), .val (.ref ob17), .unset] [])) _
            refine own_by (fun _ k => XS.iloadN X19.here hx rfl (hb hby at_138) rfl k) ?_
            refine own_by (fun _ k => XS.iconst X19.here hx rfl (hb hby at_139) k) ?_
            have O156 : Old Z n0 T19.heap := (O18.keep K19 (allS (by omega) all0))
            obtain ⟨_, _, ⟨T157, L157, k157, n157⟩, -, X157, ⟨Lc157, hQ157, l157, y157, z157⟩, st157⟩ := Jvm.LawKit.callS X19 hx (y := (⟨"com/example/living_lease/livinglease/redis/ErrorEqualsPinLaw", "ch", "(II)C"⟩ : MethodName)) ho4 (mvT hZ4 (own_w hw 8 rfl)) (mvT hZ4 (own_w hw 9 rfl)) (mvT hZ4 (own_w hw 2 rfl)) (mvT hZ4 (own_w hw 10 rfl)) (by decide) (backOf (W := 0) (rm_chr0 l Z a0 hw [] x1 T19.heap n0 O156) hZ4 (own_w hw 10 rfl) (own_w hw 2 rfl) (by decide) (by decide)) (g := (mkF m 140 #[.val (.int x1), .val (.int y1), .val (.int f1), .val (.int (3 : Int32)), .val (.int lb), .val (.int md), .val (.int yy), .val (.ref r1_2), .val (.ref r1_4), .val (.ref ob5), .val (.ref ob17), .unset] [(.int (0 : Int32)), (.int x1)])) rfl (by rw [hml]; rfl) (argsL := [(.int x1), (.int (0 : Int32))]) (rest := []) (lenOf own_pd__28II_29C rfl) rfl (by show 2 * 0 + _ ≤ _; exact Nat.le_of_eq rfl) (hb hby at_140) (fun _ _ => ⟨rfl, rfl, (by decide : 14 + 0 ≤ _), (by decide : 26 + 0 ≤ _)⟩)
            dsimp only [Pt.U, Pt.locs, Pt.cells, Pt.slots] at X157 l157 y157 z157 st157 hQ157
            subst l157 y157 z157
            obtain ⟨rfl, M157, K157⟩ := hQ157
            have N157 := Fr.app N19 M157
            refine own_by st157 ?_
            refine own_by (fun _ k => XS.iload X157.here hx rfl (hb hby at_143) rfl k) ?_
            show own_Go p e below (T157.setTop (mkF m 145 #[.val (.int x1), .val (.int y1), .val (.int f1), .val (.int (3 : Int32)), .val (.int lb), .val (.int md), .val (.int yy), .val (.ref r1_2), .val (.ref r1_4), .val (.ref ob5), .val (.ref ob17), .unset] [(.int yy), (.int (own_pk0 x1 &&& (255 : Int32)))])) _
            refine own_by (fun _ k => XS.iconst X157.here hx rfl (hb hby at_145) k) ?_
            obtain ⟨_, _, ⟨T158, L158, k158, n158⟩, -, X158, ⟨Lc158, hQ158, l158, y158, z158⟩, st158⟩ := Jvm.LawKit.callS X157 hx (y := (⟨"com/example/living_lease/livinglease/redis/ErrorEqualsPinLaw", "ch", "(II)C"⟩ : MethodName)) ho4 (mvT hZ4 (own_w hw 8 rfl)) (mvT hZ4 (own_w hw 9 rfl)) (mvT hZ4 (own_w hw 2 rfl)) (mvT hZ4 (own_w hw 10 rfl)) (by decide) (backOf (W := 1) (rm_chr0 l Z a0 hw [] yy T19.heap n0 O156) hZ4 (own_w hw 10 rfl) (own_w hw 2 rfl) (by decide) (by decide)) (g := (mkF m 146 #[.val (.int x1), .val (.int y1), .val (.int f1), .val (.int (3 : Int32)), .val (.int lb), .val (.int md), .val (.int yy), .val (.ref r1_2), .val (.ref r1_4), .val (.ref ob5), .val (.ref ob17), .unset] [(.int (0 : Int32)), (.int yy), (.int (own_pk0 x1 &&& (255 : Int32)))])) rfl (by rw [hml]; rfl) (argsL := [(.int yy), (.int (0 : Int32))]) (rest := [(.int (own_pk0 x1 &&& (255 : Int32)))]) (lenOf own_pd__28II_29C rfl) rfl (by show 2 * 0 + _ ≤ _; exact Nat.le_of_eq rfl) (hb hby at_146) (fun _ _ => ⟨rfl, K157, (by decide : 14 + 0 ≤ _), (by decide : 26 + 0 ≤ _)⟩)
            dsimp only [Pt.U, Pt.locs, Pt.cells, Pt.slots] at X158 l158 y158 z158 st158 hQ158
            subst l158 y158 z158
            obtain ⟨rfl, M158, K158⟩ := hQ158
            have N158 := Fr.app N157 M158
            refine own_by st158 ?_
            by_cases hc159 : (own_pk0 x1 &&& (255 : Int32)) = (own_pk0 yy &&& (255 : Int32))
            · skip
              refine own_by (fun _ k => XS.icmpNo X158.here hx rfl (hb hby at_149) rfl (teq hc159).2 k) ?_
              show own_Go p e below (T158.setTop (mkF m 152 #[.val (.int x1), .val (.int y1), .val (.int f1), .val (.int (3 : Int32)), .val (.int lb), .val (.int md), .val (.int yy), .val (.ref r1_2), .val (.ref r1_4), .val (.ref ob5), .val (.ref ob17), .unset] [])) _
              refine own_by (fun _ k => XS.iloadN X158.here hx rfl (hb hby at_152) rfl k) ?_
              refine own_by (fun _ k => XS.iconst X158.here hx rfl (hb hby at_153) k) ?_
              refine own_by (fun _ k => XS.icmpNo X158.here hx rfl (hb hby at_154) rfl (flt (by decide : ¬ ((3 : Int32) < (2 : Int32)))).1 k) ?_
              show own_Go p e below (T158.setTop (mkF m 157 #[.val (.int x1), .val (.int y1), .val (.int f1), .val (.int (3 : Int32)), .val (.int lb), .val (.int md), .val (.int yy), .val (.ref r1_2), .val (.ref r1_4), .val (.ref ob5), .val (.ref ob17), .unset] [])) _
              refine own_by (fun _ k => XS.iloadN X158.here hx rfl (hb hby at_157) rfl k) ?_
              refine own_by (fun _ k => XS.iconst X158.here hx rfl (hb hby at_158) k) ?_
              obtain ⟨_, _, ⟨T160, L160, k160, n160⟩, -, X160, ⟨Lc160, hQ160, l160, y160, z160⟩, st160⟩ := Jvm.LawKit.callS X158 hx (y := (⟨"com/example/living_lease/livinglease/redis/ErrorEqualsPinLaw", "ch", "(II)C"⟩ : MethodName)) ho4 (mvT hZ4 (own_w hw 8 rfl)) (mvT hZ4 (own_w hw 9 rfl)) (mvT hZ4 (own_w hw 2 rfl)) (mvT hZ4 (own_w hw 10 rfl)) (by decide) (backOf (W := 0) (rm_chr1 l Z a0 hw [] x1 T19.heap n0 O156) hZ4 (own_w hw 10 rfl) (own_w hw 2 rfl) (by decide) (by decide)) (g := (mkF m 159 #[.val (.int x1), .val (.int y1), .val (.int f1), .val (.int (3 : Int32)), .val (.int lb), .val (.int md), .val (.int yy), .val (.ref r1_2), .val (.ref r1_4), .val (.ref ob5), .val (.ref ob17), .unset] [(.int (1 : Int32)), (.int x1)])) rfl (by rw [hml]; rfl) (argsL := [(.int x1), (.int (1 : Int32))]) (rest := []) (lenOf own_pd__28II_29C rfl) rfl (by show 2 * 0 + _ ≤ _; exact Nat.le_of_eq rfl) (hb hby at_159) (fun _ _ => ⟨rfl, K158, (by decide : 14 + 0 ≤ _), (by decide : 26 + 0 ≤ _)⟩)
              dsimp only [Pt.U, Pt.locs, Pt.cells, Pt.slots] at X160 l160 y160 z160 st160 hQ160
              subst l160 y160 z160
              obtain ⟨rfl, M160, K160⟩ := hQ160
              have N160 := Fr.app N158 M160
              refine own_by st160 ?_
              refine own_by (fun _ k => XS.iload X160.here hx rfl (hb hby at_162) rfl k) ?_
              show own_Go p e below (T160.setTop (mkF m 164 #[.val (.int x1), .val (.int y1), .val (.int f1), .val (.int (3 : Int32)), .val (.int lb), .val (.int md), .val (.int yy), .val (.ref r1_2), .val (.ref r1_4), .val (.ref ob5), .val (.ref ob17), .unset] [(.int yy), (.int (own_pk1 x1 &&& (255 : Int32)))])) _
              refine own_by (fun _ k => XS.iconst X160.here hx rfl (hb hby at_164) k) ?_
              obtain ⟨_, _, ⟨T161, L161, k161, n161⟩, -, X161, ⟨Lc161, hQ161, l161, y161, z161⟩, st161⟩ := Jvm.LawKit.callS X160 hx (y := (⟨"com/example/living_lease/livinglease/redis/ErrorEqualsPinLaw", "ch", "(II)C"⟩ : MethodName)) ho4 (mvT hZ4 (own_w hw 8 rfl)) (mvT hZ4 (own_w hw 9 rfl)) (mvT hZ4 (own_w hw 2 rfl)) (mvT hZ4 (own_w hw 10 rfl)) (by decide) (backOf (W := 1) (rm_chr1 l Z a0 hw [] yy T19.heap n0 O156) hZ4 (own_w hw 10 rfl) (own_w hw 2 rfl) (by decide) (by decide)) (g := (mkF m 165 #[.val (.int x1), .val (.int y1), .val (.int f1), .val (.int (3 : Int32)), .val (.int lb), .val (.int md), .val (.int yy), .val (.ref r1_2), .val (.ref r1_4), .val (.ref ob5), .val (.ref ob17), .unset] [(.int (1 : Int32)), (.int yy), (.int (own_pk1 x1 &&& (255 : Int32)))])) rfl (by rw [hml]; rfl) (argsL := [(.int yy), (.int (1 : Int32))]) (rest := [(.int (own_pk1 x1 &&& (255 : Int32)))]) (lenOf own_pd__28II_29C rfl) rfl (by show 2 * 0 + _ ≤ _; exact Nat.le_of_eq rfl) (hb hby at_165) (fun _ _ => ⟨rfl, K160, (by decide : 14 + 0 ≤ _), (by decide : 26 + 0 ≤ _)⟩)
              dsimp only [Pt.U, Pt.locs, Pt.cells, Pt.slots] at X161 l161 y161 z161 st161 hQ161
              subst l161 y161 z161
              obtain ⟨rfl, M161, K161⟩ := hQ161
              have N161 := Fr.app N160 M161
              refine own_by st161 ?_
              by_cases hc162 : (own_pk1 x1 &&& (255 : Int32)) = (own_pk1 yy &&& (255 : Int32))
              · skip
                refine own_by (fun _ k => XS.icmpNo X161.here hx rfl (hb hby at_168) rfl (teq hc162).2 k) ?_
                show own_Go p e below (T161.setTop (mkF m 171 #[.val (.int x1), .val (.int y1), .val (.int f1), .val (.int (3 : Int32)), .val (.int lb), .val (.int md), .val (.int yy), .val (.ref r1_2), .val (.ref r1_4), .val (.ref ob5), .val (.ref ob17), .unset] [])) _
                refine own_by (fun _ k => XS.iloadN X161.here hx rfl (hb hby at_171) rfl k) ?_
                refine own_by (fun _ k => XS.iconst X161.here hx rfl (hb hby at_172) k) ?_
                refine own_by (fun _ k => XS.icmpNo X161.here hx rfl (hb hby at_173) rfl (flt (by decide : ¬ ((3 : Int32) < (3 : Int32)))).1 k) ?_
                show own_Go p e below (T161.setTop (mkF m 176 #[.val (.int x1), .val (.int y1), .val (.int f1), .val (.int (3 : Int32)), .val (.int lb), .val (.int md), .val (.int yy), .val (.ref r1_2), .val (.ref r1_4), .val (.ref ob5), .val (.ref ob17), .unset] [])) _
                refine own_by (fun _ k => XS.iloadN X161.here hx rfl (hb hby at_176) rfl k) ?_
                refine own_by (fun _ k => XS.iconst X161.here hx rfl (hb hby at_177) k) ?_
                obtain ⟨_, _, ⟨T163, L163, k163, n163⟩, -, X163, ⟨Lc163, hQ163, l163, y163, z163⟩, st163⟩ := Jvm.LawKit.callS X161 hx (y := (⟨"com/example/living_lease/livinglease/redis/ErrorEqualsPinLaw", "ch", "(II)C"⟩ : MethodName)) ho4 (mvT hZ4 (own_w hw 8 rfl)) (mvT hZ4 (own_w hw 9 rfl)) (mvT hZ4 (own_w hw 2 rfl)) (mvT hZ4 (own_w hw 10 rfl)) (by decide) (backOf (W := 0) (rm_chr2 l Z a0 hw [] x1 T19.heap n0 O156) hZ4 (own_w hw 10 rfl) (own_w hw 2 rfl) (by decide) (by decide)) (g := (mkF m 178 #[.val (.int x1), .val (.int y1), .val (.int f1), .val (.int (3 : Int32)), .val (.int lb), .val (.int md), .val (.int yy), .val (.ref r1_2), .val (.ref r1_4), .val (.ref ob5), .val (.ref ob17), .unset] [(.int (2 : Int32)), (.int x1)])) rfl (by rw [hml]; rfl) (argsL := [(.int x1), (.int (2 : Int32))]) (rest := []) (lenOf own_pd__28II_29C rfl) rfl (by show 2 * 0 + _ ≤ _; exact Nat.le_of_eq rfl) (hb hby at_178) (fun _ _ => ⟨rfl, K161, (by decide : 14 + 0 ≤ _), (by decide : 26 + 0 ≤ _)⟩)
                dsimp only [Pt.U, Pt.locs, Pt.cells, Pt.slots] at X163 l163 y163 z163 st163 hQ163
                subst l163 y163 z163
                obtain ⟨rfl, M163, K163⟩ := hQ163
                have N163 := Fr.app N161 M163
                refine own_by st163 ?_
                refine own_by (fun _ k => XS.iload X163.here hx rfl (hb hby at_181) rfl k) ?_
                show own_Go p e below (T163.setTop (mkF m 183 #[.val (.int x1), .val (.int y1), .val (.int f1), .val (.int (3 : Int32)), .val (.int lb), .val (.int md), .val (.int yy), .val (.ref r1_2), .val (.ref r1_4), .val (.ref ob5), .val (.ref ob17), .unset] [(.int yy), (.int (own_pk2 x1 &&& (255 : Int32)))])) _
                refine own_by (fun _ k => XS.iconst X163.here hx rfl (hb hby at_183) k) ?_
                obtain ⟨_, _, ⟨T164, L164, k164, n164⟩, -, X164, ⟨Lc164, hQ164, l164, y164, z164⟩, st164⟩ := Jvm.LawKit.callS X163 hx (y := (⟨"com/example/living_lease/livinglease/redis/ErrorEqualsPinLaw", "ch", "(II)C"⟩ : MethodName)) ho4 (mvT hZ4 (own_w hw 8 rfl)) (mvT hZ4 (own_w hw 9 rfl)) (mvT hZ4 (own_w hw 2 rfl)) (mvT hZ4 (own_w hw 10 rfl)) (by decide) (backOf (W := 1) (rm_chr2 l Z a0 hw [] yy T19.heap n0 O156) hZ4 (own_w hw 10 rfl) (own_w hw 2 rfl) (by decide) (by decide)) (g := (mkF m 184 #[.val (.int x1), .val (.int y1), .val (.int f1), .val (.int (3 : Int32)), .val (.int lb), .val (.int md), .val (.int yy), .val (.ref r1_2), .val (.ref r1_4), .val (.ref ob5), .val (.ref ob17), .unset] [(.int (2 : Int32)), (.int yy), (.int (own_pk2 x1 &&& (255 : Int32)))])) rfl (by rw [hml]; rfl) (argsL := [(.int yy), (.int (2 : Int32))]) (rest := [(.int (own_pk2 x1 &&& (255 : Int32)))]) (lenOf own_pd__28II_29C rfl) rfl (by show 2 * 0 + _ ≤ _; exact Nat.le_of_eq rfl) (hb hby at_184) (fun _ _ => ⟨rfl, K163, (by decide : 14 + 0 ≤ _), (by decide : 26 + 0 ≤ _)⟩)
                dsimp only [Pt.U, Pt.locs, Pt.cells, Pt.slots] at X164 l164 y164 z164 st164 hQ164
                subst l164 y164 z164
                obtain ⟨rfl, M164, K164⟩ := hQ164
                have N164 := Fr.app N163 M164
                refine own_by st164 ?_
                by_cases hc165 : (own_pk2 x1 &&& (255 : Int32)) = (own_pk2 yy &&& (255 : Int32))
                · skip
                  refine own_by (fun _ k => XS.icmpNo X164.here hx rfl (hb hby at_187) rfl (teq hc165).2 k) ?_
                  show own_Go p e below (T164.setTop (mkF m 190 #[.val (.int x1), .val (.int y1), .val (.int f1), .val (.int (3 : Int32)), .val (.int lb), .val (.int md), .val (.int yy), .val (.ref r1_2), .val (.ref r1_4), .val (.ref ob5), .val (.ref ob17), .unset] [])) _
                  refine own_by (fun _ k => XS.iconst X164.here hx rfl (hb hby at_190) k) ?_
                  refine own_by (fun _ k => XS.goto X164.here hx rfl (pc0 := 191) (pc' := 195) rfl (hb hby at_191) (by decide) (by decide) k) ?_
                  refine own_by (fun _ k => XS.istore X164.here hx rfl (hb hby at_195) rfl (l' := #[.val (.int x1), .val (.int y1), .val (.int f1), .val (.int (3 : Int32)), .val (.int lb), .val (.int md), .val (.int yy), .val (.ref r1_2), .val (.ref r1_4), .val (.ref ob5), .val (.ref ob17), .val (.int (1 : Int32))]) rfl k) ?_
                  refine own_by (fun _ k => XS.aload X164.here hx rfl (hb hby at_197) rfl rfl k) ?_
                  show own_Go p e below (T164.setTop (mkF m 199 #[.val (.int x1), .val (.int y1), .val (.int f1), .val (.int (3 : Int32)), .val (.int lb), .val (.int md), .val (.int yy), .val (.ref r1_2), .val (.ref r1_4), .val (.ref ob5), .val (.ref ob17), .val (.int (1 : Int32))] [(.ref ob5)])) _
                  refine own_by (fun _ k => XS.aload X164.here hx rfl (hb hby at_199) rfl rfl k) ?_
                  have fc166 : Exa Z T19.heap ob5 "com/example/living_lease/livinglease/redis/Resp$Error" := ((g7_0.ext E17).keep K19)
                  have fc167 : Fld Z T19.heap ob5 "com/example/living_lease/livinglease/redis/Resp$Error" "message" "Ljava/lang/String;" (.ref r1_2) := ((g7_1.ext E17).keep K19 (ninS (own_ne (by omega)) nin0))
                  have fc168 : Exa Z T19.heap r1_2 "java/lang/String" := ((fc8.ext E17).keep K19)
                  have fc169 : Fld Z T19.heap r1_2 "java/lang/String" "coder" "B" (.int (0 : Int32)) := (((((g2_1.keep K4 nin0).ext E5).keep K7 (ninS (own_ne (by omega)) nin0)).ext E17).keep K19 (ninS (own_ne (by omega)) nin0))
                  have fc170 : Fld Z T19.heap r1_2 "java/lang/String" "value" "[B" (.ref b_2) := (((((g2_2.keep K4 nin0).ext E5).keep K7 (ninS (own_ne (by omega)) nin0)).ext E17).keep K19 (ninS (own_ne (by omega)) nin0))
                  have fc171 : Arv Z T19.heap b_2 kb_2 .byte (3 : Int32) (own_bs x1 (3 : Int32)) (.int (0 : Int32)) := (((((g2_3.keep K4 nin0).ext E5).keep K7 (ninS (own_ne (by omega)) nin0)).ext E17).keep K19 (ninS (own_ne (by omega)) nin0))
                  have fc172 : Exa Z T19.heap r1_4 "java/lang/String" := ((((g4_0.ext E5).keep K7).ext E17).keep K19)
                  have fc173 : Fld Z T19.heap r1_4 "java/lang/String" "coder" "B" (.int (0 : Int32)) := ((((g4_1.ext E5).keep K7 (ninS (own_ne (by omega)) nin0)).ext E17).keep K19 (ninS (own_ne (by omega)) nin0))
                  have fc174 : Fld Z T19.heap r1_4 "java/lang/String" "value" "[B" (.ref b_4) := ((((g4_2.ext E5).keep K7 (ninS (own_ne (by omega)) nin0)).ext E17).keep K19 (ninS (own_ne (by omega)) nin0))
                  have fc175 : Arv Z T19.heap b_4 kb_4 .byte lb (own_bs yy lb) (.int (0 : Int32)) := ((((g4_3.ext E5).keep K7 (ninS (own_ne (by omega)) nin0)).ext E17).keep K19 (ninS (own_ne (by omega)) nin0))
                  obtain ⟨cq176, kq176, q176a, q176b, q176c⟩ := isOf hZ4 K164 fc166
                  obtain ⟨_, _, ⟨T176, L176, k176, n176⟩, -, X176, ⟨Lc176, hQ176, l176, y176, z176⟩, st176⟩ := X164.virtualBack hx (y := (⟨"com/example/living_lease/livinglease/redis/Resp$Error", "equals", "(Ljava/lang/Object;)Z"⟩ : MethodName)) (z := (⟨"com/example/living_lease/livinglease/redis/Resp$Error", "equals", "(Ljava/lang/Object;)Z"⟩ : MethodName)) ho4 (mvT hZ4 (own_w hw 49 rfl)) (mvT hZ4 (own_w hw 50 rfl)) (notFace_of_selects (args := #[]) (mvT hZ4 (own_w hw 52 rfl))) (mvT hZ4 (own_w hw 52 rfl)) (mvT hZ4 (own_w hw 51 rfl)) (by decide) (backOf (W := 0) (rm_qerr l Z a0 hw [] ob5 ob17 r1_2 r1_4 b_2 b_4 kb_2 kb_4 x1 (3 : Int32) yy lb cs T19.heap n0 O156 S_COMPACT fc166 fc167 g19_0 g19_1 fc168 fc169 fc170 fc171 fc172 fc173 fc174 fc175 hcs (own_ne (by omega)) h_la h_lb) hZ4 (own_w hw 53 rfl) (own_w hw 42 rfl) (by decide) (by decide)) q176a q176c (g := (mkF m 201 #[.val (.int x1), .val (.int y1), .val (.int f1), .val (.int (3 : Int32)), .val (.int lb), .val (.int md), .val (.int yy), .val (.ref r1_2), .val (.ref r1_4), .val (.ref ob5), .val (.ref ob17), .val (.int (1 : Int32))] [(.ref ob17), (.ref ob5)])) rfl (by rw [hml]; rfl) (Steps.refl _) (argsL := [(.ref ob17)]) (rest := []) (lenOf own_pd__28Ljava_2flang_2fObject_3b_29Z rfl) rfl (by show 2 * 0 + _ ≤ _; exact Nat.le_of_eq rfl) (hb hby at_201) (fun _ _ => ⟨rfl, K164, (by decide : 14 + 0 ≤ _), (by decide : 26 + 0 ≤ _)⟩)
                  dsimp only [Pt.U, Pt.locs, Pt.cells, Pt.slots] at X176 l176 y176 z176 st176 hQ176
                  subst l176 y176 z176
                  obtain ⟨rfl, M176, K176⟩ := hQ176
                  have N176 := Fr.app N164 M176
                  refine own_by (fun _ k => st176.trans k) ?_
                  refine own_by (fun _ k => XS.iload X176.here hx rfl (hb hby at_204) rfl k) ?_
                  refine own_by (fun _ k => XS.icmpNo X176.here hx rfl (hb hby at_206) rfl (teq ((own_eqs_eq hc155).trans ((own_pre_3 _ _).trans ((own_all_pos (own_b_inj.mpr hc159)).trans ((own_all_pos (own_b_inj.mpr hc162)).trans ((own_all_pos (own_b_inj.mpr hc165)).trans rfl)))))).2 k) ?_
                  show own_Go p e below (T176.setTop (mkF m 209 #[.val (.int x1), .val (.int y1), .val (.int f1), .val (.int (3 : Int32)), .val (.int lb), .val (.int md), .val (.int yy), .val (.ref r1_2), .val (.ref r1_4), .val (.ref ob5), .val (.ref ob17), .val (.int (1 : Int32))] [])) _
                  refine own_by (fun _ k => XS.aload X176.here hx rfl (hb hby at_209) rfl rfl k) ?_
                  refine own_by (fun _ k => XS.aload X176.here hx rfl (hb hby at_211) rfl rfl k) ?_
                  obtain ⟨cq177, kq177, q177a, q177b, q177c⟩ := isOf hZ4 K176 g19_0
                  obtain ⟨_, _, ⟨T177, L177, k177, n177⟩, -, X177, ⟨Lc177, hQ177, l177, y177, z177⟩, st177⟩ := X176.virtualBack hx (y := (⟨"com/example/living_lease/livinglease/redis/Resp$Error", "equals", "(Ljava/lang/Object;)Z"⟩ : MethodName)) (z := (⟨"com/example/living_lease/livinglease/redis/Resp$Error", "equals", "(Ljava/lang/Object;)Z"⟩ : MethodName)) ho4 (mvT hZ4 (own_w hw 49 rfl)) (mvT hZ4 (own_w hw 50 rfl)) (notFace_of_selects (args := #[]) (mvT hZ4 (own_w hw 52 rfl))) (mvT hZ4 (own_w hw 52 rfl)) (mvT hZ4 (own_w hw 51 rfl)) (by decide) (backOf (W := 0) (rm_qerr l Z a0 hw [] ob17 ob5 r1_4 r1_2 b_4 b_2 kb_4 kb_2 yy lb x1 (3 : Int32) cs T19.heap n0 O156 S_COMPACT g19_0 g19_1 fc166 fc167 fc172 fc173 fc174 fc175 fc168 fc169 fc170 fc171 hcs (own_ne (by omega)) h_lb h_la) hZ4 (own_w hw 53 rfl) (own_w hw 42 rfl) (by decide) (by decide)) q177a q177c (g := (mkF m 213 #[.val (.int x1), .val (.int y1), .val (.int f1), .val (.int (3 : Int32)), .val (.int lb), .val (.int md), .val (.int yy), .val (.ref r1_2), .val (.ref r1_4), .val (.ref ob5), .val (.ref ob17), .val (.int (1 : Int32))] [(.ref ob5), (.ref ob17)])) rfl (by rw [hml]; rfl) (Steps.refl _) (argsL := [(.ref ob5)]) (rest := []) (lenOf own_pd__28Ljava_2flang_2fObject_3b_29Z rfl) rfl (by show 2 * 0 + _ ≤ _; exact Nat.le_of_eq rfl) (hb hby at_213) (fun _ _ => ⟨rfl, K176, (by decide : 14 + 0 ≤ _), (by decide : 26 + 0 ≤ _)⟩)
                  dsimp only [Pt.U, Pt.locs, Pt.cells, Pt.slots] at X177 l177 y177 z177 st177 hQ177
                  subst l177 y177 z177
                  obtain ⟨rfl, M177, K177⟩ := hQ177
                  have N177 := Fr.app N176 M177
                  refine own_by (fun _ k => st177.trans k) ?_
                  refine own_by (fun _ k => XS.iload X177.here hx rfl (hb hby at_216) rfl k) ?_
                  show own_Go p e below (T177.setTop (mkF m 218 #[.val (.int x1), .val (.int y1), .val (.int f1), .val (.int (3 : Int32)), .val (.int lb), .val (.int md), .val (.int yy), .val (.ref r1_2), .val (.ref r1_4), .val (.ref ob5), .val (.ref ob17), .val (.int (1 : Int32))] [(.int (1 : Int32)), (.int (own_eqs yy lb x1 (3 : Int32)))])) _
                  refine own_by (fun _ k => XS.icmpNo X177.here hx rfl (hb hby at_218) rfl (teq (by rw [← hc155]; exact (own_eqs_eq rfl).trans ((own_pre_3 _ _).trans ((own_all_pos (own_b_inj.mpr hc159.symm)).trans ((own_all_pos (own_b_inj.mpr hc162.symm)).trans ((own_all_pos (own_b_inj.mpr hc165.symm)).trans rfl)))))).2 k) ?_
                  show own_Go p e below (T177.setTop (mkF m 221 #[.val (.int x1), .val (.int y1), .val (.int f1), .val (.int (3 : Int32)), .val (.int lb), .val (.int md), .val (.int yy), .val (.ref r1_2), .val (.ref r1_4), .val (.ref ob5), .val (.ref ob17), .val (.int (1 : Int32))] [])) _
                  refine own_by (fun _ k => XS.iconst X177.here hx rfl (hb hby at_221) k) ?_
                  refine own_by (fun _ k => XS.goto X177.here hx rfl (pc0 := 222) (pc' := 226) rfl (hb hby at_222) (by decide) (by decide) k) ?_
                  have K178 : Keep h0 T19.heap [] := (((((((Keep.refl h0 []).trans K2 all0).trans K4 all0).ext E5).trans K7 (allS (P := fun x => x ∈ [] ∨ h0.size ≤ x) (Or.inr (by omega)) all0)).ext E17).trans K19 (allS (P := fun x => x ∈ [] ∨ h0.size ≤ x) (Or.inr (by omega)) all0))
                  obtain ⟨fs, hr, hrun, hended, hW⟩ := X177.leaveW S4 (by first | omega | (rw [K177]; omega)) (v := some (.int (1 : Int32))) (fun h => by rw [Bd.returns] at h; cases h)
                  have RR := R19.trans (CHv.at X177 hZ4 hEL R19.1)
                  have RR' : CHr Z own_EL s.vm s.heap T177.vm T177.heap := by rw [hh, K177]; exact RR
                  refine ⟨_, _, retN X177 hx (t := .boolean) Bd.returns (by simp) (hb hby at_226) hr, hrun, hended, _, _, rfl, ?_, RR', ⟨_, rfl⟩, hW.2.1, hW.2.2.1, hW.2.2.2.mono (by decide) (by decide)⟩
                  show Q_rm_law Z x1 y1 f1 cs h0 n0 _ T177.heap _
                  rw [K177]
                  exact ⟨rfl, N177, K178⟩
                · skip
                  refine own_by (fun _ k => XS.icmpYes X164.here hx rfl (pc0 := 187) (pc' := 194) rfl (hb hby at_187) rfl (feq hc165).2 (by decide) (by decide) k) ?_
                  show own_Go p e below (T164.setTop (mkF m 194 #[.val (.int x1), .val (.int y1), .val (.int f1), .val (.int (3 : Int32)), .val (.int lb), .val (.int md), .val (.int yy), .val (.ref r1_2), .val (.ref r1_4), .val (.ref ob5), .val (.ref ob17), .unset] [])) _
                  refine own_by (fun _ k => XS.iconst X164.here hx rfl (hb hby at_194) k) ?_
                  refine own_by (fun _ k => XS.istore X164.here hx rfl (hb hby at_195) rfl (l' := #[.val (.int x1), .val (.int y1), .val (.int f1), .val (.int (3 : Int32)), .val (.int lb), .val (.int md), .val (.int yy), .val (.ref r1_2), .val (.ref r1_4), .val (.ref ob5), .val (.ref ob17), .val (.int (0 : Int32))]) rfl k) ?_
                  refine own_by (fun _ k => XS.aload X164.here hx rfl (hb hby at_197) rfl rfl k) ?_
                  refine own_by (fun _ k => XS.aload X164.here hx rfl (hb hby at_199) rfl rfl k) ?_
                  show own_Go p e below (T164.setTop (mkF m 201 #[.val (.int x1), .val (.int y1), .val (.int f1), .val (.int (3 : Int32)), .val (.int lb), .val (.int md), .val (.int yy), .val (.ref r1_2), .val (.ref r1_4), .val (.ref ob5), .val (.ref ob17), .val (.int (0 : Int32))] [(.ref ob17), (.ref ob5)])) _
                  have fc179 : Exa Z T19.heap ob5 "com/example/living_lease/livinglease/redis/Resp$Error" := ((g7_0.ext E17).keep K19)
                  have fc180 : Fld Z T19.heap ob5 "com/example/living_lease/livinglease/redis/Resp$Error" "message" "Ljava/lang/String;" (.ref r1_2) := ((g7_1.ext E17).keep K19 (ninS (own_ne (by omega)) nin0))
                  have fc181 : Exa Z T19.heap r1_2 "java/lang/String" := ((fc8.ext E17).keep K19)
                  have fc182 : Fld Z T19.heap r1_2 "java/lang/String" "coder" "B" (.int (0 : Int32)) := (((((g2_1.keep K4 nin0).ext E5).keep K7 (ninS (own_ne (by omega)) nin0)).ext E17).keep K19 (ninS (own_ne (by omega)) nin0))
                  have fc183 : Fld Z T19.heap r1_2 "java/lang/String" "value" "[B" (.ref b_2) := (((((g2_2.keep K4 nin0).ext E5).keep K7 (ninS (own_ne (by omega)) nin0)).ext E17).keep K19 (ninS (own_ne (by omega)) nin0))
                  have fc184 : Arv Z T19.heap b_2 kb_2 .byte (3 : Int32) (own_bs x1 (3 : Int32)) (.int (0 : Int32)) := (((((g2_3.keep K4 nin0).ext E5).keep K7 (ninS (own_ne (by omega)) nin0)).ext E17).keep K19 (ninS (own_ne (by omega)) nin0))
                  have fc185 : Exa Z T19.heap r1_4 "java/lang/String" := ((((g4_0.ext E5).keep K7).ext E17).keep K19)
                  have fc186 : Fld Z T19.heap r1_4 "java/lang/String" "coder" "B" (.int (0 : Int32)) := ((((g4_1.ext E5).keep K7 (ninS (own_ne (by omega)) nin0)).ext E17).keep K19 (ninS (own_ne (by omega)) nin0))
                  have fc187 : Fld Z T19.heap r1_4 "java/lang/String" "value" "[B" (.ref b_4) := ((((g4_2.ext E5).keep K7 (ninS (own_ne (by omega)) nin0)).ext E17).keep K19 (ninS (own_ne (by omega)) nin0))
                  have fc188 : Arv Z T19.heap b_4 kb_4 .byte lb (own_bs yy lb) (.int (0 : Int32)) := ((((g4_3.ext E5).keep K7 (ninS (own_ne (by omega)) nin0)).ext E17).keep K19 (ninS (own_ne (by omega)) nin0))
                  obtain ⟨cq189, kq189, q189a, q189b, q189c⟩ := isOf hZ4 K164 fc179
                  obtain ⟨_, _, ⟨T189, L189, k189, n189⟩, -, X189, ⟨Lc189, hQ189, l189, y189, z189⟩, st189⟩ := X164.virtualBack hx (y := (⟨"com/example/living_lease/livinglease/redis/Resp$Error", "equals", "(Ljava/lang/Object;)Z"⟩ : MethodName)) (z := (⟨"com/example/living_lease/livinglease/redis/Resp$Error", "equals", "(Ljava/lang/Object;)Z"⟩ : MethodName)) ho4 (mvT hZ4 (own_w hw 49 rfl)) (mvT hZ4 (own_w hw 50 rfl)) (notFace_of_selects (args := #[]) (mvT hZ4 (own_w hw 52 rfl))) (mvT hZ4 (own_w hw 52 rfl)) (mvT hZ4 (own_w hw 51 rfl)) (by decide) (backOf (W := 0) (rm_qerr l Z a0 hw [] ob5 ob17 r1_2 r1_4 b_2 b_4 kb_2 kb_4 x1 (3 : Int32) yy lb cs T19.heap n0 O156 S_COMPACT fc179 fc180 g19_0 g19_1 fc181 fc182 fc183 fc184 fc185 fc186 fc187 fc188 hcs (own_ne (by omega)) h_la h_lb) hZ4 (own_w hw 53 rfl) (own_w hw 42 rfl) (by decide) (by decide)) q189a q189c (g := (mkF m 201 #[.val (.int x1), .val (.int y1), .val (.int f1), .val (.int (3 : Int32)), .val (.int lb), .val (.int md), .val (.int yy), .val (.ref r1_2), .val (.ref r1_4), .val (.ref ob5), .val (.ref ob17), .val (.int (0 : Int32))] [(.ref ob17), (.ref ob5)])) rfl (by rw [hml]; rfl) (Steps.refl _) (argsL := [(.ref ob17)]) (rest := []) (lenOf own_pd__28Ljava_2flang_2fObject_3b_29Z rfl) rfl (by show 2 * 0 + _ ≤ _; exact Nat.le_of_eq rfl) (hb hby at_201) (fun _ _ => ⟨rfl, K164, (by decide : 14 + 0 ≤ _), (by decide : 26 + 0 ≤ _)⟩)
                  dsimp only [Pt.U, Pt.locs, Pt.cells, Pt.slots] at X189 l189 y189 z189 st189 hQ189
                  subst l189 y189 z189
                  obtain ⟨rfl, M189, K189⟩ := hQ189
                  have N189 := Fr.app N164 M189
                  refine own_by (fun _ k => st189.trans k) ?_
                  refine own_by (fun _ k => XS.iload X189.here hx rfl (hb hby at_204) rfl k) ?_
                  refine own_by (fun _ k => XS.icmpNo X189.here hx rfl (hb hby at_206) rfl (teq ((own_eqs_eq hc155).trans ((own_pre_3 _ _).trans ((own_all_pos (own_b_inj.mpr hc159)).trans ((own_all_pos (own_b_inj.mpr hc162)).trans (own_all_neg fun q => hc165 (own_b_inj.mp q))))))).2 k) ?_
                  show own_Go p e below (T189.setTop (mkF m 209 #[.val (.int x1), .val (.int y1), .val (.int f1), .val (.int (3 : Int32)), .val (.int lb), .val (.int md), .val (.int yy), .val (.ref r1_2), .val (.ref r1_4), .val (.ref ob5), .val (.ref ob17), .val (.int (0 : Int32))] [])) _
                  refine own_by (fun _ k => XS.aload X189.here hx rfl (hb hby at_209) rfl rfl k) ?_
                  refine own_by (fun _ k => XS.aload X189.here hx rfl (hb hby at_211) rfl rfl k) ?_
                  obtain ⟨cq190, kq190, q190a, q190b, q190c⟩ := isOf hZ4 K189 g19_0
                  obtain ⟨_, _, ⟨T190, L190, k190, n190⟩, -, X190, ⟨Lc190, hQ190, l190, y190, z190⟩, st190⟩ := X189.virtualBack hx (y := (⟨"com/example/living_lease/livinglease/redis/Resp$Error", "equals", "(Ljava/lang/Object;)Z"⟩ : MethodName)) (z := (⟨"com/example/living_lease/livinglease/redis/Resp$Error", "equals", "(Ljava/lang/Object;)Z"⟩ : MethodName)) ho4 (mvT hZ4 (own_w hw 49 rfl)) (mvT hZ4 (own_w hw 50 rfl)) (notFace_of_selects (args := #[]) (mvT hZ4 (own_w hw 52 rfl))) (mvT hZ4 (own_w hw 52 rfl)) (mvT hZ4 (own_w hw 51 rfl)) (by decide) (backOf (W := 0) (rm_qerr l Z a0 hw [] ob17 ob5 r1_4 r1_2 b_4 b_2 kb_4 kb_2 yy lb x1 (3 : Int32) cs T19.heap n0 O156 S_COMPACT g19_0 g19_1 fc179 fc180 fc185 fc186 fc187 fc188 fc181 fc182 fc183 fc184 hcs (own_ne (by omega)) h_lb h_la) hZ4 (own_w hw 53 rfl) (own_w hw 42 rfl) (by decide) (by decide)) q190a q190c (g := (mkF m 213 #[.val (.int x1), .val (.int y1), .val (.int f1), .val (.int (3 : Int32)), .val (.int lb), .val (.int md), .val (.int yy), .val (.ref r1_2), .val (.ref r1_4), .val (.ref ob5), .val (.ref ob17), .val (.int (0 : Int32))] [(.ref ob5), (.ref ob17)])) rfl (by rw [hml]; rfl) (Steps.refl _) (argsL := [(.ref ob5)]) (rest := []) (lenOf own_pd__28Ljava_2flang_2fObject_3b_29Z rfl) rfl (by show 2 * 0 + _ ≤ _; exact Nat.le_of_eq rfl) (hb hby at_213) (fun _ _ => ⟨rfl, K189, (by decide : 14 + 0 ≤ _), (by decide : 26 + 0 ≤ _)⟩)
                  dsimp only [Pt.U, Pt.locs, Pt.cells, Pt.slots] at X190 l190 y190 z190 st190 hQ190
                  subst l190 y190 z190
                  obtain ⟨rfl, M190, K190⟩ := hQ190
                  have N190 := Fr.app N189 M190
                  refine own_by (fun _ k => st190.trans k) ?_
                  refine own_by (fun _ k => XS.iload X190.here hx rfl (hb hby at_216) rfl k) ?_
                  show own_Go p e below (T190.setTop (mkF m 218 #[.val (.int x1), .val (.int y1), .val (.int f1), .val (.int (3 : Int32)), .val (.int lb), .val (.int md), .val (.int yy), .val (.ref r1_2), .val (.ref r1_4), .val (.ref ob5), .val (.ref ob17), .val (.int (0 : Int32))] [(.int (0 : Int32)), (.int (own_eqs yy lb x1 (3 : Int32)))])) _
                  refine own_by (fun _ k => XS.icmpNo X190.here hx rfl (hb hby at_218) rfl (teq (by rw [← hc155]; exact (own_eqs_eq rfl).trans ((own_pre_3 _ _).trans ((own_all_pos (own_b_inj.mpr hc159.symm)).trans ((own_all_pos (own_b_inj.mpr hc162.symm)).trans (own_all_neg fun q => hc165 (own_b_inj.mp q).symm)))))).2 k) ?_
                  show own_Go p e below (T190.setTop (mkF m 221 #[.val (.int x1), .val (.int y1), .val (.int f1), .val (.int (3 : Int32)), .val (.int lb), .val (.int md), .val (.int yy), .val (.ref r1_2), .val (.ref r1_4), .val (.ref ob5), .val (.ref ob17), .val (.int (0 : Int32))] [])) _
                  refine own_by (fun _ k => XS.iconst X190.here hx rfl (hb hby at_221) k) ?_
                  refine own_by (fun _ k => XS.goto X190.here hx rfl (pc0 := 222) (pc' := 226) rfl (hb hby at_222) (by decide) (by decide) k) ?_
                  have K191 : Keep h0 T19.heap [] := (((((((Keep.refl h0 []).trans K2 all0).trans K4 all0).ext E5).trans K7 (allS (P := fun x => x ∈ [] ∨ h0.size ≤ x) (Or.inr (by omega)) all0)).ext E17).trans K19 (allS (P := fun x => x ∈ [] ∨ h0.size ≤ x) (Or.inr (by omega)) all0))
                  obtain ⟨fs, hr, hrun, hended, hW⟩ := X190.leaveW S4 (by first | omega | (rw [K190]; omega)) (v := some (.int (1 : Int32))) (fun h => by rw [Bd.returns] at h; cases h)
                  have RR := R19.trans (CHv.at X190 hZ4 hEL R19.1)
                  have RR' : CHr Z own_EL s.vm s.heap T190.vm T190.heap := by rw [hh, K190]; exact RR
                  refine ⟨_, _, retN X190 hx (t := .boolean) Bd.returns (by simp) (hb hby at_226) hr, hrun, hended, _, _, rfl, ?_, RR', ⟨_, rfl⟩, hW.2.1, hW.2.2.1, hW.2.2.2.mono (by decide) (by decide)⟩
                  show Q_rm_law Z x1 y1 f1 cs h0 n0 _ T190.heap _
                  rw [K190]
                  exact ⟨rfl, N190, K191⟩
              · skip
                refine own_by (fun _ k => XS.icmpYes X161.here hx rfl (pc0 := 168) (pc' := 194) rfl (hb hby at_168) rfl (feq hc162).2 (by decide) (by decide) k) ?_
                show own_Go p e below (T161.setTop (mkF m 194 #[.val (.int x1), .val (.int y1), .val (.int f1), .val (.int (3 : Int32)), .val (.int lb), .val (.int md), .val (.int yy), .val (.ref r1_2), .val (.ref r1_4), .val (.ref ob5), .val (.ref ob17), .unset] [])) _
                refine own_by (fun _ k => XS.iconst X161.here hx rfl (hb hby at_194) k) ?_
                refine own_by (fun _ k => XS.istore X161.here hx rfl (hb hby at_195) rfl (l' := #[.val (.int x1), .val (.int y1), .val (.int f1), .val (.int (3 : Int32)), .val (.int lb), .val (.int md), .val (.int yy), .val (.ref r1_2), .val (.ref r1_4), .val (.ref ob5), .val (.ref ob17), .val (.int (0 : Int32))]) rfl k) ?_
                refine own_by (fun _ k => XS.aload X161.here hx rfl (hb hby at_197) rfl rfl k) ?_
                refine own_by (fun _ k => XS.aload X161.here hx rfl (hb hby at_199) rfl rfl k) ?_
                show own_Go p e below (T161.setTop (mkF m 201 #[.val (.int x1), .val (.int y1), .val (.int f1), .val (.int (3 : Int32)), .val (.int lb), .val (.int md), .val (.int yy), .val (.ref r1_2), .val (.ref r1_4), .val (.ref ob5), .val (.ref ob17), .val (.int (0 : Int32))] [(.ref ob17), (.ref ob5)])) _
                have fc192 : Exa Z T19.heap ob5 "com/example/living_lease/livinglease/redis/Resp$Error" := ((g7_0.ext E17).keep K19)
                have fc193 : Fld Z T19.heap ob5 "com/example/living_lease/livinglease/redis/Resp$Error" "message" "Ljava/lang/String;" (.ref r1_2) := ((g7_1.ext E17).keep K19 (ninS (own_ne (by omega)) nin0))
                have fc194 : Exa Z T19.heap r1_2 "java/lang/String" := ((fc8.ext E17).keep K19)
                have fc195 : Fld Z T19.heap r1_2 "java/lang/String" "coder" "B" (.int (0 : Int32)) := (((((g2_1.keep K4 nin0).ext E5).keep K7 (ninS (own_ne (by omega)) nin0)).ext E17).keep K19 (ninS (own_ne (by omega)) nin0))
                have fc196 : Fld Z T19.heap r1_2 "java/lang/String" "value" "[B" (.ref b_2) := (((((g2_2.keep K4 nin0).ext E5).keep K7 (ninS (own_ne (by omega)) nin0)).ext E17).keep K19 (ninS (own_ne (by omega)) nin0))
                have fc197 : Arv Z T19.heap b_2 kb_2 .byte (3 : Int32) (own_bs x1 (3 : Int32)) (.int (0 : Int32)) := (((((g2_3.keep K4 nin0).ext E5).keep K7 (ninS (own_ne (by omega)) nin0)).ext E17).keep K19 (ninS (own_ne (by omega)) nin0))
                have fc198 : Exa Z T19.heap r1_4 "java/lang/String" := ((((g4_0.ext E5).keep K7).ext E17).keep K19)
                have fc199 : Fld Z T19.heap r1_4 "java/lang/String" "coder" "B" (.int (0 : Int32)) := ((((g4_1.ext E5).keep K7 (ninS (own_ne (by omega)) nin0)).ext E17).keep K19 (ninS (own_ne (by omega)) nin0))
                have fc200 : Fld Z T19.heap r1_4 "java/lang/String" "value" "[B" (.ref b_4) := ((((g4_2.ext E5).keep K7 (ninS (own_ne (by omega)) nin0)).ext E17).keep K19 (ninS (own_ne (by omega)) nin0))
                have fc201 : Arv Z T19.heap b_4 kb_4 .byte lb (own_bs yy lb) (.int (0 : Int32)) := ((((g4_3.ext E5).keep K7 (ninS (own_ne (by omega)) nin0)).ext E17).keep K19 (ninS (own_ne (by omega)) nin0))
                obtain ⟨cq202, kq202, q202a, q202b, q202c⟩ := isOf hZ4 K161 fc192
                obtain ⟨_, _, ⟨T202, L202, k202, n202⟩, -, X202, ⟨Lc202, hQ202, l202, y202, z202⟩, st202⟩ := X161.virtualBack hx (y := (⟨"com/example/living_lease/livinglease/redis/Resp$Error", "equals", "(Ljava/lang/Object;)Z"⟩ : MethodName)) (z := (⟨"com/example/living_lease/livinglease/redis/Resp$Error", "equals", "(Ljava/lang/Object;)Z"⟩ : MethodName)) ho4 (mvT hZ4 (own_w hw 49 rfl)) (mvT hZ4 (own_w hw 50 rfl)) (notFace_of_selects (args := #[]) (mvT hZ4 (own_w hw 52 rfl))) (mvT hZ4 (own_w hw 52 rfl)) (mvT hZ4 (own_w hw 51 rfl)) (by decide) (backOf (W := 0) (rm_qerr l Z a0 hw [] ob5 ob17 r1_2 r1_4 b_2 b_4 kb_2 kb_4 x1 (3 : Int32) yy lb cs T19.heap n0 O156 S_COMPACT fc192 fc193 g19_0 g19_1 fc194 fc195 fc196 fc197 fc198 fc199 fc200 fc201 hcs (own_ne (by omega)) h_la h_lb) hZ4 (own_w hw 53 rfl) (own_w hw 42 rfl) (by decide) (by decide)) q202a q202c (g := (mkF m 201 #[.val (.int x1), .val (.int y1), .val (.int f1), .val (.int (3 : Int32)), .val (.int lb), .val (.int md), .val (.int yy), .val (.ref r1_2), .val (.ref r1_4), .val (.ref ob5), .val (.ref ob17), .val (.int (0 : Int32))] [(.ref ob17), (.ref ob5)])) rfl (by rw [hml]; rfl) (Steps.refl _) (argsL := [(.ref ob17)]) (rest := []) (lenOf own_pd__28Ljava_2flang_2fObject_3b_29Z rfl) rfl (by show 2 * 0 + _ ≤ _; exact Nat.le_of_eq rfl) (hb hby at_201) (fun _ _ => ⟨rfl, K161, (by decide : 14 + 0 ≤ _), (by decide : 26 + 0 ≤ _)⟩)
                dsimp only [Pt.U, Pt.locs, Pt.cells, Pt.slots] at X202 l202 y202 z202 st202 hQ202
                subst l202 y202 z202
                obtain ⟨rfl, M202, K202⟩ := hQ202
                have N202 := Fr.app N161 M202
                refine own_by (fun _ k => st202.trans k) ?_
                refine own_by (fun _ k => XS.iload X202.here hx rfl (hb hby at_204) rfl k) ?_
                refine own_by (fun _ k => XS.icmpNo X202.here hx rfl (hb hby at_206) rfl (teq ((own_eqs_eq hc155).trans ((own_pre_3 _ _).trans ((own_all_pos (own_b_inj.mpr hc159)).trans (own_all_neg fun q => hc162 (own_b_inj.mp q)))))).2 k) ?_
                show own_Go p e below (T202.setTop (mkF m 209 #[.val (.int x1), .val (.int y1), .val (.int f1), .val (.int (3 : Int32)), .val (.int lb), .val (.int md), .val (.int yy), .val (.ref r1_2), .val (.ref r1_4), .val (.ref ob5), .val (.ref ob17), .val (.int (0 : Int32))] [])) _
                refine own_by (fun _ k => XS.aload X202.here hx rfl (hb hby at_209) rfl rfl k) ?_
                refine own_by (fun _ k => XS.aload X202.here hx rfl (hb hby at_211) rfl rfl k) ?_
                obtain ⟨cq203, kq203, q203a, q203b, q203c⟩ := isOf hZ4 K202 g19_0
                obtain ⟨_, _, ⟨T203, L203, k203, n203⟩, -, X203, ⟨Lc203, hQ203, l203, y203, z203⟩, st203⟩ := X202.virtualBack hx (y := (⟨"com/example/living_lease/livinglease/redis/Resp$Error", "equals", "(Ljava/lang/Object;)Z"⟩ : MethodName)) (z := (⟨"com/example/living_lease/livinglease/redis/Resp$Error", "equals", "(Ljava/lang/Object;)Z"⟩ : MethodName)) ho4 (mvT hZ4 (own_w hw 49 rfl)) (mvT hZ4 (own_w hw 50 rfl)) (notFace_of_selects (args := #[]) (mvT hZ4 (own_w hw 52 rfl))) (mvT hZ4 (own_w hw 52 rfl)) (mvT hZ4 (own_w hw 51 rfl)) (by decide) (backOf (W := 0) (rm_qerr l Z a0 hw [] ob17 ob5 r1_4 r1_2 b_4 b_2 kb_4 kb_2 yy lb x1 (3 : Int32) cs T19.heap n0 O156 S_COMPACT g19_0 g19_1 fc192 fc193 fc198 fc199 fc200 fc201 fc194 fc195 fc196 fc197 hcs (own_ne (by omega)) h_lb h_la) hZ4 (own_w hw 53 rfl) (own_w hw 42 rfl) (by decide) (by decide)) q203a q203c (g := (mkF m 213 #[.val (.int x1), .val (.int y1), .val (.int f1), .val (.int (3 : Int32)), .val (.int lb), .val (.int md), .val (.int yy), .val (.ref r1_2), .val (.ref r1_4), .val (.ref ob5), .val (.ref ob17), .val (.int (0 : Int32))] [(.ref ob5), (.ref ob17)])) rfl (by rw [hml]; rfl) (Steps.refl _) (argsL := [(.ref ob5)]) (rest := []) (lenOf own_pd__28Ljava_2flang_2fObject_3b_29Z rfl) rfl (by show 2 * 0 + _ ≤ _; exact Nat.le_of_eq rfl) (hb hby at_213) (fun _ _ => ⟨rfl, K202, (by decide : 14 + 0 ≤ _), (by decide : 26 + 0 ≤ _)⟩)
                dsimp only [Pt.U, Pt.locs, Pt.cells, Pt.slots] at X203 l203 y203 z203 st203 hQ203
                subst l203 y203 z203
                obtain ⟨rfl, M203, K203⟩ := hQ203
                have N203 := Fr.app N202 M203
                refine own_by (fun _ k => st203.trans k) ?_
                refine own_by (fun _ k => XS.iload X203.here hx rfl (hb hby at_216) rfl k) ?_
                show own_Go p e below (T203.setTop (mkF m 218 #[.val (.int x1), .val (.int y1), .val (.int f1), .val (.int (3 : Int32)), .val (.int lb), .val (.int md), .val (.int yy), .val (.ref r1_2), .val (.ref r1_4), .val (.ref ob5), .val (.ref ob17), .val (.int (0 : Int32))] [(.int (0 : Int32)), (.int (own_eqs yy lb x1 (3 : Int32)))])) _
                refine own_by (fun _ k => XS.icmpNo X203.here hx rfl (hb hby at_218) rfl (teq (by rw [← hc155]; exact (own_eqs_eq rfl).trans ((own_pre_3 _ _).trans ((own_all_pos (own_b_inj.mpr hc159.symm)).trans (own_all_neg fun q => hc162 (own_b_inj.mp q).symm))))).2 k) ?_
                show own_Go p e below (T203.setTop (mkF m 221 #[.val (.int x1), .val (.int y1), .val (.int f1), .val (.int (3 : Int32)), .val (.int lb), .val (.int md), .val (.int yy), .val (.ref r1_2), .val (.ref r1_4), .val (.ref ob5), .val (.ref ob17), .val (.int (0 : Int32))] [])) _
                refine own_by (fun _ k => XS.iconst X203.here hx rfl (hb hby at_221) k) ?_
                refine own_by (fun _ k => XS.goto X203.here hx rfl (pc0 := 222) (pc' := 226) rfl (hb hby at_222) (by decide) (by decide) k) ?_
                have K204 : Keep h0 T19.heap [] := (((((((Keep.refl h0 []).trans K2 all0).trans K4 all0).ext E5).trans K7 (allS (P := fun x => x ∈ [] ∨ h0.size ≤ x) (Or.inr (by omega)) all0)).ext E17).trans K19 (allS (P := fun x => x ∈ [] ∨ h0.size ≤ x) (Or.inr (by omega)) all0))
                obtain ⟨fs, hr, hrun, hended, hW⟩ := X203.leaveW S4 (by first | omega | (rw [K203]; omega)) (v := some (.int (1 : Int32))) (fun h => by rw [Bd.returns] at h; cases h)
                have RR := R19.trans (CHv.at X203 hZ4 hEL R19.1)
                have RR' : CHr Z own_EL s.vm s.heap T203.vm T203.heap := by rw [hh, K203]; exact RR
                refine ⟨_, _, retN X203 hx (t := .boolean) Bd.returns (by simp) (hb hby at_226) hr, hrun, hended, _, _, rfl, ?_, RR', ⟨_, rfl⟩, hW.2.1, hW.2.2.1, hW.2.2.2.mono (by decide) (by decide)⟩
                show Q_rm_law Z x1 y1 f1 cs h0 n0 _ T203.heap _
                rw [K203]
                exact ⟨rfl, N203, K204⟩
            · skip
              refine own_by (fun _ k => XS.icmpYes X158.here hx rfl (pc0 := 149) (pc' := 194) rfl (hb hby at_149) rfl (feq hc159).2 (by decide) (by decide) k) ?_
              show own_Go p e below (T158.setTop (mkF m 194 #[.val (.int x1), .val (.int y1), .val (.int f1), .val (.int (3 : Int32)), .val (.int lb), .val (.int md), .val (.int yy), .val (.ref r1_2), .val (.ref r1_4), .val (.ref ob5), .val (.ref ob17), .unset] [])) _
              refine own_by (fun _ k => XS.iconst X158.here hx rfl (hb hby at_194) k) ?_
              refine own_by (fun _ k => XS.istore X158.here hx rfl (hb hby at_195) rfl (l' := #[.val (.int x1), .val (.int y1), .val (.int f1), .val (.int (3 : Int32)), .val (.int lb), .val (.int md), .val (.int yy), .val (.ref r1_2), .val (.ref r1_4), .val (.ref ob5), .val (.ref ob17), .val (.int (0 : Int32))]) rfl k) ?_
              refine own_by (fun _ k => XS.aload X158.here hx rfl (hb hby at_197) rfl rfl k) ?_
              refine own_by (fun _ k => XS.aload X158.here hx rfl (hb hby at_199) rfl rfl k) ?_
              show own_Go p e below (T158.setTop (mkF m 201 #[.val (.int x1), .val (.int y1), .val (.int f1), .val (.int (3 : Int32)), .val (.int lb), .val (.int md), .val (.int yy), .val (.ref r1_2), .val (.ref r1_4), .val (.ref ob5), .val (.ref ob17), .val (.int (0 : Int32))] [(.ref ob17), (.ref ob5)])) _
              have fc205 : Exa Z T19.heap ob5 "com/example/living_lease/livinglease/redis/Resp$Error" := ((g7_0.ext E17).keep K19)
              have fc206 : Fld Z T19.heap ob5 "com/example/living_lease/livinglease/redis/Resp$Error" "message" "Ljava/lang/String;" (.ref r1_2) := ((g7_1.ext E17).keep K19 (ninS (own_ne (by omega)) nin0))
              have fc207 : Exa Z T19.heap r1_2 "java/lang/String" := ((fc8.ext E17).keep K19)
              have fc208 : Fld Z T19.heap r1_2 "java/lang/String" "coder" "B" (.int (0 : Int32)) := (((((g2_1.keep K4 nin0).ext E5).keep K7 (ninS (own_ne (by omega)) nin0)).ext E17).keep K19 (ninS (own_ne (by omega)) nin0))
              have fc209 : Fld Z T19.heap r1_2 "java/lang/String" "value" "[B" (.ref b_2) := (((((g2_2.keep K4 nin0).ext E5).keep K7 (ninS (own_ne (by omega)) nin0)).ext E17).keep K19 (ninS (own_ne (by omega)) nin0))
              have fc210 : Arv Z T19.heap b_2 kb_2 .byte (3 : Int32) (own_bs x1 (3 : Int32)) (.int (0 : Int32)) := (((((g2_3.keep K4 nin0).ext E5).keep K7 (ninS (own_ne (by omega)) nin0)).ext E17).keep K19 (ninS (own_ne (by omega)) nin0))
              have fc211 : Exa Z T19.heap r1_4 "java/lang/String" := ((((g4_0.ext E5).keep K7).ext E17).keep K19)
              have fc212 : Fld Z T19.heap r1_4 "java/lang/String" "coder" "B" (.int (0 : Int32)) := ((((g4_1.ext E5).keep K7 (ninS (own_ne (by omega)) nin0)).ext E17).keep K19 (ninS (own_ne (by omega)) nin0))
              have fc213 : Fld Z T19.heap r1_4 "java/lang/String" "value" "[B" (.ref b_4) := ((((g4_2.ext E5).keep K7 (ninS (own_ne (by omega)) nin0)).ext E17).keep K19 (ninS (own_ne (by omega)) nin0))
              have fc214 : Arv Z T19.heap b_4 kb_4 .byte lb (own_bs yy lb) (.int (0 : Int32)) := ((((g4_3.ext E5).keep K7 (ninS (own_ne (by omega)) nin0)).ext E17).keep K19 (ninS (own_ne (by omega)) nin0))
              obtain ⟨cq215, kq215, q215a, q215b, q215c⟩ := isOf hZ4 K158 fc205
              obtain ⟨_, _, ⟨T215, L215, k215, n215⟩, -, X215, ⟨Lc215, hQ215, l215, y215, z215⟩, st215⟩ := X158.virtualBack hx (y := (⟨"com/example/living_lease/livinglease/redis/Resp$Error", "equals", "(Ljava/lang/Object;)Z"⟩ : MethodName)) (z := (⟨"com/example/living_lease/livinglease/redis/Resp$Error", "equals", "(Ljava/lang/Object;)Z"⟩ : MethodName)) ho4 (mvT hZ4 (own_w hw 49 rfl)) (mvT hZ4 (own_w hw 50 rfl)) (notFace_of_selects (args := #[]) (mvT hZ4 (own_w hw 52 rfl))) (mvT hZ4 (own_w hw 52 rfl)) (mvT hZ4 (own_w hw 51 rfl)) (by decide) (backOf (W := 0) (rm_qerr l Z a0 hw [] ob5 ob17 r1_2 r1_4 b_2 b_4 kb_2 kb_4 x1 (3 : Int32) yy lb cs T19.heap n0 O156 S_COMPACT fc205 fc206 g19_0 g19_1 fc207 fc208 fc209 fc210 fc211 fc212 fc213 fc214 hcs (own_ne (by omega)) h_la h_lb) hZ4 (own_w hw 53 rfl) (own_w hw 42 rfl) (by decide) (by decide)) q215a q215c (g := (mkF m 201 #[.val (.int x1), .val (.int y1), .val (.int f1), .val (.int (3 : Int32)), .val (.int lb), .val (.int md), .val (.int yy), .val (.ref r1_2), .val (.ref r1_4), .val (.ref ob5), .val (.ref ob17), .val (.int (0 : Int32))] [(.ref ob17), (.ref ob5)])) rfl (by rw [hml]; rfl) (Steps.refl _) (argsL := [(.ref ob17)]) (rest := []) (lenOf own_pd__28Ljava_2flang_2fObject_3b_29Z rfl) rfl (by show 2 * 0 + _ ≤ _; exact Nat.le_of_eq rfl) (hb hby at_201) (fun _ _ => ⟨rfl, K158, (by decide : 14 + 0 ≤ _), (by decide : 26 + 0 ≤ _)⟩)
              dsimp only [Pt.U, Pt.locs, Pt.cells, Pt.slots] at X215 l215 y215 z215 st215 hQ215
              subst l215 y215 z215
              obtain ⟨rfl, M215, K215⟩ := hQ215
              have N215 := Fr.app N158 M215
              refine own_by (fun _ k => st215.trans k) ?_
              refine own_by (fun _ k => XS.iload X215.here hx rfl (hb hby at_204) rfl k) ?_
              refine own_by (fun _ k => XS.icmpNo X215.here hx rfl (hb hby at_206) rfl (teq ((own_eqs_eq hc155).trans ((own_pre_3 _ _).trans (own_all_neg fun q => hc159 (own_b_inj.mp q))))).2 k) ?_
              show own_Go p e below (T215.setTop (mkF m 209 #[.val (.int x1), .val (.int y1), .val (.int f1), .val (.int (3 : Int32)), .val (.int lb), .val (.int md), .val (.int yy), .val (.ref r1_2), .val (.ref r1_4), .val (.ref ob5), .val (.ref ob17), .val (.int (0 : Int32))] [])) _
              refine own_by (fun _ k => XS.aload X215.here hx rfl (hb hby at_209) rfl rfl k) ?_
              refine own_by (fun _ k => XS.aload X215.here hx rfl (hb hby at_211) rfl rfl k) ?_
              obtain ⟨cq216, kq216, q216a, q216b, q216c⟩ := isOf hZ4 K215 g19_0
              obtain ⟨_, _, ⟨T216, L216, k216, n216⟩, -, X216, ⟨Lc216, hQ216, l216, y216, z216⟩, st216⟩ := X215.virtualBack hx (y := (⟨"com/example/living_lease/livinglease/redis/Resp$Error", "equals", "(Ljava/lang/Object;)Z"⟩ : MethodName)) (z := (⟨"com/example/living_lease/livinglease/redis/Resp$Error", "equals", "(Ljava/lang/Object;)Z"⟩ : MethodName)) ho4 (mvT hZ4 (own_w hw 49 rfl)) (mvT hZ4 (own_w hw 50 rfl)) (notFace_of_selects (args := #[]) (mvT hZ4 (own_w hw 52 rfl))) (mvT hZ4 (own_w hw 52 rfl)) (mvT hZ4 (own_w hw 51 rfl)) (by decide) (backOf (W := 0) (rm_qerr l Z a0 hw [] ob17 ob5 r1_4 r1_2 b_4 b_2 kb_4 kb_2 yy lb x1 (3 : Int32) cs T19.heap n0 O156 S_COMPACT g19_0 g19_1 fc205 fc206 fc211 fc212 fc213 fc214 fc207 fc208 fc209 fc210 hcs (own_ne (by omega)) h_lb h_la) hZ4 (own_w hw 53 rfl) (own_w hw 42 rfl) (by decide) (by decide)) q216a q216c (g := (mkF m 213 #[.val (.int x1), .val (.int y1), .val (.int f1), .val (.int (3 : Int32)), .val (.int lb), .val (.int md), .val (.int yy), .val (.ref r1_2), .val (.ref r1_4), .val (.ref ob5), .val (.ref ob17), .val (.int (0 : Int32))] [(.ref ob5), (.ref ob17)])) rfl (by rw [hml]; rfl) (Steps.refl _) (argsL := [(.ref ob5)]) (rest := []) (lenOf own_pd__28Ljava_2flang_2fObject_3b_29Z rfl) rfl (by show 2 * 0 + _ ≤ _; exact Nat.le_of_eq rfl) (hb hby at_213) (fun _ _ => ⟨rfl, K215, (by decide : 14 + 0 ≤ _), (by decide : 26 + 0 ≤ _)⟩)
              dsimp only [Pt.U, Pt.locs, Pt.cells, Pt.slots] at X216 l216 y216 z216 st216 hQ216
              subst l216 y216 z216
              obtain ⟨rfl, M216, K216⟩ := hQ216
              have N216 := Fr.app N215 M216
              refine own_by (fun _ k => st216.trans k) ?_
              refine own_by (fun _ k => XS.iload X216.here hx rfl (hb hby at_216) rfl k) ?_
              show own_Go p e below (T216.setTop (mkF m 218 #[.val (.int x1), .val (.int y1), .val (.int f1), .val (.int (3 : Int32)), .val (.int lb), .val (.int md), .val (.int yy), .val (.ref r1_2), .val (.ref r1_4), .val (.ref ob5), .val (.ref ob17), .val (.int (0 : Int32))] [(.int (0 : Int32)), (.int (own_eqs yy lb x1 (3 : Int32)))])) _
              refine own_by (fun _ k => XS.icmpNo X216.here hx rfl (hb hby at_218) rfl (teq (by rw [← hc155]; exact (own_eqs_eq rfl).trans ((own_pre_3 _ _).trans (own_all_neg fun q => hc159 (own_b_inj.mp q).symm)))).2 k) ?_
              show own_Go p e below (T216.setTop (mkF m 221 #[.val (.int x1), .val (.int y1), .val (.int f1), .val (.int (3 : Int32)), .val (.int lb), .val (.int md), .val (.int yy), .val (.ref r1_2), .val (.ref r1_4), .val (.ref ob5), .val (.ref ob17), .val (.int (0 : Int32))] [])) _
              refine own_by (fun _ k => XS.iconst X216.here hx rfl (hb hby at_221) k) ?_
              refine own_by (fun _ k => XS.goto X216.here hx rfl (pc0 := 222) (pc' := 226) rfl (hb hby at_222) (by decide) (by decide) k) ?_
              have K217 : Keep h0 T19.heap [] := (((((((Keep.refl h0 []).trans K2 all0).trans K4 all0).ext E5).trans K7 (allS (P := fun x => x ∈ [] ∨ h0.size ≤ x) (Or.inr (by omega)) all0)).ext E17).trans K19 (allS (P := fun x => x ∈ [] ∨ h0.size ≤ x) (Or.inr (by omega)) all0))
              obtain ⟨fs, hr, hrun, hended, hW⟩ := X216.leaveW S4 (by first | omega | (rw [K216]; omega)) (v := some (.int (1 : Int32))) (fun h => by rw [Bd.returns] at h; cases h)
              have RR := R19.trans (CHv.at X216 hZ4 hEL R19.1)
              have RR' : CHr Z own_EL s.vm s.heap T216.vm T216.heap := by rw [hh, K216]; exact RR
              refine ⟨_, _, retN X216 hx (t := .boolean) Bd.returns (by simp) (hb hby at_226) hr, hrun, hended, _, _, rfl, ?_, RR', ⟨_, rfl⟩, hW.2.1, hW.2.2.1, hW.2.2.2.mono (by decide) (by decide)⟩
              show Q_rm_law Z x1 y1 f1 cs h0 n0 _ T216.heap _
              rw [K216]
              exact ⟨rfl, N216, K217⟩
          · skip
            refine own_by (fun _ k => XS.icmpYes X19.here hx rfl (pc0 := 130) (pc' := 194) rfl (hb hby at_130) rfl (feq hc155).2 (by decide) (by decide) k) ?_
            show own_Go p e below (T19.setTop (mkF m 194 #[.val (.int x1), .val (.int y1), .val (.int f1), .val (.int (3 : Int32)), .val (.int lb), .val (.int md), .val (.int yy), .val (.ref r1_2), .val (.ref r1_4), .val (.ref ob5), .val (.ref ob17), .unset] [])) _
            refine own_by (fun _ k => XS.iconst X19.here hx rfl (hb hby at_194) k) ?_
            refine own_by (fun _ k => XS.istore X19.here hx rfl (hb hby at_195) rfl (l' := #[.val (.int x1), .val (.int y1), .val (.int f1), .val (.int (3 : Int32)), .val (.int lb), .val (.int md), .val (.int yy), .val (.ref r1_2), .val (.ref r1_4), .val (.ref ob5), .val (.ref ob17), .val (.int (0 : Int32))]) rfl k) ?_
            refine own_by (fun _ k => XS.aload X19.here hx rfl (hb hby at_197) rfl rfl k) ?_
            refine own_by (fun _ k => XS.aload X19.here hx rfl (hb hby at_199) rfl rfl k) ?_
            show own_Go p e below (T19.setTop (mkF m 201 #[.val (.int x1), .val (.int y1), .val (.int f1), .val (.int (3 : Int32)), .val (.int lb), .val (.int md), .val (.int yy), .val (.ref r1_2), .val (.ref r1_4), .val (.ref ob5), .val (.ref ob17), .val (.int (0 : Int32))] [(.ref ob17), (.ref ob5)])) _
            have fc218 : Exa Z T19.heap ob5 "com/example/living_lease/livinglease/redis/Resp$Error" := ((g7_0.ext E17).keep K19)
            have fc219 : Fld Z T19.heap ob5 "com/example/living_lease/livinglease/redis/Resp$Error" "message" "Ljava/lang/String;" (.ref r1_2) := ((g7_1.ext E17).keep K19 (ninS (own_ne (by omega)) nin0))
            have fc220 : Exa Z T19.heap r1_2 "java/lang/String" := ((fc8.ext E17).keep K19)
            have fc221 : Fld Z T19.heap r1_2 "java/lang/String" "coder" "B" (.int (0 : Int32)) := (((((g2_1.keep K4 nin0).ext E5).keep K7 (ninS (own_ne (by omega)) nin0)).ext E17).keep K19 (ninS (own_ne (by omega)) nin0))
            have fc222 : Fld Z T19.heap r1_2 "java/lang/String" "value" "[B" (.ref b_2) := (((((g2_2.keep K4 nin0).ext E5).keep K7 (ninS (own_ne (by omega)) nin0)).ext E17).keep K19 (ninS (own_ne (by omega)) nin0))
            have fc223 : Arv Z T19.heap b_2 kb_2 .byte (3 : Int32) (own_bs x1 (3 : Int32)) (.int (0 : Int32)) := (((((g2_3.keep K4 nin0).ext E5).keep K7 (ninS (own_ne (by omega)) nin0)).ext E17).keep K19 (ninS (own_ne (by omega)) nin0))
            have fc224 : Exa Z T19.heap r1_4 "java/lang/String" := ((((g4_0.ext E5).keep K7).ext E17).keep K19)
            have fc225 : Fld Z T19.heap r1_4 "java/lang/String" "coder" "B" (.int (0 : Int32)) := ((((g4_1.ext E5).keep K7 (ninS (own_ne (by omega)) nin0)).ext E17).keep K19 (ninS (own_ne (by omega)) nin0))
            have fc226 : Fld Z T19.heap r1_4 "java/lang/String" "value" "[B" (.ref b_4) := ((((g4_2.ext E5).keep K7 (ninS (own_ne (by omega)) nin0)).ext E17).keep K19 (ninS (own_ne (by omega)) nin0))
            have fc227 : Arv Z T19.heap b_4 kb_4 .byte lb (own_bs yy lb) (.int (0 : Int32)) := ((((g4_3.ext E5).keep K7 (ninS (own_ne (by omega)) nin0)).ext E17).keep K19 (ninS (own_ne (by omega)) nin0))
            have O228 : Old Z n0 T19.heap := (O18.keep K19 (allS (by omega) all0))
            obtain ⟨cq229, kq229, q229a, q229b, q229c⟩ := isOf hZ4 rfl fc218
            obtain ⟨_, _, ⟨T229, L229, k229, n229⟩, -, X229, ⟨Lc229, hQ229, l229, y229, z229⟩, st229⟩ := X19.virtualBack hx (y := (⟨"com/example/living_lease/livinglease/redis/Resp$Error", "equals", "(Ljava/lang/Object;)Z"⟩ : MethodName)) (z := (⟨"com/example/living_lease/livinglease/redis/Resp$Error", "equals", "(Ljava/lang/Object;)Z"⟩ : MethodName)) ho4 (mvT hZ4 (own_w hw 49 rfl)) (mvT hZ4 (own_w hw 50 rfl)) (notFace_of_selects (args := #[]) (mvT hZ4 (own_w hw 52 rfl))) (mvT hZ4 (own_w hw 52 rfl)) (mvT hZ4 (own_w hw 51 rfl)) (by decide) (backOf (W := 0) (rm_qerr l Z a0 hw [] ob5 ob17 r1_2 r1_4 b_2 b_4 kb_2 kb_4 x1 (3 : Int32) yy lb cs T19.heap n0 O228 S_COMPACT fc218 fc219 g19_0 g19_1 fc220 fc221 fc222 fc223 fc224 fc225 fc226 fc227 hcs (own_ne (by omega)) h_la h_lb) hZ4 (own_w hw 53 rfl) (own_w hw 42 rfl) (by decide) (by decide)) q229a q229c (g := (mkF m 201 #[.val (.int x1), .val (.int y1), .val (.int f1), .val (.int (3 : Int32)), .val (.int lb), .val (.int md), .val (.int yy), .val (.ref r1_2), .val (.ref r1_4), .val (.ref ob5), .val (.ref ob17), .val (.int (0 : Int32))] [(.ref ob17), (.ref ob5)])) rfl (by rw [hml]; rfl) (Steps.refl _) (argsL := [(.ref ob17)]) (rest := []) (lenOf own_pd__28Ljava_2flang_2fObject_3b_29Z rfl) rfl (by show 2 * 0 + _ ≤ _; exact Nat.le_of_eq rfl) (hb hby at_201) (fun _ _ => ⟨rfl, rfl, (by decide : 14 + 0 ≤ _), (by decide : 26 + 0 ≤ _)⟩)
            dsimp only [Pt.U, Pt.locs, Pt.cells, Pt.slots] at X229 l229 y229 z229 st229 hQ229
            subst l229 y229 z229
            obtain ⟨rfl, M229, K229⟩ := hQ229
            have N229 := Fr.app N19 M229
            refine own_by (fun _ k => st229.trans k) ?_
            refine own_by (fun _ k => XS.iload X229.here hx rfl (hb hby at_204) rfl k) ?_
            refine own_by (fun _ k => XS.icmpNo X229.here hx rfl (hb hby at_206) rfl (teq (own_eqs_ne hc155)).2 k) ?_
            show own_Go p e below (T229.setTop (mkF m 209 #[.val (.int x1), .val (.int y1), .val (.int f1), .val (.int (3 : Int32)), .val (.int lb), .val (.int md), .val (.int yy), .val (.ref r1_2), .val (.ref r1_4), .val (.ref ob5), .val (.ref ob17), .val (.int (0 : Int32))] [])) _
            refine own_by (fun _ k => XS.aload X229.here hx rfl (hb hby at_209) rfl rfl k) ?_
            refine own_by (fun _ k => XS.aload X229.here hx rfl (hb hby at_211) rfl rfl k) ?_
            obtain ⟨cq230, kq230, q230a, q230b, q230c⟩ := isOf hZ4 K229 g19_0
            obtain ⟨_, _, ⟨T230, L230, k230, n230⟩, -, X230, ⟨Lc230, hQ230, l230, y230, z230⟩, st230⟩ := X229.virtualBack hx (y := (⟨"com/example/living_lease/livinglease/redis/Resp$Error", "equals", "(Ljava/lang/Object;)Z"⟩ : MethodName)) (z := (⟨"com/example/living_lease/livinglease/redis/Resp$Error", "equals", "(Ljava/lang/Object;)Z"⟩ : MethodName)) ho4 (mvT hZ4 (own_w hw 49 rfl)) (mvT hZ4 (own_w hw 50 rfl)) (notFace_of_selects (args := #[]) (mvT hZ4 (own_w hw 52 rfl))) (mvT hZ4 (own_w hw 52 rfl)) (mvT hZ4 (own_w hw 51 rfl)) (by decide) (backOf (W := 0) (rm_qerr l Z a0 hw [] ob17 ob5 r1_4 r1_2 b_4 b_2 kb_4 kb_2 yy lb x1 (3 : Int32) cs T19.heap n0 O228 S_COMPACT g19_0 g19_1 fc218 fc219 fc224 fc225 fc226 fc227 fc220 fc221 fc222 fc223 hcs (own_ne (by omega)) h_lb h_la) hZ4 (own_w hw 53 rfl) (own_w hw 42 rfl) (by decide) (by decide)) q230a q230c (g := (mkF m 213 #[.val (.int x1), .val (.int y1), .val (.int f1), .val (.int (3 : Int32)), .val (.int lb), .val (.int md), .val (.int yy), .val (.ref r1_2), .val (.ref r1_4), .val (.ref ob5), .val (.ref ob17), .val (.int (0 : Int32))] [(.ref ob5), (.ref ob17)])) rfl (by rw [hml]; rfl) (Steps.refl _) (argsL := [(.ref ob5)]) (rest := []) (lenOf own_pd__28Ljava_2flang_2fObject_3b_29Z rfl) rfl (by show 2 * 0 + _ ≤ _; exact Nat.le_of_eq rfl) (hb hby at_213) (fun _ _ => ⟨rfl, K229, (by decide : 14 + 0 ≤ _), (by decide : 26 + 0 ≤ _)⟩)
            dsimp only [Pt.U, Pt.locs, Pt.cells, Pt.slots] at X230 l230 y230 z230 st230 hQ230
            subst l230 y230 z230
            obtain ⟨rfl, M230, K230⟩ := hQ230
            have N230 := Fr.app N229 M230
            refine own_by (fun _ k => st230.trans k) ?_
            refine own_by (fun _ k => XS.iload X230.here hx rfl (hb hby at_216) rfl k) ?_
            show own_Go p e below (T230.setTop (mkF m 218 #[.val (.int x1), .val (.int y1), .val (.int f1), .val (.int (3 : Int32)), .val (.int lb), .val (.int md), .val (.int yy), .val (.ref r1_2), .val (.ref r1_4), .val (.ref ob5), .val (.ref ob17), .val (.int (0 : Int32))] [(.int (0 : Int32)), (.int (own_eqs yy lb x1 (3 : Int32)))])) _
            refine own_by (fun _ k => XS.icmpNo X230.here hx rfl (hb hby at_218) rfl (teq (own_eqs_ne (fun q => hc155 q.symm))).2 k) ?_
            show own_Go p e below (T230.setTop (mkF m 221 #[.val (.int x1), .val (.int y1), .val (.int f1), .val (.int (3 : Int32)), .val (.int lb), .val (.int md), .val (.int yy), .val (.ref r1_2), .val (.ref r1_4), .val (.ref ob5), .val (.ref ob17), .val (.int (0 : Int32))] [])) _
            refine own_by (fun _ k => XS.iconst X230.here hx rfl (hb hby at_221) k) ?_
            refine own_by (fun _ k => XS.goto X230.here hx rfl (pc0 := 222) (pc' := 226) rfl (hb hby at_222) (by decide) (by decide) k) ?_
            have K231 : Keep h0 T19.heap [] := (((((((Keep.refl h0 []).trans K2 all0).trans K4 all0).ext E5).trans K7 (allS (P := fun x => x ∈ [] ∨ h0.size ≤ x) (Or.inr (by omega)) all0)).ext E17).trans K19 (allS (P := fun x => x ∈ [] ∨ h0.size ≤ x) (Or.inr (by omega)) all0))
            obtain ⟨fs, hr, hrun, hended, hW⟩ := X230.leaveW S4 (by first | omega | (rw [K230]; omega)) (v := some (.int (1 : Int32))) (fun h => by rw [Bd.returns] at h; cases h)
            have RR := R19.trans (CHv.at X230 hZ4 hEL R19.1)
            have RR' : CHr Z own_EL s.vm s.heap T230.vm T230.heap := by rw [hh, K230]; exact RR
            refine ⟨_, _, retN X230 hx (t := .boolean) Bd.returns (by simp) (hb hby at_226) hr, hrun, hended, _, _, rfl, ?_, RR', ⟨_, rfl⟩, hW.2.1, hW.2.2.1, hW.2.2.2.mono (by decide) (by decide)⟩
            show Q_rm_law Z x1 y1 f1 cs h0 n0 _ T230.heap _
            rw [K230]
            exact ⟨rfl, N230, K231⟩
  by_cases hc232 : md = (0 : Int32)
  · skip
    refine own_by (fun _ k => XS.ifNo X0.here hx rfl (hb hby at_20) rfl ((if0 _ _).trans (teq hc232).2) k) ?_
    show own_Go p e below (s₁.setTop (mkF m 23 #[.val (.int x1), .val (.int y1), .val (.int f1), .val (.int la), .val (.int lb), .val (.int md), .unset, .unset, .unset, .unset, .unset, .unset] [])) _
    refine own_by (fun _ k => XS.iloadN X0.here hx rfl (hb hby at_23) rfl k) ?_
    refine own_by (fun _ k => XS.goto X0.here hx rfl (pc0 := 24) (pc' := 28) rfl (hb hby at_24) (by decide) (by decide) k) ?_
    exact jn1 _ ⟨_, X0, N0⟩ e0 x1 trivial
  · skip
    refine own_by (fun _ k => XS.ifYes X0.here hx rfl (pc0 := 20) (pc' := 27) rfl (hb hby at_20) rfl ((if0 _ _).trans (feq hc232).2) (by decide) (by decide) k) ?_
    show own_Go p e below (s₁.setTop (mkF m 27 #[.val (.int x1), .val (.int y1), .val (.int f1), .val (.int la), .val (.int lb), .val (.int md), .unset, .unset, .unset, .unset, .unset, .unset] [])) _
    refine own_by (fun _ k => XS.iloadN X0.here hx rfl (hb hby at_27) rfl k) ?_
    show own_Go p e below (s₁.setTop (mkF m 28 #[.val (.int x1), .val (.int y1), .val (.int f1), .val (.int la), .val (.int lb), .val (.int md), .unset, .unset, .unset, .unset, .unset, .unset] [(.int y1)])) _
    exact jn1 _ ⟨_, X0, N0⟩ e0 y1 trivial
set_option maxRecDepth 65536 in
set_option maxHeartbeats 40000000 in
theorem comes_1 {Post : Tables → Env → Array Value → State → Outcome → State → Prop} (hpost : ∀ tb e args s v u, (limb_1_1.after args s (.returned v) u = true ∧ limb_1_2.after args s (.returned v) u = true ∧ True) → ReturnedEndW s (.returned v) u (Jvm.fieldLocs frame_1_writes args s ++ Jvm.arrayLocs frame_1_arrays args s ++ Jvm.staticLocs frame_1_statics s) 32 1152 → Post tb e args s (.returned v) u) :
    ArmFor flags0 classFile x code maxLocals ret World_1 tables_1 room_1 Calls_1 rest_1 Pre_1 Post := by
  intro l hfl _ _ p e ha hc hk s m args below hf hA hF happ hP
  obtain ⟨hcalls, hrest, hpre⟩ := hP
  obtain ⟨-, -, -, hnamed, -, -, -, hat⟩ := (Spec.applies_iff hf).mp happ
  obtain ⟨hg, hn⟩ := and_e (Cond.before_iff.mp (show (Jvm.Cond.and given_1 narrow_1).before args s = true from hpre))
  obtain ⟨hh0, hg0⟩ := and_e hg
  obtain ⟨hh1, hg1⟩ := and_e hg0
  obtain ⟨hh2, hg2⟩ := and_e hg1
  obtain ⟨w0, w1, w2, rfl⟩ : ∃ w0 w1 w2 : Value, args = #[w0, w1, w2] := by
    have hs : args.size = 3 := by simpa [Cond.value, given_1] using hh0
    obtain ⟨L⟩ := args
    match L, hs with
    | [w0, w1, w2], _ => exact ⟨w0, w1, w2, rfl⟩
  have hw := fun d (hd : d ∈ tables_1) => atoms_spec (ws := Jvm.Cond.code x code maxLocals ret :: tables_1) hat d (List.mem_cons_of_mem _ hd)
  have hfit : Fit s := fun {y c} hc i hi => by
    obtain ⟨ha, rfl⟩ := Array.getElem?_eq_some_iff.mp hc
    have q := List.all_eq_true.mp ((Array.all_eq_true_iff_forall_mem.mp hF) _ (Array.getElem_mem ha)) i (List.mem_range.mpr hi)
    simpa [Array.getElem?_eq_getElem hi] using q
  obtain ⟨hsets, hown0⟩ := atoms_of _ (rest_1_c_eq ▸ (show rest_1_c.before _ s = true from hrest))
  have hr0 := Cond.before_iff.mp hown0
  obtain ⟨i0, ea0⟩ := is_v hh1
  obtain rfl : w0 = (.int i0) := Option.some.inj ea0
  obtain ⟨i1, ea1⟩ := is_v hh2
  obtain rfl : w1 = (.int i1) := Option.some.inj ea1
  obtain ⟨i2, ea2⟩ := is_v hg2
  obtain rfl : w2 = (.int i2) := Option.some.inj ea2
  obtain ⟨cs, v_cs⟩ := is_v (Cond.before_iff.mp (hsets _ (List.mem_of_getElem? (i := 1) rfl)))
  have S_COMPACT := Sta.start v_cs (Or.inl (hsets _ (List.mem_of_getElem? (i := 0) rfl)))
  have hcs : ¬ (cs = (0 : Int32)) := gotF (Cond.eq_ints v_cs (Term.int_eval (0))) (not_v (Cond.before_iff.mp (hsets _ (List.mem_of_getElem? (i := 2) rfl))))
  obtain ⟨fmt, v_fmt, hfmt⟩ := isR_v (Cond.before_iff.mp (hsets _ (List.mem_of_getElem? (i := 8) rfl)))
  have S_FMT := Sta.start v_fmt (Or.inl (hsets _ (List.mem_of_getElem? (i := 7) rfl)))
  have hEL : EW s _ own_EL := (EW.cons (own_w hw 37 rfl) (by decide) EW.nil)
  have hCH : CHv s own_EL s.vm s.heap := CHv.start hEL (fun q hq => hcalls.1 q hq) (hsets _ (List.mem_of_getElem? (i := 2) rfl)) (own_w hw 26 rfl) (own_w hw 5 rfl)
  obtain ⟨n, o, h1, h2, h3, _, L, rfl, ⟨rfl, N, -⟩, -, hq⟩ := rm_law l s _ hw tables_1 i0 i1 i2 cs s.heap s.heap.size (Old.start s) hEL S_COMPACT hcs p e ha hc hk s m _ below hf ((Spec.applies_iff_loose hf).mp happ).1 ⟨rfl, State.Warmed39.refl s, rfl, hCH⟩ trivial
  refine ⟨n, _, h1, h2, h3, hpost _ _ _ _ _ _ ⟨Cond.after_iff.mpr rfl, Cond.after_iff.mpr (eq_i res_at (Term.int_eval (1)) rfl), trivial⟩ ⟨hq.1, hq.2.1, hq.2.2.1, (hq.2.2.2.sift fun y hy => Or.inr (N y hy)).mono (by decide) (by decide)⟩⟩
theorem main_1_1 : Claimed_1_1 := comes_1 fun _ _ _ _ _ _ h hF => ⟨h.1, hF⟩
theorem main_1_2 : Claimed_1_2 := comes_1 fun _ _ _ _ _ _ h hF => ⟨h.2.1, hF⟩
end Jvm.Pilot.@@N@@
namespace Jvm.Pilot.@@N@@
open Jvm Jvm.ClassFile Sem Op Lib Jvm.Free Jvm.Stand Jvm.Pilot.@@N@@.Jvm.D
/-! MADE BY PROGRAM (witnessworld.py) out of the Statement's table words and the real class files: 20 classes; the members and pool entries that the words name. The judged class is class 1, her method 3. -/
namespace start1
open Jvm.ClassFile
def u (s : String) : CpInfo := .utf8 (stringToUtf16 s)
/-- a pool by its gaps: so many unusable entries, then the entry; so many at the end -/
def gap : Nat → List CpInfo → List CpInfo
  | 0, r => r
  | n + 1, r => .unusable :: gap n r
def poolList (es : List (Nat × CpInfo)) (last : Nat) : List CpInfo := es.foldr (fun e r => gap e.1 (e.2 :: r)) (gap last [])
def pool (es : List (Nat × CpInfo)) (last : Nat) : Array CpInfo := ⟨poolList es last⟩
def fileOf (pool : Array CpInfo) (this : Nat) (attrs : Array Attribute := #[]) (ms : Array MethodInfo := #[]) (fl : Nat := 33) (sup : Nat := 0) (ifs : Array Nat := #[]) (fds : Array FieldInfo := #[]) : ClassFile where
  minorVersion := 0
  majorVersion := 65
  constantPool := pool
  accessFlags := fl
  thisClass := this
  superClass := sup
  interfaces := ifs
  fields := fds
  methods := ms
  attributes := attrs
def plain (name : String) (sup : Option ClassId) : Class where
  name := name
  kind := .ordinary
  loader := none
  accessFlags := 33
  super := sup
  interfaces := #[]
  cf := none
  fields := #[]
  methods := #[]
  instanceTypes := #[]
  staticTypes := #[]
  resolved := #[]
  callSites := []
  init := .initialized
  statics := none
  mirror := none

def pool0 : Array CpInfo := pool [(5, u "<init>"), (0, u "()V"), (1, .class_ 10), (1, u "java/lang/Object")] 113

def k0c0 : Code := { maxStack := 0, maxLocals := 1, code := object_method_1_code, exceptionTable := #[], attributes := #[] }
def k0m0 : Method := { name := "<init>", desc := "()V", sig := { parameters := [], returnType := none }, accessFlags := 1, code := some k0c0 }
/-- java/lang/Object -/
def k0 : Class := { plain "java/lang/Object" none with
  accessFlags := 33
  interfaces := #[]
  cf := some (fileOf pool0 8 #[] #[{ accessFlags := 1, nameIndex := 5, descriptorIndex := 6, attributes := #[] }] 33 0 #[] #[])
  fields := #[]
  methods := #[k0m0]
  instanceTypes := #[]
  staticTypes := #[]
  resolved := Array.replicate 124 none
  statics := none }

def pool1 : Array CpInfo := pool [(2, .class_ 4), (1, u "java/lang/Object"), (0, u "<init>"), (0, u "()V"), (0, .class_ 8), (0, u "java/lang/String"), (0, .methodref 7 10), (0, .nameAndType 5 11), (0, u "([C)V"), (0, .methodref 13 14), (0, .class_ 15), (0, .nameAndType 16 17), (0, u "com/example/living_lease/livinglease/redis/ErrorEqualsPinLaw"), (0, u "ch"), (0, u "(II)C"), (0, .methodref 13 19), (0, .nameAndType 20 21), (0, u "str"), (0, u "(II)Ljava/lang/String;"), (0, .class_ 23), (0, u "com/example/living_lease/livinglease/redis/Resp$Error"), (0, .methodref 22 25), (0, .nameAndType 5 26), (0, u "(Ljava/lang/String;)V"), (0, .methodref 22 28), (0, .nameAndType 29 30), (0, u "equals"), (0, u "(Ljava/lang/Object;)Z"), (3, u "law"), (0, u "(III)Z")] 6

def k1m0 : Method := { name := "<init>", desc := "()V", sig := { parameters := [], returnType := none }, accessFlags := 1, code := none }
def k1c1 : Code := { maxStack := 3, maxLocals := 2, code := method_2_code, exceptionTable := #[], attributes := #[] }
def k1m1 : Method := { name := "ch", desc := "(II)C", sig := { parameters := [.int, .int], returnType := some .char }, accessFlags := 10, code := some k1c1 }
def k1c2 : Code := { maxStack := 7, maxLocals := 2, code := method_3_code, exceptionTable := #[], attributes := #[] }
def k1m2 : Method := { name := "str", desc := "(II)Ljava/lang/String;", sig := { parameters := [.int, .int], returnType := some (.object "java/lang/String") }, accessFlags := 10, code := some k1c2 }
def k1c3 : Code := { maxStack := 3, maxLocals := 12, code := code, exceptionTable := #[], attributes := #[] }
def k1m3 : Method := { name := "law", desc := "(III)Z", sig := { parameters := [.int, .int, .int], returnType := some .boolean }, accessFlags := 9, code := some k1c3 }
/-- com/example/living_lease/livinglease/redis/ErrorEqualsPinLaw -/
def k1 : Class := { plain "com/example/living_lease/livinglease/redis/ErrorEqualsPinLaw" (some 0) with
  accessFlags := 49
  interfaces := #[]
  cf := some (fileOf pool1 13 #[] #[{ accessFlags := 1, nameIndex := 5, descriptorIndex := 6, attributes := #[] }, { accessFlags := 10, nameIndex := 16, descriptorIndex := 17, attributes := #[] }, { accessFlags := 10, nameIndex := 20, descriptorIndex := 21, attributes := #[] }, { accessFlags := 9, nameIndex := 34, descriptorIndex := 35, attributes := #[] }] 49 2 #[] #[])
  fields := #[]
  methods := #[k1m0, k1m1, k1m2, k1m3]
  instanceTypes := #[]
  staticTypes := #[]
  resolved := Array.replicate 42 none
  statics := none }

def pool2 : Array CpInfo := pool [(1, .class_ 2), (0, u "java/io/Serializable"), (0, .class_ 4), (0, u "java/lang/Object")] 2

/-- java/io/Serializable -/
def k2 : Class := { plain "java/io/Serializable" (some 0) with
  accessFlags := 1537
  interfaces := #[]
  cf := some (fileOf pool2 1 #[] #[] 1537 3 #[] #[])
  fields := #[]
  methods := #[]
  instanceTypes := #[]
  staticTypes := #[]
  resolved := Array.replicate 7 none
  statics := none }

def pool3 : Array CpInfo := pool [(1, .class_ 2), (0, u "java/lang/Comparable"), (0, .class_ 4), (0, u "java/lang/Object")] 7

/-- java/lang/Comparable -/
def k3 : Class := { plain "java/lang/Comparable" (some 0) with
  accessFlags := 1537
  interfaces := #[]
  cf := some (fileOf pool3 1 #[] #[] 1537 3 #[] #[])
  fields := #[]
  methods := #[]
  instanceTypes := #[]
  staticTypes := #[]
  resolved := Array.replicate 12 none
  statics := none }

def pool4 : Array CpInfo := pool [(2, .class_ 4), (1, u "java/lang/CharSequence"), (42, .class_ 48), (0, u "java/lang/CharSequence$1CodePointIterator"), (10, .class_ 60), (0, u "java/lang/CharSequence$1CharIterator"), (5, .class_ 67), (0, u "java/lang/Object")] 63

/-- java/lang/CharSequence -/
def k4 : Class := { plain "java/lang/CharSequence" (some 0) with
  accessFlags := 1537
  interfaces := #[]
  cf := some (fileOf pool4 2 #[.nestMembers #[47, 59]] #[] 1537 66 #[] #[])
  fields := #[]
  methods := #[]
  instanceTypes := #[]
  staticTypes := #[]
  resolved := Array.replicate 131 none
  statics := none }

def pool5 : Array CpInfo := pool [(1, .class_ 2), (0, u "java/lang/constant/Constable"), (0, .class_ 4), (0, u "java/lang/Object")] 6

/-- java/lang/constant/Constable -/
def k5 : Class := { plain "java/lang/constant/Constable" (some 0) with
  accessFlags := 1537
  interfaces := #[]
  cf := some (fileOf pool5 1 #[] #[] 1537 3 #[] #[])
  fields := #[]
  methods := #[]
  instanceTypes := #[]
  staticTypes := #[]
  resolved := Array.replicate 11 none
  statics := none }

def pool6 : Array CpInfo := pool [(1, .class_ 2), (0, u "java/lang/constant/ConstantDesc"), (0, .class_ 4), (0, u "java/lang/Object")] 32

/-- java/lang/constant/ConstantDesc -/
def k6 : Class := { plain "java/lang/constant/ConstantDesc" (some 0) with
  accessFlags := 1537
  interfaces := #[]
  cf := some (fileOf pool6 1 #[] #[] 1537 3 #[] #[])
  fields := #[]
  methods := #[]
  instanceTypes := #[]
  staticTypes := #[]
  resolved := Array.replicate 37 none
  statics := none }

def pool7 : Array CpInfo := pool [(1, .methodref 2 3), (0, .class_ 4), (0, .nameAndType 5 6), (0, u "java/lang/Object"), (0, u "<init>"), (0, u "()V"), (0, .string 8), (0, u ""), (0, .fieldref 10 11), (0, .class_ 12), (0, .nameAndType 13 14), (0, u "java/lang/String"), (0, u "value"), (0, u "[B"), (0, .fieldref 10 16), (0, .nameAndType 17 18), (0, u "coder"), (0, u "B"), (2, u "hash"), (0, u "I"), (2, u "hashIsZero"), (0, u "Z"), (0, .methodref 10 28), (0, .nameAndType 5 29), (0, u "([CIILjava/lang/Void;)V"), (8, .fieldref 10 39), (0, .nameAndType 40 26), (0, u "COMPACT_STRINGS"), (1, .class_ 44), (1, u "java/lang/StringUTF16"), (0, u "compress"), (1, .methodref 42 48), (0, .nameAndType 49 50), (0, u "coderFromArrayLen"), (0, u "([BI)B"), (56, .class_ 109), (1, u "java/lang/StringLatin1"), (67, .methodref 42 178), (0, .nameAndType 45 179), (0, u "([CII)[B"), (361, .methodref 107 542), (0, .nameAndType 543 544), (0, u "equals"), (0, u "([B[B)Z"), (28, u "(Ljava/lang/Object;)Z"), (1, .class_ 576), (0, u "java/lang/CharSequence"), (22, u "CASE_INSENSITIVE_ORDER"), (0, u "Ljava/util/Comparator;"), (409, u "([C)V"), (90, u "serialPersistentFields"), (0, u "[Ljava/io/ObjectStreamField;"), (0, .class_ 1104), (0, u "java/lang/String$CaseInsensitiveComparator"), (1, .class_ 1107), (0, u "java/io/Serializable"), (0, .class_ 1109), (0, u "java/lang/Comparable"), (0, .class_ 1111), (0, u "java/lang/constant/Constable"), (0, .class_ 1113), (0, u "java/lang/constant/ConstantDesc"), (2, u "serialVersionUID"), (0, u "J"), (3, u "REPL"), (0, u "C"), (2, u "LATIN1"), (1, u "UTF16")] 323

def k7m0 : Method := { name := "<init>", desc := "()V", sig := { parameters := [], returnType := none }, accessFlags := 1, code := none }
def k7c1 : Code := { maxStack := 5, maxLocals := 2, code := jdk_42_method_3_code, exceptionTable := #[], attributes := #[] }
def k7m1 : Method := { name := "<init>", desc := "([C)V", sig := { parameters := [(.array .char)], returnType := none }, accessFlags := 1, code := some k7c1 }
def k7c2 : Code := { maxStack := 2, maxLocals := 3, code := jdk_42_method_66_code, exceptionTable := #[], attributes := #[] }
def k7m2 : Method := { name := "equals", desc := "(Ljava/lang/Object;)Z", sig := { parameters := [(.object "java/lang/Object")], returnType := some .boolean }, accessFlags := 1, code := some k7c2 }
def k7c3 : Code := { maxStack := 4, maxLocals := 6, code := jdk_42_method_149_code, exceptionTable := #[], attributes := #[] }
def k7m3 : Method := { name := "<init>", desc := "([CIILjava/lang/Void;)V", sig := { parameters := [(.array .char), .int, .int, (.object "java/lang/Void")], returnType := none }, accessFlags := 2, code := some k7c3 }
/-- java/lang/String -/
def k7 : Class := { plain "java/lang/String" (some 0) with
  accessFlags := 49
  interfaces := #[2, 3, 4, 5, 6]
  cf := some (fileOf pool7 10 #[.nestMembers #[1103]] #[{ accessFlags := 1, nameIndex := 5, descriptorIndex := 6, attributes := #[] }, { accessFlags := 1, nameIndex := 5, descriptorIndex := 1010, attributes := #[] }, { accessFlags := 1, nameIndex := 543, descriptorIndex := 573, attributes := #[] }, { accessFlags := 2, nameIndex := 5, descriptorIndex := 29, attributes := #[] }] 49 2 #[1106, 1108, 575, 1110, 1112] #[{ accessFlags := 18, nameIndex := 13, descriptorIndex := 14, attributes := #[] }, { accessFlags := 18, nameIndex := 17, descriptorIndex := 18, attributes := #[] }, { accessFlags := 2, nameIndex := 21, descriptorIndex := 22, attributes := #[] }, { accessFlags := 2, nameIndex := 25, descriptorIndex := 26, attributes := #[] }, { accessFlags := 26, nameIndex := 1116, descriptorIndex := 1117, attributes := #[] }, { accessFlags := 24, nameIndex := 40, descriptorIndex := 26, attributes := #[] }, { accessFlags := 26, nameIndex := 1101, descriptorIndex := 1102, attributes := #[] }, { accessFlags := 26, nameIndex := 1121, descriptorIndex := 1122, attributes := #[] }, { accessFlags := 25, nameIndex := 599, descriptorIndex := 600, attributes := #[] }, { accessFlags := 24, nameIndex := 1125, descriptorIndex := 18, attributes := #[] }, { accessFlags := 24, nameIndex := 1127, descriptorIndex := 18, attributes := #[] }])
  fields := #[{ name := "value", type := (.array .byte), accessFlags := 18, slot := 0, constantValue := 0 }, { name := "coder", type := .byte, accessFlags := 18, slot := 1, constantValue := 0 }, { name := "hash", type := .int, accessFlags := 2, slot := 2, constantValue := 0 }, { name := "hashIsZero", type := .boolean, accessFlags := 2, slot := 3, constantValue := 0 }, { name := "serialVersionUID", type := .long, accessFlags := 26, slot := 0, constantValue := 0 }, { name := "COMPACT_STRINGS", type := .boolean, accessFlags := 24, slot := 1, constantValue := 0 }, { name := "serialPersistentFields", type := (.array (.object "java/io/ObjectStreamField")), accessFlags := 26, slot := 2, constantValue := 0 }, { name := "REPL", type := .char, accessFlags := 26, slot := 3, constantValue := 0 }, { name := "CASE_INSENSITIVE_ORDER", type := (.object "java/util/Comparator"), accessFlags := 25, slot := 4, constantValue := 0 }, { name := "LATIN1", type := .byte, accessFlags := 24, slot := 5, constantValue := 0 }, { name := "UTF16", type := .byte, accessFlags := 24, slot := 6, constantValue := 0 }]
  methods := #[k7m0, k7m1, k7m2, k7m3]
  instanceTypes := #[(.array .byte), .byte, .int, .boolean]
  staticTypes := #[.long, .boolean, (.array (.object "java/io/ObjectStreamField")), .char, (.object "java/util/Comparator"), .byte, .byte]
  resolved := Array.replicate 1451 none
  statics := some 0 }

def pool8 : Array CpInfo := pool [(6, .class_ 8), (1, u "java/lang/Object"), (0, u "<init>"), (0, u "()V"), (1, .class_ 14), (1, u "java/lang/StringUTF16"), (31, u "$assertionsDisabled"), (0, u "Z"), (13, u "HI_BYTE_SHIFT"), (0, u "I"), (2, u "LO_BYTE_SHIFT"), (49, .methodref 12 116), (0, .nameAndType 117 118), (0, u "compress"), (0, u "([CI[BII)I"), (3, u "([CII)[B"), (138, u "coderFromArrayLen"), (0, u "([BI)B"), (106, .class_ 371), (1, u "java/lang/StringUTF16$LinesSpliterator"), (58, u "MAX_LENGTH"), (196, .class_ 628), (0, u "java/lang/StringUTF16$CodePointsSpliterator"), (0, .class_ 630), (0, u "java/lang/StringUTF16$CharsSpliterator")] 4

def k8m0 : Method := { name := "<init>", desc := "()V", sig := { parameters := [], returnType := none }, accessFlags := 0, code := none }
def k8c1 : Code := { maxStack := 2, maxLocals := 2, code := jdk_52_method_15_code, exceptionTable := #[], attributes := #[] }
def k8m1 : Method := { name := "coderFromArrayLen", desc := "([BI)B", sig := { parameters := [(.array .byte), .int], returnType := some .byte }, accessFlags := 8, code := some k8c1 }
def k8c2 : Code := { maxStack := 5, maxLocals := 6, code := jdk_52_method_16_code, exceptionTable := #[], attributes := #[] }
def k8m2 : Method := { name := "compress", desc := "([CII)[B", sig := { parameters := [(.array .char), .int, .int], returnType := some (.array .byte) }, accessFlags := 9, code := some k8c2 }
def k8c3 : Code := { maxStack := 3, maxLocals := 7, code := jdk_52_method_21_code, exceptionTable := #[], attributes := #[] }
def k8m3 : Method := { name := "compress", desc := "([CI[BII)I", sig := { parameters := [(.array .char), .int, (.array .byte), .int, .int], returnType := some .int }, accessFlags := 9, code := some k8c3 }
/-- java/lang/StringUTF16 -/
def k8 : Class := { plain "java/lang/StringUTF16" (some 0) with
  accessFlags := 48
  interfaces := #[]
  cf := some (fileOf pool8 12 #[.nestMembers #[627, 629, 369]] #[{ accessFlags := 0, nameIndex := 9, descriptorIndex := 10, attributes := #[] }, { accessFlags := 8, nameIndex := 261, descriptorIndex := 262, attributes := #[] }, { accessFlags := 9, nameIndex := 117, descriptorIndex := 122, attributes := #[] }, { accessFlags := 9, nameIndex := 117, descriptorIndex := 118, attributes := #[] }] 48 6 #[] #[{ accessFlags := 26, nameIndex := 61, descriptorIndex := 62, attributes := #[] }, { accessFlags := 26, nameIndex := 65, descriptorIndex := 62, attributes := #[] }, { accessFlags := 24, nameIndex := 430, descriptorIndex := 62, attributes := #[] }, { accessFlags := 4120, nameIndex := 46, descriptorIndex := 47, attributes := #[] }])
  fields := #[{ name := "HI_BYTE_SHIFT", type := .int, accessFlags := 26, slot := 0, constantValue := 0 }, { name := "LO_BYTE_SHIFT", type := .int, accessFlags := 26, slot := 1, constantValue := 0 }, { name := "MAX_LENGTH", type := .int, accessFlags := 24, slot := 2, constantValue := 0 }, { name := "$assertionsDisabled", type := .boolean, accessFlags := 4120, slot := 3, constantValue := 0 }]
  methods := #[k8m0, k8m1, k8m2, k8m3]
  instanceTypes := #[]
  staticTypes := #[.int, .int, .int, .boolean]
  resolved := Array.replicate 635 none
  statics := none }

def pool9 : Array CpInfo := pool [(1, .methodref 2 3), (0, .class_ 4), (0, .nameAndType 5 6), (0, u "java/lang/Object"), (0, u "<init>"), (0, u "()V"), (0, .fieldref 8 9), (0, .class_ 10), (0, .nameAndType 11 12), (0, u "com/example/living_lease/livinglease/redis/Resp$Error"), (0, u "message"), (0, u "Ljava/lang/String;"), (0, .methodref 14 15), (0, .class_ 16), (0, .nameAndType 17 18), (0, u "java/lang/String"), (0, u "equals"), (0, u "(Ljava/lang/Object;)Z"), (4, u "(Ljava/lang/String;)V"), (9, .class_ 34), (0, u "com/example/living_lease/livinglease/redis/Resp")] 2

def k9c0 : Code := { maxStack := 2, maxLocals := 2, code := prog_11_method_1_code, exceptionTable := #[], attributes := #[] }
def k9m0 : Method := { name := "<init>", desc := "(Ljava/lang/String;)V", sig := { parameters := [(.object "java/lang/String")], returnType := none }, accessFlags := 0, code := some k9c0 }
def k9c1 : Code := { maxStack := 2, maxLocals := 3, code := prog_11_method_3_code, exceptionTable := #[], attributes := #[] }
def k9m1 : Method := { name := "equals", desc := "(Ljava/lang/Object;)Z", sig := { parameters := [(.object "java/lang/Object")], returnType := some .boolean }, accessFlags := 1, code := some k9c1 }
/-- com/example/living_lease/livinglease/redis/Resp$Error -/
def k9 : Class := { plain "com/example/living_lease/livinglease/redis/Resp$Error" (some 0) with
  accessFlags := 48
  interfaces := #[]
  cf := some (fileOf pool9 8 #[.nestHost 33] #[{ accessFlags := 0, nameIndex := 5, descriptorIndex := 23, attributes := #[] }, { accessFlags := 1, nameIndex := 17, descriptorIndex := 18, attributes := #[] }] 48 2 #[] #[{ accessFlags := 18, nameIndex := 11, descriptorIndex := 12, attributes := #[] }])
  fields := #[{ name := "message", type := (.object "java/lang/String"), accessFlags := 18, slot := 0, constantValue := 0 }]
  methods := #[k9m0, k9m1]
  instanceTypes := #[(.object "java/lang/String")]
  staticTypes := #[]
  resolved := Array.replicate 37 none
  statics := none }

def pool10 : Array CpInfo := pool [(4, .class_ 6), (1, u "java/lang/Object"), (0, u "<init>"), (0, u "()V"), (5, .class_ 16), (1, u "java/lang/StringLatin1"), (104, u "$assertionsDisabled"), (0, u "Z"), (98, .class_ 223), (1, u "java/lang/StringLatin1$LinesSpliterator"), (57, u "equals"), (0, u "([B[B)Z"), (107, .class_ 391), (0, u "java/lang/StringLatin1$CharsSpliterator")] 3

def k10m0 : Method := { name := "<init>", desc := "()V", sig := { parameters := [], returnType := none }, accessFlags := 0, code := none }
def k10c1 : Code := { maxStack := 3, maxLocals := 3, code := jdk_43_method_13_code, exceptionTable := #[], attributes := #[] }
def k10m1 : Method := { name := "equals", desc := "([B[B)Z", sig := { parameters := [(.array .byte), (.array .byte)], returnType := some .boolean }, accessFlags := 9, code := some k10c1 }
/-- java/lang/StringLatin1 -/
def k10 : Class := { plain "java/lang/StringLatin1" (some 0) with
  accessFlags := 48
  interfaces := #[]
  cf := some (fileOf pool10 14 #[.nestMembers #[390, 221]] #[{ accessFlags := 0, nameIndex := 7, descriptorIndex := 8, attributes := #[] }, { accessFlags := 9, nameIndex := 281, descriptorIndex := 282, attributes := #[] }] 48 4 #[] #[{ accessFlags := 4120, nameIndex := 121, descriptorIndex := 122, attributes := #[] }])
  fields := #[{ name := "$assertionsDisabled", type := .boolean, accessFlags := 4120, slot := 0, constantValue := 0 }]
  methods := #[k10m0, k10m1]
  instanceTypes := #[]
  staticTypes := #[.boolean]
  resolved := Array.replicate 395 none
  statics := none }

def pool11 : Array CpInfo := pool [(2, .class_ 4), (1, u "java/lang/Object"), (0, u "<init>"), (0, u "()V"), (17, .class_ 26), (1, u "jdk/internal/util/Preconditions"), (28, .class_ 56), (0, u "jdk/internal/util/Preconditions$4"), (57, .class_ 115), (0, u "jdk/internal/util/Preconditions$1"), (7, u "SIOOBE_FORMATTER"), (0, u "Ljava/util/function/BiFunction;"), (0, .class_ 126), (0, u "jdk/internal/util/Preconditions$2"), (3, u "AIOOBE_FORMATTER"), (0, .class_ 132), (0, u "jdk/internal/util/Preconditions$3"), (3, u "IOOBE_FORMATTER")] 57

def k11m0 : Method := { name := "<init>", desc := "()V", sig := { parameters := [], returnType := none }, accessFlags := 1, code := none }
/-- jdk/internal/util/Preconditions -/
def k11 : Class := { plain "jdk/internal/util/Preconditions" (some 0) with
  accessFlags := 33
  interfaces := #[]
  cf := some (fileOf pool11 24 #[.nestMembers #[55, 131, 125, 114]] #[{ accessFlags := 1, nameIndex := 5, descriptorIndex := 6, attributes := #[] }] 33 2 #[] #[{ accessFlags := 25, nameIndex := 123, descriptorIndex := 124, attributes := #[] }, { accessFlags := 25, nameIndex := 130, descriptorIndex := 124, attributes := #[] }, { accessFlags := 25, nameIndex := 136, descriptorIndex := 124, attributes := #[] }])
  fields := #[{ name := "SIOOBE_FORMATTER", type := (.object "java/util/function/BiFunction"), accessFlags := 25, slot := 0, constantValue := 0 }, { name := "AIOOBE_FORMATTER", type := (.object "java/util/function/BiFunction"), accessFlags := 25, slot := 1, constantValue := 0 }, { name := "IOOBE_FORMATTER", type := (.object "java/util/function/BiFunction"), accessFlags := 25, slot := 2, constantValue := 0 }]
  methods := #[k11m0]
  instanceTypes := #[]
  staticTypes := #[(.object "java/util/function/BiFunction"), (.object "java/util/function/BiFunction"), (.object "java/util/function/BiFunction")]
  resolved := Array.replicate 194 none
  statics := some 1 }

def pool12 : Array CpInfo := pool [(9, u "<init>"), (6, .class_ 18), (1, u "java/lang/Object"), (0, u "()V"), (1, .class_ 23), (1, u "jdk/internal/util/ArraysSupport"), (0, u "LOG2_ARRAY_LONG_INDEX_SCALE"), (0, u "I"), (2, u "U"), (0, u "Ljdk/internal/misc/Unsafe;"), (8, u "BIG_ENDIAN"), (0, u "Z"), (8, u "LOG2_BYTE_BIT_SIZE"), (4, u "LOG2_ARRAY_INT_INDEX_SCALE"), (54, u "JLA"), (0, u "Ljdk/internal/access/JavaLangAccess;"), (11, u "LOG2_ARRAY_BOOLEAN_INDEX_SCALE"), (9, u "LOG2_ARRAY_BYTE_INDEX_SCALE"), (5, u "LOG2_ARRAY_CHAR_INDEX_SCALE"), (5, u "LOG2_ARRAY_SHORT_INDEX_SCALE"), (18, u "LOG2_ARRAY_FLOAT_INDEX_SCALE"), (24, u "LOG2_ARRAY_DOUBLE_INDEX_SCALE"), (89, u "T_BOOLEAN"), (2, u "T_CHAR"), (1, u "T_FLOAT"), (1, u "T_DOUBLE"), (1, u "T_BYTE"), (1, u "T_SHORT"), (1, u "T_INT"), (1, u "T_LONG"), (1, u "SOFT_MAX_ARRAY_LENGTH")] 83

def k12m0 : Method := { name := "<init>", desc := "()V", sig := { parameters := [], returnType := none }, accessFlags := 2, code := none }
/-- jdk/internal/util/ArraysSupport -/
def k12 : Class := { plain "jdk/internal/util/ArraysSupport" (some 0) with
  accessFlags := 33
  interfaces := #[]
  cf := some (fileOf pool12 21 #[] #[{ accessFlags := 2, nameIndex := 9, descriptorIndex := 19, attributes := #[] }] 33 16 #[] #[{ accessFlags := 24, nameIndex := 28, descriptorIndex := 29, attributes := #[] }, { accessFlags := 26, nameIndex := 38, descriptorIndex := 39, attributes := #[] }, { accessFlags := 25, nameIndex := 121, descriptorIndex := 25, attributes := #[] }, { accessFlags := 25, nameIndex := 131, descriptorIndex := 25, attributes := #[] }, { accessFlags := 25, nameIndex := 137, descriptorIndex := 25, attributes := #[] }, { accessFlags := 25, nameIndex := 143, descriptorIndex := 25, attributes := #[] }, { accessFlags := 25, nameIndex := 53, descriptorIndex := 25, attributes := #[] }, { accessFlags := 25, nameIndex := 24, descriptorIndex := 25, attributes := #[] }, { accessFlags := 25, nameIndex := 162, descriptorIndex := 25, attributes := #[] }, { accessFlags := 25, nameIndex := 187, descriptorIndex := 25, attributes := #[] }, { accessFlags := 26, nameIndex := 48, descriptorIndex := 25, attributes := #[] }, { accessFlags := 25, nameIndex := 277, descriptorIndex := 25, attributes := #[] }, { accessFlags := 25, nameIndex := 280, descriptorIndex := 25, attributes := #[] }, { accessFlags := 25, nameIndex := 282, descriptorIndex := 25, attributes := #[] }, { accessFlags := 25, nameIndex := 284, descriptorIndex := 25, attributes := #[] }, { accessFlags := 25, nameIndex := 286, descriptorIndex := 25, attributes := #[] }, { accessFlags := 25, nameIndex := 288, descriptorIndex := 25, attributes := #[] }, { accessFlags := 25, nameIndex := 290, descriptorIndex := 25, attributes := #[] }, { accessFlags := 25, nameIndex := 292, descriptorIndex := 25, attributes := #[] }, { accessFlags := 26, nameIndex := 108, descriptorIndex := 109, attributes := #[] }, { accessFlags := 25, nameIndex := 294, descriptorIndex := 25, attributes := #[] }])
  fields := #[{ name := "U", type := (.object "jdk/internal/misc/Unsafe"), accessFlags := 24, slot := 0, constantValue := 0 }, { name := "BIG_ENDIAN", type := .boolean, accessFlags := 26, slot := 1, constantValue := 0 }, { name := "LOG2_ARRAY_BOOLEAN_INDEX_SCALE", type := .int, accessFlags := 25, slot := 2, constantValue := 0 }, { name := "LOG2_ARRAY_BYTE_INDEX_SCALE", type := .int, accessFlags := 25, slot := 3, constantValue := 0 }, { name := "LOG2_ARRAY_CHAR_INDEX_SCALE", type := .int, accessFlags := 25, slot := 4, constantValue := 0 }, { name := "LOG2_ARRAY_SHORT_INDEX_SCALE", type := .int, accessFlags := 25, slot := 5, constantValue := 0 }, { name := "LOG2_ARRAY_INT_INDEX_SCALE", type := .int, accessFlags := 25, slot := 6, constantValue := 0 }, { name := "LOG2_ARRAY_LONG_INDEX_SCALE", type := .int, accessFlags := 25, slot := 7, constantValue := 0 }, { name := "LOG2_ARRAY_FLOAT_INDEX_SCALE", type := .int, accessFlags := 25, slot := 8, constantValue := 0 }, { name := "LOG2_ARRAY_DOUBLE_INDEX_SCALE", type := .int, accessFlags := 25, slot := 9, constantValue := 0 }, { name := "LOG2_BYTE_BIT_SIZE", type := .int, accessFlags := 26, slot := 10, constantValue := 0 }, { name := "T_BOOLEAN", type := .int, accessFlags := 25, slot := 11, constantValue := 0 }, { name := "T_CHAR", type := .int, accessFlags := 25, slot := 12, constantValue := 0 }, { name := "T_FLOAT", type := .int, accessFlags := 25, slot := 13, constantValue := 0 }, { name := "T_DOUBLE", type := .int, accessFlags := 25, slot := 14, constantValue := 0 }, { name := "T_BYTE", type := .int, accessFlags := 25, slot := 15, constantValue := 0 }, { name := "T_SHORT", type := .int, accessFlags := 25, slot := 16, constantValue := 0 }, { name := "T_INT", type := .int, accessFlags := 25, slot := 17, constantValue := 0 }, { name := "T_LONG", type := .int, accessFlags := 25, slot := 18, constantValue := 0 }, { name := "JLA", type := (.object "jdk/internal/access/JavaLangAccess"), accessFlags := 26, slot := 19, constantValue := 0 }, { name := "SOFT_MAX_ARRAY_LENGTH", type := .int, accessFlags := 25, slot := 20, constantValue := 0 }]
  methods := #[k12m0]
  instanceTypes := #[]
  staticTypes := #[(.object "jdk/internal/misc/Unsafe"), .boolean, .int, .int, .int, .int, .int, .int, .int, .int, .int, .int, .int, .int, .int, .int, .int, .int, .int, (.object "jdk/internal/access/JavaLangAccess"), .int]
  resolved := Array.replicate 378 none
  statics := none }

def pool13 : Array CpInfo := pool [(1, u "java/lang/Cloneable"), (0, .class_ 1), (0, u "java/lang/Object"), (0, .class_ 3)] 3

/-- java/lang/Cloneable -/
def k13 : Class := { plain "java/lang/Cloneable" (some 0) with
  accessFlags := 1537
  interfaces := #[]
  cf := some (fileOf pool13 2 #[] #[] 1537 4 #[] #[])
  fields := #[]
  methods := #[]
  instanceTypes := #[]
  staticTypes := #[]
  resolved := Array.replicate 8 none
  statics := none }

/-- the primitive byte -/
def k14 : Class := { plain "byte" none with kind := .primitive 'B', accessFlags := 0x411 }
/-- [B -/
def k15 : Class := { plain "[B" (some 0) with kind := .array 14 .byte, interfaces := #[13, 2], accessFlags := 1041 }

/-- the primitive char -/
def k16 : Class := { plain "char" none with kind := .primitive 'C', accessFlags := 0x411 }
/-- [C -/
def k17 : Class := { plain "[C" (some 0) with kind := .array 16 .char, interfaces := #[13, 2], accessFlags := 1041 }

/-- the primitive int -/
def k18 : Class := { plain "int" none with kind := .primitive 'I', accessFlags := 0x411 }
/-- [I -/
def k19 : Class := { plain "[I" (some 0) with kind := .array 18 .int, interfaces := #[13, 2], accessFlags := 1041 }

def heap : Heap := #[{ cls := 7, slots := #[.long 0, .int 1, .null, .int 0, .null, .int 0, .int 0], vm := .statics 7 },
  { cls := 11, slots := #[.null, .null, .null], vm := .statics 11 }]
def classes : Array Class := #[k0, k1, k2, k3, k4, k5, k6, k7, k8, k9, k10, k11, k12, k13, k14, k15, k16, k17, k18, k19]
def interned : List (Array UInt16 × Addr) := []
def slotsUsed : Nat := 10
def theMethod : MethodId := ⟨1, 3⟩
def args0 : Array Value := #[.int 5, .int 6, .int 7]
def aboutOver (below : List Frame) : State where
  vm := { classes := classes, interned := interned.toArray }
  heap := heap
  slotsUsed := slotsUsed
  threads := #[{ frames := .invoking theMethod args0 :: below }]
def below0 : List Frame := [.native { method := ⟨0, 0⟩, args := #[] }]
def about1 : State := aboutOver below0
def p0 : Program := .bare "" "" ""
def e0 : Env := launch0.env 0 0 0
theorem w_frames : about1.frames = Frame.invoking theMethod args0 :: below0 := rfl
set_option maxRecDepth 65536 in
theorem w_args : argsFit about1.vm theMethod args0 = true := by decide +kernel
set_option maxRecDepth 65536 in
theorem w_heap : heapFits about1 = true := by decide +kernel
set_option maxRecDepth 65536 in
theorem w_runnable : about1.curStatus? = some .runnable := by decide +kernel
set_option maxRecDepth 65536 in
theorem w_alone : about1.alone = true := by decide +kernel
set_option maxRecDepth 65536 in
theorem w_named : about1.methodNamed? x = some theMethod := by decide +kernel
set_option maxRecDepth 65536 in
theorem w_hears : about1.hears theMethod below0 = true := by decide +kernel
set_option maxRecDepth 65536 in
theorem w_ripe : about1.ripe theMethod args0 below0 = true := by decide +kernel
theorem w_running : about1.status = .running := rfl
set_option maxRecDepth 65536 in
theorem w_room : about1.hasRoom e0.platform room_1 = true :=
  launch0.hasRoom_least _ room_1 (by decide +kernel) (by decide +kernel) (by decide +kernel) (by decide +kernel) (by decide +kernel) (by decide +kernel)
theorem allAtoms_all (ts : List Jvm.Cond) (a : Array Jvm.Value) (st : Jvm.State) : (allAtoms ts).before a st = ts.all (fun c => c.before a st) := by
  induction ts with
  | nil => rfl
  | cons c t ih =>
    show (Jvm.Cond.and c (allAtoms t)).before a st = _
    rw [Jvm.Cond.before_and, ih, List.all_cons]
def words1 : List Jvm.Cond := Jvm.Cond.code x code maxLocals ret :: tables_1
/-- a 'code' word, met by the world's own term for the bytes: nothing is compared byte by byte -/
theorem code_word {y : MethodName} {bytes : ByteArray} {mx : Nat} {rt : Option FieldType} {a : Array Value} {s : State} {m : MethodId} {meth : Method} {c : Code} (h1 : s.methodNamed? y = some m) (h2 : s.vm.method? m = some meth) (h3 : meth.code = some c) (h4 : c.code = bytes)
    (h5 : (c.maxLocals == mx && c.exceptionTable.isEmpty && decide (c.maxStack ≤ mostOperands) && decide (meth.sig.returnType = rt) && !meth.locks && decide (parseMethodDescriptor y.desc = some meth.sig)) = true) : (Jvm.Cond.code y bytes mx rt).before a s = true := by
  simp only [Bool.and_eq_true, beq_iff_eq, Bool.not_eq_true', decide_eq_true_eq] at h5
  obtain ⟨⟨⟨⟨⟨g1, g2⟩, g3⟩, g4⟩, g5⟩, g6⟩ := h5
  simp [Cond.before, Cond.holds, Cond.value, h1, h2, h3, h4, g1, g2, g3, g4, g5, g6]
def isCode : Jvm.Cond → Bool
  | .code _ _ _ _ => true
  | _ => false
theorem all_split {L : List Jvm.Cond} {P : Jvm.Cond → Bool} (h1 : L.all (fun c => isCode c || P c) = true) (h2 : ∀ c ∈ L.filter isCode, P c = true) : L.all P = true := by
  refine List.all_eq_true.mpr fun c hc => ?_
  have h := List.all_eq_true.mp h1 c hc
  rcases Bool.eq_false_or_eq_true (isCode c) with hi | hi
  · exact h2 c (List.mem_filter.mpr ⟨hc, hi⟩)
  · simpa [hi] using h
set_option maxRecDepth 65536 in
theorem w_c0 : (Jvm.Cond.code x code maxLocals ret).before args0 about1 = true := code_word (m := ⟨1, 3⟩) (meth := k1m3) (c := k1c3) (by decide +kernel) rfl rfl rfl (by decide +kernel)
set_option maxRecDepth 65536 in
theorem w_c1 : (Jvm.Cond.code ({ cls := "com/example/living_lease/livinglease/redis/ErrorEqualsPinLaw", name := "str", desc := "(II)Ljava/lang/String;" } : Jvm.MethodName) method_3_code (2 : Nat) (Option.some (Jvm.ClassFile.FieldType.object "java/lang/String"))).before args0 about1 = true := code_word (m := ⟨1, 2⟩) (meth := k1m2) (c := k1c2) (by decide +kernel) rfl rfl rfl (by decide +kernel)
set_option maxRecDepth 65536 in
theorem w_c2 : (Jvm.Cond.code ({ cls := "com/example/living_lease/livinglease/redis/ErrorEqualsPinLaw", name := "ch", desc := "(II)C" } : Jvm.MethodName) method_2_code (2 : Nat) (Option.some Jvm.ClassFile.FieldType.char)).before args0 about1 = true := code_word (m := ⟨1, 1⟩) (meth := k1m1) (c := k1c1) (by decide +kernel) rfl rfl rfl (by decide +kernel)
set_option maxRecDepth 65536 in
theorem w_c3 : (Jvm.Cond.code ({ cls := "java/lang/String", name := "<init>", desc := "([C)V" } : Jvm.MethodName) jdk_42_method_3_code (2 : Nat) (Option.none : Option Jvm.ClassFile.FieldType)).before args0 about1 = true := code_word (m := ⟨7, 1⟩) (meth := k7m1) (c := k7c1) (by decide +kernel) rfl rfl rfl (by decide +kernel)
set_option maxRecDepth 65536 in
theorem w_c4 : (Jvm.Cond.code ({ cls := "java/lang/String", name := "<init>", desc := "([CIILjava/lang/Void;)V" } : Jvm.MethodName) jdk_42_method_149_code (6 : Nat) (Option.none : Option Jvm.ClassFile.FieldType)).before args0 about1 = true := code_word (m := ⟨7, 3⟩) (meth := k7m3) (c := k7c3) (by decide +kernel) rfl rfl rfl (by decide +kernel)
set_option maxRecDepth 65536 in
theorem w_c5 : (Jvm.Cond.code ({ cls := "java/lang/Object", name := "<init>", desc := "()V" } : Jvm.MethodName) object_method_1_code (1 : Nat) (Option.none : Option Jvm.ClassFile.FieldType)).before args0 about1 = true := code_word (m := ⟨0, 0⟩) (meth := k0m0) (c := k0c0) (by decide +kernel) rfl rfl rfl (by decide +kernel)
set_option maxRecDepth 65536 in
theorem w_c6 : (Jvm.Cond.code ({ cls := "java/lang/StringUTF16", name := "compress", desc := "([CII)[B" } : Jvm.MethodName) jdk_52_method_16_code (6 : Nat) (Option.some (Jvm.ClassFile.FieldType.array Jvm.ClassFile.FieldType.byte))).before args0 about1 = true := code_word (m := ⟨8, 2⟩) (meth := k8m2) (c := k8c2) (by decide +kernel) rfl rfl rfl (by decide +kernel)
set_option maxRecDepth 65536 in
theorem w_c7 : (Jvm.Cond.code ({ cls := "java/lang/StringUTF16", name := "compress", desc := "([CI[BII)I" } : Jvm.MethodName) jdk_52_method_21_code (7 : Nat) (Option.some Jvm.ClassFile.FieldType.int)).before args0 about1 = true := code_word (m := ⟨8, 3⟩) (meth := k8m3) (c := k8c3) (by decide +kernel) rfl rfl rfl (by decide +kernel)
set_option maxRecDepth 65536 in
theorem w_c8 : (Jvm.Cond.code ({ cls := "java/lang/StringUTF16", name := "coderFromArrayLen", desc := "([BI)B" } : Jvm.MethodName) jdk_52_method_15_code (2 : Nat) (Option.some Jvm.ClassFile.FieldType.byte)).before args0 about1 = true := code_word (m := ⟨8, 1⟩) (meth := k8m1) (c := k8c1) (by decide +kernel) rfl rfl rfl (by decide +kernel)
set_option maxRecDepth 65536 in
theorem w_c9 : (Jvm.Cond.code ({ cls := "com/example/living_lease/livinglease/redis/Resp$Error", name := "<init>", desc := "(Ljava/lang/String;)V" } : Jvm.MethodName) prog_11_method_1_code (2 : Nat) (Option.none : Option Jvm.ClassFile.FieldType)).before args0 about1 = true := code_word (m := ⟨9, 0⟩) (meth := k9m0) (c := k9c0) (by decide +kernel) rfl rfl rfl (by decide +kernel)
set_option maxRecDepth 65536 in
theorem w_c10 : (Jvm.Cond.code ({ cls := "com/example/living_lease/livinglease/redis/Resp$Error", name := "equals", desc := "(Ljava/lang/Object;)Z" } : Jvm.MethodName) prog_11_method_3_code (3 : Nat) (Option.some Jvm.ClassFile.FieldType.boolean)).before args0 about1 = true := code_word (m := ⟨9, 1⟩) (meth := k9m1) (c := k9c1) (by decide +kernel) rfl rfl rfl (by decide +kernel)
set_option maxRecDepth 65536 in
theorem w_c11 : (Jvm.Cond.code ({ cls := "java/lang/String", name := "equals", desc := "(Ljava/lang/Object;)Z" } : Jvm.MethodName) jdk_42_method_66_code (3 : Nat) (Option.some Jvm.ClassFile.FieldType.boolean)).before args0 about1 = true := code_word (m := ⟨7, 2⟩) (meth := k7m2) (c := k7c2) (by decide +kernel) rfl rfl rfl (by decide +kernel)
set_option maxRecDepth 65536 in
theorem w_c12 : (Jvm.Cond.code ({ cls := "java/lang/StringLatin1", name := "equals", desc := "([B[B)Z" } : Jvm.MethodName) jdk_43_method_13_code (3 : Nat) (Option.some Jvm.ClassFile.FieldType.boolean)).before args0 about1 = true := code_word (m := ⟨10, 1⟩) (meth := k10m1) (c := k10c1) (by decide +kernel) rfl rfl rfl (by decide +kernel)
def codes1 : List Jvm.Cond := [Jvm.Cond.code x code maxLocals ret, Jvm.Cond.code ({ cls := "com/example/living_lease/livinglease/redis/ErrorEqualsPinLaw", name := "str", desc := "(II)Ljava/lang/String;" } : Jvm.MethodName) method_3_code (2 : Nat) (Option.some (Jvm.ClassFile.FieldType.object "java/lang/String")), Jvm.Cond.code ({ cls := "com/example/living_lease/livinglease/redis/ErrorEqualsPinLaw", name := "ch", desc := "(II)C" } : Jvm.MethodName) method_2_code (2 : Nat) (Option.some Jvm.ClassFile.FieldType.char), Jvm.Cond.code ({ cls := "java/lang/String", name := "<init>", desc := "([C)V" } : Jvm.MethodName) jdk_42_method_3_code (2 : Nat) (Option.none : Option Jvm.ClassFile.FieldType), Jvm.Cond.code ({ cls := "java/lang/String", name := "<init>", desc := "([CIILjava/lang/Void;)V" } : Jvm.MethodName) jdk_42_method_149_code (6 : Nat) (Option.none : Option Jvm.ClassFile.FieldType), Jvm.Cond.code ({ cls := "java/lang/Object", name := "<init>", desc := "()V" } : Jvm.MethodName) object_method_1_code (1 : Nat) (Option.none : Option Jvm.ClassFile.FieldType), Jvm.Cond.code ({ cls := "java/lang/StringUTF16", name := "compress", desc := "([CII)[B" } : Jvm.MethodName) jdk_52_method_16_code (6 : Nat) (Option.some (Jvm.ClassFile.FieldType.array Jvm.ClassFile.FieldType.byte)), Jvm.Cond.code ({ cls := "java/lang/StringUTF16", name := "compress", desc := "([CI[BII)I" } : Jvm.MethodName) jdk_52_method_21_code (7 : Nat) (Option.some Jvm.ClassFile.FieldType.int), Jvm.Cond.code ({ cls := "java/lang/StringUTF16", name := "coderFromArrayLen", desc := "([BI)B" } : Jvm.MethodName) jdk_52_method_15_code (2 : Nat) (Option.some Jvm.ClassFile.FieldType.byte), Jvm.Cond.code ({ cls := "com/example/living_lease/livinglease/redis/Resp$Error", name := "<init>", desc := "(Ljava/lang/String;)V" } : Jvm.MethodName) prog_11_method_1_code (2 : Nat) (Option.none : Option Jvm.ClassFile.FieldType), Jvm.Cond.code ({ cls := "com/example/living_lease/livinglease/redis/Resp$Error", name := "equals", desc := "(Ljava/lang/Object;)Z" } : Jvm.MethodName) prog_11_method_3_code (3 : Nat) (Option.some Jvm.ClassFile.FieldType.boolean), Jvm.Cond.code ({ cls := "java/lang/String", name := "equals", desc := "(Ljava/lang/Object;)Z" } : Jvm.MethodName) jdk_42_method_66_code (3 : Nat) (Option.some Jvm.ClassFile.FieldType.boolean), Jvm.Cond.code ({ cls := "java/lang/StringLatin1", name := "equals", desc := "([B[B)Z" } : Jvm.MethodName) jdk_43_method_13_code (3 : Nat) (Option.some Jvm.ClassFile.FieldType.boolean)]
set_option maxRecDepth 65536 in
theorem codes_eq : words1.filter isCode = codes1 := rfl
theorem w_codes : ∀ c ∈ words1.filter isCode, c.before args0 about1 = true := by
  rw [codes_eq]
  intro c hc
  simp only [codes1, List.mem_cons, List.not_mem_nil, or_false] at hc
  rcases hc with rfl | rfl | rfl | rfl | rfl | rfl | rfl | rfl | rfl | rfl | rfl | rfl | rfl
  · exact w_c0
  · exact w_c1
  · exact w_c2
  · exact w_c3
  · exact w_c4
  · exact w_c5
  · exact w_c6
  · exact w_c7
  · exact w_c8
  · exact w_c9
  · exact w_c10
  · exact w_c11
  · exact w_c12
set_option maxRecDepth 65536 in
theorem w_t1 : (words1.take 24).all (fun c => isCode c || c.before args0 about1) = true := by decide +kernel
set_option maxRecDepth 65536 in
theorem w_t2 : ((words1.drop 24).take 24).all (fun c => isCode c || c.before args0 about1) = true := by decide +kernel
set_option maxRecDepth 65536 in
theorem w_t3 : ((words1.drop 24).drop 24).all (fun c => isCode c || c.before args0 about1) = true := by decide +kernel
theorem w_tables : (allAtoms (Jvm.Cond.code x code maxLocals ret :: tables_1)).before args0 about1 = true := by
  rw [allAtoms_all]
  show words1.all (fun c => c.before args0 about1) = true
  refine all_split ?_ w_codes
  rw [← List.take_append_drop 24 words1, List.all_append, w_t1, ← List.take_append_drop 24 (words1.drop 24), List.all_append, w_t2, w_t3]
  rfl
set_option maxRecDepth 65536 in
theorem w_rest : rest_1_c.before args0 about1 = true := by decide +kernel
set_option maxRecDepth 65536 in
theorem w_case : (Jvm.Cond.and given_1 narrow_1).before args0 about1 = true := by decide +kernel
set_option maxRecDepth 65536 in
theorem w_consts : constsHeld consts_1 about1 := Jvm.Lit.constsHeldB_iff.mp (by decide +kernel)
theorem w_applies : (headSpec (Jvm.Cond.code x code maxLocals ret :: tables_1) room_1).applies x e0.platform about1 = true :=
  (Spec.applies_iff w_frames).mpr ⟨w_running, w_runnable, w_alone, w_named, w_hears, w_ripe, w_room, w_tables⟩
theorem atStart : AtStart classFile x code maxLocals ret World_1 tables_1 room_1 Calls_1 rest_1 Pre_1 launch0 p0 e0 about1 theMethod args0 below0 :=
  ⟨lists_1, trivial, launch0.admits_env _ _ _, launch0.least_env, fairChoices_fair.cas, fairChoices_fair.clock, w_frames, w_args, w_heap, w_applies, ⟨w_consts, trivial⟩, w_rest, w_case⟩
end start1
theorem witness_1 : WitnessClaimed_1 := ⟨start1.p0, start1.e0, start1.about1, start1.theMethod, start1.args0, start1.below0, start1.atStart⟩
end Jvm.Pilot.@@N@@
