import JvmDerived
import JvmDerived.Pilot.@@N@@Statement
import JvmDerived.Pilot.@@N@@Code
set_option linter.unusedVariables false
set_option linter.unusedSimpArgs false
namespace Jvm.RoadKit
open Sem ClassFile Op Lib Jvm.Stand Jvm.Free Jvm.LawKit
section New
variable {p : Program} {l : Launch} {e : Env} {R : Room} {s : State} {m : MethodId} {args : Array Value} {below : List Frame} {meth : Method} {c : Code} {T : State} {locs : List Loc} {cells slots : Nat}
theorem retI (X : Stand p l e R s m args below meth c T locs cells slots) (hx : p.tables.exec = Jvm.exec) {pc : Nat} {Ls : Array Slot} {z : Int32} {rest : List Value} (hret : meth.sig.returnType = some .int) (hd : decode c.code pc = .ok (.ireturn, 1)) {fs : List Frame}
    (hl : ∀ (f : JFrame) (acts : List Action), f.method = m → f.locked = none → f.entered = [] → (doReturn e (T.setTop f) acts (some (.int z))).1 = T.setFrames fs) : Steps p.tables e below (T.setTop (mkF m pc Ls (.int z :: rest))) (T.setFrames fs) :=
  retOut X hx hret rfl (Or.inl ⟨rfl, Or.inl rfl, _, rfl⟩) hd hl
end New
end Jvm.RoadKit
namespace Jvm.Pilot.@@N@@
open Jvm Jvm.ClassFile Sem Op Lib Jvm.Free Jvm.Stand Jvm.LawKit Jvm.RoadKit Bundle Jvm.Pilot.@@N@@.Jvm.D
/-- the run goes on from A and comes to an end of which R holds -/
def own_Go (p : Program) (e : Env) (below : List Frame) (A : State) (R : State → Outcome → Prop) : Prop := ∃ s₂ o, Steps p.tables e below A s₂ ∧ s₂.status = .running ∧ Ended s₂ below o ∧ R s₂ o
theorem own_by {p : Program} {e : Env} {below : List Frame} {A B : State} {R : State → Outcome → Prop} (k : ∀ t, Steps p.tables e below B t → Steps p.tables e below A t) (h : own_Go p e below B R) : own_Go p e below A R := by
  obtain ⟨s₂, o, h1, h2⟩ := h
  exact ⟨s₂, o, k _ h1, h2⟩
theorem own_ne {x y : Nat} (h : x ≠ y) : x ≠ y := h
theorem own_cat {v : Value} (h : v.isRef = true) : v.category = 1 := by rcases ref_cases h with rfl | ⟨_, rfl⟩ <;> rfl
theorem own_Ins_keep {Z : State} {h h' : Heap} {a : Addr} {C : String} {bo : Bool} {ws : List Addr} (F : Ins Z h a C bo) (K : Keep h h' ws) : Ins Z h' a C bo := by
  obtain ⟨cell, cT, h1, h2, h3⟩ := F
  obtain ⟨c', q, r1, r2, -⟩ := K.2.2 a cell h1
  exact ⟨c', cT, q, h2, by rw [r1, r2]; exact h3⟩
theorem own_narrow_ref {t : FieldType} {v : Value} (ht : t.isReference = true) (hv : v.isRef = true) : narrow t v = v := by
  cases t <;> first | (cases ht; done) | (cases v <;> first | rfl | (cases hv; done))
theorem own_fits_ref {t : FieldType} {v : Value} (hv : v.isRef = true) (ht : t.isReference = true := by rfl) : fits t v = true := by
  cases t <;> first | (cases ht; done) | (cases v <;> first | rfl | (cases hv; done))
theorem own_eq_int {args : Array Value} {first s : State} {o : Option Outcome} {idx : List Nat} {t : Term} {n : Int32} (h : (Cond.eq t (.int n)).value args first o s idx = some true) : t.eval args first o idx s = some (.int n) := by
  simp only [Cond.value, Term.eval] at h
  cases ht : t.eval args first o idx s with
  | none => simp [ht] at h
  | some x => cases x <;> simp [ht] at h ⊢; exact h
def own_b (x : Int32) : Int32 := nar .byte (x.toInt8.toInt32)
def own_ch (x : Int32) : Int32 := (x &&& 255)
theorem fits_nar_byte2 (x : Int32) : fits .byte (.int (own_b x)) = true := fits_nar_byte _
theorem own_mask_c (x : Int32) : nar .char (x &&& 255) = x &&& 255 := i2c_mask x
theorem own_ret_char (x : Int32) : some (Value.int (nar .char (x &&& 255))) = some (.int (x &&& 255)) := by rw [own_mask_c]
theorem own_ret_ch (x : Int32) : some (Value.int (nar .char (own_ch x))) = some (.int (own_ch x)) := own_ret_char x
theorem own_fits_c (x : Int32) : fits .char (.int (x &&& 255)) = true := by rw [← own_mask_c]; exact fits_nar_char _
theorem own_mask_nat (x : Int32) : ∃ i : Fin 256, x &&& 255 = Int32.ofNat i.1 := by
  have h : (x &&& 255).toBitVec.toNat < 256 := by
    show (x.toBitVec &&& 255#32).toNat < 256
    rw [BitVec.toNat_and]
    exact Nat.lt_of_le_of_lt Nat.and_le_right (by decide)
  refine ⟨⟨_, h⟩, ?_⟩
  apply Int32.toBitVec_inj.mp
  show _ = BitVec.ofNat 32 _
  simp
theorem own_ch_all : ∀ i : Fin 256, own_ch (own_b (Int32.ofNat i.1)) = Int32.ofNat i.1 ∧ ¬ ((255 : Int32) < Int32.ofNat i.1) := by decide +kernel
theorem own_mask_hi (x : Int32) : ¬ ((255 : Int32) < x &&& 255) := by obtain ⟨i, e⟩ := own_mask_nat x; rw [e]; exact (own_ch_all i).2
theorem own_ch_mask (x : Int32) : own_ch (own_b (x &&& 255)) = x &&& 255 := by obtain ⟨i, e⟩ := own_mask_nat x; rw [e]; exact (own_ch_all i).1
theorem own_wS {Z : State} {a0 : Array Value} (hw : ∀ d ∈ tables_1, d.before a0 Z = true) : ∀ a ∈ Bundle.stringAtoms, a.before a0 Z = true := fun a ha => by
  simp only [Bundle.stringAtoms, List.mem_cons, List.not_mem_nil, or_false] at ha
  rcases ha with rfl | rfl | rfl | rfl | rfl | rfl | rfl
  · exact hw _ (List.mem_of_getElem? (i := 6) rfl)
  · exact hw _ (List.mem_of_getElem? (i := 5) rfl)
  · exact hw _ (List.mem_of_getElem? (i := 23) rfl)
  · exact hw _ (List.mem_of_getElem? (i := 33) rfl)
  · exact hw _ (List.mem_of_getElem? (i := 31) rfl)
  · exact hw _ (List.mem_of_getElem? (i := 118) rfl)
  · exact hw _ (List.mem_of_getElem? (i := 119) rfl)
theorem own_CHr_safe {Z : State} {EL : List (String × Nat)} {vm vm1 : Vm} {h h' : Heap} (A : CHr Z EL vm h vm1 h') {x : Nat} (hx : h.size > x) (S : Safe Z EL vm h x) : Safe Z EL vm1 h' x := A.safe hx S
theorem own_safe_null {Z : State} {EL : List (String × Nat)} {vm : Vm} {h : Heap} {x : Addr} (hal : Z.vm.Alike vm) (E : Exa Z h x "java/lang/String") (F : Fld Z h x "java/lang/String" "value" "[B" .null) : Safe Z EL vm h x := fun B => by
  obtain ⟨p, hp, u, a, hb, q, hq, G, hy⟩ := B
  rcases hy with rfl | rfl
  · obtain ⟨cell, cf, k, i, f, h1, h2, -, -, -, -, h7⟩ := F
    cases (show h[q.sa]? = some q.sC from G.ha).symm.trans h1
    obtain ⟨cS, ⟨⟨-, -, -, ⟨c1, k1, i1, f1, -⟩, -, -, -, v1, -⟩, -⟩, -⟩ := G
    obtain ⟨k3, e3, -⟩ := State.fieldFound?_setVm (s := Z) hal h2
    have e4 := (show (Wst Z vm h).fieldFound? _ _ _ = _ from e3).symm.trans f1
    simp only [Option.some.injEq, Prod.mk.injEq] at e4
    rw [e4.2.2.2, v1] at h7; cases h7
  · obtain ⟨cell, k, e1, e2, e3, -, -⟩ := E
    cases (show h[q.sd]? = some q.SA from G.hd).symm.trans e1
    obtain ⟨cS, -, -, f, -⟩ := G
    have f' : vm.findClass "[B" = some q.SA.cls := f
    rw [hal.findClass] at f'
    obtain ⟨k1, q1, q2⟩ := Vm.findClass_spec f'
    obtain ⟨k2, q3, q4⟩ := Vm.findClass_spec e2
    cases q1.symm.trans q3
    exact absurd (q2.symm.trans q4) (by decide)
abbrev own_EL : List (String × Nat) := consts_1
theorem own_pn_java_lang_Record : plainName "java/lang/Record" = true := by first | (simp [plainName, overriddenIn]; done) | decide +kernel
theorem own_pn_com_example_rollcall_rollcall_io_Configuration_Rule : plainName "com/example/rollcall/rollcall/io/Configuration$Rule" = true := by first | (simp [plainName, overriddenIn]; done) | decide +kernel
theorem own_pn_java_lang_String : plainName "java/lang/String" = true := by first | (simp [plainName, overriddenIn]; done) | decide +kernel
theorem own_pn_java_lang_StringUTF16 : plainName "java/lang/StringUTF16" = true := by first | (simp [plainName, overriddenIn]; done) | decide +kernel
theorem own_pn_java_lang_StringLatin1 : plainName "java/lang/StringLatin1" = true := by first | (simp [plainName, overriddenIn]; done) | decide +kernel
theorem own_pn_com_example_rollcall_rollcall_io_RuleCopyingPinLaw : plainName "com/example/rollcall/rollcall/io/RuleCopyingPinLaw" = true := by first | (simp [plainName, overriddenIn]; done) | decide +kernel
theorem own_pd__28_29V : parseMethodDescriptor "()V" = some ⟨[], none⟩ := by decide +kernel
theorem own_pd__28Ljava_2flang_2fString_3bLjava_2futil_2fregex_2fPattern_3bJILjava_2flang_2fString_3bZZ_29V : parseMethodDescriptor "(Ljava/lang/String;Ljava/util/regex/Pattern;JILjava/lang/String;ZZ)V" = some ⟨[(.object "java/lang/String"), (.object "java/util/regex/Pattern"), .long, .int, (.object "java/lang/String"), .boolean, .boolean], none⟩ := by decide +kernel
theorem own_pd__28_5bCIILjava_2flang_2fVoid_3b_29V : parseMethodDescriptor "([CIILjava/lang/Void;)V" = some ⟨[(.array .char), .int, .int, (.object "java/lang/Void")], none⟩ := by decide +kernel
theorem own_pd__28_5bCI_5bBII_29I : parseMethodDescriptor "([CI[BII)I" = some ⟨[(.array .char), .int, (.array .byte), .int, .int], some .int⟩ := by decide +kernel
theorem own_pd__28_5bCII_29_5bB : parseMethodDescriptor "([CII)[B" = some ⟨[(.array .char), .int, .int], some (.array .byte)⟩ := by decide +kernel
theorem own_pd__28_5bBI_29B : parseMethodDescriptor "([BI)B" = some ⟨[(.array .byte), .int], some .byte⟩ := by decide +kernel
theorem own_pd__28C_29Z : parseMethodDescriptor "(C)Z" = some ⟨[.char], some .boolean⟩ := by decide +kernel
theorem own_pd__28C_29_5bB : parseMethodDescriptor "(C)[B" = some ⟨[.char], some (.array .byte)⟩ := by decide +kernel
theorem own_pd__28_5bBB_29V : parseMethodDescriptor "([BB)V" = some ⟨[(.array .byte), .byte], none⟩ := by decide +kernel
theorem own_pd__28_5bC_29V : parseMethodDescriptor "([C)V" = some ⟨[(.array .char)], none⟩ := by decide +kernel
theorem own_pd__28C_29Ljava_2flang_2fString_3b : parseMethodDescriptor "(C)Ljava/lang/String;" = some ⟨[.char], some (.object "java/lang/String")⟩ := by decide +kernel
theorem own_pd__28II_29Ljava_2flang_2fString_3b : parseMethodDescriptor "(II)Ljava/lang/String;" = some ⟨[.int, .int], some (.object "java/lang/String")⟩ := by decide +kernel
theorem own_pd__28Ljava_2flang_2fString_3b_29Lcom_2fexample_2frollcall_2frollcall_2fio_2fConfiguration_24Rule_3b : parseMethodDescriptor "(Ljava/lang/String;)Lcom/example/rollcall/rollcall/io/Configuration$Rule;" = some ⟨[(.object "java/lang/String")], some (.object "com/example/rollcall/rollcall/io/Configuration$Rule")⟩ := by decide +kernel
theorem own_pd__28_29Ljava_2flang_2fString_3b : parseMethodDescriptor "()Ljava/lang/String;" = some ⟨[], some (.object "java/lang/String")⟩ := by decide +kernel
theorem own_pd__28Ljava_2flang_2fObject_3b_29Z : parseMethodDescriptor "(Ljava/lang/Object;)Z" = some ⟨[(.object "java/lang/Object")], some .boolean⟩ := by decide +kernel
theorem own_pd__28_29Ljava_2futil_2fregex_2fPattern_3b : parseMethodDescriptor "()Ljava/util/regex/Pattern;" = some ⟨[], some (.object "java/util/regex/Pattern")⟩ := by decide +kernel
theorem own_pd__28_29J : parseMethodDescriptor "()J" = some ⟨[], some .long⟩ := by decide +kernel
theorem own_pd__28_29I : parseMethodDescriptor "()I" = some ⟨[], some .int⟩ := by decide +kernel
theorem own_pd__28_29Z : parseMethodDescriptor "()Z" = some ⟨[], some .boolean⟩ := by decide +kernel
theorem d_rm_rec_0 : decode jdk_30_method_1_code 0 = .ok (.aload_n 0, 1) := by decide +kernel
theorem d_rm_rec_1 : decode jdk_30_method_1_code 1 = .ok (.invokespecial 1, 3) := by decide +kernel
theorem d_rm_rec_4 : decode jdk_30_method_1_code 4 = .ok (.return_, 1) := by decide +kernel
def Q_rm_rec (Z : State) (t1 : Addr) (h0 : Heap) (n0 : Nat) (v : Option Value) (h : Heap) (L : List Loc) : Prop := v = none ∧ Fr n0 L ∧ h = h0
theorem ef_rm_rec (m : MethodId) (t1 : Addr) : entryFrame m #[(.ref t1)] 1 = mkF m 0 #[.val (.ref t1)] [] := by first | (simp [entryFrame, mkF, argsToLocals, Value.category]; done) | rfl
set_option maxRecDepth 65536 in
set_option maxHeartbeats 40000000 in
theorem rm_rec (l : Launch) (Z : State) (a0 : Array Value) (hw : ∀ d ∈ tables_1, d.before a0 Z = true) (ws : List Jvm.Cond) (t1 : Addr) (h0 : Heap) (n0 : Nat) (O0 : Old Z n0 h0) :
    MetFree l (⟨"java/lang/Record", "<init>", "()V"⟩ : MethodName) (head1 (Jvm.Cond.code (⟨"java/lang/Record", "<init>", "()V"⟩ : MethodName) jdk_30_method_1_code 1 none :: ws) ({ frames := 1, cells := 0, slots := 0, locals := 12 } : Room)) (fun a U => a = #[(.ref t1)] ∧ Z.Warmed39 U.vm ∧ U.heap = h0) (fun _ _ _ _ _ => True) (fun _ U o U' => ∃ v L, o = .returned v ∧ Q_rm_rec Z t1 h0 n0 v U'.heap L ∧ FrameEnd U o U' L ({ frames := 1, cells := 0, slots := 0, locals := 12 } : Room).cells ({ frames := 1, cells := 0, slots := 0, locals := 12 } : Room).slots) := by
  refine MetFree.of_bodySF (plainFor_of_name own_pn_java_lang_Record) hisR ?_
  intro p e s m args below meth c s₁ Bd hml0 hP hK
  obtain ⟨rfl, hZ, hh⟩ := hP
  have hx := Bd.exec
  have hby := Bd.bytes
  have hml : c.maxLocals = 1 := hml0
  have hown : s.vm.findClass "java/lang/Record" = some m.cls := findClass_of_methodNamed Bd.named
  have hnm := (name_of_methodNamed Bd.named Bd.method).1
  have X0 : Stand p l e ({ frames := 1, cells := 0, slots := 0, locals := 12 } : Room) s m #[(.ref t1)] below meth c s₁ [] 0 0 := Stand.of_body Bd
  have e0 : s₁.heap = h0 := by rw [← hh, Bd.state]; rfl
  have N0 := Fr.nil n0
  have Z0 : n0 ≤ h0.size := by rw [← O0.1]; exact O0.2.1
  show own_Go p e below (s₁.setTop (entryFrame m #[(.ref t1)] 1)) (fun t o => ∃ v L, o = .returned v ∧ Q_rm_rec Z t1 h0 n0 v t.heap L ∧ FrameEnd s o t L ({ frames := 1, cells := 0, slots := 0, locals := 12 } : Room).cells ({ frames := 1, cells := 0, slots := 0, locals := 12 } : Room).slots)
  rw [ef_rm_rec m t1]
  refine own_by (fun _ k => XS.aloadN X0.here hx rfl (hb hby d_rm_rec_0) rfl rfl k) ?_
  show own_Go p e below (s₁.setTop (mkF m 1 #[.val (.ref t1)] [(.ref t1)])) _
  obtain ⟨T1, X1, e1, st1⟩ := initO X0 hx hZ hown (hw _ (List.mem_of_getElem? (i := 48) rfl)) (hw _ (List.mem_of_getElem? (i := 16) rfl)) (hw _ (List.mem_of_getElem? (i := 17) rfl)) e0 (g := (mkF m 1 #[.val (.ref t1)] [(.ref t1)])) rfl (by rw [hml]; rfl) rfl (hb hby d_rm_rec_1) (by decide) (W := 0) (by show 2 * 0 + _ ≤ _; exact Nat.le_of_eq rfl) (by decide)
  refine own_by st1 ?_
  show own_Go p e below (T1.setTop (mkF m 4 #[.val (.ref t1)] [])) _
  obtain ⟨fs, hr, hrun, hended, hW, hsame⟩ := X1.leave (v := none) (fun h => rfl)
  refine ⟨_, _, X1.returnOut hx Bd.returns (hb hby d_rm_rec_4) hr, hrun, hended, _, _, rfl, ?_, ⟨_, rfl⟩, hW, hsame.mono (by decide) (by decide)⟩
  show Q_rm_rec Z t1 h0 n0 _ T1.heap _
  rw [e1]
  exact ⟨rfl, N0, rfl⟩
theorem d_rm_rinit_0 : decode prog_8_method_1_code 0 = .ok (.aload_n 0, 1) := by decide +kernel
theorem d_rm_rinit_1 : decode prog_8_method_1_code 1 = .ok (.invokespecial 1, 3) := by decide +kernel
theorem d_rm_rinit_4 : decode prog_8_method_1_code 4 = .ok (.aload_n 0, 1) := by decide +kernel
theorem d_rm_rinit_5 : decode prog_8_method_1_code 5 = .ok (.aload_n 1, 1) := by decide +kernel
theorem d_rm_rinit_6 : decode prog_8_method_1_code 6 = .ok (.putfield 7, 3) := by decide +kernel
theorem d_rm_rinit_9 : decode prog_8_method_1_code 9 = .ok (.aload_n 0, 1) := by decide +kernel
theorem d_rm_rinit_10 : decode prog_8_method_1_code 10 = .ok (.aload_n 2, 1) := by decide +kernel
theorem d_rm_rinit_11 : decode prog_8_method_1_code 11 = .ok (.putfield 13, 3) := by decide +kernel
theorem d_rm_rinit_14 : decode prog_8_method_1_code 14 = .ok (.aload_n 0, 1) := by decide +kernel
theorem d_rm_rinit_15 : decode prog_8_method_1_code 15 = .ok (.lload_n 3, 1) := by decide +kernel
theorem d_rm_rinit_16 : decode prog_8_method_1_code 16 = .ok (.putfield 17, 3) := by decide +kernel
theorem d_rm_rinit_19 : decode prog_8_method_1_code 19 = .ok (.aload_n 0, 1) := by decide +kernel
theorem d_rm_rinit_20 : decode prog_8_method_1_code 20 = .ok (.iload 5, 2) := by decide +kernel
theorem d_rm_rinit_22 : decode prog_8_method_1_code 22 = .ok (.putfield 21, 3) := by decide +kernel
theorem d_rm_rinit_25 : decode prog_8_method_1_code 25 = .ok (.aload_n 0, 1) := by decide +kernel
theorem d_rm_rinit_26 : decode prog_8_method_1_code 26 = .ok (.aload 6, 2) := by decide +kernel
theorem d_rm_rinit_28 : decode prog_8_method_1_code 28 = .ok (.putfield 25, 3) := by decide +kernel
theorem d_rm_rinit_31 : decode prog_8_method_1_code 31 = .ok (.aload_n 0, 1) := by decide +kernel
theorem d_rm_rinit_32 : decode prog_8_method_1_code 32 = .ok (.iload 7, 2) := by decide +kernel
theorem d_rm_rinit_34 : decode prog_8_method_1_code 34 = .ok (.putfield 28, 3) := by decide +kernel
theorem d_rm_rinit_37 : decode prog_8_method_1_code 37 = .ok (.aload_n 0, 1) := by decide +kernel
theorem d_rm_rinit_38 : decode prog_8_method_1_code 38 = .ok (.iload 8, 2) := by decide +kernel
theorem d_rm_rinit_40 : decode prog_8_method_1_code 40 = .ok (.putfield 32, 3) := by decide +kernel
theorem d_rm_rinit_43 : decode prog_8_method_1_code 43 = .ok (.return_, 1) := by decide +kernel
def Q_rm_rinit (Z : State) (t1 : Addr) (r1 : Addr) (h0 : Heap) (n0 : Nat) (v : Option Value) (h : Heap) (L : List Loc) : Prop := v = none ∧ Fr n0 L ∧ Keep h0 h [t1] ∧ Exa Z h t1 "com/example/rollcall/rollcall/io/Configuration$Rule" ∧ Fld Z h t1 "com/example/rollcall/rollcall/io/Configuration$Rule" "from" "Ljava/lang/String;" (.ref r1) ∧ Fld Z h t1 "com/example/rollcall/rollcall/io/Configuration$Rule" "regex" "Ljava/util/regex/Pattern;" .null ∧ Fld Z h t1 "com/example/rollcall/rollcall/io/Configuration$Rule" "match" "J" (.long (0 : Int64)) ∧ Fld Z h t1 "com/example/rollcall/rollcall/io/Configuration$Rule" "group" "I" (.int (0 : Int32)) ∧ Fld Z h t1 "com/example/rollcall/rollcall/io/Configuration$Rule" "ifEmpty" "Ljava/lang/String;" .null ∧ Fld Z h t1 "com/example/rollcall/rollcall/io/Configuration$Rule" "keepIfEmpty" "Z" (.int (0 : Int32)) ∧ Fld Z h t1 "com/example/rollcall/rollcall/io/Configuration$Rule" "onlyIfEmpty" "Z" (.int (0 : Int32))
theorem ef_rm_rinit (m : MethodId) (t1 : Addr) (r1 : Addr) : entryFrame m #[(.ref t1), (.ref r1), .null, (.long (0 : Int64)), (.int (0 : Int32)), .null, (.int (0 : Int32)), (.int (0 : Int32))] 9 = mkF m 0 #[.val (.ref t1), .val (.ref r1), .val .null, .val (.long (0 : Int64)), .second, .val (.int (0 : Int32)), .val .null, .val (.int (0 : Int32)), .val (.int (0 : Int32))] [] := by first | (simp [entryFrame, mkF, argsToLocals, Value.category]; done) | rfl
set_option maxRecDepth 65536 in
set_option maxHeartbeats 40000000 in
theorem rm_rinit (l : Launch) (Z : State) (a0 : Array Value) (hw : ∀ d ∈ tables_1, d.before a0 Z = true) (ws : List Jvm.Cond) (t1 : Addr) (r1 : Addr) (h0 : Heap) (n0 : Nat) (O0 : Old Z n0 h0) (Pa : Exa Z h0 t1 "com/example/rollcall/rollcall/io/Configuration$Rule") (Pb : Fld Z h0 t1 "com/example/rollcall/rollcall/io/Configuration$Rule" "from" "Ljava/lang/String;" .null) (Pc : Fld Z h0 t1 "com/example/rollcall/rollcall/io/Configuration$Rule" "regex" "Ljava/util/regex/Pattern;" .null) (Pd : Fld Z h0 t1 "com/example/rollcall/rollcall/io/Configuration$Rule" "match" "J" (.long (0 : Int64))) (Pe : Fld Z h0 t1 "com/example/rollcall/rollcall/io/Configuration$Rule" "group" "I" (.int (0 : Int32))) (Pf : Fld Z h0 t1 "com/example/rollcall/rollcall/io/Configuration$Rule" "ifEmpty" "Ljava/lang/String;" .null) (Pg : Fld Z h0 t1 "com/example/rollcall/rollcall/io/Configuration$Rule" "keepIfEmpty" "Z" (.int (0 : Int32))) (Ph : Fld Z h0 t1 "com/example/rollcall/rollcall/io/Configuration$Rule" "onlyIfEmpty" "Z" (.int (0 : Int32))) (gt : n0 ≤ t1) :
    MetFree l (⟨"com/example/rollcall/rollcall/io/Configuration$Rule", "<init>", "(Ljava/lang/String;Ljava/util/regex/Pattern;JILjava/lang/String;ZZ)V"⟩ : MethodName) (head1 (Jvm.Cond.code (⟨"com/example/rollcall/rollcall/io/Configuration$Rule", "<init>", "(Ljava/lang/String;Ljava/util/regex/Pattern;JILjava/lang/String;ZZ)V"⟩ : MethodName) prog_8_method_1_code 9 none :: ws) ({ frames := 2, cells := 0, slots := 0, locals := 24 } : Room)) (fun a U => a = #[(.ref t1), (.ref r1), .null, (.long (0 : Int64)), (.int (0 : Int32)), .null, (.int (0 : Int32)), (.int (0 : Int32))] ∧ Z.Warmed39 U.vm ∧ U.heap = h0) (fun _ _ _ _ _ => True) (fun _ U o U' => ∃ v L, o = .returned v ∧ Q_rm_rinit Z t1 r1 h0 n0 v U'.heap L ∧ FrameEnd U o U' L ({ frames := 2, cells := 0, slots := 0, locals := 24 } : Room).cells ({ frames := 2, cells := 0, slots := 0, locals := 24 } : Room).slots) := by
  refine MetFree.of_bodySF (plainFor_of_name own_pn_com_example_rollcall_rollcall_io_Configuration_Rule) hisR ?_
  intro p e s m args below meth c s₁ Bd hml0 hP hK
  obtain ⟨rfl, hZ, hh⟩ := hP
  have hx := Bd.exec
  have hby := Bd.bytes
  have hml : c.maxLocals = 9 := hml0
  have hown : s.vm.findClass "com/example/rollcall/rollcall/io/Configuration$Rule" = some m.cls := findClass_of_methodNamed Bd.named
  have hnm := (name_of_methodNamed Bd.named Bd.method).1
  have X0 : Stand p l e ({ frames := 2, cells := 0, slots := 0, locals := 24 } : Room) s m #[(.ref t1), (.ref r1), .null, (.long (0 : Int64)), (.int (0 : Int32)), .null, (.int (0 : Int32)), (.int (0 : Int32))] below meth c s₁ [] 0 0 := Stand.of_body Bd
  have e0 : s₁.heap = h0 := by rw [← hh, Bd.state]; rfl
  have N0 := Fr.nil n0
  have Z0 : n0 ≤ h0.size := by rw [← O0.1]; exact O0.2.1
  show own_Go p e below (s₁.setTop (entryFrame m #[(.ref t1), (.ref r1), .null, (.long (0 : Int64)), (.int (0 : Int32)), .null, (.int (0 : Int32)), (.int (0 : Int32))] 9)) (fun t o => ∃ v L, o = .returned v ∧ Q_rm_rinit Z t1 r1 h0 n0 v t.heap L ∧ FrameEnd s o t L ({ frames := 2, cells := 0, slots := 0, locals := 24 } : Room).cells ({ frames := 2, cells := 0, slots := 0, locals := 24 } : Room).slots)
  rw [ef_rm_rinit m t1 r1]
  have lt_Pa : h0.size > t1 := Pa.lt
  have lt_Pb : h0.size > t1 := Pb.lt
  have lt_Pc : h0.size > t1 := Pc.lt
  have lt_Pd : h0.size > t1 := Pd.lt
  have lt_Pe : h0.size > t1 := Pe.lt
  have lt_Pf : h0.size > t1 := Pf.lt
  have lt_Pg : h0.size > t1 := Pg.lt
  have lt_Ph : h0.size > t1 := Ph.lt
  refine own_by (fun _ k => XS.aloadN X0.here hx rfl (hb hby d_rm_rinit_0) rfl rfl k) ?_
  show own_Go p e below (s₁.setTop (mkF m 1 #[.val (.ref t1), .val (.ref r1), .val .null, .val (.long (0 : Int64)), .second, .val (.int (0 : Int32)), .val .null, .val (.int (0 : Int32)), .val (.int (0 : Int32))] [(.ref t1)])) _
  obtain ⟨_, _, ⟨T1, L1, k1, n1⟩, -, X1, ⟨Lc1, hQ1, l1, y1, z1⟩, st1⟩ := X0.specialBack hx (y := (⟨"java/lang/Record", "<init>", "()V"⟩ : MethodName)) rfl hown (mvT hZ (hw _ (List.mem_of_getElem? (i := 43) rfl))) (mvT hZ (hw _ (List.mem_of_getElem? (i := 44) rfl))) (mvT hZ (hw _ (List.mem_of_getElem? (i := 47) rfl))) (by decide) (backOf (W := 0) (rm_rec l Z a0 hw [] t1 h0 n0 O0) hZ (hw _ (List.mem_of_getElem? (i := 47) rfl)) (hw _ (List.mem_of_getElem? (i := 46) rfl)) (by decide) (by decide)) (g := (mkF m 1 #[.val (.ref t1), .val (.ref r1), .val .null, .val (.long (0 : Int64)), .second, .val (.int (0 : Int32)), .val .null, .val (.int (0 : Int32)), .val (.int (0 : Int32))] [(.ref t1)])) rfl (by rw [hml]; rfl) (Steps.refl _) (a := t1) (argsL := []) (rest := []) (lenOf own_pd__28_29V rfl) rfl (by show 2 * 0 + _ ≤ _; exact Nat.le_of_eq rfl) (hb hby d_rm_rinit_1) (fun _ _ => ⟨rfl, e0, (by decide : 0 + 0 ≤ _), (by decide : 0 + 0 ≤ _)⟩)
  dsimp only [Pt.U, Pt.locs, Pt.cells, Pt.slots] at X1 l1 y1 z1 st1 hQ1
  subst l1 y1 z1
  obtain ⟨rfl, M1, K1⟩ := hQ1
  have N1 := Fr.app N0 M1
  refine own_by (fun _ k => st1.trans k) ?_
  show own_Go p e below (T1.setTop (mkF m 4 #[.val (.ref t1), .val (.ref r1), .val .null, .val (.long (0 : Int64)), .second, .val (.int (0 : Int32)), .val .null, .val (.int (0 : Int32)), .val (.int (0 : Int32))] [])) _
  refine own_by (fun _ k => XS.aloadN X1.here hx rfl (hb hby d_rm_rinit_4) rfl rfl k) ?_
  show own_Go p e below (T1.setTop (mkF m 5 #[.val (.ref t1), .val (.ref r1), .val .null, .val (.long (0 : Int64)), .second, .val (.int (0 : Int32)), .val .null, .val (.int (0 : Int32)), .val (.int (0 : Int32))] [(.ref t1)])) _
  refine own_by (fun _ k => XS.aloadN X1.here hx rfl (hb hby d_rm_rinit_5) rfl rfl k) ?_
  show own_Go p e below (T1.setTop (mkF m 6 #[.val (.ref t1), .val (.ref r1), .val .null, .val (.long (0 : Int64)), .second, .val (.int (0 : Int32)), .val .null, .val (.int (0 : Int32)), .val (.int (0 : Int32))] [(.ref r1), (.ref t1)])) _
  obtain ⟨T2, h2, X2, e2, W2, st2⟩ := putF X1 hx hZ hown (host := "") (Or.inl (hw _ (List.mem_of_getElem? (i := 49) rfl))) Via.refl K1 Pb Pa (Or.inr ⟨(hw _ (List.mem_of_getElem? (i := 50) rfl)), rfl, hnm⟩) (hw _ (List.mem_of_getElem? (i := 39) rfl)) (ty := (.object "java/lang/String")) (by decide) rfl rfl (g := (mkF m 6 #[.val (.ref t1), .val (.ref r1), .val .null, .val (.long (0 : Int64)), .second, .val (.int (0 : Int32)), .val .null, .val (.int (0 : Int32)), .val (.int (0 : Int32))] [(.ref r1), (.ref t1)])) rfl rfl (hb hby d_rm_rinit_6)
  refine own_by st2 ?_
  have z2 := W2.size
  have N2 := Fr.snoc X2 N1 (by omega)
  have Fw2 : Fld Z h2 t1 "com/example/rollcall/rollcall/io/Configuration$Rule" "from" "Ljava/lang/String;" (.ref r1) := Pb.same W2
  show own_Go p e below (T2.setTop (mkF m 9 #[.val (.ref t1), .val (.ref r1), .val .null, .val (.long (0 : Int64)), .second, .val (.int (0 : Int32)), .val .null, .val (.int (0 : Int32)), .val (.int (0 : Int32))] [])) _
  refine own_by (fun _ k => XS.aloadN X2.here hx rfl (hb hby d_rm_rinit_9) rfl rfl k) ?_
  show own_Go p e below (T2.setTop (mkF m 10 #[.val (.ref t1), .val (.ref r1), .val .null, .val (.long (0 : Int64)), .second, .val (.int (0 : Int32)), .val .null, .val (.int (0 : Int32)), .val (.int (0 : Int32))] [(.ref t1)])) _
  refine own_by (fun _ k => XS.aloadN X2.here hx rfl (hb hby d_rm_rinit_10) rfl rfl k) ?_
  show own_Go p e below (T2.setTop (mkF m 11 #[.val (.ref t1), .val (.ref r1), .val .null, .val (.long (0 : Int64)), .second, .val (.int (0 : Int32)), .val .null, .val (.int (0 : Int32)), .val (.int (0 : Int32))] [.null, (.ref t1)])) _
  have fc3 : Fld Z h2 t1 "com/example/rollcall/rollcall/io/Configuration$Rule" "regex" "Ljava/util/regex/Pattern;" .null := (Pc.other W2 (Or.inr (slot_ne (a0 := a0) (Or.inr (hw _ (List.mem_of_getElem? (i := 52) rfl))) (Or.inr (hw _ (List.mem_of_getElem? (i := 50) rfl))) (by decide) (t := (.object "java/util/regex/Pattern")) (by decide) (t' := (.object "java/lang/String")) (by decide))))
  have fc4 : Exa Z h2 t1 "com/example/rollcall/rollcall/io/Configuration$Rule" := (Pa.wr W2)
  obtain ⟨T5, h5, X5, e5, W5, st5⟩ := putF X2 hx hZ hown (host := "") (Or.inl (hw _ (List.mem_of_getElem? (i := 51) rfl))) Via.refl e2 fc3 fc4 (Or.inr ⟨(hw _ (List.mem_of_getElem? (i := 52) rfl)), rfl, hnm⟩) (hw _ (List.mem_of_getElem? (i := 39) rfl)) (ty := (.object "java/util/regex/Pattern")) (by decide) rfl rfl (g := (mkF m 11 #[.val (.ref t1), .val (.ref r1), .val .null, .val (.long (0 : Int64)), .second, .val (.int (0 : Int32)), .val .null, .val (.int (0 : Int32)), .val (.int (0 : Int32))] [.null, (.ref t1)])) rfl rfl (hb hby d_rm_rinit_11)
  refine own_by st5 ?_
  have z5 := W5.size
  have N5 := Fr.snoc X5 N2 (by omega)
  have Fw5 : Fld Z h5 t1 "com/example/rollcall/rollcall/io/Configuration$Rule" "regex" "Ljava/util/regex/Pattern;" .null := fc3.same W5
  show own_Go p e below (T5.setTop (mkF m 14 #[.val (.ref t1), .val (.ref r1), .val .null, .val (.long (0 : Int64)), .second, .val (.int (0 : Int32)), .val .null, .val (.int (0 : Int32)), .val (.int (0 : Int32))] [])) _
  refine own_by (fun _ k => XS.aloadN X5.here hx rfl (hb hby d_rm_rinit_14) rfl rfl k) ?_
  show own_Go p e below (T5.setTop (mkF m 15 #[.val (.ref t1), .val (.ref r1), .val .null, .val (.long (0 : Int64)), .second, .val (.int (0 : Int32)), .val .null, .val (.int (0 : Int32)), .val (.int (0 : Int32))] [(.ref t1)])) _
  refine own_by (fun _ k => XS.lloadN X5.here hx rfl (hb hby d_rm_rinit_15) rfl k) ?_
  show own_Go p e below (T5.setTop (mkF m 16 #[.val (.ref t1), .val (.ref r1), .val .null, .val (.long (0 : Int64)), .second, .val (.int (0 : Int32)), .val .null, .val (.int (0 : Int32)), .val (.int (0 : Int32))] [(.long (0 : Int64)), (.ref t1)])) _
  have fc6 : Fld Z h5 t1 "com/example/rollcall/rollcall/io/Configuration$Rule" "match" "J" (.long (0 : Int64)) := ((Pd.other W2 (Or.inr (slot_ne (a0 := a0) (Or.inr (hw _ (List.mem_of_getElem? (i := 54) rfl))) (Or.inr (hw _ (List.mem_of_getElem? (i := 50) rfl))) (by decide) (t := .long) (by decide) (t' := (.object "java/lang/String")) (by decide)))).other W5 (Or.inr (slot_ne (a0 := a0) (Or.inr (hw _ (List.mem_of_getElem? (i := 54) rfl))) (Or.inr (hw _ (List.mem_of_getElem? (i := 52) rfl))) (by decide) (t := .long) (by decide) (t' := (.object "java/util/regex/Pattern")) (by decide))))
  have fc7 : Exa Z h5 t1 "com/example/rollcall/rollcall/io/Configuration$Rule" := (fc4.wr W5)
  obtain ⟨T8, h8, X8, e8, W8, st8⟩ := putF X5 hx hZ hown (host := "") (Or.inl (hw _ (List.mem_of_getElem? (i := 53) rfl))) Via.refl e5 fc6 fc7 (Or.inr ⟨(hw _ (List.mem_of_getElem? (i := 54) rfl)), rfl, hnm⟩) (hw _ (List.mem_of_getElem? (i := 39) rfl)) (ty := .long) (by decide) rfl rfl (g := (mkF m 16 #[.val (.ref t1), .val (.ref r1), .val .null, .val (.long (0 : Int64)), .second, .val (.int (0 : Int32)), .val .null, .val (.int (0 : Int32)), .val (.int (0 : Int32))] [(.long (0 : Int64)), (.ref t1)])) rfl rfl (hb hby d_rm_rinit_16)
  refine own_by st8 ?_
  have z8 := W8.size
  have N8 := Fr.snoc X8 N5 (by omega)
  have Fw8 : Fld Z h8 t1 "com/example/rollcall/rollcall/io/Configuration$Rule" "match" "J" (.long (0 : Int64)) := fc6.same W8
  show own_Go p e below (T8.setTop (mkF m 19 #[.val (.ref t1), .val (.ref r1), .val .null, .val (.long (0 : Int64)), .second, .val (.int (0 : Int32)), .val .null, .val (.int (0 : Int32)), .val (.int (0 : Int32))] [])) _
  refine own_by (fun _ k => XS.aloadN X8.here hx rfl (hb hby d_rm_rinit_19) rfl rfl k) ?_
  show own_Go p e below (T8.setTop (mkF m 20 #[.val (.ref t1), .val (.ref r1), .val .null, .val (.long (0 : Int64)), .second, .val (.int (0 : Int32)), .val .null, .val (.int (0 : Int32)), .val (.int (0 : Int32))] [(.ref t1)])) _
  refine own_by (fun _ k => XS.iload X8.here hx rfl (hb hby d_rm_rinit_20) rfl k) ?_
  show own_Go p e below (T8.setTop (mkF m 22 #[.val (.ref t1), .val (.ref r1), .val .null, .val (.long (0 : Int64)), .second, .val (.int (0 : Int32)), .val .null, .val (.int (0 : Int32)), .val (.int (0 : Int32))] [(.int (0 : Int32)), (.ref t1)])) _
  have fc9 : Fld Z h8 t1 "com/example/rollcall/rollcall/io/Configuration$Rule" "group" "I" (.int (0 : Int32)) := (((Pe.other W2 (Or.inr (slot_ne (a0 := a0) (Or.inr (hw _ (List.mem_of_getElem? (i := 56) rfl))) (Or.inr (hw _ (List.mem_of_getElem? (i := 50) rfl))) (by decide) (t := .int) (by decide) (t' := (.object "java/lang/String")) (by decide)))).other W5 (Or.inr (slot_ne (a0 := a0) (Or.inr (hw _ (List.mem_of_getElem? (i := 56) rfl))) (Or.inr (hw _ (List.mem_of_getElem? (i := 52) rfl))) (by decide) (t := .int) (by decide) (t' := (.object "java/util/regex/Pattern")) (by decide)))).other W8 (Or.inr (slot_ne (a0 := a0) (Or.inr (hw _ (List.mem_of_getElem? (i := 56) rfl))) (Or.inr (hw _ (List.mem_of_getElem? (i := 54) rfl))) (by decide) (t := .int) (by decide) (t' := .long) (by decide))))
  have fc10 : Exa Z h8 t1 "com/example/rollcall/rollcall/io/Configuration$Rule" := (fc7.wr W8)
  obtain ⟨T11, h11, X11, e11, W11, st11⟩ := putF X8 hx hZ hown (host := "") (Or.inl (hw _ (List.mem_of_getElem? (i := 55) rfl))) Via.refl e8 fc9 fc10 (Or.inr ⟨(hw _ (List.mem_of_getElem? (i := 56) rfl)), rfl, hnm⟩) (hw _ (List.mem_of_getElem? (i := 39) rfl)) (ty := .int) (by decide) rfl rfl (g := (mkF m 22 #[.val (.ref t1), .val (.ref r1), .val .null, .val (.long (0 : Int64)), .second, .val (.int (0 : Int32)), .val .null, .val (.int (0 : Int32)), .val (.int (0 : Int32))] [(.int (0 : Int32)), (.ref t1)])) rfl rfl (hb hby d_rm_rinit_22)
  refine own_by st11 ?_
  have z11 := W11.size
  have N11 := Fr.snoc X11 N8 (by omega)
  have Fw11 : Fld Z h11 t1 "com/example/rollcall/rollcall/io/Configuration$Rule" "group" "I" (.int (0 : Int32)) := fc9.same W11
  show own_Go p e below (T11.setTop (mkF m 25 #[.val (.ref t1), .val (.ref r1), .val .null, .val (.long (0 : Int64)), .second, .val (.int (0 : Int32)), .val .null, .val (.int (0 : Int32)), .val (.int (0 : Int32))] [])) _
  refine own_by (fun _ k => XS.aloadN X11.here hx rfl (hb hby d_rm_rinit_25) rfl rfl k) ?_
  show own_Go p e below (T11.setTop (mkF m 26 #[.val (.ref t1), .val (.ref r1), .val .null, .val (.long (0 : Int64)), .second, .val (.int (0 : Int32)), .val .null, .val (.int (0 : Int32)), .val (.int (0 : Int32))] [(.ref t1)])) _
  refine own_by (fun _ k => XS.aload X11.here hx rfl (hb hby d_rm_rinit_26) rfl rfl k) ?_
  show own_Go p e below (T11.setTop (mkF m 28 #[.val (.ref t1), .val (.ref r1), .val .null, .val (.long (0 : Int64)), .second, .val (.int (0 : Int32)), .val .null, .val (.int (0 : Int32)), .val (.int (0 : Int32))] [.null, (.ref t1)])) _
  have fc12 : Fld Z h11 t1 "com/example/rollcall/rollcall/io/Configuration$Rule" "ifEmpty" "Ljava/lang/String;" .null := ((((Pf.other W2 (Or.inr (slot_ne (a0 := a0) (Or.inr (hw _ (List.mem_of_getElem? (i := 58) rfl))) (Or.inr (hw _ (List.mem_of_getElem? (i := 50) rfl))) (by decide) (t := (.object "java/lang/String")) (by decide) (t' := (.object "java/lang/String")) (by decide)))).other W5 (Or.inr (slot_ne (a0 := a0) (Or.inr (hw _ (List.mem_of_getElem? (i := 58) rfl))) (Or.inr (hw _ (List.mem_of_getElem? (i := 52) rfl))) (by decide) (t := (.object "java/lang/String")) (by decide) (t' := (.object "java/util/regex/Pattern")) (by decide)))).other W8 (Or.inr (slot_ne (a0 := a0) (Or.inr (hw _ (List.mem_of_getElem? (i := 58) rfl))) (Or.inr (hw _ (List.mem_of_getElem? (i := 54) rfl))) (by decide) (t := (.object "java/lang/String")) (by decide) (t' := .long) (by decide)))).other W11 (Or.inr (slot_ne (a0 := a0) (Or.inr (hw _ (List.mem_of_getElem? (i := 58) rfl))) (Or.inr (hw _ (List.mem_of_getElem? (i := 56) rfl))) (by decide) (t := (.object "java/lang/String")) (by decide) (t' := .int) (by decide))))
  have fc13 : Exa Z h11 t1 "com/example/rollcall/rollcall/io/Configuration$Rule" := (fc10.wr W11)
  obtain ⟨T14, h14, X14, e14, W14, st14⟩ := putF X11 hx hZ hown (host := "") (Or.inl (hw _ (List.mem_of_getElem? (i := 57) rfl))) Via.refl e11 fc12 fc13 (Or.inr ⟨(hw _ (List.mem_of_getElem? (i := 58) rfl)), rfl, hnm⟩) (hw _ (List.mem_of_getElem? (i := 39) rfl)) (ty := (.object "java/lang/String")) (by decide) rfl rfl (g := (mkF m 28 #[.val (.ref t1), .val (.ref r1), .val .null, .val (.long (0 : Int64)), .second, .val (.int (0 : Int32)), .val .null, .val (.int (0 : Int32)), .val (.int (0 : Int32))] [.null, (.ref t1)])) rfl rfl (hb hby d_rm_rinit_28)
  refine own_by st14 ?_
  have z14 := W14.size
  have N14 := Fr.snoc X14 N11 (by omega)
  have Fw14 : Fld Z h14 t1 "com/example/rollcall/rollcall/io/Configuration$Rule" "ifEmpty" "Ljava/lang/String;" .null := fc12.same W14
  show own_Go p e below (T14.setTop (mkF m 31 #[.val (.ref t1), .val (.ref r1), .val .null, .val (.long (0 : Int64)), .second, .val (.int (0 : Int32)), .val .null, .val (.int (0 : Int32)), .val (.int (0 : Int32))] [])) _
  refine own_by (fun _ k => XS.aloadN X14.here hx rfl (hb hby d_rm_rinit_31) rfl rfl k) ?_
  show own_Go p e below (T14.setTop (mkF m 32 #[.val (.ref t1), .val (.ref r1), .val .null, .val (.long (0 : Int64)), .second, .val (.int (0 : Int32)), .val .null, .val (.int (0 : Int32)), .val (.int (0 : Int32))] [(.ref t1)])) _
  refine own_by (fun _ k => XS.iload X14.here hx rfl (hb hby d_rm_rinit_32) rfl k) ?_
  show own_Go p e below (T14.setTop (mkF m 34 #[.val (.ref t1), .val (.ref r1), .val .null, .val (.long (0 : Int64)), .second, .val (.int (0 : Int32)), .val .null, .val (.int (0 : Int32)), .val (.int (0 : Int32))] [(.int (0 : Int32)), (.ref t1)])) _
  have fc15 : Fld Z h14 t1 "com/example/rollcall/rollcall/io/Configuration$Rule" "keepIfEmpty" "Z" (.int (0 : Int32)) := (((((Pg.other W2 (Or.inr (slot_ne (a0 := a0) (Or.inr (hw _ (List.mem_of_getElem? (i := 60) rfl))) (Or.inr (hw _ (List.mem_of_getElem? (i := 50) rfl))) (by decide) (t := .boolean) (by decide) (t' := (.object "java/lang/String")) (by decide)))).other W5 (Or.inr (slot_ne (a0 := a0) (Or.inr (hw _ (List.mem_of_getElem? (i := 60) rfl))) (Or.inr (hw _ (List.mem_of_getElem? (i := 52) rfl))) (by decide) (t := .boolean) (by decide) (t' := (.object "java/util/regex/Pattern")) (by decide)))).other W8 (Or.inr (slot_ne (a0 := a0) (Or.inr (hw _ (List.mem_of_getElem? (i := 60) rfl))) (Or.inr (hw _ (List.mem_of_getElem? (i := 54) rfl))) (by decide) (t := .boolean) (by decide) (t' := .long) (by decide)))).other W11 (Or.inr (slot_ne (a0 := a0) (Or.inr (hw _ (List.mem_of_getElem? (i := 60) rfl))) (Or.inr (hw _ (List.mem_of_getElem? (i := 56) rfl))) (by decide) (t := .boolean) (by decide) (t' := .int) (by decide)))).other W14 (Or.inr (slot_ne (a0 := a0) (Or.inr (hw _ (List.mem_of_getElem? (i := 60) rfl))) (Or.inr (hw _ (List.mem_of_getElem? (i := 58) rfl))) (by decide) (t := .boolean) (by decide) (t' := (.object "java/lang/String")) (by decide))))
  have fc16 : Exa Z h14 t1 "com/example/rollcall/rollcall/io/Configuration$Rule" := (fc13.wr W14)
  obtain ⟨T17, h17, X17, e17, W17, st17⟩ := putFN X14 hx hZ hown (hw _ (List.mem_of_getElem? (i := 59) rfl)) Via.refl e14 fc15 fc16 (Or.inr ⟨(hw _ (List.mem_of_getElem? (i := 60) rfl)), rfl, hnm⟩) (hw _ (List.mem_of_getElem? (i := 39) rfl)) (ty := .boolean) (v' := (.int (0 : Int32))) (by decide) rfl rfl (g := (mkF m 34 #[.val (.ref t1), .val (.ref r1), .val .null, .val (.long (0 : Int64)), .second, .val (.int (0 : Int32)), .val .null, .val (.int (0 : Int32)), .val (.int (0 : Int32))] [(.int (0 : Int32)), (.ref t1)])) rfl rfl (hb hby d_rm_rinit_34)
  refine own_by st17 ?_
  have z17 := W17.size
  have N17 := Fr.snoc X17 N14 (by omega)
  have Fw17 : Fld Z h17 t1 "com/example/rollcall/rollcall/io/Configuration$Rule" "keepIfEmpty" "Z" (.int (0 : Int32)) := fc15.same W17
  show own_Go p e below (T17.setTop (mkF m 37 #[.val (.ref t1), .val (.ref r1), .val .null, .val (.long (0 : Int64)), .second, .val (.int (0 : Int32)), .val .null, .val (.int (0 : Int32)), .val (.int (0 : Int32))] [])) _
  refine own_by (fun _ k => XS.aloadN X17.here hx rfl (hb hby d_rm_rinit_37) rfl rfl k) ?_
  show own_Go p e below (T17.setTop (mkF m 38 #[.val (.ref t1), .val (.ref r1), .val .null, .val (.long (0 : Int64)), .second, .val (.int (0 : Int32)), .val .null, .val (.int (0 : Int32)), .val (.int (0 : Int32))] [(.ref t1)])) _
  refine own_by (fun _ k => XS.iload X17.here hx rfl (hb hby d_rm_rinit_38) rfl k) ?_
  show own_Go p e below (T17.setTop (mkF m 40 #[.val (.ref t1), .val (.ref r1), .val .null, .val (.long (0 : Int64)), .second, .val (.int (0 : Int32)), .val .null, .val (.int (0 : Int32)), .val (.int (0 : Int32))] [(.int (0 : Int32)), (.ref t1)])) _
  have fc18 : Fld Z h17 t1 "com/example/rollcall/rollcall/io/Configuration$Rule" "onlyIfEmpty" "Z" (.int (0 : Int32)) := ((((((Ph.other W2 (Or.inr (slot_ne (a0 := a0) (Or.inr (hw _ (List.mem_of_getElem? (i := 62) rfl))) (Or.inr (hw _ (List.mem_of_getElem? (i := 50) rfl))) (by decide) (t := .boolean) (by decide) (t' := (.object "java/lang/String")) (by decide)))).other W5 (Or.inr (slot_ne (a0 := a0) (Or.inr (hw _ (List.mem_of_getElem? (i := 62) rfl))) (Or.inr (hw _ (List.mem_of_getElem? (i := 52) rfl))) (by decide) (t := .boolean) (by decide) (t' := (.object "java/util/regex/Pattern")) (by decide)))).other W8 (Or.inr (slot_ne (a0 := a0) (Or.inr (hw _ (List.mem_of_getElem? (i := 62) rfl))) (Or.inr (hw _ (List.mem_of_getElem? (i := 54) rfl))) (by decide) (t := .boolean) (by decide) (t' := .long) (by decide)))).other W11 (Or.inr (slot_ne (a0 := a0) (Or.inr (hw _ (List.mem_of_getElem? (i := 62) rfl))) (Or.inr (hw _ (List.mem_of_getElem? (i := 56) rfl))) (by decide) (t := .boolean) (by decide) (t' := .int) (by decide)))).other W14 (Or.inr (slot_ne (a0 := a0) (Or.inr (hw _ (List.mem_of_getElem? (i := 62) rfl))) (Or.inr (hw _ (List.mem_of_getElem? (i := 58) rfl))) (by decide) (t := .boolean) (by decide) (t' := (.object "java/lang/String")) (by decide)))).other W17 (Or.inr (slot_ne (a0 := a0) (Or.inr (hw _ (List.mem_of_getElem? (i := 62) rfl))) (Or.inr (hw _ (List.mem_of_getElem? (i := 60) rfl))) (by decide) (t := .boolean) (by decide) (t' := .boolean) (by decide))))
  have fc19 : Exa Z h17 t1 "com/example/rollcall/rollcall/io/Configuration$Rule" := (fc16.wr W17)
  obtain ⟨T20, h20, X20, e20, W20, st20⟩ := putFN X17 hx hZ hown (hw _ (List.mem_of_getElem? (i := 61) rfl)) Via.refl e17 fc18 fc19 (Or.inr ⟨(hw _ (List.mem_of_getElem? (i := 62) rfl)), rfl, hnm⟩) (hw _ (List.mem_of_getElem? (i := 39) rfl)) (ty := .boolean) (v' := (.int (0 : Int32))) (by decide) rfl rfl (g := (mkF m 40 #[.val (.ref t1), .val (.ref r1), .val .null, .val (.long (0 : Int64)), .second, .val (.int (0 : Int32)), .val .null, .val (.int (0 : Int32)), .val (.int (0 : Int32))] [(.int (0 : Int32)), (.ref t1)])) rfl rfl (hb hby d_rm_rinit_40)
  refine own_by st20 ?_
  have z20 := W20.size
  have N20 := Fr.snoc X20 N17 (by omega)
  have Fw20 : Fld Z h20 t1 "com/example/rollcall/rollcall/io/Configuration$Rule" "onlyIfEmpty" "Z" (.int (0 : Int32)) := fc18.same W20
  show own_Go p e below (T20.setTop (mkF m 43 #[.val (.ref t1), .val (.ref r1), .val .null, .val (.long (0 : Int64)), .second, .val (.int (0 : Int32)), .val .null, .val (.int (0 : Int32)), .val (.int (0 : Int32))] [])) _
  have fc21 : Exa Z h20 t1 "com/example/rollcall/rollcall/io/Configuration$Rule" := (fc19.wr W20)
  have fc22 : Fld Z h20 t1 "com/example/rollcall/rollcall/io/Configuration$Rule" "from" "Ljava/lang/String;" (.ref r1) := ((((((Fw2.other W5 (Or.inr (slot_ne (a0 := a0) (Or.inr (hw _ (List.mem_of_getElem? (i := 50) rfl))) (Or.inr (hw _ (List.mem_of_getElem? (i := 52) rfl))) (by decide) (t := (.object "java/lang/String")) (by decide) (t' := (.object "java/util/regex/Pattern")) (by decide)))).other W8 (Or.inr (slot_ne (a0 := a0) (Or.inr (hw _ (List.mem_of_getElem? (i := 50) rfl))) (Or.inr (hw _ (List.mem_of_getElem? (i := 54) rfl))) (by decide) (t := (.object "java/lang/String")) (by decide) (t' := .long) (by decide)))).other W11 (Or.inr (slot_ne (a0 := a0) (Or.inr (hw _ (List.mem_of_getElem? (i := 50) rfl))) (Or.inr (hw _ (List.mem_of_getElem? (i := 56) rfl))) (by decide) (t := (.object "java/lang/String")) (by decide) (t' := .int) (by decide)))).other W14 (Or.inr (slot_ne (a0 := a0) (Or.inr (hw _ (List.mem_of_getElem? (i := 50) rfl))) (Or.inr (hw _ (List.mem_of_getElem? (i := 58) rfl))) (by decide) (t := (.object "java/lang/String")) (by decide) (t' := (.object "java/lang/String")) (by decide)))).other W17 (Or.inr (slot_ne (a0 := a0) (Or.inr (hw _ (List.mem_of_getElem? (i := 50) rfl))) (Or.inr (hw _ (List.mem_of_getElem? (i := 60) rfl))) (by decide) (t := (.object "java/lang/String")) (by decide) (t' := .boolean) (by decide)))).other W20 (Or.inr (slot_ne (a0 := a0) (Or.inr (hw _ (List.mem_of_getElem? (i := 50) rfl))) (Or.inr (hw _ (List.mem_of_getElem? (i := 62) rfl))) (by decide) (t := (.object "java/lang/String")) (by decide) (t' := .boolean) (by decide))))
  have fc23 : Fld Z h20 t1 "com/example/rollcall/rollcall/io/Configuration$Rule" "regex" "Ljava/util/regex/Pattern;" .null := (((((Fw5.other W8 (Or.inr (slot_ne (a0 := a0) (Or.inr (hw _ (List.mem_of_getElem? (i := 52) rfl))) (Or.inr (hw _ (List.mem_of_getElem? (i := 54) rfl))) (by decide) (t := (.object "java/util/regex/Pattern")) (by decide) (t' := .long) (by decide)))).other W11 (Or.inr (slot_ne (a0 := a0) (Or.inr (hw _ (List.mem_of_getElem? (i := 52) rfl))) (Or.inr (hw _ (List.mem_of_getElem? (i := 56) rfl))) (by decide) (t := (.object "java/util/regex/Pattern")) (by decide) (t' := .int) (by decide)))).other W14 (Or.inr (slot_ne (a0 := a0) (Or.inr (hw _ (List.mem_of_getElem? (i := 52) rfl))) (Or.inr (hw _ (List.mem_of_getElem? (i := 58) rfl))) (by decide) (t := (.object "java/util/regex/Pattern")) (by decide) (t' := (.object "java/lang/String")) (by decide)))).other W17 (Or.inr (slot_ne (a0 := a0) (Or.inr (hw _ (List.mem_of_getElem? (i := 52) rfl))) (Or.inr (hw _ (List.mem_of_getElem? (i := 60) rfl))) (by decide) (t := (.object "java/util/regex/Pattern")) (by decide) (t' := .boolean) (by decide)))).other W20 (Or.inr (slot_ne (a0 := a0) (Or.inr (hw _ (List.mem_of_getElem? (i := 52) rfl))) (Or.inr (hw _ (List.mem_of_getElem? (i := 62) rfl))) (by decide) (t := (.object "java/util/regex/Pattern")) (by decide) (t' := .boolean) (by decide))))
  have fc24 : Fld Z h20 t1 "com/example/rollcall/rollcall/io/Configuration$Rule" "match" "J" (.long (0 : Int64)) := ((((Fw8.other W11 (Or.inr (slot_ne (a0 := a0) (Or.inr (hw _ (List.mem_of_getElem? (i := 54) rfl))) (Or.inr (hw _ (List.mem_of_getElem? (i := 56) rfl))) (by decide) (t := .long) (by decide) (t' := .int) (by decide)))).other W14 (Or.inr (slot_ne (a0 := a0) (Or.inr (hw _ (List.mem_of_getElem? (i := 54) rfl))) (Or.inr (hw _ (List.mem_of_getElem? (i := 58) rfl))) (by decide) (t := .long) (by decide) (t' := (.object "java/lang/String")) (by decide)))).other W17 (Or.inr (slot_ne (a0 := a0) (Or.inr (hw _ (List.mem_of_getElem? (i := 54) rfl))) (Or.inr (hw _ (List.mem_of_getElem? (i := 60) rfl))) (by decide) (t := .long) (by decide) (t' := .boolean) (by decide)))).other W20 (Or.inr (slot_ne (a0 := a0) (Or.inr (hw _ (List.mem_of_getElem? (i := 54) rfl))) (Or.inr (hw _ (List.mem_of_getElem? (i := 62) rfl))) (by decide) (t := .long) (by decide) (t' := .boolean) (by decide))))
  have fc25 : Fld Z h20 t1 "com/example/rollcall/rollcall/io/Configuration$Rule" "group" "I" (.int (0 : Int32)) := (((Fw11.other W14 (Or.inr (slot_ne (a0 := a0) (Or.inr (hw _ (List.mem_of_getElem? (i := 56) rfl))) (Or.inr (hw _ (List.mem_of_getElem? (i := 58) rfl))) (by decide) (t := .int) (by decide) (t' := (.object "java/lang/String")) (by decide)))).other W17 (Or.inr (slot_ne (a0 := a0) (Or.inr (hw _ (List.mem_of_getElem? (i := 56) rfl))) (Or.inr (hw _ (List.mem_of_getElem? (i := 60) rfl))) (by decide) (t := .int) (by decide) (t' := .boolean) (by decide)))).other W20 (Or.inr (slot_ne (a0 := a0) (Or.inr (hw _ (List.mem_of_getElem? (i := 56) rfl))) (Or.inr (hw _ (List.mem_of_getElem? (i := 62) rfl))) (by decide) (t := .int) (by decide) (t' := .boolean) (by decide))))
  have fc26 : Fld Z h20 t1 "com/example/rollcall/rollcall/io/Configuration$Rule" "ifEmpty" "Ljava/lang/String;" .null := ((Fw14.other W17 (Or.inr (slot_ne (a0 := a0) (Or.inr (hw _ (List.mem_of_getElem? (i := 58) rfl))) (Or.inr (hw _ (List.mem_of_getElem? (i := 60) rfl))) (by decide) (t := (.object "java/lang/String")) (by decide) (t' := .boolean) (by decide)))).other W20 (Or.inr (slot_ne (a0 := a0) (Or.inr (hw _ (List.mem_of_getElem? (i := 58) rfl))) (Or.inr (hw _ (List.mem_of_getElem? (i := 62) rfl))) (by decide) (t := (.object "java/lang/String")) (by decide) (t' := .boolean) (by decide))))
  have fc27 : Fld Z h20 t1 "com/example/rollcall/rollcall/io/Configuration$Rule" "keepIfEmpty" "Z" (.int (0 : Int32)) := (Fw17.other W20 (Or.inr (slot_ne (a0 := a0) (Or.inr (hw _ (List.mem_of_getElem? (i := 60) rfl))) (Or.inr (hw _ (List.mem_of_getElem? (i := 62) rfl))) (by decide) (t := .boolean) (by decide) (t' := .boolean) (by decide))))
  have K28 : Keep h0 h20 [t1] := ((((((((Keep.refl h0 [t1]).wr W2 (Or.inl (List.mem_of_getElem? (i := 0) rfl))).wr W5 (Or.inl (List.mem_of_getElem? (i := 0) rfl))).wr W8 (Or.inl (List.mem_of_getElem? (i := 0) rfl))).wr W11 (Or.inl (List.mem_of_getElem? (i := 0) rfl))).wr W14 (Or.inl (List.mem_of_getElem? (i := 0) rfl))).wr W17 (Or.inl (List.mem_of_getElem? (i := 0) rfl))).wr W20 (Or.inl (List.mem_of_getElem? (i := 0) rfl)))
  obtain ⟨fs, hr, hrun, hended, hW, hsame⟩ := X20.leave (v := none) (fun h => rfl)
  refine ⟨_, _, X20.returnOut hx Bd.returns (hb hby d_rm_rinit_43) hr, hrun, hended, _, _, rfl, ?_, ⟨_, rfl⟩, hW, hsame.mono (by decide) (by decide)⟩
  show Q_rm_rinit Z t1 r1 h0 n0 _ T20.heap _
  rw [e20]
  exact ⟨rfl, N20, K28, fc21, fc22, fc23, fc24, fc25, fc26, fc27, Fw20⟩
theorem d_rm_copying_0 : decode prog_8_method_2_code 0 = .ok (.new 8, 3) := by decide +kernel
theorem d_rm_copying_3 : decode prog_8_method_2_code 3 = .ok (.dup, 1) := by decide +kernel
theorem d_rm_copying_4 : decode prog_8_method_2_code 4 = .ok (.aload_n 0, 1) := by decide +kernel
theorem d_rm_copying_5 : decode prog_8_method_2_code 5 = .ok (.aconst_null, 1) := by decide +kernel
theorem d_rm_copying_6 : decode prog_8_method_2_code 6 = .ok (.lconst 0, 1) := by decide +kernel
theorem d_rm_copying_7 : decode prog_8_method_2_code 7 = .ok (.iconst 0, 1) := by decide +kernel
theorem d_rm_copying_8 : decode prog_8_method_2_code 8 = .ok (.aconst_null, 1) := by decide +kernel
theorem d_rm_copying_9 : decode prog_8_method_2_code 9 = .ok (.iconst 0, 1) := by decide +kernel
theorem d_rm_copying_10 : decode prog_8_method_2_code 10 = .ok (.iconst 0, 1) := by decide +kernel
theorem d_rm_copying_11 : decode prog_8_method_2_code 11 = .ok (.invokespecial 35, 3) := by decide +kernel
theorem d_rm_copying_14 : decode prog_8_method_2_code 14 = .ok (.areturn, 1) := by decide +kernel
def Q_rm_copying (Z : State) (r1 : Addr) (h0 : Heap) (n0 : Nat) (v : Option Value) (h : Heap) (L : List Loc) : Prop := ∃ (t1 : Addr), v = some (.ref t1) ∧ Fr n0 L ∧ Keep h0 h [] ∧ Exa Z h t1 "com/example/rollcall/rollcall/io/Configuration$Rule" ∧ Fld Z h t1 "com/example/rollcall/rollcall/io/Configuration$Rule" "from" "Ljava/lang/String;" (.ref r1) ∧ Fld Z h t1 "com/example/rollcall/rollcall/io/Configuration$Rule" "regex" "Ljava/util/regex/Pattern;" .null ∧ Fld Z h t1 "com/example/rollcall/rollcall/io/Configuration$Rule" "match" "J" (.long (0 : Int64)) ∧ Fld Z h t1 "com/example/rollcall/rollcall/io/Configuration$Rule" "group" "I" (.int (0 : Int32)) ∧ Fld Z h t1 "com/example/rollcall/rollcall/io/Configuration$Rule" "ifEmpty" "Ljava/lang/String;" .null ∧ Fld Z h t1 "com/example/rollcall/rollcall/io/Configuration$Rule" "keepIfEmpty" "Z" (.int (0 : Int32)) ∧ Fld Z h t1 "com/example/rollcall/rollcall/io/Configuration$Rule" "onlyIfEmpty" "Z" (.int (0 : Int32))
theorem ef_rm_copying (m : MethodId) (r1 : Addr) : entryFrame m #[(.ref r1)] 1 = mkF m 0 #[.val (.ref r1)] [] := by first | (simp [entryFrame, mkF, argsToLocals, Value.category]; done) | rfl
set_option maxRecDepth 65536 in
set_option maxHeartbeats 40000000 in
theorem rm_copying (l : Launch) (Z : State) (a0 : Array Value) (hw : ∀ d ∈ tables_1, d.before a0 Z = true) (ws : List Jvm.Cond) (r1 : Addr) (h0 : Heap) (n0 : Nat) (O0 : Old Z n0 h0) :
    MetFree l (⟨"com/example/rollcall/rollcall/io/Configuration$Rule", "copying", "(Ljava/lang/String;)Lcom/example/rollcall/rollcall/io/Configuration$Rule;"⟩ : MethodName) (head1 (Jvm.Cond.code (⟨"com/example/rollcall/rollcall/io/Configuration$Rule", "copying", "(Ljava/lang/String;)Lcom/example/rollcall/rollcall/io/Configuration$Rule;"⟩ : MethodName) prog_8_method_2_code 1 (some (.object "com/example/rollcall/rollcall/io/Configuration$Rule")) :: ws) ({ frames := 3, cells := 1, slots := 7, locals := 45 } : Room)) (fun a U => a = #[(.ref r1)] ∧ Z.Warmed39 U.vm ∧ U.heap = h0) (fun _ _ _ _ _ => True) (fun _ U o U' => ∃ v L, o = .returned v ∧ Q_rm_copying Z r1 h0 n0 v U'.heap L ∧ FrameEnd U o U' L ({ frames := 3, cells := 1, slots := 7, locals := 45 } : Room).cells ({ frames := 3, cells := 1, slots := 7, locals := 45 } : Room).slots) := by
  refine MetFree.of_bodySF (plainFor_of_name own_pn_com_example_rollcall_rollcall_io_Configuration_Rule) hisR ?_
  intro p e s m args below meth c s₁ Bd hml0 hP hK
  obtain ⟨rfl, hZ, hh⟩ := hP
  have hx := Bd.exec
  have hby := Bd.bytes
  have hml : c.maxLocals = 1 := hml0
  have hown : s.vm.findClass "com/example/rollcall/rollcall/io/Configuration$Rule" = some m.cls := findClass_of_methodNamed Bd.named
  have hnm := (name_of_methodNamed Bd.named Bd.method).1
  have X0 : Stand p l e ({ frames := 3, cells := 1, slots := 7, locals := 45 } : Room) s m #[(.ref r1)] below meth c s₁ [] 0 0 := Stand.of_body Bd
  have e0 : s₁.heap = h0 := by rw [← hh, Bd.state]; rfl
  have N0 := Fr.nil n0
  have Z0 : n0 ≤ h0.size := by rw [← O0.1]; exact O0.2.1
  show own_Go p e below (s₁.setTop (entryFrame m #[(.ref r1)] 1)) (fun t o => ∃ v L, o = .returned v ∧ Q_rm_copying Z r1 h0 n0 v t.heap L ∧ FrameEnd s o t L ({ frames := 3, cells := 1, slots := 7, locals := 45 } : Room).cells ({ frames := 3, cells := 1, slots := 7, locals := 45 } : Room).slots)
  rw [ef_rm_copying m r1]
  obtain ⟨T1, h1, X1, e1, E1, A1, D1, U1, st1⟩ := newO X0 hx hZ hown (hw _ (List.mem_of_getElem? (i := 38) rfl)) (hw _ (List.mem_of_getElem? (i := 39) rfl)) (hw _ (List.mem_of_getElem? (i := 36) rfl)) e0 (g := (mkF m 0 #[.val (.ref r1)] [])) rfl (hb hby d_rm_copying_0) (by decide) (by decide)
  obtain ⟨ob1, g1⟩ : ∃ z, z = h0.size := ⟨_, rfl⟩
  rw [← g1] at A1 D1 U1 st1
  refine own_by st1 ?_
  have z1 := E1.1
  have lt1 : h1.size > ob1 := A1.lt
  show own_Go p e below (T1.setTop (mkF m 3 #[.val (.ref r1)] [(.ref ob1)])) _
  refine own_by (fun _ k => XS.dup X1.here hx rfl (hb hby d_rm_copying_3) rfl rfl k) ?_
  show own_Go p e below (T1.setTop (mkF m 4 #[.val (.ref r1)] [(.ref ob1), (.ref ob1)])) _
  refine own_by (fun _ k => XS.aloadN X1.here hx rfl (hb hby d_rm_copying_4) rfl rfl k) ?_
  show own_Go p e below (T1.setTop (mkF m 5 #[.val (.ref r1)] [(.ref r1), (.ref ob1), (.ref ob1)])) _
  refine own_by (fun _ k => XS.aconstNull X1.here hx rfl (hb hby d_rm_copying_5) k) ?_
  show own_Go p e below (T1.setTop (mkF m 6 #[.val (.ref r1)] [.null, (.ref r1), (.ref ob1), (.ref ob1)])) _
  refine own_by (fun _ k => XS.lconst X1.here hx rfl (hb hby d_rm_copying_6) k) ?_
  show own_Go p e below (T1.setTop (mkF m 7 #[.val (.ref r1)] [(.long (0 : Int64)), .null, (.ref r1), (.ref ob1), (.ref ob1)])) _
  refine own_by (fun _ k => XS.iconst X1.here hx rfl (hb hby d_rm_copying_7) k) ?_
  show own_Go p e below (T1.setTop (mkF m 8 #[.val (.ref r1)] [(.int (0 : Int32)), (.long (0 : Int64)), .null, (.ref r1), (.ref ob1), (.ref ob1)])) _
  refine own_by (fun _ k => XS.aconstNull X1.here hx rfl (hb hby d_rm_copying_8) k) ?_
  show own_Go p e below (T1.setTop (mkF m 9 #[.val (.ref r1)] [.null, (.int (0 : Int32)), (.long (0 : Int64)), .null, (.ref r1), (.ref ob1), (.ref ob1)])) _
  refine own_by (fun _ k => XS.iconst X1.here hx rfl (hb hby d_rm_copying_9) k) ?_
  show own_Go p e below (T1.setTop (mkF m 10 #[.val (.ref r1)] [(.int (0 : Int32)), .null, (.int (0 : Int32)), (.long (0 : Int64)), .null, (.ref r1), (.ref ob1), (.ref ob1)])) _
  refine own_by (fun _ k => XS.iconst X1.here hx rfl (hb hby d_rm_copying_10) k) ?_
  show own_Go p e below (T1.setTop (mkF m 11 #[.val (.ref r1)] [(.int (0 : Int32)), (.int (0 : Int32)), .null, (.int (0 : Int32)), (.long (0 : Int64)), .null, (.ref r1), (.ref ob1), (.ref ob1)])) _
  have O2 : Old Z n0 h1 := (O0.ext E1)
  obtain ⟨_, _, ⟨T3, L3, k3, n3⟩, -, X3, ⟨Lc3, hQ3, l3, y3, z3⟩, st3⟩ := X1.specialBack hx (y := (⟨"com/example/rollcall/rollcall/io/Configuration$Rule", "<init>", "(Ljava/lang/String;Ljava/util/regex/Pattern;JILjava/lang/String;ZZ)V"⟩ : MethodName)) rfl hown (mvT hZ (hw _ (List.mem_of_getElem? (i := 40) rfl))) (mvT hZ (hw _ (List.mem_of_getElem? (i := 41) rfl))) (mvT hZ (hw _ (List.mem_of_getElem? (i := 42) rfl))) (by decide) (backOf (W := 1) (rm_rinit l Z a0 hw [] ob1 r1 h1 n0 O2 A1 (show Fld Z h1 ob1 "com/example/rollcall/rollcall/io/Configuration$Rule" "from" "Ljava/lang/String;" .null from D1 (Or.inr (hw _ (List.mem_of_getElem? (i := 50) rfl))) (ty := (.object "java/lang/String")) (by decide)) (show Fld Z h1 ob1 "com/example/rollcall/rollcall/io/Configuration$Rule" "regex" "Ljava/util/regex/Pattern;" .null from D1 (Or.inr (hw _ (List.mem_of_getElem? (i := 52) rfl))) (ty := (.object "java/util/regex/Pattern")) (by decide)) (show Fld Z h1 ob1 "com/example/rollcall/rollcall/io/Configuration$Rule" "match" "J" (.long (0 : Int64)) from D1 (Or.inr (hw _ (List.mem_of_getElem? (i := 54) rfl))) (ty := .long) (by decide)) (show Fld Z h1 ob1 "com/example/rollcall/rollcall/io/Configuration$Rule" "group" "I" (.int (0 : Int32)) from D1 (Or.inr (hw _ (List.mem_of_getElem? (i := 56) rfl))) (ty := .int) (by decide)) (show Fld Z h1 ob1 "com/example/rollcall/rollcall/io/Configuration$Rule" "ifEmpty" "Ljava/lang/String;" .null from D1 (Or.inr (hw _ (List.mem_of_getElem? (i := 58) rfl))) (ty := (.object "java/lang/String")) (by decide)) (show Fld Z h1 ob1 "com/example/rollcall/rollcall/io/Configuration$Rule" "keepIfEmpty" "Z" (.int (0 : Int32)) from D1 (Or.inr (hw _ (List.mem_of_getElem? (i := 60) rfl))) (ty := .boolean) (by decide)) (show Fld Z h1 ob1 "com/example/rollcall/rollcall/io/Configuration$Rule" "onlyIfEmpty" "Z" (.int (0 : Int32)) from D1 (Or.inr (hw _ (List.mem_of_getElem? (i := 62) rfl))) (ty := .boolean) (by decide)) (by first | assumption | omega | decide)) hZ (hw _ (List.mem_of_getElem? (i := 42) rfl)) (hw _ (List.mem_of_getElem? (i := 36) rfl)) (by decide) (by decide)) (g := (mkF m 11 #[.val (.ref r1)] [(.int (0 : Int32)), (.int (0 : Int32)), .null, (.int (0 : Int32)), (.long (0 : Int64)), .null, (.ref r1), (.ref ob1), (.ref ob1)])) rfl (by rw [hml]; rfl) (Steps.refl _) (a := ob1) (argsL := [(.ref r1), .null, (.long (0 : Int64)), (.int (0 : Int32)), .null, (.int (0 : Int32)), (.int (0 : Int32))]) (rest := [(.ref ob1)]) (lenOf own_pd__28Ljava_2flang_2fString_3bLjava_2futil_2fregex_2fPattern_3bJILjava_2flang_2fString_3bZZ_29V rfl) rfl (by show 2 * 0 + _ ≤ _; exact Nat.le_of_eq rfl) (hb hby d_rm_copying_11) (fun _ _ => ⟨rfl, e1, (by decide : 1 + 0 ≤ _), (by decide : 7 + 0 ≤ _)⟩)
  dsimp only [Pt.U, Pt.locs, Pt.cells, Pt.slots] at X3 l3 y3 z3 st3 hQ3
  subst l3 y3 z3
  obtain ⟨rfl, M3, K3, g3_0, g3_1, g3_2, g3_3, g3_4, g3_5, g3_6, g3_7⟩ := hQ3
  have N3 := Fr.app N0 M3
  refine own_by (fun _ k => st3.trans k) ?_
  have z3 := K3.1
  have lt_g3_0 : T3.heap.size > ob1 := g3_0.lt
  have lt_g3_1 : T3.heap.size > ob1 := g3_1.lt
  have lt_g3_2 : T3.heap.size > ob1 := g3_2.lt
  have lt_g3_3 : T3.heap.size > ob1 := g3_3.lt
  have lt_g3_4 : T3.heap.size > ob1 := g3_4.lt
  have lt_g3_5 : T3.heap.size > ob1 := g3_5.lt
  have lt_g3_6 : T3.heap.size > ob1 := g3_6.lt
  have lt_g3_7 : T3.heap.size > ob1 := g3_7.lt
  show own_Go p e below (T3.setTop (mkF m 14 #[.val (.ref r1)] [(.ref ob1)])) _
  have K4 : Keep h0 T3.heap [] := (((Keep.refl h0 []).ext E1).trans K3 (allS (P := fun x => x ∈ [] ∨ h0.size ≤ x) (Or.inr (by omega)) all0))
  obtain ⟨fs, hr, hrun, hended, hW, hsame⟩ := X3.leave (v := some (.ref ob1)) (fun h => by rw [Bd.returns] at h; cases h)
  refine ⟨_, _, retOut X3 hx Bd.returns (own_narrow_ref (by decide) rfl) (Or.inr (Or.inr (Or.inr (Or.inr ⟨rfl, by decide, rfl⟩)))) (hb hby d_rm_copying_14) hr, hrun, hended, _, _, rfl, ?_, ⟨_, rfl⟩, hW, hsame.mono (by decide) (by decide)⟩
  show Q_rm_copying Z r1 h0 n0 _ T3.heap _
  exact ⟨ob1, rfl, N3, K4, g3_0, g3_1, g3_2, g3_3, g3_4, g3_5, g3_6, g3_7⟩
theorem d_rm_get_from_0 : decode prog_8_method_6_code 0 = .ok (.aload_n 0, 1) := by decide +kernel
theorem d_rm_get_from_1 : decode prog_8_method_6_code 1 = .ok (.getfield 7, 3) := by decide +kernel
theorem d_rm_get_from_4 : decode prog_8_method_6_code 4 = .ok (.areturn, 1) := by decide +kernel
def Q_rm_get_from (Z : State) (t1 : Addr) (r1 : Addr) (h0 : Heap) (n0 : Nat) (v : Option Value) (h : Heap) (L : List Loc) : Prop := v = some (.ref r1) ∧ Fr n0 L ∧ h = h0
theorem ef_rm_get_from (m : MethodId) (t1 : Addr) (r1 : Addr) : entryFrame m #[(.ref t1)] 1 = mkF m 0 #[.val (.ref t1)] [] := by first | (simp [entryFrame, mkF, argsToLocals, Value.category]; done) | rfl
set_option maxRecDepth 65536 in
set_option maxHeartbeats 40000000 in
theorem rm_get_from (l : Launch) (Z : State) (a0 : Array Value) (hw : ∀ d ∈ tables_1, d.before a0 Z = true) (ws : List Jvm.Cond) (t1 : Addr) (r1 : Addr) (h0 : Heap) (n0 : Nat) (O0 : Old Z n0 h0) (Pf : Fld Z h0 t1 "com/example/rollcall/rollcall/io/Configuration$Rule" "from" "Ljava/lang/String;" (.ref r1)) :
    MetFree l (⟨"com/example/rollcall/rollcall/io/Configuration$Rule", "from", "()Ljava/lang/String;"⟩ : MethodName) (head1 (Jvm.Cond.code (⟨"com/example/rollcall/rollcall/io/Configuration$Rule", "from", "()Ljava/lang/String;"⟩ : MethodName) prog_8_method_6_code 1 (some (.object "java/lang/String")) :: ws) ({ frames := 0, cells := 0, slots := 0, locals := 0 } : Room)) (fun a U => a = #[(.ref t1)] ∧ Z.Warmed39 U.vm ∧ U.heap = h0) (fun _ _ _ _ _ => True) (fun _ U o U' => ∃ v L, o = .returned v ∧ Q_rm_get_from Z t1 r1 h0 n0 v U'.heap L ∧ FrameEnd U o U' L ({ frames := 0, cells := 0, slots := 0, locals := 0 } : Room).cells ({ frames := 0, cells := 0, slots := 0, locals := 0 } : Room).slots) := by
  refine MetFree.of_bodySF (plainFor_of_name own_pn_com_example_rollcall_rollcall_io_Configuration_Rule) hisR ?_
  intro p e s m args below meth c s₁ Bd hml0 hP hK
  obtain ⟨rfl, hZ, hh⟩ := hP
  have hx := Bd.exec
  have hby := Bd.bytes
  have hml : c.maxLocals = 1 := hml0
  have hown : s.vm.findClass "com/example/rollcall/rollcall/io/Configuration$Rule" = some m.cls := findClass_of_methodNamed Bd.named
  have hnm := (name_of_methodNamed Bd.named Bd.method).1
  have X0 : Stand p l e ({ frames := 0, cells := 0, slots := 0, locals := 0 } : Room) s m #[(.ref t1)] below meth c s₁ [] 0 0 := Stand.of_body Bd
  have e0 : s₁.heap = h0 := by rw [← hh, Bd.state]; rfl
  have N0 := Fr.nil n0
  have Z0 : n0 ≤ h0.size := by rw [← O0.1]; exact O0.2.1
  show own_Go p e below (s₁.setTop (entryFrame m #[(.ref t1)] 1)) (fun t o => ∃ v L, o = .returned v ∧ Q_rm_get_from Z t1 r1 h0 n0 v t.heap L ∧ FrameEnd s o t L ({ frames := 0, cells := 0, slots := 0, locals := 0 } : Room).cells ({ frames := 0, cells := 0, slots := 0, locals := 0 } : Room).slots)
  rw [ef_rm_get_from m t1 r1]
  have lt_Pf : h0.size > t1 := Pf.lt
  refine own_by (fun _ k => XS.aloadN X0.here hx rfl (hb hby d_rm_get_from_0) rfl rfl k) ?_
  show own_Go p e below (s₁.setTop (mkF m 1 #[.val (.ref t1)] [(.ref t1)])) _
  obtain ⟨T1, X1, e1, st1⟩ := getF X0 hx hZ hown (host := "") (Or.inl (hw _ (List.mem_of_getElem? (i := 49) rfl))) Via.refl e0 Pf (g := (mkF m 1 #[.val (.ref t1)] [(.ref t1)])) rfl rfl (hb hby d_rm_get_from_1)
  refine own_by st1 ?_
  show own_Go p e below (T1.setTop (mkF m 4 #[.val (.ref t1)] [(.ref r1)])) _
  obtain ⟨fs, hr, hrun, hended, hW, hsame⟩ := X1.leave (v := some (.ref r1)) (fun h => by rw [Bd.returns] at h; cases h)
  refine ⟨_, _, retOut X1 hx Bd.returns (own_narrow_ref (by decide) rfl) (Or.inr (Or.inr (Or.inr (Or.inr ⟨rfl, by decide, rfl⟩)))) (hb hby d_rm_get_from_4) hr, hrun, hended, _, _, rfl, ?_, ⟨_, rfl⟩, hW, hsame.mono (by decide) (by decide)⟩
  show Q_rm_get_from Z t1 r1 h0 n0 _ T1.heap _
  rw [e1]
  exact ⟨rfl, N0, rfl⟩
theorem d_rm_get_regex_0 : decode prog_8_method_7_code 0 = .ok (.aload_n 0, 1) := by decide +kernel
theorem d_rm_get_regex_1 : decode prog_8_method_7_code 1 = .ok (.getfield 13, 3) := by decide +kernel
theorem d_rm_get_regex_4 : decode prog_8_method_7_code 4 = .ok (.areturn, 1) := by decide +kernel
def Q_rm_get_regex (Z : State) (t1 : Addr) (h0 : Heap) (n0 : Nat) (v : Option Value) (h : Heap) (L : List Loc) : Prop := v = some .null ∧ Fr n0 L ∧ h = h0
theorem ef_rm_get_regex (m : MethodId) (t1 : Addr) : entryFrame m #[(.ref t1)] 1 = mkF m 0 #[.val (.ref t1)] [] := by first | (simp [entryFrame, mkF, argsToLocals, Value.category]; done) | rfl
set_option maxRecDepth 65536 in
set_option maxHeartbeats 40000000 in
theorem rm_get_regex (l : Launch) (Z : State) (a0 : Array Value) (hw : ∀ d ∈ tables_1, d.before a0 Z = true) (ws : List Jvm.Cond) (t1 : Addr) (h0 : Heap) (n0 : Nat) (O0 : Old Z n0 h0) (Pf : Fld Z h0 t1 "com/example/rollcall/rollcall/io/Configuration$Rule" "regex" "Ljava/util/regex/Pattern;" .null) :
    MetFree l (⟨"com/example/rollcall/rollcall/io/Configuration$Rule", "regex", "()Ljava/util/regex/Pattern;"⟩ : MethodName) (head1 (Jvm.Cond.code (⟨"com/example/rollcall/rollcall/io/Configuration$Rule", "regex", "()Ljava/util/regex/Pattern;"⟩ : MethodName) prog_8_method_7_code 1 (some (.object "java/util/regex/Pattern")) :: ws) ({ frames := 0, cells := 0, slots := 0, locals := 0 } : Room)) (fun a U => a = #[(.ref t1)] ∧ Z.Warmed39 U.vm ∧ U.heap = h0) (fun _ _ _ _ _ => True) (fun _ U o U' => ∃ v L, o = .returned v ∧ Q_rm_get_regex Z t1 h0 n0 v U'.heap L ∧ FrameEnd U o U' L ({ frames := 0, cells := 0, slots := 0, locals := 0 } : Room).cells ({ frames := 0, cells := 0, slots := 0, locals := 0 } : Room).slots) := by
  refine MetFree.of_bodySF (plainFor_of_name own_pn_com_example_rollcall_rollcall_io_Configuration_Rule) hisR ?_
  intro p e s m args below meth c s₁ Bd hml0 hP hK
  obtain ⟨rfl, hZ, hh⟩ := hP
  have hx := Bd.exec
  have hby := Bd.bytes
  have hml : c.maxLocals = 1 := hml0
  have hown : s.vm.findClass "com/example/rollcall/rollcall/io/Configuration$Rule" = some m.cls := findClass_of_methodNamed Bd.named
  have hnm := (name_of_methodNamed Bd.named Bd.method).1
  have X0 : Stand p l e ({ frames := 0, cells := 0, slots := 0, locals := 0 } : Room) s m #[(.ref t1)] below meth c s₁ [] 0 0 := Stand.of_body Bd
  have e0 : s₁.heap = h0 := by rw [← hh, Bd.state]; rfl
  have N0 := Fr.nil n0
  have Z0 : n0 ≤ h0.size := by rw [← O0.1]; exact O0.2.1
  show own_Go p e below (s₁.setTop (entryFrame m #[(.ref t1)] 1)) (fun t o => ∃ v L, o = .returned v ∧ Q_rm_get_regex Z t1 h0 n0 v t.heap L ∧ FrameEnd s o t L ({ frames := 0, cells := 0, slots := 0, locals := 0 } : Room).cells ({ frames := 0, cells := 0, slots := 0, locals := 0 } : Room).slots)
  rw [ef_rm_get_regex m t1]
  have lt_Pf : h0.size > t1 := Pf.lt
  refine own_by (fun _ k => XS.aloadN X0.here hx rfl (hb hby d_rm_get_regex_0) rfl rfl k) ?_
  show own_Go p e below (s₁.setTop (mkF m 1 #[.val (.ref t1)] [(.ref t1)])) _
  obtain ⟨T1, X1, e1, st1⟩ := getF X0 hx hZ hown (host := "") (Or.inl (hw _ (List.mem_of_getElem? (i := 51) rfl))) Via.refl e0 Pf (g := (mkF m 1 #[.val (.ref t1)] [(.ref t1)])) rfl rfl (hb hby d_rm_get_regex_1)
  refine own_by st1 ?_
  show own_Go p e below (T1.setTop (mkF m 4 #[.val (.ref t1)] [.null])) _
  obtain ⟨fs, hr, hrun, hended, hW, hsame⟩ := X1.leave (v := some .null) (fun h => by rw [Bd.returns] at h; cases h)
  refine ⟨_, _, retOut X1 hx Bd.returns (own_narrow_ref (by decide) rfl) (Or.inr (Or.inr (Or.inr (Or.inr ⟨rfl, by decide, rfl⟩)))) (hb hby d_rm_get_regex_4) hr, hrun, hended, _, _, rfl, ?_, ⟨_, rfl⟩, hW, hsame.mono (by decide) (by decide)⟩
  show Q_rm_get_regex Z t1 h0 n0 _ T1.heap _
  rw [e1]
  exact ⟨rfl, N0, rfl⟩
theorem d_rm_get_match_0 : decode prog_8_method_8_code 0 = .ok (.aload_n 0, 1) := by decide +kernel
theorem d_rm_get_match_1 : decode prog_8_method_8_code 1 = .ok (.getfield 17, 3) := by decide +kernel
theorem d_rm_get_match_4 : decode prog_8_method_8_code 4 = .ok (.lreturn, 1) := by decide +kernel
def Q_rm_get_match (Z : State) (t1 : Addr) (h0 : Heap) (n0 : Nat) (v : Option Value) (h : Heap) (L : List Loc) : Prop := v = some (.long (0 : Int64)) ∧ Fr n0 L ∧ h = h0
theorem ef_rm_get_match (m : MethodId) (t1 : Addr) : entryFrame m #[(.ref t1)] 1 = mkF m 0 #[.val (.ref t1)] [] := by first | (simp [entryFrame, mkF, argsToLocals, Value.category]; done) | rfl
set_option maxRecDepth 65536 in
set_option maxHeartbeats 40000000 in
theorem rm_get_match (l : Launch) (Z : State) (a0 : Array Value) (hw : ∀ d ∈ tables_1, d.before a0 Z = true) (ws : List Jvm.Cond) (t1 : Addr) (h0 : Heap) (n0 : Nat) (O0 : Old Z n0 h0) (Pf : Fld Z h0 t1 "com/example/rollcall/rollcall/io/Configuration$Rule" "match" "J" (.long (0 : Int64))) :
    MetFree l (⟨"com/example/rollcall/rollcall/io/Configuration$Rule", "match", "()J"⟩ : MethodName) (head1 (Jvm.Cond.code (⟨"com/example/rollcall/rollcall/io/Configuration$Rule", "match", "()J"⟩ : MethodName) prog_8_method_8_code 1 (some .long) :: ws) ({ frames := 0, cells := 0, slots := 0, locals := 0 } : Room)) (fun a U => a = #[(.ref t1)] ∧ Z.Warmed39 U.vm ∧ U.heap = h0) (fun _ _ _ _ _ => True) (fun _ U o U' => ∃ v L, o = .returned v ∧ Q_rm_get_match Z t1 h0 n0 v U'.heap L ∧ FrameEnd U o U' L ({ frames := 0, cells := 0, slots := 0, locals := 0 } : Room).cells ({ frames := 0, cells := 0, slots := 0, locals := 0 } : Room).slots) := by
  refine MetFree.of_bodySF (plainFor_of_name own_pn_com_example_rollcall_rollcall_io_Configuration_Rule) hisR ?_
  intro p e s m args below meth c s₁ Bd hml0 hP hK
  obtain ⟨rfl, hZ, hh⟩ := hP
  have hx := Bd.exec
  have hby := Bd.bytes
  have hml : c.maxLocals = 1 := hml0
  have hown : s.vm.findClass "com/example/rollcall/rollcall/io/Configuration$Rule" = some m.cls := findClass_of_methodNamed Bd.named
  have hnm := (name_of_methodNamed Bd.named Bd.method).1
  have X0 : Stand p l e ({ frames := 0, cells := 0, slots := 0, locals := 0 } : Room) s m #[(.ref t1)] below meth c s₁ [] 0 0 := Stand.of_body Bd
  have e0 : s₁.heap = h0 := by rw [← hh, Bd.state]; rfl
  have N0 := Fr.nil n0
  have Z0 : n0 ≤ h0.size := by rw [← O0.1]; exact O0.2.1
  show own_Go p e below (s₁.setTop (entryFrame m #[(.ref t1)] 1)) (fun t o => ∃ v L, o = .returned v ∧ Q_rm_get_match Z t1 h0 n0 v t.heap L ∧ FrameEnd s o t L ({ frames := 0, cells := 0, slots := 0, locals := 0 } : Room).cells ({ frames := 0, cells := 0, slots := 0, locals := 0 } : Room).slots)
  rw [ef_rm_get_match m t1]
  have lt_Pf : h0.size > t1 := Pf.lt
  refine own_by (fun _ k => XS.aloadN X0.here hx rfl (hb hby d_rm_get_match_0) rfl rfl k) ?_
  show own_Go p e below (s₁.setTop (mkF m 1 #[.val (.ref t1)] [(.ref t1)])) _
  obtain ⟨T1, X1, e1, st1⟩ := getF X0 hx hZ hown (host := "") (Or.inl (hw _ (List.mem_of_getElem? (i := 53) rfl))) Via.refl e0 Pf (g := (mkF m 1 #[.val (.ref t1)] [(.ref t1)])) rfl rfl (hb hby d_rm_get_match_1)
  refine own_by st1 ?_
  show own_Go p e below (T1.setTop (mkF m 4 #[.val (.ref t1)] [(.long (0 : Int64))])) _
  obtain ⟨fs, hr, hrun, hended, hW, hsame⟩ := X1.leave (v := some (.long (0 : Int64))) (fun h => by rw [Bd.returns] at h; cases h)
  refine ⟨_, _, retOut X1 hx Bd.returns rfl (Or.inr (Or.inl ⟨rfl, rfl, _, rfl⟩)) (hb hby d_rm_get_match_4) hr, hrun, hended, _, _, rfl, ?_, ⟨_, rfl⟩, hW, hsame.mono (by decide) (by decide)⟩
  show Q_rm_get_match Z t1 h0 n0 _ T1.heap _
  rw [e1]
  exact ⟨rfl, N0, rfl⟩
theorem d_rm_get_group_0 : decode prog_8_method_9_code 0 = .ok (.aload_n 0, 1) := by decide +kernel
theorem d_rm_get_group_1 : decode prog_8_method_9_code 1 = .ok (.getfield 21, 3) := by decide +kernel
theorem d_rm_get_group_4 : decode prog_8_method_9_code 4 = .ok (.ireturn, 1) := by decide +kernel
def Q_rm_get_group (Z : State) (t1 : Addr) (h0 : Heap) (n0 : Nat) (v : Option Value) (h : Heap) (L : List Loc) : Prop := v = some (.int (0 : Int32)) ∧ Fr n0 L ∧ h = h0
theorem ef_rm_get_group (m : MethodId) (t1 : Addr) : entryFrame m #[(.ref t1)] 1 = mkF m 0 #[.val (.ref t1)] [] := by first | (simp [entryFrame, mkF, argsToLocals, Value.category]; done) | rfl
set_option maxRecDepth 65536 in
set_option maxHeartbeats 40000000 in
theorem rm_get_group (l : Launch) (Z : State) (a0 : Array Value) (hw : ∀ d ∈ tables_1, d.before a0 Z = true) (ws : List Jvm.Cond) (t1 : Addr) (h0 : Heap) (n0 : Nat) (O0 : Old Z n0 h0) (Pf : Fld Z h0 t1 "com/example/rollcall/rollcall/io/Configuration$Rule" "group" "I" (.int (0 : Int32))) :
    MetFree l (⟨"com/example/rollcall/rollcall/io/Configuration$Rule", "group", "()I"⟩ : MethodName) (head1 (Jvm.Cond.code (⟨"com/example/rollcall/rollcall/io/Configuration$Rule", "group", "()I"⟩ : MethodName) prog_8_method_9_code 1 (some .int) :: ws) ({ frames := 0, cells := 0, slots := 0, locals := 0 } : Room)) (fun a U => a = #[(.ref t1)] ∧ Z.Warmed39 U.vm ∧ U.heap = h0) (fun _ _ _ _ _ => True) (fun _ U o U' => ∃ v L, o = .returned v ∧ Q_rm_get_group Z t1 h0 n0 v U'.heap L ∧ FrameEnd U o U' L ({ frames := 0, cells := 0, slots := 0, locals := 0 } : Room).cells ({ frames := 0, cells := 0, slots := 0, locals := 0 } : Room).slots) := by
  refine MetFree.of_bodySF (plainFor_of_name own_pn_com_example_rollcall_rollcall_io_Configuration_Rule) hisR ?_
  intro p e s m args below meth c s₁ Bd hml0 hP hK
  obtain ⟨rfl, hZ, hh⟩ := hP
  have hx := Bd.exec
  have hby := Bd.bytes
  have hml : c.maxLocals = 1 := hml0
  have hown : s.vm.findClass "com/example/rollcall/rollcall/io/Configuration$Rule" = some m.cls := findClass_of_methodNamed Bd.named
  have hnm := (name_of_methodNamed Bd.named Bd.method).1
  have X0 : Stand p l e ({ frames := 0, cells := 0, slots := 0, locals := 0 } : Room) s m #[(.ref t1)] below meth c s₁ [] 0 0 := Stand.of_body Bd
  have e0 : s₁.heap = h0 := by rw [← hh, Bd.state]; rfl
  have N0 := Fr.nil n0
  have Z0 : n0 ≤ h0.size := by rw [← O0.1]; exact O0.2.1
  show own_Go p e below (s₁.setTop (entryFrame m #[(.ref t1)] 1)) (fun t o => ∃ v L, o = .returned v ∧ Q_rm_get_group Z t1 h0 n0 v t.heap L ∧ FrameEnd s o t L ({ frames := 0, cells := 0, slots := 0, locals := 0 } : Room).cells ({ frames := 0, cells := 0, slots := 0, locals := 0 } : Room).slots)
  rw [ef_rm_get_group m t1]
  have lt_Pf : h0.size > t1 := Pf.lt
  refine own_by (fun _ k => XS.aloadN X0.here hx rfl (hb hby d_rm_get_group_0) rfl rfl k) ?_
  show own_Go p e below (s₁.setTop (mkF m 1 #[.val (.ref t1)] [(.ref t1)])) _
  obtain ⟨T1, X1, e1, st1⟩ := getF X0 hx hZ hown (host := "") (Or.inl (hw _ (List.mem_of_getElem? (i := 55) rfl))) Via.refl e0 Pf (g := (mkF m 1 #[.val (.ref t1)] [(.ref t1)])) rfl rfl (hb hby d_rm_get_group_1)
  refine own_by st1 ?_
  show own_Go p e below (T1.setTop (mkF m 4 #[.val (.ref t1)] [(.int (0 : Int32))])) _
  obtain ⟨fs, hr, hrun, hended, hW, hsame⟩ := X1.leave (v := some (.int (0 : Int32))) (fun h => by rw [Bd.returns] at h; cases h)
  refine ⟨_, _, retI X1 hx Bd.returns (hb hby d_rm_get_group_4) hr, hrun, hended, _, _, rfl, ?_, ⟨_, rfl⟩, hW, hsame.mono (by decide) (by decide)⟩
  show Q_rm_get_group Z t1 h0 n0 _ T1.heap _
  rw [e1]
  exact ⟨rfl, N0, rfl⟩
theorem d_rm_get_ifEmpty_0 : decode prog_8_method_10_code 0 = .ok (.aload_n 0, 1) := by decide +kernel
theorem d_rm_get_ifEmpty_1 : decode prog_8_method_10_code 1 = .ok (.getfield 25, 3) := by decide +kernel
theorem d_rm_get_ifEmpty_4 : decode prog_8_method_10_code 4 = .ok (.areturn, 1) := by decide +kernel
def Q_rm_get_ifEmpty (Z : State) (t1 : Addr) (h0 : Heap) (n0 : Nat) (v : Option Value) (h : Heap) (L : List Loc) : Prop := v = some .null ∧ Fr n0 L ∧ h = h0
theorem ef_rm_get_ifEmpty (m : MethodId) (t1 : Addr) : entryFrame m #[(.ref t1)] 1 = mkF m 0 #[.val (.ref t1)] [] := by first | (simp [entryFrame, mkF, argsToLocals, Value.category]; done) | rfl
set_option maxRecDepth 65536 in
set_option maxHeartbeats 40000000 in
theorem rm_get_ifEmpty (l : Launch) (Z : State) (a0 : Array Value) (hw : ∀ d ∈ tables_1, d.before a0 Z = true) (ws : List Jvm.Cond) (t1 : Addr) (h0 : Heap) (n0 : Nat) (O0 : Old Z n0 h0) (Pf : Fld Z h0 t1 "com/example/rollcall/rollcall/io/Configuration$Rule" "ifEmpty" "Ljava/lang/String;" .null) :
    MetFree l (⟨"com/example/rollcall/rollcall/io/Configuration$Rule", "ifEmpty", "()Ljava/lang/String;"⟩ : MethodName) (head1 (Jvm.Cond.code (⟨"com/example/rollcall/rollcall/io/Configuration$Rule", "ifEmpty", "()Ljava/lang/String;"⟩ : MethodName) prog_8_method_10_code 1 (some (.object "java/lang/String")) :: ws) ({ frames := 0, cells := 0, slots := 0, locals := 0 } : Room)) (fun a U => a = #[(.ref t1)] ∧ Z.Warmed39 U.vm ∧ U.heap = h0) (fun _ _ _ _ _ => True) (fun _ U o U' => ∃ v L, o = .returned v ∧ Q_rm_get_ifEmpty Z t1 h0 n0 v U'.heap L ∧ FrameEnd U o U' L ({ frames := 0, cells := 0, slots := 0, locals := 0 } : Room).cells ({ frames := 0, cells := 0, slots := 0, locals := 0 } : Room).slots) := by
  refine MetFree.of_bodySF (plainFor_of_name own_pn_com_example_rollcall_rollcall_io_Configuration_Rule) hisR ?_
  intro p e s m args below meth c s₁ Bd hml0 hP hK
  obtain ⟨rfl, hZ, hh⟩ := hP
  have hx := Bd.exec
  have hby := Bd.bytes
  have hml : c.maxLocals = 1 := hml0
  have hown : s.vm.findClass "com/example/rollcall/rollcall/io/Configuration$Rule" = some m.cls := findClass_of_methodNamed Bd.named
  have hnm := (name_of_methodNamed Bd.named Bd.method).1
  have X0 : Stand p l e ({ frames := 0, cells := 0, slots := 0, locals := 0 } : Room) s m #[(.ref t1)] below meth c s₁ [] 0 0 := Stand.of_body Bd
  have e0 : s₁.heap = h0 := by rw [← hh, Bd.state]; rfl
  have N0 := Fr.nil n0
  have Z0 : n0 ≤ h0.size := by rw [← O0.1]; exact O0.2.1
  show own_Go p e below (s₁.setTop (entryFrame m #[(.ref t1)] 1)) (fun t o => ∃ v L, o = .returned v ∧ Q_rm_get_ifEmpty Z t1 h0 n0 v t.heap L ∧ FrameEnd s o t L ({ frames := 0, cells := 0, slots := 0, locals := 0 } : Room).cells ({ frames := 0, cells := 0, slots := 0, locals := 0 } : Room).slots)
  rw [ef_rm_get_ifEmpty m t1]
  have lt_Pf : h0.size > t1 := Pf.lt
  refine own_by (fun _ k => XS.aloadN X0.here hx rfl (hb hby d_rm_get_ifEmpty_0) rfl rfl k) ?_
  show own_Go p e below (s₁.setTop (mkF m 1 #[.val (.ref t1)] [(.ref t1)])) _
  obtain ⟨T1, X1, e1, st1⟩ := getF X0 hx hZ hown (host := "") (Or.inl (hw _ (List.mem_of_getElem? (i := 57) rfl))) Via.refl e0 Pf (g := (mkF m 1 #[.val (.ref t1)] [(.ref t1)])) rfl rfl (hb hby d_rm_get_ifEmpty_1)
  refine own_by st1 ?_
  show own_Go p e below (T1.setTop (mkF m 4 #[.val (.ref t1)] [.null])) _
  obtain ⟨fs, hr, hrun, hended, hW, hsame⟩ := X1.leave (v := some .null) (fun h => by rw [Bd.returns] at h; cases h)
  refine ⟨_, _, retOut X1 hx Bd.returns (own_narrow_ref (by decide) rfl) (Or.inr (Or.inr (Or.inr (Or.inr ⟨rfl, by decide, rfl⟩)))) (hb hby d_rm_get_ifEmpty_4) hr, hrun, hended, _, _, rfl, ?_, ⟨_, rfl⟩, hW, hsame.mono (by decide) (by decide)⟩
  show Q_rm_get_ifEmpty Z t1 h0 n0 _ T1.heap _
  rw [e1]
  exact ⟨rfl, N0, rfl⟩
theorem d_rm_get_keepIfEmpty_0 : decode prog_8_method_11_code 0 = .ok (.aload_n 0, 1) := by decide +kernel
theorem d_rm_get_keepIfEmpty_1 : decode prog_8_method_11_code 1 = .ok (.getfield 28, 3) := by decide +kernel
theorem d_rm_get_keepIfEmpty_4 : decode prog_8_method_11_code 4 = .ok (.ireturn, 1) := by decide +kernel
def Q_rm_get_keepIfEmpty (Z : State) (t1 : Addr) (h0 : Heap) (n0 : Nat) (v : Option Value) (h : Heap) (L : List Loc) : Prop := v = some (.int (0 : Int32)) ∧ Fr n0 L ∧ h = h0
theorem ef_rm_get_keepIfEmpty (m : MethodId) (t1 : Addr) : entryFrame m #[(.ref t1)] 1 = mkF m 0 #[.val (.ref t1)] [] := by first | (simp [entryFrame, mkF, argsToLocals, Value.category]; done) | rfl
set_option maxRecDepth 65536 in
set_option maxHeartbeats 40000000 in
theorem rm_get_keepIfEmpty (l : Launch) (Z : State) (a0 : Array Value) (hw : ∀ d ∈ tables_1, d.before a0 Z = true) (ws : List Jvm.Cond) (t1 : Addr) (h0 : Heap) (n0 : Nat) (O0 : Old Z n0 h0) (Pf : Fld Z h0 t1 "com/example/rollcall/rollcall/io/Configuration$Rule" "keepIfEmpty" "Z" (.int (0 : Int32))) :
    MetFree l (⟨"com/example/rollcall/rollcall/io/Configuration$Rule", "keepIfEmpty", "()Z"⟩ : MethodName) (head1 (Jvm.Cond.code (⟨"com/example/rollcall/rollcall/io/Configuration$Rule", "keepIfEmpty", "()Z"⟩ : MethodName) prog_8_method_11_code 1 (some .boolean) :: ws) ({ frames := 0, cells := 0, slots := 0, locals := 0 } : Room)) (fun a U => a = #[(.ref t1)] ∧ Z.Warmed39 U.vm ∧ U.heap = h0) (fun _ _ _ _ _ => True) (fun _ U o U' => ∃ v L, o = .returned v ∧ Q_rm_get_keepIfEmpty Z t1 h0 n0 v U'.heap L ∧ FrameEnd U o U' L ({ frames := 0, cells := 0, slots := 0, locals := 0 } : Room).cells ({ frames := 0, cells := 0, slots := 0, locals := 0 } : Room).slots) := by
  refine MetFree.of_bodySF (plainFor_of_name own_pn_com_example_rollcall_rollcall_io_Configuration_Rule) hisR ?_
  intro p e s m args below meth c s₁ Bd hml0 hP hK
  obtain ⟨rfl, hZ, hh⟩ := hP
  have hx := Bd.exec
  have hby := Bd.bytes
  have hml : c.maxLocals = 1 := hml0
  have hown : s.vm.findClass "com/example/rollcall/rollcall/io/Configuration$Rule" = some m.cls := findClass_of_methodNamed Bd.named
  have hnm := (name_of_methodNamed Bd.named Bd.method).1
  have X0 : Stand p l e ({ frames := 0, cells := 0, slots := 0, locals := 0 } : Room) s m #[(.ref t1)] below meth c s₁ [] 0 0 := Stand.of_body Bd
  have e0 : s₁.heap = h0 := by rw [← hh, Bd.state]; rfl
  have N0 := Fr.nil n0
  have Z0 : n0 ≤ h0.size := by rw [← O0.1]; exact O0.2.1
  show own_Go p e below (s₁.setTop (entryFrame m #[(.ref t1)] 1)) (fun t o => ∃ v L, o = .returned v ∧ Q_rm_get_keepIfEmpty Z t1 h0 n0 v t.heap L ∧ FrameEnd s o t L ({ frames := 0, cells := 0, slots := 0, locals := 0 } : Room).cells ({ frames := 0, cells := 0, slots := 0, locals := 0 } : Room).slots)
  rw [ef_rm_get_keepIfEmpty m t1]
  have lt_Pf : h0.size > t1 := Pf.lt
  refine own_by (fun _ k => XS.aloadN X0.here hx rfl (hb hby d_rm_get_keepIfEmpty_0) rfl rfl k) ?_
  show own_Go p e below (s₁.setTop (mkF m 1 #[.val (.ref t1)] [(.ref t1)])) _
  obtain ⟨T1, X1, e1, st1⟩ := getF X0 hx hZ hown (host := "") (Or.inl (hw _ (List.mem_of_getElem? (i := 59) rfl))) Via.refl e0 Pf (g := (mkF m 1 #[.val (.ref t1)] [(.ref t1)])) rfl rfl (hb hby d_rm_get_keepIfEmpty_1)
  refine own_by st1 ?_
  show own_Go p e below (T1.setTop (mkF m 4 #[.val (.ref t1)] [(.int (0 : Int32))])) _
  obtain ⟨fs, hr, hrun, hended, hW, hsame⟩ := X1.leave (v := some (.int (0 : Int32))) (fun h => by rw [Bd.returns] at h; cases h)
  refine ⟨_, _, retN X1 hx (t := .boolean) Bd.returns (by simp) (hb hby d_rm_get_keepIfEmpty_4) hr, hrun, hended, _, _, rfl, ?_, ⟨_, rfl⟩, hW, hsame.mono (by decide) (by decide)⟩
  show Q_rm_get_keepIfEmpty Z t1 h0 n0 _ T1.heap _
  rw [e1]
  exact ⟨rfl, N0, rfl⟩
theorem d_rm_get_onlyIfEmpty_0 : decode prog_8_method_12_code 0 = .ok (.aload_n 0, 1) := by decide +kernel
theorem d_rm_get_onlyIfEmpty_1 : decode prog_8_method_12_code 1 = .ok (.getfield 32, 3) := by decide +kernel
theorem d_rm_get_onlyIfEmpty_4 : decode prog_8_method_12_code 4 = .ok (.ireturn, 1) := by decide +kernel
def Q_rm_get_onlyIfEmpty (Z : State) (t1 : Addr) (h0 : Heap) (n0 : Nat) (v : Option Value) (h : Heap) (L : List Loc) : Prop := v = some (.int (0 : Int32)) ∧ Fr n0 L ∧ h = h0
theorem ef_rm_get_onlyIfEmpty (m : MethodId) (t1 : Addr) : entryFrame m #[(.ref t1)] 1 = mkF m 0 #[.val (.ref t1)] [] := by first | (simp [entryFrame, mkF, argsToLocals, Value.category]; done) | rfl
set_option maxRecDepth 65536 in
set_option maxHeartbeats 40000000 in
theorem rm_get_onlyIfEmpty (l : Launch) (Z : State) (a0 : Array Value) (hw : ∀ d ∈ tables_1, d.before a0 Z = true) (ws : List Jvm.Cond) (t1 : Addr) (h0 : Heap) (n0 : Nat) (O0 : Old Z n0 h0) (Pf : Fld Z h0 t1 "com/example/rollcall/rollcall/io/Configuration$Rule" "onlyIfEmpty" "Z" (.int (0 : Int32))) :
    MetFree l (⟨"com/example/rollcall/rollcall/io/Configuration$Rule", "onlyIfEmpty", "()Z"⟩ : MethodName) (head1 (Jvm.Cond.code (⟨"com/example/rollcall/rollcall/io/Configuration$Rule", "onlyIfEmpty", "()Z"⟩ : MethodName) prog_8_method_12_code 1 (some .boolean) :: ws) ({ frames := 0, cells := 0, slots := 0, locals := 0 } : Room)) (fun a U => a = #[(.ref t1)] ∧ Z.Warmed39 U.vm ∧ U.heap = h0) (fun _ _ _ _ _ => True) (fun _ U o U' => ∃ v L, o = .returned v ∧ Q_rm_get_onlyIfEmpty Z t1 h0 n0 v U'.heap L ∧ FrameEnd U o U' L ({ frames := 0, cells := 0, slots := 0, locals := 0 } : Room).cells ({ frames := 0, cells := 0, slots := 0, locals := 0 } : Room).slots) := by
  refine MetFree.of_bodySF (plainFor_of_name own_pn_com_example_rollcall_rollcall_io_Configuration_Rule) hisR ?_
  intro p e s m args below meth c s₁ Bd hml0 hP hK
  obtain ⟨rfl, hZ, hh⟩ := hP
  have hx := Bd.exec
  have hby := Bd.bytes
  have hml : c.maxLocals = 1 := hml0
  have hown : s.vm.findClass "com/example/rollcall/rollcall/io/Configuration$Rule" = some m.cls := findClass_of_methodNamed Bd.named
  have hnm := (name_of_methodNamed Bd.named Bd.method).1
  have X0 : Stand p l e ({ frames := 0, cells := 0, slots := 0, locals := 0 } : Room) s m #[(.ref t1)] below meth c s₁ [] 0 0 := Stand.of_body Bd
  have e0 : s₁.heap = h0 := by rw [← hh, Bd.state]; rfl
  have N0 := Fr.nil n0
  have Z0 : n0 ≤ h0.size := by rw [← O0.1]; exact O0.2.1
  show own_Go p e below (s₁.setTop (entryFrame m #[(.ref t1)] 1)) (fun t o => ∃ v L, o = .returned v ∧ Q_rm_get_onlyIfEmpty Z t1 h0 n0 v t.heap L ∧ FrameEnd s o t L ({ frames := 0, cells := 0, slots := 0, locals := 0 } : Room).cells ({ frames := 0, cells := 0, slots := 0, locals := 0 } : Room).slots)
  rw [ef_rm_get_onlyIfEmpty m t1]
  have lt_Pf : h0.size > t1 := Pf.lt
  refine own_by (fun _ k => XS.aloadN X0.here hx rfl (hb hby d_rm_get_onlyIfEmpty_0) rfl rfl k) ?_
  show own_Go p e below (s₁.setTop (mkF m 1 #[.val (.ref t1)] [(.ref t1)])) _
  obtain ⟨T1, X1, e1, st1⟩ := getF X0 hx hZ hown (host := "") (Or.inl (hw _ (List.mem_of_getElem? (i := 61) rfl))) Via.refl e0 Pf (g := (mkF m 1 #[.val (.ref t1)] [(.ref t1)])) rfl rfl (hb hby d_rm_get_onlyIfEmpty_1)
  refine own_by st1 ?_
  show own_Go p e below (T1.setTop (mkF m 4 #[.val (.ref t1)] [(.int (0 : Int32))])) _
  obtain ⟨fs, hr, hrun, hended, hW, hsame⟩ := X1.leave (v := some (.int (0 : Int32))) (fun h => by rw [Bd.returns] at h; cases h)
  refine ⟨_, _, retN X1 hx (t := .boolean) Bd.returns (by simp) (hb hby d_rm_get_onlyIfEmpty_4) hr, hrun, hended, _, _, rfl, ?_, ⟨_, rfl⟩, hW, hsame.mono (by decide) (by decide)⟩
  show Q_rm_get_onlyIfEmpty Z t1 h0 n0 _ T1.heap _
  rw [e1]
  exact ⟨rfl, N0, rfl⟩
theorem d_rm_sinit4_0_0 : decode jdk_42_method_149_code 0 = .ok (.aload_n 0, 1) := by decide +kernel
theorem d_rm_sinit4_0_1 : decode jdk_42_method_149_code 1 = .ok (.invokespecial 1, 3) := by decide +kernel
theorem d_rm_sinit4_0_4 : decode jdk_42_method_149_code 4 = .ok (.iload_n 3, 1) := by decide +kernel
theorem d_rm_sinit4_0_5 : decode jdk_42_method_149_code 5 = .ok (.ifCond .ne 22, 3) := by decide +kernel
theorem d_rm_sinit4_0_8 : decode jdk_42_method_149_code 8 = .ok (.aload_n 0, 1) := by decide +kernel
theorem d_rm_sinit4_0_9 : decode jdk_42_method_149_code 9 = .ok (.ldc 7, 2) := by decide +kernel
theorem d_rm_sinit4_0_11 : decode jdk_42_method_149_code 11 = .ok (.getfield 9, 3) := by decide +kernel
theorem d_rm_sinit4_0_14 : decode jdk_42_method_149_code 14 = .ok (.putfield 9, 3) := by decide +kernel
theorem d_rm_sinit4_0_17 : decode jdk_42_method_149_code 17 = .ok (.aload_n 0, 1) := by decide +kernel
theorem d_rm_sinit4_0_18 : decode jdk_42_method_149_code 18 = .ok (.ldc 7, 2) := by decide +kernel
theorem d_rm_sinit4_0_20 : decode jdk_42_method_149_code 20 = .ok (.getfield 15, 3) := by decide +kernel
theorem d_rm_sinit4_0_23 : decode jdk_42_method_149_code 23 = .ok (.putfield 15, 3) := by decide +kernel
theorem d_rm_sinit4_0_26 : decode jdk_42_method_149_code 26 = .ok (.return_, 1) := by decide +kernel
def Q_rm_sinit4_0 (Z : State) (t1 : Addr) (a1 : Addr) (h0 : Heap) (n0 : Nat) (v : Option Value) (h : Heap) (L : List Loc) : Prop := ∃ (b : Addr), ∃ (kb : ClassId), v = none ∧ Fr n0 L ∧ Keep h0 h [t1] ∧ Exa Z h t1 "java/lang/String" ∧ Fld Z h t1 "java/lang/String" "coder" "B" (.int (0 : Int32)) ∧ Fld Z h t1 "java/lang/String" "value" "[B" (.ref b) ∧ Arv Z h b kb .byte (0 : Int32) [] (.int (0 : Int32))
theorem ef_rm_sinit4_0 (m : MethodId) (t1 : Addr) (a1 : Addr) : entryFrame m #[(.ref t1), (.ref a1), (.int (0 : Int32)), (.int (0 : Int32)), .null] 6 = mkF m 0 #[.val (.ref t1), .val (.ref a1), .val (.int (0 : Int32)), .val (.int (0 : Int32)), .val .null, .unset] [] := by first | (simp [entryFrame, mkF, argsToLocals, Value.category]; done) | rfl
set_option maxRecDepth 65536 in
set_option maxHeartbeats 40000000 in
theorem rm_sinit4_0 (l : Launch) (Z : State) (a0 : Array Value) (hw : ∀ d ∈ tables_1, d.before a0 Z = true) (ws : List Jvm.Cond) (t1 : Addr) (a1 : Addr) (h0 : Heap) (n0 : Nat) (O0 : Old Z n0 h0) (hEL : EW Z a0 own_EL) (Et : Exa Z h0 t1 "java/lang/String") (Fv : Fld Z h0 t1 "java/lang/String" "value" "[B" .null) (Fc : Fld Z h0 t1 "java/lang/String" "coder" "B" (.int (0 : Int32))) (gt : n0 ≤ t1) :
    MetFree l (⟨"java/lang/String", "<init>", "([CIILjava/lang/Void;)V"⟩ : MethodName) (head1 (Jvm.Cond.code (⟨"java/lang/String", "<init>", "([CIILjava/lang/Void;)V"⟩ : MethodName) jdk_42_method_149_code 6 none :: ws) ({ frames := 1, cells := 4, slots := 8, locals := 12 } : Room)) (fun a U => a = #[(.ref t1), (.ref a1), (.int (0 : Int32)), (.int (0 : Int32)), .null] ∧ Z.Warmed39 U.vm ∧ U.heap = h0 ∧ CHv Z own_EL U.vm h0) (fun _ _ _ _ _ => True) (fun _ U o U' => ∃ v L, o = .returned v ∧ Q_rm_sinit4_0 Z t1 a1 h0 n0 v U'.heap L ∧ CHr Z own_EL U.vm U.heap U'.vm U'.heap ∧ ReturnedEndW U o U' L ({ frames := 1, cells := 4, slots := 8, locals := 12 } : Room).cells ({ frames := 1, cells := 4, slots := 8, locals := 12 } : Room).slots) := by
  refine MetFree.of_bodySF (plainFor_of_name own_pn_java_lang_String) hisR ?_
  intro p e s m args below meth c s₁ Bd hml0 hP hK
  obtain ⟨rfl, hZ, hh, hC⟩ := hP
  have hx := Bd.exec
  have hby := Bd.bytes
  have hml : c.maxLocals = 6 := hml0
  have hown : s.vm.findClass "java/lang/String" = some m.cls := findClass_of_methodNamed Bd.named
  have hnm := (name_of_methodNamed Bd.named Bd.method).1
  have X0 : Stand p l e ({ frames := 1, cells := 4, slots := 8, locals := 12 } : Room) (s.setVm s.vm) m #[(.ref t1), (.ref a1), (.int (0 : Int32)), (.int (0 : Int32)), .null] below meth c s₁ [] 0 0 := Stand.of_body Bd
  have S0 : s.Since s.vm h0.size := (State.WarmedH.refl s).since _
  have hZ : Z.Warmed39 (s.setVm s.vm).vm := hZ
  have hown : (s.setVm s.vm).vm.findClass "java/lang/String" = some m.cls := hown
  have R0 : CHr Z own_EL s.vm h0 s.vm h0 := CHr.refl hC
  have e0 : s₁.heap = h0 := by rw [← hh, Bd.state]; rfl
  have N0 := Fr.nil n0
  have Z0 : n0 ≤ h0.size := by rw [← O0.1]; exact O0.2.1
  show own_Go p e below (s₁.setTop (entryFrame m #[(.ref t1), (.ref a1), (.int (0 : Int32)), (.int (0 : Int32)), .null] 6)) (fun t o => ∃ v L, o = .returned v ∧ Q_rm_sinit4_0 Z t1 a1 h0 n0 v t.heap L ∧ CHr Z own_EL s.vm s.heap t.vm t.heap ∧ ReturnedEndW s o t L ({ frames := 1, cells := 4, slots := 8, locals := 12 } : Room).cells ({ frames := 1, cells := 4, slots := 8, locals := 12 } : Room).slots)
  rw [ef_rm_sinit4_0 m t1 a1]
  have lt_Et : h0.size > t1 := Et.lt
  have lt_Fv : h0.size > t1 := Fv.lt
  have lt_Fc : h0.size > t1 := Fc.lt
  refine own_by (fun _ k => XS.aloadN X0.here hx rfl (hb hby d_rm_sinit4_0_0) rfl rfl k) ?_
  show own_Go p e below (s₁.setTop (mkF m 1 #[.val (.ref t1), .val (.ref a1), .val (.int (0 : Int32)), .val (.int (0 : Int32)), .val .null, .unset] [(.ref t1)])) _
  obtain ⟨T1, X1, e1, st1⟩ := initO X0 hx hZ hown (hw _ (List.mem_of_getElem? (i := 15) rfl)) (hw _ (List.mem_of_getElem? (i := 16) rfl)) (hw _ (List.mem_of_getElem? (i := 17) rfl)) e0 (g := (mkF m 1 #[.val (.ref t1), .val (.ref a1), .val (.int (0 : Int32)), .val (.int (0 : Int32)), .val .null, .unset] [(.ref t1)])) rfl (by rw [hml]; rfl) rfl (hb hby d_rm_sinit4_0_1) (by decide) (W := 0) (by show 2 * 0 + _ ≤ _; exact Nat.le_of_eq rfl) (by decide)
  refine own_by st1 ?_
  show own_Go p e below (T1.setTop (mkF m 4 #[.val (.ref t1), .val (.ref a1), .val (.int (0 : Int32)), .val (.int (0 : Int32)), .val .null, .unset] [])) _
  refine own_by (fun _ k => XS.iloadN X1.here hx rfl (hb hby d_rm_sinit4_0_4) rfl k) ?_
  show own_Go p e below (T1.setTop (mkF m 5 #[.val (.ref t1), .val (.ref a1), .val (.int (0 : Int32)), .val (.int (0 : Int32)), .val .null, .unset] [(.int (0 : Int32))])) _
  refine own_by (fun _ k => XS.ifNo X1.here hx rfl (hb hby d_rm_sinit4_0_5) rfl ((if0 _ _).trans (teq (by decide : (0 : Int32) = (0 : Int32))).2) k) ?_
  show own_Go p e below (T1.setTop (mkF m 8 #[.val (.ref t1), .val (.ref a1), .val (.int (0 : Int32)), .val (.int (0 : Int32)), .val .null, .unset] [])) _
  refine own_by (fun _ k => XS.aloadN X1.here hx rfl (hb hby d_rm_sinit4_0_8) rfl rfl k) ?_
  show own_Go p e below (T1.setTop (mkF m 9 #[.val (.ref t1), .val (.ref a1), .val (.int (0 : Int32)), .val (.int (0 : Int32)), .val .null, .unset] [(.ref t1)])) _
  obtain ⟨b2, T2, h2, k2, c2, kb2, X2, e2, E2, S2, kk2, hZ2, ho2, A2, Fc2, Fv2, V2, la2, lb2, C2, -, sn2, st2⟩ := ldcCH X1 hx hZ hown (hw _ (List.mem_of_getElem? (i := 117) rfl)) (own_wS hw) e1 S0 (by omega) hEL (by decide) R0.1 (vs := []) (z := (0 : Int32)) (by decide) (by decide) (by decide) (g := (mkF m 9 #[.val (.ref t1), .val (.ref a1), .val (.int (0 : Int32)), .val (.int (0 : Int32)), .val .null, .unset] [(.ref t1)])) rfl (hb hby d_rm_sinit4_0_9) (n := 0) (by decide) (by decide) (by decide) (by decide)
  refine own_by st2 ?_
  have z2 := E2.1
  have nl2_0 := sn2 _ (own_CHr_safe C2 (by omega) (show Safe Z own_EL _ _ t1 from (own_safe_null hZ.alike Et Fv)))
  have ml2_0 : ¬ (@Eq Nat t1 b2) ∧ ¬ (@Eq Nat t1 c2) := nl2_0
  have R2 := R0.trans C2
  show own_Go p e below (T2.setTop (mkF m 11 #[.val (.ref t1), .val (.ref a1), .val (.int (0 : Int32)), .val (.int (0 : Int32)), .val .null, .unset] [(.ref b2), (.ref t1)])) _
  obtain ⟨T3, X3, e3, st3⟩ := getF X2 hx hZ2 ho2 (host := "") (Or.inl (hw _ (List.mem_of_getElem? (i := 32) rfl))) Via.refl e2 Fv2 (g := (mkF m 11 #[.val (.ref t1), .val (.ref a1), .val (.int (0 : Int32)), .val (.int (0 : Int32)), .val .null, .unset] [(.ref b2), (.ref t1)])) rfl rfl (hb hby d_rm_sinit4_0_11)
  refine own_by st3 ?_
  show own_Go p e below (T3.setTop (mkF m 14 #[.val (.ref t1), .val (.ref a1), .val (.int (0 : Int32)), .val (.int (0 : Int32)), .val .null, .unset] [(.ref c2), (.ref t1)])) _
  have fc4 : Fld Z h2 t1 "java/lang/String" "value" "[B" .null := (Fv.ext E2)
  have fc5 : Exa Z h2 t1 "java/lang/String" := (Et.ext E2)
  obtain ⟨T6, h6, X6, e6, W6, st6⟩ := putF X3 hx hZ2 ho2 (host := "") (Or.inl (hw _ (List.mem_of_getElem? (i := 32) rfl))) Via.refl e3 fc4 fc5 (Or.inr ⟨(hw _ (List.mem_of_getElem? (i := 33) rfl)), rfl, hnm⟩) (hw _ (List.mem_of_getElem? (i := 5) rfl)) (ty := (.array .byte)) (by decide) rfl rfl (g := (mkF m 14 #[.val (.ref t1), .val (.ref a1), .val (.int (0 : Int32)), .val (.int (0 : Int32)), .val .null, .unset] [(.ref c2), (.ref t1)])) rfl rfl (hb hby d_rm_sinit4_0_14)
  refine own_by st6 ?_
  have z6 := W6.size
  have N6 := Fr.snoc X6 N0 (by omega)
  have sw6 : Safe Z own_EL T2.vm h2 t1 := (own_safe_null hZ2.alike fc5 fc4)
  have sf6_t1 := Safe.wr W6 sw6 R2.1 sw6
  have R6 := R2.trans (CHr.wr W6 sw6 R2.1)
  have Fw6 : Fld Z h6 t1 "java/lang/String" "value" "[B" (.ref c2) := fc4.same W6
  show own_Go p e below (T6.setTop (mkF m 17 #[.val (.ref t1), .val (.ref a1), .val (.int (0 : Int32)), .val (.int (0 : Int32)), .val .null, .unset] [])) _
  refine own_by (fun _ k => XS.aloadN X6.here hx rfl (hb hby d_rm_sinit4_0_17) rfl rfl k) ?_
  show own_Go p e below (T6.setTop (mkF m 18 #[.val (.ref t1), .val (.ref a1), .val (.int (0 : Int32)), .val (.int (0 : Int32)), .val .null, .unset] [(.ref t1)])) _
  obtain ⟨b7, T7, h7, k7, c7, kb7, X7, e7, E7, S7, kk7, hZ7, ho7, A7, Fc7, Fv7, V7, la7, lb7, C7, -, sn7, st7⟩ := ldcCH X6 hx hZ2 ho2 (hw _ (List.mem_of_getElem? (i := 117) rfl)) (own_wS hw) e6 S2 (by omega) hEL (by decide) R6.1 (vs := []) (z := (0 : Int32)) (by decide) (by decide) (by decide) (g := (mkF m 18 #[.val (.ref t1), .val (.ref a1), .val (.int (0 : Int32)), .val (.int (0 : Int32)), .val .null, .unset] [(.ref t1)])) rfl (hb hby d_rm_sinit4_0_18) (n := 0) (by decide) (by decide) (by decide) (by decide)
  refine own_by st7 ?_
  have z7 := E7.1
  have nl7_0 := sn7 _ (own_CHr_safe C7 (by omega) (show Safe Z own_EL _ _ t1 from sf6_t1))
  have ml7_0 : ¬ (@Eq Nat t1 b7) ∧ ¬ (@Eq Nat t1 c7) := nl7_0
  have sf7_t1 := own_CHr_safe C7 (x := t1) (by omega) sf6_t1
  have R7 := R6.trans C7
  show own_Go p e below (T7.setTop (mkF m 20 #[.val (.ref t1), .val (.ref a1), .val (.int (0 : Int32)), .val (.int (0 : Int32)), .val .null, .unset] [(.ref b7), (.ref t1)])) _
  obtain ⟨T8, X8, e8, st8⟩ := getF X7 hx hZ7 ho7 (host := "") (Or.inl (hw _ (List.mem_of_getElem? (i := 30) rfl))) Via.refl e7 Fc7 (g := (mkF m 20 #[.val (.ref t1), .val (.ref a1), .val (.int (0 : Int32)), .val (.int (0 : Int32)), .val .null, .unset] [(.ref b7), (.ref t1)])) rfl rfl (hb hby d_rm_sinit4_0_20)
  refine own_by st8 ?_
  show own_Go p e below (T8.setTop (mkF m 23 #[.val (.ref t1), .val (.ref a1), .val (.int (0 : Int32)), .val (.int (0 : Int32)), .val .null, .unset] [(.int (0 : Int32)), (.ref t1)])) _
  have fc9 : Fld Z h7 t1 "java/lang/String" "coder" "B" (.int (0 : Int32)) := (((Fc.ext E2).other W6 (Or.inr (slot_ne (a0 := a0) (Or.inr (hw _ (List.mem_of_getElem? (i := 31) rfl))) (Or.inr (hw _ (List.mem_of_getElem? (i := 33) rfl))) (by decide) (t := .byte) (by decide) (t' := (.array .byte)) (by decide)))).ext E7)
  have fc10 : Exa Z h7 t1 "java/lang/String" := ((fc5.wr W6).ext E7)
  obtain ⟨T11, h11, X11, e11, W11, st11⟩ := putFN X8 hx hZ7 ho7 (hw _ (List.mem_of_getElem? (i := 30) rfl)) Via.refl e8 fc9 fc10 (Or.inr ⟨(hw _ (List.mem_of_getElem? (i := 31) rfl)), rfl, hnm⟩) (hw _ (List.mem_of_getElem? (i := 5) rfl)) (ty := .byte) (v' := (.int (0 : Int32))) (by decide) rfl rfl (g := (mkF m 23 #[.val (.ref t1), .val (.ref a1), .val (.int (0 : Int32)), .val (.int (0 : Int32)), .val .null, .unset] [(.int (0 : Int32)), (.ref t1)])) rfl rfl (hb hby d_rm_sinit4_0_23)
  refine own_by st11 ?_
  have z11 := W11.size
  have N11 := Fr.snoc X11 N6 (by omega)
  have sw11 : Safe Z own_EL T7.vm h7 t1 := sf7_t1
  have sf11_t1 := Safe.wr W11 sw11 R7.1 sw11
  have R11 := R7.trans (CHr.wr W11 sw11 R7.1)
  have Fw11 : Fld Z h11 t1 "java/lang/String" "coder" "B" (.int (0 : Int32)) := fc9.same W11
  show own_Go p e below (T11.setTop (mkF m 26 #[.val (.ref t1), .val (.ref a1), .val (.int (0 : Int32)), .val (.int (0 : Int32)), .val .null, .unset] [])) _
  have fc12 : Exa Z h11 t1 "java/lang/String" := (fc10.wr W11)
  have fc13 : Fld Z h11 t1 "java/lang/String" "value" "[B" (.ref c2) := ((Fw6.ext E7).other W11 (Or.inr (slot_ne (a0 := a0) (Or.inr (hw _ (List.mem_of_getElem? (i := 33) rfl))) (Or.inr (hw _ (List.mem_of_getElem? (i := 31) rfl))) (by decide) (t := (.array .byte)) (by decide) (t' := .byte) (by decide))))
  have fc14 : Arv Z h11 c2 kb2 .byte (0 : Int32) [] (.int (0 : Int32)) := (((V2.other W6 (own_ne (by omega))).ext E7).other W11 (own_ne (by omega)))
  have K15 : Keep h0 h11 [t1] := (((((Keep.refl h0 [t1]).ext E2).wr W6 (Or.inl (List.mem_of_getElem? (i := 0) rfl))).ext E7).wr W11 (Or.inl (List.mem_of_getElem? (i := 0) rfl)))
  obtain ⟨fs, hr, hrun, hended, hW⟩ := X11.leaveW S7 (by first | omega | (rw [e11]; omega)) (v := none) (fun h => rfl)
  have RR := R11.trans (CHv.at X11 hZ7 hEL R11.1)
  have RR' : CHr Z own_EL s.vm s.heap T11.vm T11.heap := by rw [hh, e11]; exact RR
  refine ⟨_, _, X11.returnOut hx Bd.returns (hb hby d_rm_sinit4_0_26) hr, hrun, hended, _, _, rfl, ?_, RR', ⟨_, rfl⟩, hW.2.1, hW.2.2.1, hW.2.2.2.mono (by decide) (by decide)⟩
  show Q_rm_sinit4_0 Z t1 a1 h0 n0 _ T11.heap _
  rw [e11]
  exact ⟨c2, kb2, rfl, N11, K15, fc12, Fw11, fc13, fc14⟩
theorem d_rm_sinit_0_0 : decode jdk_42_method_3_code 0 = .ok (.aload_n 0, 1) := by decide +kernel
theorem d_rm_sinit_0_1 : decode jdk_42_method_3_code 1 = .ok (.aload_n 1, 1) := by decide +kernel
theorem d_rm_sinit_0_2 : decode jdk_42_method_3_code 2 = .ok (.iconst 0, 1) := by decide +kernel
theorem d_rm_sinit_0_3 : decode jdk_42_method_3_code 3 = .ok (.aload_n 1, 1) := by decide +kernel
theorem d_rm_sinit_0_4 : decode jdk_42_method_3_code 4 = .ok (.arraylength, 1) := by decide +kernel
theorem d_rm_sinit_0_5 : decode jdk_42_method_3_code 5 = .ok (.aconst_null, 1) := by decide +kernel
theorem d_rm_sinit_0_6 : decode jdk_42_method_3_code 6 = .ok (.invokespecial 27, 3) := by decide +kernel
theorem d_rm_sinit_0_9 : decode jdk_42_method_3_code 9 = .ok (.return_, 1) := by decide +kernel
def Q_rm_sinit_0 (Z : State) (t1 : Addr) (a1 : Addr) (ka : ClassId) (h0 : Heap) (n0 : Nat) (v : Option Value) (h : Heap) (L : List Loc) : Prop := ∃ (b : Addr), ∃ (kb : ClassId), v = none ∧ Fr n0 L ∧ Keep h0 h [t1] ∧ Exa Z h t1 "java/lang/String" ∧ Fld Z h t1 "java/lang/String" "coder" "B" (.int (0 : Int32)) ∧ Fld Z h t1 "java/lang/String" "value" "[B" (.ref b) ∧ Arv Z h b kb .byte (0 : Int32) [] (.int (0 : Int32))
theorem ef_rm_sinit_0 (m : MethodId) (t1 : Addr) (a1 : Addr) (ka : ClassId) : entryFrame m #[(.ref t1), (.ref a1)] 2 = mkF m 0 #[.val (.ref t1), .val (.ref a1)] [] := by first | (simp [entryFrame, mkF, argsToLocals, Value.category]; done) | rfl
set_option maxRecDepth 65536 in
set_option maxHeartbeats 40000000 in
theorem rm_sinit_0 (l : Launch) (Z : State) (a0 : Array Value) (hw : ∀ d ∈ tables_1, d.before a0 Z = true) (ws : List Jvm.Cond) (t1 : Addr) (a1 : Addr) (ka : ClassId) (h0 : Heap) (n0 : Nat) (O0 : Old Z n0 h0) (hEL : EW Z a0 own_EL) (Et : Exa Z h0 t1 "java/lang/String") (Fv : Fld Z h0 t1 "java/lang/String" "value" "[B" .null) (Fc : Fld Z h0 t1 "java/lang/String" "coder" "B" (.int (0 : Int32))) (Va : Arv Z h0 a1 ka .char (0 : Int32) [] (.int (0 : Int32))) (gt : n0 ≤ t1) :
    MetFree l (⟨"java/lang/String", "<init>", "([C)V"⟩ : MethodName) (head1 (Jvm.Cond.code (⟨"java/lang/String", "<init>", "([C)V"⟩ : MethodName) jdk_42_method_3_code 2 none :: ws) ({ frames := 2, cells := 4, slots := 8, locals := 29 } : Room)) (fun a U => a = #[(.ref t1), (.ref a1)] ∧ Z.Warmed39 U.vm ∧ U.heap = h0 ∧ CHv Z own_EL U.vm h0) (fun _ _ _ _ _ => True) (fun _ U o U' => ∃ v L, o = .returned v ∧ Q_rm_sinit_0 Z t1 a1 ka h0 n0 v U'.heap L ∧ CHr Z own_EL U.vm U.heap U'.vm U'.heap ∧ ReturnedEndW U o U' L ({ frames := 2, cells := 4, slots := 8, locals := 29 } : Room).cells ({ frames := 2, cells := 4, slots := 8, locals := 29 } : Room).slots) := by
  refine MetFree.of_bodySF (plainFor_of_name own_pn_java_lang_String) hisR ?_
  intro p e s m args below meth c s₁ Bd hml0 hP hK
  obtain ⟨rfl, hZ, hh, hC⟩ := hP
  have hx := Bd.exec
  have hby := Bd.bytes
  have hml : c.maxLocals = 2 := hml0
  have hown : s.vm.findClass "java/lang/String" = some m.cls := findClass_of_methodNamed Bd.named
  have hnm := (name_of_methodNamed Bd.named Bd.method).1
  have X0 : Stand p l e ({ frames := 2, cells := 4, slots := 8, locals := 29 } : Room) (s.setVm s.vm) m #[(.ref t1), (.ref a1)] below meth c s₁ [] 0 0 := Stand.of_body Bd
  have S0 : s.Since s.vm h0.size := (State.WarmedH.refl s).since _
  have hZ : Z.Warmed39 (s.setVm s.vm).vm := hZ
  have hown : (s.setVm s.vm).vm.findClass "java/lang/String" = some m.cls := hown
  have R0 : CHr Z own_EL s.vm h0 s.vm h0 := CHr.refl hC
  have e0 : s₁.heap = h0 := by rw [← hh, Bd.state]; rfl
  have N0 := Fr.nil n0
  have Z0 : n0 ≤ h0.size := by rw [← O0.1]; exact O0.2.1
  show own_Go p e below (s₁.setTop (entryFrame m #[(.ref t1), (.ref a1)] 2)) (fun t o => ∃ v L, o = .returned v ∧ Q_rm_sinit_0 Z t1 a1 ka h0 n0 v t.heap L ∧ CHr Z own_EL s.vm s.heap t.vm t.heap ∧ ReturnedEndW s o t L ({ frames := 2, cells := 4, slots := 8, locals := 29 } : Room).cells ({ frames := 2, cells := 4, slots := 8, locals := 29 } : Room).slots)
  rw [ef_rm_sinit_0 m t1 a1 ka]
  have lt_Et : h0.size > t1 := Et.lt
  have lt_Fv : h0.size > t1 := Fv.lt
  have lt_Fc : h0.size > t1 := Fc.lt
  have lt_Va : h0.size > a1 := Va.lt
  refine own_by (fun _ k => XS.aloadN X0.here hx rfl (hb hby d_rm_sinit_0_0) rfl rfl k) ?_
  show own_Go p e below (s₁.setTop (mkF m 1 #[.val (.ref t1), .val (.ref a1)] [(.ref t1)])) _
  refine own_by (fun _ k => XS.aloadN X0.here hx rfl (hb hby d_rm_sinit_0_1) rfl rfl k) ?_
  show own_Go p e below (s₁.setTop (mkF m 2 #[.val (.ref t1), .val (.ref a1)] [(.ref a1), (.ref t1)])) _
  refine own_by (fun _ k => XS.iconst X0.here hx rfl (hb hby d_rm_sinit_0_2) k) ?_
  show own_Go p e below (s₁.setTop (mkF m 3 #[.val (.ref t1), .val (.ref a1)] [(.int (0 : Int32)), (.ref a1), (.ref t1)])) _
  refine own_by (fun _ k => XS.aloadN X0.here hx rfl (hb hby d_rm_sinit_0_3) rfl rfl k) ?_
  show own_Go p e below (s₁.setTop (mkF m 4 #[.val (.ref t1), .val (.ref a1)] [(.ref a1), (.int (0 : Int32)), (.ref a1), (.ref t1)])) _
  obtain ⟨cl1, Ar1, q1, S1, M1, H1, G1⟩ := (id Va)
  refine own_by (X0.arraylength hx (by rw [e0]; exact Ar1.1) (State.isArrayOf_alike hZ.alike Ar1.2.1) (g := (mkF m 4 #[.val (.ref t1), .val (.ref a1)] [(.ref a1), (.int (0 : Int32)), (.ref a1), (.ref t1)])) rfl rfl (hb hby d_rm_sinit_0_4)) ?_
  rw [len_of S1 M1]
  show own_Go p e below (s₁.setTop (mkF m 5 #[.val (.ref t1), .val (.ref a1)] [(.int (0 : Int32)), (.int (0 : Int32)), (.ref a1), (.ref t1)])) _
  refine own_by (fun _ k => XS.aconstNull X0.here hx rfl (hb hby d_rm_sinit_0_5) k) ?_
  show own_Go p e below (s₁.setTop (mkF m 6 #[.val (.ref t1), .val (.ref a1)] [.null, (.int (0 : Int32)), (.int (0 : Int32)), (.ref a1), (.ref t1)])) _
  obtain ⟨_, _, ⟨T2, L2, k2, n2⟩, -, X2, S'2, gr2, ⟨Lc2, hQ2, l2, y2, z2, C2⟩, st2⟩ := X0.specialBackS hx (y := (⟨"java/lang/String", "<init>", "([CIILjava/lang/Void;)V"⟩ : MethodName)) rfl hown (mvT hZ (hw _ (List.mem_of_getElem? (i := 11) rfl))) (mvT hZ (hw _ (List.mem_of_getElem? (i := 12) rfl))) (mvT hZ (hw _ (List.mem_of_getElem? (i := 14) rfl))) (by decide) (backOfSH (W := 0) (rm_sinit4_0 l Z a0 hw [] t1 a1 h0 n0 O0 hEL Et Fv Fc gt) hZ (hw _ (List.mem_of_getElem? (i := 14) rfl)) (hw _ (List.mem_of_getElem? (i := 6) rfl)) (by decide) (by decide) hEL R0.1) (g := (mkF m 6 #[.val (.ref t1), .val (.ref a1)] [.null, (.int (0 : Int32)), (.int (0 : Int32)), (.ref a1), (.ref t1)])) rfl (by rw [hml]; rfl) (Steps.refl _) (a := t1) (argsL := [(.ref a1), (.int (0 : Int32)), (.int (0 : Int32)), .null]) (rest := []) (lenOf own_pd__28_5bCIILjava_2flang_2fVoid_3b_29V rfl) rfl (by show 2 * 0 + _ ≤ _; exact Nat.le_of_eq rfl) (hb hby d_rm_sinit_0_6) (fun _ _ => ⟨rfl, e0, (by decide : 0 + 4 ≤ _), (by decide : 0 + 8 ≤ _)⟩)
  dsimp only [Pt.U, Pt.locs, Pt.cells, Pt.slots] at X2 l2 y2 z2 st2 hQ2 S'2 gr2 C2
  subst l2 y2 z2
  obtain ⟨X2, S2, hZ2, ho2⟩ := rebS S0 (by first | omega | (rw [e0]; omega)) X2 S'2 gr2 hZ hown
  obtain ⟨b_2, kb_2, rfl, M2, K2, g2_0, g2_1, g2_2, g2_3⟩ := hQ2
  have N2 := Fr.app N0 M2
  refine own_by (fun _ k => st2.trans k) ?_
  have R2 := R0.trans C2
  have z2 := K2.1
  have lt_g2_0 : T2.heap.size > t1 := g2_0.lt
  have lt_g2_1 : T2.heap.size > t1 := g2_1.lt
  have lt_g2_2 : T2.heap.size > t1 := g2_2.lt
  have lt_g2_3 : T2.heap.size > b_2 := g2_3.lt
  show own_Go p e below (T2.setTop (mkF m 9 #[.val (.ref t1), .val (.ref a1)] [])) _
  have K3 : Keep h0 T2.heap [t1] := ((Keep.refl h0 [t1]).trans K2 (allS (P := fun x => x ∈ [t1] ∨ h0.size ≤ x) (Or.inl (List.mem_of_getElem? (i := 0) rfl)) all0))
  obtain ⟨fs, hr, hrun, hended, hW⟩ := X2.leaveW S2 (by first | omega | (rw [e0]; omega)) (v := none) (fun h => rfl)
  have RR := R2.trans (CHv.at X2 hZ2 hEL R2.1)
  have RR' : CHr Z own_EL s.vm s.heap T2.vm T2.heap := by rw [hh]; exact RR
  refine ⟨_, _, X2.returnOut hx Bd.returns (hb hby d_rm_sinit_0_9) hr, hrun, hended, _, _, rfl, ?_, RR', ⟨_, rfl⟩, hW.2.1, hW.2.2.1, hW.2.2.2.mono (by decide) (by decide)⟩
  show Q_rm_sinit_0 Z t1 a1 ka h0 n0 _ T2.heap _
  exact ⟨b_2, kb_2, rfl, N2, K3, g2_0, g2_1, g2_2, g2_3⟩
theorem d_rm_comp5_2_0 : decode jdk_52_method_21_code 0 = .ok (.iconst 0, 1) := by decide +kernel
theorem d_rm_comp5_2_1 : decode jdk_52_method_21_code 1 = .ok (.istore 5, 2) := by decide +kernel
theorem d_rm_comp5_2_3 : decode jdk_52_method_21_code 3 = .ok (.iload 5, 2) := by decide +kernel
theorem d_rm_comp5_2_5 : decode jdk_52_method_21_code 5 = .ok (.iload 4, 2) := by decide +kernel
theorem d_rm_comp5_2_7 : decode jdk_52_method_21_code 7 = .ok (.if_icmp .ge 37, 3) := by decide +kernel
theorem d_rm_comp5_2_10 : decode jdk_52_method_21_code 10 = .ok (.aload_n 0, 1) := by decide +kernel
theorem d_rm_comp5_2_11 : decode jdk_52_method_21_code 11 = .ok (.iload_n 1, 1) := by decide +kernel
theorem d_rm_comp5_2_12 : decode jdk_52_method_21_code 12 = .ok (.caload, 1) := by decide +kernel
theorem d_rm_comp5_2_13 : decode jdk_52_method_21_code 13 = .ok (.istore 6, 2) := by decide +kernel
theorem d_rm_comp5_2_15 : decode jdk_52_method_21_code 15 = .ok (.iload 6, 2) := by decide +kernel
theorem d_rm_comp5_2_17 : decode jdk_52_method_21_code 17 = .ok (.sipush 255, 3) := by decide +kernel
theorem d_rm_comp5_2_20 : decode jdk_52_method_21_code 20 = .ok (.if_icmp .le 6, 3) := by decide +kernel
theorem d_rm_comp5_2_26 : decode jdk_52_method_21_code 26 = .ok (.aload_n 2, 1) := by decide +kernel
theorem d_rm_comp5_2_27 : decode jdk_52_method_21_code 27 = .ok (.iload_n 3, 1) := by decide +kernel
theorem d_rm_comp5_2_28 : decode jdk_52_method_21_code 28 = .ok (.iload 6, 2) := by decide +kernel
theorem d_rm_comp5_2_30 : decode jdk_52_method_21_code 30 = .ok (.i2b, 1) := by decide +kernel
theorem d_rm_comp5_2_31 : decode jdk_52_method_21_code 31 = .ok (.bastore, 1) := by decide +kernel
theorem d_rm_comp5_2_32 : decode jdk_52_method_21_code 32 = .ok (.iinc 1 1, 3) := by decide +kernel
theorem d_rm_comp5_2_35 : decode jdk_52_method_21_code 35 = .ok (.iinc 3 1, 3) := by decide +kernel
theorem d_rm_comp5_2_38 : decode jdk_52_method_21_code 38 = .ok (.iinc 5 1, 3) := by decide +kernel
theorem d_rm_comp5_2_41 : decode jdk_52_method_21_code 41 = .ok (.goto (-38), 3) := by decide +kernel
theorem d_rm_comp5_2_44 : decode jdk_52_method_21_code 44 = .ok (.iload 4, 2) := by decide +kernel
theorem d_rm_comp5_2_46 : decode jdk_52_method_21_code 46 = .ok (.ireturn, 1) := by decide +kernel
def Q_rm_comp5_2 (Z : State) (a1 : Addr) (b : Addr) (ka : ClassId) (kb : ClassId) (c1 : Int32) (c2 : Int32) (h0 : Heap) (n0 : Nat) (v : Option Value) (h : Heap) (L : List Loc) : Prop := v = some (.int (2 : Int32)) ∧ Fr n0 L ∧ Keep h0 h [b] ∧ Arv Z h b kb .byte (2 : Int32) [(.int (own_b c1)), (.int (own_b c2))] (.int (0 : Int32))
theorem ef_rm_comp5_2 (m : MethodId) (a1 : Addr) (b : Addr) (ka : ClassId) (kb : ClassId) (c1 : Int32) (c2 : Int32) : entryFrame m #[(.ref a1), (.int (0 : Int32)), (.ref b), (.int (0 : Int32)), (.int (2 : Int32))] 7 = mkF m 0 #[.val (.ref a1), .val (.int (0 : Int32)), .val (.ref b), .val (.int (0 : Int32)), .val (.int (2 : Int32)), .unset, .unset] [] := by first | (simp [entryFrame, mkF, argsToLocals, Value.category]; done) | rfl
set_option maxRecDepth 65536 in
set_option maxHeartbeats 40000000 in
theorem rm_comp5_2 (l : Launch) (Z : State) (a0 : Array Value) (hw : ∀ d ∈ tables_1, d.before a0 Z = true) (ws : List Jvm.Cond) (a1 : Addr) (b : Addr) (ka : ClassId) (kb : ClassId) (c1 : Int32) (c2 : Int32) (h0 : Heap) (n0 : Nat) (O0 : Old Z n0 h0) (Va : Arv Z h0 a1 ka .char (2 : Int32) [(.int c1), (.int c2)] (.int (0 : Int32))) (Vb : Arv Z h0 b kb .byte (2 : Int32) [] (.int (0 : Int32))) (rc1 : ¬ ((255 : Int32) < c1)) (rc2 : ¬ ((255 : Int32) < c2)) (gb : n0 ≤ b) (nab : ¬ (@Eq Nat a1 b)) :
    MetFree l (⟨"java/lang/StringUTF16", "compress", "([CI[BII)I"⟩ : MethodName) (head1 (Jvm.Cond.code (⟨"java/lang/StringUTF16", "compress", "([CI[BII)I"⟩ : MethodName) jdk_52_method_21_code 7 (some .int) :: ws) ({ frames := 0, cells := 0, slots := 0, locals := 0 } : Room)) (fun a U => a = #[(.ref a1), (.int (0 : Int32)), (.ref b), (.int (0 : Int32)), (.int (2 : Int32))] ∧ Z.Warmed39 U.vm ∧ U.heap = h0) (fun _ _ _ _ _ => True) (fun _ U o U' => ∃ v L, o = .returned v ∧ Q_rm_comp5_2 Z a1 b ka kb c1 c2 h0 n0 v U'.heap L ∧ FrameEnd U o U' L ({ frames := 0, cells := 0, slots := 0, locals := 0 } : Room).cells ({ frames := 0, cells := 0, slots := 0, locals := 0 } : Room).slots) := by
  refine MetFree.of_bodySF (plainFor_of_name own_pn_java_lang_StringUTF16) hisR ?_
  intro p e s m args below meth c s₁ Bd hml0 hP hK
  obtain ⟨rfl, hZ, hh⟩ := hP
  have hx := Bd.exec
  have hby := Bd.bytes
  have hml : c.maxLocals = 7 := hml0
  have hown : s.vm.findClass "java/lang/StringUTF16" = some m.cls := findClass_of_methodNamed Bd.named
  have hnm := (name_of_methodNamed Bd.named Bd.method).1
  have X0 : Stand p l e ({ frames := 0, cells := 0, slots := 0, locals := 0 } : Room) s m #[(.ref a1), (.int (0 : Int32)), (.ref b), (.int (0 : Int32)), (.int (2 : Int32))] below meth c s₁ [] 0 0 := Stand.of_body Bd
  have e0 : s₁.heap = h0 := by rw [← hh, Bd.state]; rfl
  have N0 := Fr.nil n0
  have Z0 : n0 ≤ h0.size := by rw [← O0.1]; exact O0.2.1
  show own_Go p e below (s₁.setTop (entryFrame m #[(.ref a1), (.int (0 : Int32)), (.ref b), (.int (0 : Int32)), (.int (2 : Int32))] 7)) (fun t o => ∃ v L, o = .returned v ∧ Q_rm_comp5_2 Z a1 b ka kb c1 c2 h0 n0 v t.heap L ∧ FrameEnd s o t L ({ frames := 0, cells := 0, slots := 0, locals := 0 } : Room).cells ({ frames := 0, cells := 0, slots := 0, locals := 0 } : Room).slots)
  rw [ef_rm_comp5_2 m a1 b ka kb c1 c2]
  have lt_Va : h0.size > a1 := Va.lt
  have lt_Vb : h0.size > b := Vb.lt
  refine own_by (fun _ k => XS.iconst X0.here hx rfl (hb hby d_rm_comp5_2_0) k) ?_
  show own_Go p e below (s₁.setTop (mkF m 1 #[.val (.ref a1), .val (.int (0 : Int32)), .val (.ref b), .val (.int (0 : Int32)), .val (.int (2 : Int32)), .unset, .unset] [(.int (0 : Int32))])) _
  refine own_by (fun _ k => XS.istore X0.here hx rfl (hb hby d_rm_comp5_2_1) rfl (l' := #[.val (.ref a1), .val (.int (0 : Int32)), .val (.ref b), .val (.int (0 : Int32)), .val (.int (2 : Int32)), .val (.int (0 : Int32)), .unset]) rfl k) ?_
  show own_Go p e below (s₁.setTop (mkF m 3 #[.val (.ref a1), .val (.int (0 : Int32)), .val (.ref b), .val (.int (0 : Int32)), .val (.int (2 : Int32)), .val (.int (0 : Int32)), .unset] [])) _
  refine own_by (fun _ k => XS.iload X0.here hx rfl (hb hby d_rm_comp5_2_3) rfl k) ?_
  show own_Go p e below (s₁.setTop (mkF m 5 #[.val (.ref a1), .val (.int (0 : Int32)), .val (.ref b), .val (.int (0 : Int32)), .val (.int (2 : Int32)), .val (.int (0 : Int32)), .unset] [(.int (0 : Int32))])) _
  refine own_by (fun _ k => XS.iload X0.here hx rfl (hb hby d_rm_comp5_2_5) rfl k) ?_
  show own_Go p e below (s₁.setTop (mkF m 7 #[.val (.ref a1), .val (.int (0 : Int32)), .val (.ref b), .val (.int (0 : Int32)), .val (.int (2 : Int32)), .val (.int (0 : Int32)), .unset] [(.int (2 : Int32)), (.int (0 : Int32))])) _
  refine own_by (fun _ k => XS.icmpNo X0.here hx rfl (hb hby d_rm_comp5_2_7) rfl (tlt (by decide : (0 : Int32) < (2 : Int32))).2.1 k) ?_
  show own_Go p e below (s₁.setTop (mkF m 10 #[.val (.ref a1), .val (.int (0 : Int32)), .val (.ref b), .val (.int (0 : Int32)), .val (.int (2 : Int32)), .val (.int (0 : Int32)), .unset] [])) _
  refine own_by (fun _ k => XS.aloadN X0.here hx rfl (hb hby d_rm_comp5_2_10) rfl rfl k) ?_
  show own_Go p e below (s₁.setTop (mkF m 11 #[.val (.ref a1), .val (.int (0 : Int32)), .val (.ref b), .val (.int (0 : Int32)), .val (.int (2 : Int32)), .val (.int (0 : Int32)), .unset] [(.ref a1)])) _
  refine own_by (fun _ k => XS.iloadN X0.here hx rfl (hb hby d_rm_comp5_2_11) rfl k) ?_
  show own_Go p e below (s₁.setTop (mkF m 12 #[.val (.ref a1), .val (.int (0 : Int32)), .val (.ref b), .val (.int (0 : Int32)), .val (.int (2 : Int32)), .val (.int (0 : Int32)), .unset] [(.int (0 : Int32)), (.ref a1)])) _
  obtain ⟨cl1, Ar1, q1, S1, M1, H1, G1⟩ := (id Va)
  have hin1 : ¬ ((0 : Int32) < 0 ∨ cl1.slots.size ≤ ((0 : Int32)).toNatClampNeg) := inb_of S1 ⟨by decide, by decide⟩
  refine own_by (X0.caload hx (j := (0 : Int32)) (v := (.int c1)) (by rw [e0]; exact Ar1.1) (State.isArrayOf_alike hZ.alike Ar1.2.1) Ar1.2.2 hin1 (H1.at hin1 rfl) (g := (mkF m 12 #[.val (.ref a1), .val (.int (0 : Int32)), .val (.ref b), .val (.int (0 : Int32)), .val (.int (2 : Int32)), .val (.int (0 : Int32)), .unset] [(.int (0 : Int32)), (.ref a1)])) rfl rfl (hb hby d_rm_comp5_2_12)) ?_
  show own_Go p e below (s₁.setTop (mkF m 13 #[.val (.ref a1), .val (.int (0 : Int32)), .val (.ref b), .val (.int (0 : Int32)), .val (.int (2 : Int32)), .val (.int (0 : Int32)), .unset] [(.int c1)])) _
  refine own_by (fun _ k => XS.istore X0.here hx rfl (hb hby d_rm_comp5_2_13) rfl (l' := #[.val (.ref a1), .val (.int (0 : Int32)), .val (.ref b), .val (.int (0 : Int32)), .val (.int (2 : Int32)), .val (.int (0 : Int32)), .val (.int c1)]) rfl k) ?_
  show own_Go p e below (s₁.setTop (mkF m 15 #[.val (.ref a1), .val (.int (0 : Int32)), .val (.ref b), .val (.int (0 : Int32)), .val (.int (2 : Int32)), .val (.int (0 : Int32)), .val (.int c1)] [])) _
  refine own_by (fun _ k => XS.iload X0.here hx rfl (hb hby d_rm_comp5_2_15) rfl k) ?_
  show own_Go p e below (s₁.setTop (mkF m 17 #[.val (.ref a1), .val (.int (0 : Int32)), .val (.ref b), .val (.int (0 : Int32)), .val (.int (2 : Int32)), .val (.int (0 : Int32)), .val (.int c1)] [(.int c1)])) _
  refine own_by (fun _ k => XS.sipush X0.here hx rfl (hb hby d_rm_comp5_2_17) k) ?_
  show own_Go p e below (s₁.setTop (mkF m 20 #[.val (.ref a1), .val (.int (0 : Int32)), .val (.ref b), .val (.int (0 : Int32)), .val (.int (2 : Int32)), .val (.int (0 : Int32)), .val (.int c1)] [(.int (255 : Int32)), (.int c1)])) _
  refine own_by (fun _ k => XS.icmpYes X0.here hx rfl (pc0 := 20) (pc' := 26) rfl (hb hby d_rm_comp5_2_20) rfl (flt rc1).2.2.2 (by decide) (by decide) k) ?_
  show own_Go p e below (s₁.setTop (mkF m 26 #[.val (.ref a1), .val (.int (0 : Int32)), .val (.ref b), .val (.int (0 : Int32)), .val (.int (2 : Int32)), .val (.int (0 : Int32)), .val (.int c1)] [])) _
  refine own_by (fun _ k => XS.aloadN X0.here hx rfl (hb hby d_rm_comp5_2_26) rfl rfl k) ?_
  show own_Go p e below (s₁.setTop (mkF m 27 #[.val (.ref a1), .val (.int (0 : Int32)), .val (.ref b), .val (.int (0 : Int32)), .val (.int (2 : Int32)), .val (.int (0 : Int32)), .val (.int c1)] [(.ref b)])) _
  refine own_by (fun _ k => XS.iloadN X0.here hx rfl (hb hby d_rm_comp5_2_27) rfl k) ?_
  show own_Go p e below (s₁.setTop (mkF m 28 #[.val (.ref a1), .val (.int (0 : Int32)), .val (.ref b), .val (.int (0 : Int32)), .val (.int (2 : Int32)), .val (.int (0 : Int32)), .val (.int c1)] [(.int (0 : Int32)), (.ref b)])) _
  refine own_by (fun _ k => XS.iload X0.here hx rfl (hb hby d_rm_comp5_2_28) rfl k) ?_
  show own_Go p e below (s₁.setTop (mkF m 30 #[.val (.ref a1), .val (.int (0 : Int32)), .val (.ref b), .val (.int (0 : Int32)), .val (.int (2 : Int32)), .val (.int (0 : Int32)), .val (.int c1)] [(.int c1), (.int (0 : Int32)), (.ref b)])) _
  refine own_by (fun _ k => XS.i2b X0.here hx rfl (hb hby d_rm_comp5_2_30) rfl k) ?_
  show own_Go p e below (s₁.setTop (mkF m 31 #[.val (.ref a1), .val (.int (0 : Int32)), .val (.ref b), .val (.int (0 : Int32)), .val (.int (2 : Int32)), .val (.int (0 : Int32)), .val (.int c1)] [(.int (c1.toInt8.toInt32)), (.int (0 : Int32)), (.ref b)])) _
  have Vw2 : Arv Z h0 b kb .byte (2 : Int32) [(.int (0 : Int32))] (.int (0 : Int32)) := Vb.pad (pad_rep [] (.int (0 : Int32)) 1)
  obtain ⟨cl3, Ar3, q3, S3, M3, H3, G3⟩ := (id Vw2)
  have hin3 : ¬ ((0 : Int32) < 0 ∨ cl3.slots.size ≤ ((0 : Int32)).toNatClampNeg) := inb_of S3 ⟨by decide, by decide⟩
  obtain ⟨T3, h3, X3, e3, W3, st3⟩ := stB X0 hx hZ e0 Ar3 (j := (0 : Int32)) hin3 (g := (mkF m 31 #[.val (.ref a1), .val (.int (0 : Int32)), .val (.ref b), .val (.int (0 : Int32)), .val (.int (2 : Int32)), .val (.int (0 : Int32)), .val (.int c1)] [(.int (c1.toInt8.toInt32)), (.int (0 : Int32)), (.ref b)])) rfl rfl (hb hby d_rm_comp5_2_31)
  refine own_by st3 ?_
  have z3 := W3.size
  have N3 := Fr.snoc X3 N0 (by omega)
  have Vw3 : Arv Z h3 b kb .byte (2 : Int32) [(.int (own_b c1))] (.int (0 : Int32)) := Arv.set Ar3 q3 S3 M3 H3 G3 (fits_nar_byte2 _) W3 0 rfl (Nat.le_of_ble_eq_true rfl)
  show own_Go p e below (T3.setTop (mkF m 32 #[.val (.ref a1), .val (.int (0 : Int32)), .val (.ref b), .val (.int (0 : Int32)), .val (.int (2 : Int32)), .val (.int (0 : Int32)), .val (.int c1)] [])) _
  refine own_by (fun _ k => XS.iinc X3.here hx rfl (hb hby d_rm_comp5_2_32) rfl (l' := #[.val (.ref a1), .val (.int (1 : Int32)), .val (.ref b), .val (.int (0 : Int32)), .val (.int (2 : Int32)), .val (.int (0 : Int32)), .val (.int c1)]) rfl k) ?_
  show own_Go p e below (T3.setTop (mkF m 35 #[.val (.ref a1), .val (.int (1 : Int32)), .val (.ref b), .val (.int (0 : Int32)), .val (.int (2 : Int32)), .val (.int (0 : Int32)), .val (.int c1)] [])) _
  refine own_by (fun _ k => XS.iinc X3.here hx rfl (hb hby d_rm_comp5_2_35) rfl (l' := #[.val (.ref a1), .val (.int (1 : Int32)), .val (.ref b), .val (.int (1 : Int32)), .val (.int (2 : Int32)), .val (.int (0 : Int32)), .val (.int c1)]) rfl k) ?_
  show own_Go p e below (T3.setTop (mkF m 38 #[.val (.ref a1), .val (.int (1 : Int32)), .val (.ref b), .val (.int (1 : Int32)), .val (.int (2 : Int32)), .val (.int (0 : Int32)), .val (.int c1)] [])) _
  refine own_by (fun _ k => XS.iinc X3.here hx rfl (hb hby d_rm_comp5_2_38) rfl (l' := #[.val (.ref a1), .val (.int (1 : Int32)), .val (.ref b), .val (.int (1 : Int32)), .val (.int (2 : Int32)), .val (.int (1 : Int32)), .val (.int c1)]) rfl k) ?_
  show own_Go p e below (T3.setTop (mkF m 41 #[.val (.ref a1), .val (.int (1 : Int32)), .val (.ref b), .val (.int (1 : Int32)), .val (.int (2 : Int32)), .val (.int (1 : Int32)), .val (.int c1)] [])) _
  refine own_by (fun _ k => XS.goto X3.here hx rfl (pc0 := 41) (pc' := 3) rfl (hb hby d_rm_comp5_2_41) (by decide) (by decide) k) ?_
  show own_Go p e below (T3.setTop (mkF m 3 #[.val (.ref a1), .val (.int (1 : Int32)), .val (.ref b), .val (.int (1 : Int32)), .val (.int (2 : Int32)), .val (.int (1 : Int32)), .val (.int c1)] [])) _
  refine own_by (fun _ k => XS.iload X3.here hx rfl (hb hby d_rm_comp5_2_3) rfl k) ?_
  show own_Go p e below (T3.setTop (mkF m 5 #[.val (.ref a1), .val (.int (1 : Int32)), .val (.ref b), .val (.int (1 : Int32)), .val (.int (2 : Int32)), .val (.int (1 : Int32)), .val (.int c1)] [(.int (1 : Int32))])) _
  refine own_by (fun _ k => XS.iload X3.here hx rfl (hb hby d_rm_comp5_2_5) rfl k) ?_
  show own_Go p e below (T3.setTop (mkF m 7 #[.val (.ref a1), .val (.int (1 : Int32)), .val (.ref b), .val (.int (1 : Int32)), .val (.int (2 : Int32)), .val (.int (1 : Int32)), .val (.int c1)] [(.int (2 : Int32)), (.int (1 : Int32))])) _
  refine own_by (fun _ k => XS.icmpNo X3.here hx rfl (hb hby d_rm_comp5_2_7) rfl (tlt (by decide : (1 : Int32) < (2 : Int32))).2.1 k) ?_
  show own_Go p e below (T3.setTop (mkF m 10 #[.val (.ref a1), .val (.int (1 : Int32)), .val (.ref b), .val (.int (1 : Int32)), .val (.int (2 : Int32)), .val (.int (1 : Int32)), .val (.int c1)] [])) _
  refine own_by (fun _ k => XS.aloadN X3.here hx rfl (hb hby d_rm_comp5_2_10) rfl rfl k) ?_
  show own_Go p e below (T3.setTop (mkF m 11 #[.val (.ref a1), .val (.int (1 : Int32)), .val (.ref b), .val (.int (1 : Int32)), .val (.int (2 : Int32)), .val (.int (1 : Int32)), .val (.int c1)] [(.ref a1)])) _
  refine own_by (fun _ k => XS.iloadN X3.here hx rfl (hb hby d_rm_comp5_2_11) rfl k) ?_
  show own_Go p e below (T3.setTop (mkF m 12 #[.val (.ref a1), .val (.int (1 : Int32)), .val (.ref b), .val (.int (1 : Int32)), .val (.int (2 : Int32)), .val (.int (1 : Int32)), .val (.int c1)] [(.int (1 : Int32)), (.ref a1)])) _
  have fc4 : Arv Z h3 a1 ka .char (2 : Int32) [(.int c1), (.int c2)] (.int (0 : Int32)) := (Va.other W3 (own_ne (by omega)))
  obtain ⟨cl5, Ar5, q5, S5, M5, H5, G5⟩ := (id fc4)
  have hin5 : ¬ ((1 : Int32) < 0 ∨ cl5.slots.size ≤ ((1 : Int32)).toNatClampNeg) := inb_of S5 ⟨by decide, by decide⟩
  refine own_by (X3.caload hx (j := (1 : Int32)) (v := (.int c2)) (by rw [e3]; exact Ar5.1) (State.isArrayOf_alike hZ.alike Ar5.2.1) Ar5.2.2 hin5 (H5.at hin5 rfl) (g := (mkF m 12 #[.val (.ref a1), .val (.int (1 : Int32)), .val (.ref b), .val (.int (1 : Int32)), .val (.int (2 : Int32)), .val (.int (1 : Int32)), .val (.int c1)] [(.int (1 : Int32)), (.ref a1)])) rfl rfl (hb hby d_rm_comp5_2_12)) ?_
  show own_Go p e below (T3.setTop (mkF m 13 #[.val (.ref a1), .val (.int (1 : Int32)), .val (.ref b), .val (.int (1 : Int32)), .val (.int (2 : Int32)), .val (.int (1 : Int32)), .val (.int c1)] [(.int c2)])) _
  refine own_by (fun _ k => XS.istore X3.here hx rfl (hb hby d_rm_comp5_2_13) rfl (l' := #[.val (.ref a1), .val (.int (1 : Int32)), .val (.ref b), .val (.int (1 : Int32)), .val (.int (2 : Int32)), .val (.int (1 : Int32)), .val (.int c2)]) rfl k) ?_
  show own_Go p e below (T3.setTop (mkF m 15 #[.val (.ref a1), .val (.int (1 : Int32)), .val (.ref b), .val (.int (1 : Int32)), .val (.int (2 : Int32)), .val (.int (1 : Int32)), .val (.int c2)] [])) _
  refine own_by (fun _ k => XS.iload X3.here hx rfl (hb hby d_rm_comp5_2_15) rfl k) ?_
  show own_Go p e below (T3.setTop (mkF m 17 #[.val (.ref a1), .val (.int (1 : Int32)), .val (.ref b), .val (.int (1 : Int32)), .val (.int (2 : Int32)), .val (.int (1 : Int32)), .val (.int c2)] [(.int c2)])) _
  refine own_by (fun _ k => XS.sipush X3.here hx rfl (hb hby d_rm_comp5_2_17) k) ?_
  show own_Go p e below (T3.setTop (mkF m 20 #[.val (.ref a1), .val (.int (1 : Int32)), .val (.ref b), .val (.int (1 : Int32)), .val (.int (2 : Int32)), .val (.int (1 : Int32)), .val (.int c2)] [(.int (255 : Int32)), (.int c2)])) _
  refine own_by (fun _ k => XS.icmpYes X3.here hx rfl (pc0 := 20) (pc' := 26) rfl (hb hby d_rm_comp5_2_20) rfl (flt rc2).2.2.2 (by decide) (by decide) k) ?_
  show own_Go p e below (T3.setTop (mkF m 26 #[.val (.ref a1), .val (.int (1 : Int32)), .val (.ref b), .val (.int (1 : Int32)), .val (.int (2 : Int32)), .val (.int (1 : Int32)), .val (.int c2)] [])) _
  refine own_by (fun _ k => XS.aloadN X3.here hx rfl (hb hby d_rm_comp5_2_26) rfl rfl k) ?_
  show own_Go p e below (T3.setTop (mkF m 27 #[.val (.ref a1), .val (.int (1 : Int32)), .val (.ref b), .val (.int (1 : Int32)), .val (.int (2 : Int32)), .val (.int (1 : Int32)), .val (.int c2)] [(.ref b)])) _
  refine own_by (fun _ k => XS.iloadN X3.here hx rfl (hb hby d_rm_comp5_2_27) rfl k) ?_
  show own_Go p e below (T3.setTop (mkF m 28 #[.val (.ref a1), .val (.int (1 : Int32)), .val (.ref b), .val (.int (1 : Int32)), .val (.int (2 : Int32)), .val (.int (1 : Int32)), .val (.int c2)] [(.int (1 : Int32)), (.ref b)])) _
  refine own_by (fun _ k => XS.iload X3.here hx rfl (hb hby d_rm_comp5_2_28) rfl k) ?_
  show own_Go p e below (T3.setTop (mkF m 30 #[.val (.ref a1), .val (.int (1 : Int32)), .val (.ref b), .val (.int (1 : Int32)), .val (.int (2 : Int32)), .val (.int (1 : Int32)), .val (.int c2)] [(.int c2), (.int (1 : Int32)), (.ref b)])) _
  refine own_by (fun _ k => XS.i2b X3.here hx rfl (hb hby d_rm_comp5_2_30) rfl k) ?_
  show own_Go p e below (T3.setTop (mkF m 31 #[.val (.ref a1), .val (.int (1 : Int32)), .val (.ref b), .val (.int (1 : Int32)), .val (.int (2 : Int32)), .val (.int (1 : Int32)), .val (.int c2)] [(.int (c2.toInt8.toInt32)), (.int (1 : Int32)), (.ref b)])) _
  have Vw6 : Arv Z h3 b kb .byte (2 : Int32) [(.int (own_b c1)), (.int (0 : Int32))] (.int (0 : Int32)) := Vw3.pad (pad_rep [(.int (own_b c1))] (.int (0 : Int32)) 1)
  obtain ⟨cl7, Ar7, q7, S7, M7, H7, G7⟩ := (id Vw6)
  have hin7 : ¬ ((1 : Int32) < 0 ∨ cl7.slots.size ≤ ((1 : Int32)).toNatClampNeg) := inb_of S7 ⟨by decide, by decide⟩
  obtain ⟨T7, h7, X7, e7, W7, st7⟩ := stB X3 hx hZ e3 Ar7 (j := (1 : Int32)) hin7 (g := (mkF m 31 #[.val (.ref a1), .val (.int (1 : Int32)), .val (.ref b), .val (.int (1 : Int32)), .val (.int (2 : Int32)), .val (.int (1 : Int32)), .val (.int c2)] [(.int (c2.toInt8.toInt32)), (.int (1 : Int32)), (.ref b)])) rfl rfl (hb hby d_rm_comp5_2_31)
  refine own_by st7 ?_
  have z7 := W7.size
  have N7 := Fr.snoc X7 N3 (by omega)
  have Vw7 : Arv Z h7 b kb .byte (2 : Int32) [(.int (own_b c1)), (.int (own_b c2))] (.int (0 : Int32)) := Arv.set Ar7 q7 S7 M7 H7 G7 (fits_nar_byte2 _) W7 1 rfl (Nat.le_of_ble_eq_true rfl)
  show own_Go p e below (T7.setTop (mkF m 32 #[.val (.ref a1), .val (.int (1 : Int32)), .val (.ref b), .val (.int (1 : Int32)), .val (.int (2 : Int32)), .val (.int (1 : Int32)), .val (.int c2)] [])) _
  refine own_by (fun _ k => XS.iinc X7.here hx rfl (hb hby d_rm_comp5_2_32) rfl (l' := #[.val (.ref a1), .val (.int (2 : Int32)), .val (.ref b), .val (.int (1 : Int32)), .val (.int (2 : Int32)), .val (.int (1 : Int32)), .val (.int c2)]) rfl k) ?_
  show own_Go p e below (T7.setTop (mkF m 35 #[.val (.ref a1), .val (.int (2 : Int32)), .val (.ref b), .val (.int (1 : Int32)), .val (.int (2 : Int32)), .val (.int (1 : Int32)), .val (.int c2)] [])) _
  refine own_by (fun _ k => XS.iinc X7.here hx rfl (hb hby d_rm_comp5_2_35) rfl (l' := #[.val (.ref a1), .val (.int (2 : Int32)), .val (.ref b), .val (.int (2 : Int32)), .val (.int (2 : Int32)), .val (.int (1 : Int32)), .val (.int c2)]) rfl k) ?_
  show own_Go p e below (T7.setTop (mkF m 38 #[.val (.ref a1), .val (.int (2 : Int32)), .val (.ref b), .val (.int (2 : Int32)), .val (.int (2 : Int32)), .val (.int (1 : Int32)), .val (.int c2)] [])) _
  refine own_by (fun _ k => XS.iinc X7.here hx rfl (hb hby d_rm_comp5_2_38) rfl (l' := #[.val (.ref a1), .val (.int (2 : Int32)), .val (.ref b), .val (.int (2 : Int32)), .val (.int (2 : Int32)), .val (.int (2 : Int32)), .val (.int c2)]) rfl k) ?_
  show own_Go p e below (T7.setTop (mkF m 41 #[.val (.ref a1), .val (.int (2 : Int32)), .val (.ref b), .val (.int (2 : Int32)), .val (.int (2 : Int32)), .val (.int (2 : Int32)), .val (.int c2)] [])) _
  refine own_by (fun _ k => XS.goto X7.here hx rfl (pc0 := 41) (pc' := 3) rfl (hb hby d_rm_comp5_2_41) (by decide) (by decide) k) ?_
  show own_Go p e below (T7.setTop (mkF m 3 #[.val (.ref a1), .val (.int (2 : Int32)), .val (.ref b), .val (.int (2 : Int32)), .val (.int (2 : Int32)), .val (.int (2 : Int32)), .val (.int c2)] [])) _
  refine own_by (fun _ k => XS.iload X7.here hx rfl (hb hby d_rm_comp5_2_3) rfl k) ?_
  show own_Go p e below (T7.setTop (mkF m 5 #[.val (.ref a1), .val (.int (2 : Int32)), .val (.ref b), .val (.int (2 : Int32)), .val (.int (2 : Int32)), .val (.int (2 : Int32)), .val (.int c2)] [(.int (2 : Int32))])) _
  refine own_by (fun _ k => XS.iload X7.here hx rfl (hb hby d_rm_comp5_2_5) rfl k) ?_
  show own_Go p e below (T7.setTop (mkF m 7 #[.val (.ref a1), .val (.int (2 : Int32)), .val (.ref b), .val (.int (2 : Int32)), .val (.int (2 : Int32)), .val (.int (2 : Int32)), .val (.int c2)] [(.int (2 : Int32)), (.int (2 : Int32))])) _
  refine own_by (fun _ k => XS.icmpYes X7.here hx rfl (pc0 := 7) (pc' := 44) rfl (hb hby d_rm_comp5_2_7) rfl (flt (by decide : ¬ ((2 : Int32) < (2 : Int32)))).2.1 (by decide) (by decide) k) ?_
  show own_Go p e below (T7.setTop (mkF m 44 #[.val (.ref a1), .val (.int (2 : Int32)), .val (.ref b), .val (.int (2 : Int32)), .val (.int (2 : Int32)), .val (.int (2 : Int32)), .val (.int c2)] [])) _
  refine own_by (fun _ k => XS.iload X7.here hx rfl (hb hby d_rm_comp5_2_44) rfl k) ?_
  show own_Go p e below (T7.setTop (mkF m 46 #[.val (.ref a1), .val (.int (2 : Int32)), .val (.ref b), .val (.int (2 : Int32)), .val (.int (2 : Int32)), .val (.int (2 : Int32)), .val (.int c2)] [(.int (2 : Int32))])) _
  have K8 : Keep h0 h7 [b] := (((Keep.refl h0 [b]).wr W3 (Or.inl (List.mem_of_getElem? (i := 0) rfl))).wr W7 (Or.inl (List.mem_of_getElem? (i := 0) rfl)))
  obtain ⟨fs, hr, hrun, hended, hW, hsame⟩ := X7.leave (v := some (.int (2 : Int32))) (fun h => by rw [Bd.returns] at h; cases h)
  refine ⟨_, _, retI X7 hx Bd.returns (hb hby d_rm_comp5_2_46) hr, hrun, hended, _, _, rfl, ?_, ⟨_, rfl⟩, hW, hsame.mono (by decide) (by decide)⟩
  show Q_rm_comp5_2 Z a1 b ka kb c1 c2 h0 n0 _ T7.heap _
  rw [e7]
  exact ⟨rfl, N7, K8, Vw7⟩
theorem d_rm_comp3_2_0 : decode jdk_52_method_16_code 0 = .ok (.iload_n 2, 1) := by decide +kernel
theorem d_rm_comp3_2_1 : decode jdk_52_method_16_code 1 = .ok (.newarray .byte, 2) := by decide +kernel
theorem d_rm_comp3_2_3 : decode jdk_52_method_16_code 3 = .ok (.astore_n 3, 1) := by decide +kernel
theorem d_rm_comp3_2_4 : decode jdk_52_method_16_code 4 = .ok (.aload_n 0, 1) := by decide +kernel
theorem d_rm_comp3_2_5 : decode jdk_52_method_16_code 5 = .ok (.iload_n 1, 1) := by decide +kernel
theorem d_rm_comp3_2_6 : decode jdk_52_method_16_code 6 = .ok (.aload_n 3, 1) := by decide +kernel
theorem d_rm_comp3_2_7 : decode jdk_52_method_16_code 7 = .ok (.iconst 0, 1) := by decide +kernel
theorem d_rm_comp3_2_8 : decode jdk_52_method_16_code 8 = .ok (.iload_n 2, 1) := by decide +kernel
theorem d_rm_comp3_2_9 : decode jdk_52_method_16_code 9 = .ok (.invokestatic 115, 3) := by decide +kernel
theorem d_rm_comp3_2_12 : decode jdk_52_method_16_code 12 = .ok (.istore 4, 2) := by decide +kernel
theorem d_rm_comp3_2_14 : decode jdk_52_method_16_code 14 = .ok (.iload 4, 2) := by decide +kernel
theorem d_rm_comp3_2_16 : decode jdk_52_method_16_code 16 = .ok (.iload_n 2, 1) := by decide +kernel
theorem d_rm_comp3_2_17 : decode jdk_52_method_16_code 17 = .ok (.if_icmp .eq 40, 3) := by decide +kernel
theorem d_rm_comp3_2_57 : decode jdk_52_method_16_code 57 = .ok (.aload_n 3, 1) := by decide +kernel
theorem d_rm_comp3_2_58 : decode jdk_52_method_16_code 58 = .ok (.areturn, 1) := by decide +kernel
def Q_rm_comp3_2 (Z : State) (a1 : Addr) (ka : ClassId) (c1 : Int32) (c2 : Int32) (h0 : Heap) (n0 : Nat) (v : Option Value) (h : Heap) (L : List Loc) : Prop := ∃ (b : Addr), ∃ (kb : ClassId), v = some (.ref b) ∧ Fr n0 L ∧ Keep h0 h [] ∧ Arv Z h b kb .byte (2 : Int32) [(.int (own_b c1)), (.int (own_b c2))] (.int (0 : Int32)) ∧ h0.size ≤ b
theorem ef_rm_comp3_2 (m : MethodId) (a1 : Addr) (ka : ClassId) (c1 : Int32) (c2 : Int32) : entryFrame m #[(.ref a1), (.int (0 : Int32)), (.int (2 : Int32))] 6 = mkF m 0 #[.val (.ref a1), .val (.int (0 : Int32)), .val (.int (2 : Int32)), .unset, .unset, .unset] [] := by first | (simp [entryFrame, mkF, argsToLocals, Value.category]; done) | rfl
set_option maxRecDepth 65536 in
set_option maxHeartbeats 40000000 in
theorem rm_comp3_2 (l : Launch) (Z : State) (a0 : Array Value) (hw : ∀ d ∈ tables_1, d.before a0 Z = true) (ws : List Jvm.Cond) (a1 : Addr) (ka : ClassId) (c1 : Int32) (c2 : Int32) (h0 : Heap) (n0 : Nat) (O0 : Old Z n0 h0) (Va : Arv Z h0 a1 ka .char (2 : Int32) [(.int c1), (.int c2)] (.int (0 : Int32))) (rc1 : ¬ ((255 : Int32) < c1)) (rc2 : ¬ ((255 : Int32) < c2)) :
    MetFree l (⟨"java/lang/StringUTF16", "compress", "([CII)[B"⟩ : MethodName) (head1 (Jvm.Cond.code (⟨"java/lang/StringUTF16", "compress", "([CII)[B"⟩ : MethodName) jdk_52_method_16_code 6 (some (.array .byte)) :: ws) ({ frames := 1, cells := 1, slots := 2, locals := 18 } : Room)) (fun a U => a = #[(.ref a1), (.int (0 : Int32)), (.int (2 : Int32))] ∧ Z.Warmed39 U.vm ∧ U.heap = h0) (fun _ _ _ _ _ => True) (fun _ U o U' => ∃ v L, o = .returned v ∧ Q_rm_comp3_2 Z a1 ka c1 c2 h0 n0 v U'.heap L ∧ FrameEnd U o U' L ({ frames := 1, cells := 1, slots := 2, locals := 18 } : Room).cells ({ frames := 1, cells := 1, slots := 2, locals := 18 } : Room).slots) := by
  refine MetFree.of_bodySF (plainFor_of_name own_pn_java_lang_StringUTF16) hisR ?_
  intro p e s m args below meth c s₁ Bd hml0 hP hK
  obtain ⟨rfl, hZ, hh⟩ := hP
  have hx := Bd.exec
  have hby := Bd.bytes
  have hml : c.maxLocals = 6 := hml0
  have hown : s.vm.findClass "java/lang/StringUTF16" = some m.cls := findClass_of_methodNamed Bd.named
  have hnm := (name_of_methodNamed Bd.named Bd.method).1
  have X0 : Stand p l e ({ frames := 1, cells := 1, slots := 2, locals := 18 } : Room) s m #[(.ref a1), (.int (0 : Int32)), (.int (2 : Int32))] below meth c s₁ [] 0 0 := Stand.of_body Bd
  have e0 : s₁.heap = h0 := by rw [← hh, Bd.state]; rfl
  have N0 := Fr.nil n0
  have Z0 : n0 ≤ h0.size := by rw [← O0.1]; exact O0.2.1
  show own_Go p e below (s₁.setTop (entryFrame m #[(.ref a1), (.int (0 : Int32)), (.int (2 : Int32))] 6)) (fun t o => ∃ v L, o = .returned v ∧ Q_rm_comp3_2 Z a1 ka c1 c2 h0 n0 v t.heap L ∧ FrameEnd s o t L ({ frames := 1, cells := 1, slots := 2, locals := 18 } : Room).cells ({ frames := 1, cells := 1, slots := 2, locals := 18 } : Room).slots)
  rw [ef_rm_comp3_2 m a1 ka c1 c2]
  have lt_Va : h0.size > a1 := Va.lt
  refine own_by (fun _ k => XS.iloadN X0.here hx rfl (hb hby d_rm_comp3_2_0) rfl k) ?_
  show own_Go p e below (s₁.setTop (mkF m 1 #[.val (.ref a1), .val (.int (0 : Int32)), .val (.int (2 : Int32)), .unset, .unset, .unset] [(.int (2 : Int32))])) _
  obtain ⟨T1, h1, k1, X1, e1, E1, A1, st1⟩ := newP X0 hx hZ (hw _ (List.mem_of_getElem? (i := 23) rfl)) e0 (g := (mkF m 1 #[.val (.ref a1), .val (.int (0 : Int32)), .val (.int (2 : Int32)), .unset, .unset, .unset] [(.int (2 : Int32))])) rfl (hb hby d_rm_comp3_2_1) rfl (by decide) (cap := 2) (by decide) (by decide) (by decide) (by decide)
  obtain ⟨ob1, g1⟩ : ∃ z, z = h0.size := ⟨_, rfl⟩
  rw [← g1] at A1 st1
  refine own_by st1 ?_
  have z1 := E1.1
  have Vw1 : Arv Z h1 ob1 k1 .byte (2 : Int32) [] (.int (0 : Int32)) := Arv.new A1 (by decide)
  have lt1 : h1.size > ob1 := Vw1.lt
  show own_Go p e below (T1.setTop (mkF m 3 #[.val (.ref a1), .val (.int (0 : Int32)), .val (.int (2 : Int32)), .unset, .unset, .unset] [(.ref ob1)])) _
  refine own_by (fun _ k => XS.astoreN X1.here hx rfl (hb hby d_rm_comp3_2_3) rfl rfl (l' := #[.val (.ref a1), .val (.int (0 : Int32)), .val (.int (2 : Int32)), .val (.ref ob1), .unset, .unset]) rfl k) ?_
  show own_Go p e below (T1.setTop (mkF m 4 #[.val (.ref a1), .val (.int (0 : Int32)), .val (.int (2 : Int32)), .val (.ref ob1), .unset, .unset] [])) _
  refine own_by (fun _ k => XS.aloadN X1.here hx rfl (hb hby d_rm_comp3_2_4) rfl rfl k) ?_
  show own_Go p e below (T1.setTop (mkF m 5 #[.val (.ref a1), .val (.int (0 : Int32)), .val (.int (2 : Int32)), .val (.ref ob1), .unset, .unset] [(.ref a1)])) _
  refine own_by (fun _ k => XS.iloadN X1.here hx rfl (hb hby d_rm_comp3_2_5) rfl k) ?_
  show own_Go p e below (T1.setTop (mkF m 6 #[.val (.ref a1), .val (.int (0 : Int32)), .val (.int (2 : Int32)), .val (.ref ob1), .unset, .unset] [(.int (0 : Int32)), (.ref a1)])) _
  refine own_by (fun _ k => XS.aloadN X1.here hx rfl (hb hby d_rm_comp3_2_6) rfl rfl k) ?_
  show own_Go p e below (T1.setTop (mkF m 7 #[.val (.ref a1), .val (.int (0 : Int32)), .val (.int (2 : Int32)), .val (.ref ob1), .unset, .unset] [(.ref ob1), (.int (0 : Int32)), (.ref a1)])) _
  refine own_by (fun _ k => XS.iconst X1.here hx rfl (hb hby d_rm_comp3_2_7) k) ?_
  show own_Go p e below (T1.setTop (mkF m 8 #[.val (.ref a1), .val (.int (0 : Int32)), .val (.int (2 : Int32)), .val (.ref ob1), .unset, .unset] [(.int (0 : Int32)), (.ref ob1), (.int (0 : Int32)), (.ref a1)])) _
  refine own_by (fun _ k => XS.iloadN X1.here hx rfl (hb hby d_rm_comp3_2_8) rfl k) ?_
  show own_Go p e below (T1.setTop (mkF m 9 #[.val (.ref a1), .val (.int (0 : Int32)), .val (.int (2 : Int32)), .val (.ref ob1), .unset, .unset] [(.int (2 : Int32)), (.int (0 : Int32)), (.ref ob1), (.int (0 : Int32)), (.ref a1)])) _
  have fc2 : Arv Z h1 a1 ka .char (2 : Int32) [(.int c1), (.int c2)] (.int (0 : Int32)) := (Va.ext E1)
  have O3 : Old Z n0 h1 := (O0.ext E1)
  obtain ⟨_, _, ⟨T4, L4, k4, n4⟩, -, X4, ⟨Lc4, hQ4, l4, y4, z4⟩, st4⟩ := Jvm.LawKit.callS X1 hx (y := (⟨"java/lang/StringUTF16", "compress", "([CI[BII)I"⟩ : MethodName)) hown (mvT hZ (hw _ (List.mem_of_getElem? (i := 24) rfl))) (mvT hZ (hw _ (List.mem_of_getElem? (i := 25) rfl))) (mvT hZ (hw _ (List.mem_of_getElem? (i := 21) rfl))) (mvT hZ (hw _ (List.mem_of_getElem? (i := 26) rfl))) (by decide) (backOf (W := 0) (rm_comp5_2 l Z a0 hw [] a1 ob1 ka k1 c1 c2 h1 n0 O3 fc2 Vw1 rc1 rc2 (by first | assumption | omega | decide) (by first | assumption | omega | decide)) hZ (hw _ (List.mem_of_getElem? (i := 26) rfl)) (hw _ (List.mem_of_getElem? (i := 21) rfl)) (by decide) (by decide)) (g := (mkF m 9 #[.val (.ref a1), .val (.int (0 : Int32)), .val (.int (2 : Int32)), .val (.ref ob1), .unset, .unset] [(.int (2 : Int32)), (.int (0 : Int32)), (.ref ob1), (.int (0 : Int32)), (.ref a1)])) rfl (by rw [hml]; rfl) (argsL := [(.ref a1), (.int (0 : Int32)), (.ref ob1), (.int (0 : Int32)), (.int (2 : Int32))]) (rest := []) (lenOf own_pd__28_5bCI_5bBII_29I rfl) rfl (by show 2 * 0 + _ ≤ _; exact Nat.le_of_eq rfl) (hb hby d_rm_comp3_2_9) (fun _ _ => ⟨rfl, e1, (by decide : 1 + 0 ≤ _), (by decide : 2 + 0 ≤ _)⟩)
  dsimp only [Pt.U, Pt.locs, Pt.cells, Pt.slots] at X4 l4 y4 z4 st4 hQ4
  subst l4 y4 z4
  obtain ⟨rfl, M4, K4, g4_0⟩ := hQ4
  have N4 := Fr.app N0 M4
  refine own_by st4 ?_
  have z4 := K4.1
  have lt_g4_0 : T4.heap.size > ob1 := g4_0.lt
  show own_Go p e below (T4.setTop (mkF m 12 #[.val (.ref a1), .val (.int (0 : Int32)), .val (.int (2 : Int32)), .val (.ref ob1), .unset, .unset] [(.int (2 : Int32))])) _
  refine own_by (fun _ k => XS.istore X4.here hx rfl (hb hby d_rm_comp3_2_12) rfl (l' := #[.val (.ref a1), .val (.int (0 : Int32)), .val (.int (2 : Int32)), .val (.ref ob1), .val (.int (2 : Int32)), .unset]) rfl k) ?_
  show own_Go p e below (T4.setTop (mkF m 14 #[.val (.ref a1), .val (.int (0 : Int32)), .val (.int (2 : Int32)), .val (.ref ob1), .val (.int (2 : Int32)), .unset] [])) _
  refine own_by (fun _ k => XS.iload X4.here hx rfl (hb hby d_rm_comp3_2_14) rfl k) ?_
  show own_Go p e below (T4.setTop (mkF m 16 #[.val (.ref a1), .val (.int (0 : Int32)), .val (.int (2 : Int32)), .val (.ref ob1), .val (.int (2 : Int32)), .unset] [(.int (2 : Int32))])) _
  refine own_by (fun _ k => XS.iloadN X4.here hx rfl (hb hby d_rm_comp3_2_16) rfl k) ?_
  show own_Go p e below (T4.setTop (mkF m 17 #[.val (.ref a1), .val (.int (0 : Int32)), .val (.int (2 : Int32)), .val (.ref ob1), .val (.int (2 : Int32)), .unset] [(.int (2 : Int32)), (.int (2 : Int32))])) _
  refine own_by (fun _ k => XS.icmpYes X4.here hx rfl (pc0 := 17) (pc' := 57) rfl (hb hby d_rm_comp3_2_17) rfl (teq (by decide : (2 : Int32) = (2 : Int32))).1 (by decide) (by decide) k) ?_
  show own_Go p e below (T4.setTop (mkF m 57 #[.val (.ref a1), .val (.int (0 : Int32)), .val (.int (2 : Int32)), .val (.ref ob1), .val (.int (2 : Int32)), .unset] [])) _
  refine own_by (fun _ k => XS.aloadN X4.here hx rfl (hb hby d_rm_comp3_2_57) rfl rfl k) ?_
  show own_Go p e below (T4.setTop (mkF m 58 #[.val (.ref a1), .val (.int (0 : Int32)), .val (.int (2 : Int32)), .val (.ref ob1), .val (.int (2 : Int32)), .unset] [(.ref ob1)])) _
  have K5 : Keep h0 T4.heap [] := (((Keep.refl h0 []).ext E1).trans K4 (allS (P := fun x => x ∈ [] ∨ h0.size ≤ x) (Or.inr (by omega)) all0))
  obtain ⟨fs, hr, hrun, hended, hW, hsame⟩ := X4.leave (v := some (.ref ob1)) (fun h => by rw [Bd.returns] at h; cases h)
  refine ⟨_, _, retOut X4 hx Bd.returns (own_narrow_ref (by decide) rfl) (Or.inr (Or.inr (Or.inr (Or.inr ⟨rfl, by decide, rfl⟩)))) (hb hby d_rm_comp3_2_58) hr, hrun, hended, _, _, rfl, ?_, ⟨_, rfl⟩, hW, hsame.mono (by decide) (by decide)⟩
  show Q_rm_comp3_2 Z a1 ka c1 c2 h0 n0 _ T4.heap _
  exact ⟨ob1, k1, rfl, N4, K5, g4_0, (by first | assumption | omega)⟩
theorem d_rm_cfal_2_0 : decode jdk_52_method_15_code 0 = .ok (.iload_n 1, 1) := by decide +kernel
theorem d_rm_cfal_2_1 : decode jdk_52_method_15_code 1 = .ok (.aload_n 0, 1) := by decide +kernel
theorem d_rm_cfal_2_2 : decode jdk_52_method_15_code 2 = .ok (.arraylength, 1) := by decide +kernel
theorem d_rm_cfal_2_3 : decode jdk_52_method_15_code 3 = .ok (.isub, 1) := by decide +kernel
theorem d_rm_cfal_2_4 : decode jdk_52_method_15_code 4 = .ok (.bipush 31, 2) := by decide +kernel
theorem d_rm_cfal_2_6 : decode jdk_52_method_15_code 6 = .ok (.iushr, 1) := by decide +kernel
theorem d_rm_cfal_2_7 : decode jdk_52_method_15_code 7 = .ok (.i2b, 1) := by decide +kernel
theorem d_rm_cfal_2_8 : decode jdk_52_method_15_code 8 = .ok (.ireturn, 1) := by decide +kernel
def Q_rm_cfal_2 (Z : State) (b : Addr) (kb : ClassId) (d1 : Int32) (d2 : Int32) (h0 : Heap) (n0 : Nat) (v : Option Value) (h : Heap) (L : List Loc) : Prop := v = some (.int (0 : Int32)) ∧ Fr n0 L ∧ h = h0
theorem ef_rm_cfal_2 (m : MethodId) (b : Addr) (kb : ClassId) (d1 : Int32) (d2 : Int32) : entryFrame m #[(.ref b), (.int (2 : Int32))] 2 = mkF m 0 #[.val (.ref b), .val (.int (2 : Int32))] [] := by first | (simp [entryFrame, mkF, argsToLocals, Value.category]; done) | rfl
set_option maxRecDepth 65536 in
set_option maxHeartbeats 40000000 in
theorem rm_cfal_2 (l : Launch) (Z : State) (a0 : Array Value) (hw : ∀ d ∈ tables_1, d.before a0 Z = true) (ws : List Jvm.Cond) (b : Addr) (kb : ClassId) (d1 : Int32) (d2 : Int32) (h0 : Heap) (n0 : Nat) (O0 : Old Z n0 h0) (Vb : Arv Z h0 b kb .byte (2 : Int32) [(.int d1), (.int d2)] (.int (0 : Int32))) :
    MetFree l (⟨"java/lang/StringUTF16", "coderFromArrayLen", "([BI)B"⟩ : MethodName) (head1 (Jvm.Cond.code (⟨"java/lang/StringUTF16", "coderFromArrayLen", "([BI)B"⟩ : MethodName) jdk_52_method_15_code 2 (some .byte) :: ws) ({ frames := 0, cells := 0, slots := 0, locals := 0 } : Room)) (fun a U => a = #[(.ref b), (.int (2 : Int32))] ∧ Z.Warmed39 U.vm ∧ U.heap = h0) (fun _ _ _ _ _ => True) (fun _ U o U' => ∃ v L, o = .returned v ∧ Q_rm_cfal_2 Z b kb d1 d2 h0 n0 v U'.heap L ∧ FrameEnd U o U' L ({ frames := 0, cells := 0, slots := 0, locals := 0 } : Room).cells ({ frames := 0, cells := 0, slots := 0, locals := 0 } : Room).slots) := by
  refine MetFree.of_bodySF (plainFor_of_name own_pn_java_lang_StringUTF16) hisR ?_
  intro p e s m args below meth c s₁ Bd hml0 hP hK
  obtain ⟨rfl, hZ, hh⟩ := hP
  have hx := Bd.exec
  have hby := Bd.bytes
  have hml : c.maxLocals = 2 := hml0
  have hown : s.vm.findClass "java/lang/StringUTF16" = some m.cls := findClass_of_methodNamed Bd.named
  have hnm := (name_of_methodNamed Bd.named Bd.method).1
  have X0 : Stand p l e ({ frames := 0, cells := 0, slots := 0, locals := 0 } : Room) s m #[(.ref b), (.int (2 : Int32))] below meth c s₁ [] 0 0 := Stand.of_body Bd
  have e0 : s₁.heap = h0 := by rw [← hh, Bd.state]; rfl
  have N0 := Fr.nil n0
  have Z0 : n0 ≤ h0.size := by rw [← O0.1]; exact O0.2.1
  show own_Go p e below (s₁.setTop (entryFrame m #[(.ref b), (.int (2 : Int32))] 2)) (fun t o => ∃ v L, o = .returned v ∧ Q_rm_cfal_2 Z b kb d1 d2 h0 n0 v t.heap L ∧ FrameEnd s o t L ({ frames := 0, cells := 0, slots := 0, locals := 0 } : Room).cells ({ frames := 0, cells := 0, slots := 0, locals := 0 } : Room).slots)
  rw [ef_rm_cfal_2 m b kb d1 d2]
  have lt_Vb : h0.size > b := Vb.lt
  refine own_by (fun _ k => XS.iloadN X0.here hx rfl (hb hby d_rm_cfal_2_0) rfl k) ?_
  show own_Go p e below (s₁.setTop (mkF m 1 #[.val (.ref b), .val (.int (2 : Int32))] [(.int (2 : Int32))])) _
  refine own_by (fun _ k => XS.aloadN X0.here hx rfl (hb hby d_rm_cfal_2_1) rfl rfl k) ?_
  show own_Go p e below (s₁.setTop (mkF m 2 #[.val (.ref b), .val (.int (2 : Int32))] [(.ref b), (.int (2 : Int32))])) _
  obtain ⟨cl1, Ar1, q1, S1, M1, H1, G1⟩ := (id Vb)
  refine own_by (X0.arraylength hx (by rw [e0]; exact Ar1.1) (State.isArrayOf_alike hZ.alike Ar1.2.1) (g := (mkF m 2 #[.val (.ref b), .val (.int (2 : Int32))] [(.ref b), (.int (2 : Int32))])) rfl rfl (hb hby d_rm_cfal_2_2)) ?_
  rw [len_of S1 M1]
  show own_Go p e below (s₁.setTop (mkF m 3 #[.val (.ref b), .val (.int (2 : Int32))] [(.int (2 : Int32)), (.int (2 : Int32))])) _
  refine own_by (fun _ k => XS.isub X0.here hx rfl (hb hby d_rm_cfal_2_3) rfl k) ?_
  show own_Go p e below (s₁.setTop (mkF m 4 #[.val (.ref b), .val (.int (2 : Int32))] [(.int (0 : Int32))])) _
  refine own_by (fun _ k => XS.bipush X0.here hx rfl (hb hby d_rm_cfal_2_4) k) ?_
  show own_Go p e below (s₁.setTop (mkF m 6 #[.val (.ref b), .val (.int (2 : Int32))] [(.int (31 : Int32)), (.int (0 : Int32))])) _
  refine own_by (fun _ k => XS.iushr X0.here hx rfl (hb hby d_rm_cfal_2_6) rfl k) ?_
  show own_Go p e below (s₁.setTop (mkF m 7 #[.val (.ref b), .val (.int (2 : Int32))] [(.int (0 : Int32))])) _
  refine own_by (fun _ k => XS.i2b X0.here hx rfl (hb hby d_rm_cfal_2_7) rfl k) ?_
  show own_Go p e below (s₁.setTop (mkF m 8 #[.val (.ref b), .val (.int (2 : Int32))] [(.int (0 : Int32))])) _
  obtain ⟨fs, hr, hrun, hended, hW, hsame⟩ := X0.leave (v := some (.int (0 : Int32))) (fun h => by rw [Bd.returns] at h; cases h)
  refine ⟨_, _, retN X0 hx (t := .byte) Bd.returns (by simp) (hb hby d_rm_cfal_2_8) hr, hrun, hended, _, _, rfl, ?_, ⟨_, rfl⟩, hW, hsame.mono (by decide) (by decide)⟩
  show Q_rm_cfal_2 Z b kb d1 d2 h0 n0 _ s₁.heap _
  rw [e0]
  exact ⟨rfl, N0, rfl⟩
theorem d_rm_sinit4_2_0 : decode jdk_42_method_149_code 0 = .ok (.aload_n 0, 1) := by decide +kernel
theorem d_rm_sinit4_2_1 : decode jdk_42_method_149_code 1 = .ok (.invokespecial 1, 3) := by decide +kernel
theorem d_rm_sinit4_2_4 : decode jdk_42_method_149_code 4 = .ok (.iload_n 3, 1) := by decide +kernel
theorem d_rm_sinit4_2_5 : decode jdk_42_method_149_code 5 = .ok (.ifCond .ne 22, 3) := by decide +kernel
theorem d_rm_sinit4_2_27 : decode jdk_42_method_149_code 27 = .ok (.getstatic 38, 3) := by decide +kernel
theorem d_rm_sinit4_2_30 : decode jdk_42_method_149_code 30 = .ok (.ifCond .eq 28, 3) := by decide +kernel
theorem d_rm_sinit4_2_33 : decode jdk_42_method_149_code 33 = .ok (.aload_n 1, 1) := by decide +kernel
theorem d_rm_sinit4_2_34 : decode jdk_42_method_149_code 34 = .ok (.iload_n 2, 1) := by decide +kernel
theorem d_rm_sinit4_2_35 : decode jdk_42_method_149_code 35 = .ok (.iload_n 3, 1) := by decide +kernel
theorem d_rm_sinit4_2_36 : decode jdk_42_method_149_code 36 = .ok (.invokestatic 177, 3) := by decide +kernel
theorem d_rm_sinit4_2_39 : decode jdk_42_method_149_code 39 = .ok (.astore 5, 2) := by decide +kernel
theorem d_rm_sinit4_2_41 : decode jdk_42_method_149_code 41 = .ok (.aload_n 0, 1) := by decide +kernel
theorem d_rm_sinit4_2_42 : decode jdk_42_method_149_code 42 = .ok (.aload 5, 2) := by decide +kernel
theorem d_rm_sinit4_2_44 : decode jdk_42_method_149_code 44 = .ok (.iload_n 3, 1) := by decide +kernel
theorem d_rm_sinit4_2_45 : decode jdk_42_method_149_code 45 = .ok (.invokestatic 47, 3) := by decide +kernel
theorem d_rm_sinit4_2_48 : decode jdk_42_method_149_code 48 = .ok (.putfield 15, 3) := by decide +kernel
theorem d_rm_sinit4_2_51 : decode jdk_42_method_149_code 51 = .ok (.aload_n 0, 1) := by decide +kernel
theorem d_rm_sinit4_2_52 : decode jdk_42_method_149_code 52 = .ok (.aload 5, 2) := by decide +kernel
theorem d_rm_sinit4_2_54 : decode jdk_42_method_149_code 54 = .ok (.putfield 9, 3) := by decide +kernel
theorem d_rm_sinit4_2_57 : decode jdk_42_method_149_code 57 = .ok (.return_, 1) := by decide +kernel
def Q_rm_sinit4_2 (Z : State) (t1 : Addr) (a1 : Addr) (ka : ClassId) (cs : Int32) (c1 : Int32) (c2 : Int32) (h0 : Heap) (n0 : Nat) (v : Option Value) (h : Heap) (L : List Loc) : Prop := ∃ (b : Addr), ∃ (kb : ClassId), v = none ∧ Fr n0 L ∧ Keep h0 h [t1] ∧ Exa Z h t1 "java/lang/String" ∧ Fld Z h t1 "java/lang/String" "coder" "B" (.int (0 : Int32)) ∧ Fld Z h t1 "java/lang/String" "value" "[B" (.ref b) ∧ Arv Z h b kb .byte (2 : Int32) [(.int (own_b c1)), (.int (own_b c2))] (.int (0 : Int32)) ∧ h0.size ≤ b
theorem ef_rm_sinit4_2 (m : MethodId) (t1 : Addr) (a1 : Addr) (ka : ClassId) (cs : Int32) (c1 : Int32) (c2 : Int32) : entryFrame m #[(.ref t1), (.ref a1), (.int (0 : Int32)), (.int (2 : Int32)), .null] 6 = mkF m 0 #[.val (.ref t1), .val (.ref a1), .val (.int (0 : Int32)), .val (.int (2 : Int32)), .val .null, .unset] [] := by first | (simp [entryFrame, mkF, argsToLocals, Value.category]; done) | rfl
set_option maxRecDepth 65536 in
set_option maxHeartbeats 40000000 in
theorem rm_sinit4_2 (l : Launch) (Z : State) (a0 : Array Value) (hw : ∀ d ∈ tables_1, d.before a0 Z = true) (ws : List Jvm.Cond) (t1 : Addr) (a1 : Addr) (ka : ClassId) (cs : Int32) (c1 : Int32) (c2 : Int32) (h0 : Heap) (n0 : Nat) (O0 : Old Z n0 h0) (S_COMPACT : Sta Z Z.heap "java/lang/String" "COMPACT_STRINGS" "Z" (.int cs)) (Et : Exa Z h0 t1 "java/lang/String") (Fv : Fld Z h0 t1 "java/lang/String" "value" "[B" .null) (Fc : Fld Z h0 t1 "java/lang/String" "coder" "B" (.int (0 : Int32))) (Va : Arv Z h0 a1 ka .char (2 : Int32) [(.int c1), (.int c2)] (.int (0 : Int32))) (rc1 : ¬ ((255 : Int32) < c1)) (rc2 : ¬ ((255 : Int32) < c2)) (gt : n0 ≤ t1) (hcs : ¬ (cs = (0 : Int32))) (nta : ¬ (@Eq Nat a1 t1)) :
    MetFree l (⟨"java/lang/String", "<init>", "([CIILjava/lang/Void;)V"⟩ : MethodName) (head1 (Jvm.Cond.code (⟨"java/lang/String", "<init>", "([CIILjava/lang/Void;)V"⟩ : MethodName) jdk_42_method_149_code 6 none :: ws) ({ frames := 2, cells := 1, slots := 2, locals := 35 } : Room)) (fun a U => a = #[(.ref t1), (.ref a1), (.int (0 : Int32)), (.int (2 : Int32)), .null] ∧ Z.Warmed39 U.vm ∧ U.heap = h0) (fun _ _ _ _ _ => True) (fun _ U o U' => ∃ v L, o = .returned v ∧ Q_rm_sinit4_2 Z t1 a1 ka cs c1 c2 h0 n0 v U'.heap L ∧ FrameEnd U o U' L ({ frames := 2, cells := 1, slots := 2, locals := 35 } : Room).cells ({ frames := 2, cells := 1, slots := 2, locals := 35 } : Room).slots) := by
  refine MetFree.of_bodySF (plainFor_of_name own_pn_java_lang_String) hisR ?_
  intro p e s m args below meth c s₁ Bd hml0 hP hK
  obtain ⟨rfl, hZ, hh⟩ := hP
  have hx := Bd.exec
  have hby := Bd.bytes
  have hml : c.maxLocals = 6 := hml0
  have hown : s.vm.findClass "java/lang/String" = some m.cls := findClass_of_methodNamed Bd.named
  have hnm := (name_of_methodNamed Bd.named Bd.method).1
  have X0 : Stand p l e ({ frames := 2, cells := 1, slots := 2, locals := 35 } : Room) s m #[(.ref t1), (.ref a1), (.int (0 : Int32)), (.int (2 : Int32)), .null] below meth c s₁ [] 0 0 := Stand.of_body Bd
  have e0 : s₁.heap = h0 := by rw [← hh, Bd.state]; rfl
  have N0 := Fr.nil n0
  have Z0 : n0 ≤ h0.size := by rw [← O0.1]; exact O0.2.1
  show own_Go p e below (s₁.setTop (entryFrame m #[(.ref t1), (.ref a1), (.int (0 : Int32)), (.int (2 : Int32)), .null] 6)) (fun t o => ∃ v L, o = .returned v ∧ Q_rm_sinit4_2 Z t1 a1 ka cs c1 c2 h0 n0 v t.heap L ∧ FrameEnd s o t L ({ frames := 2, cells := 1, slots := 2, locals := 35 } : Room).cells ({ frames := 2, cells := 1, slots := 2, locals := 35 } : Room).slots)
  rw [ef_rm_sinit4_2 m t1 a1 ka cs c1 c2]
  have lt_Et : h0.size > t1 := Et.lt
  have lt_Fv : h0.size > t1 := Fv.lt
  have lt_Fc : h0.size > t1 := Fc.lt
  have lt_Va : h0.size > a1 := Va.lt
  refine own_by (fun _ k => XS.aloadN X0.here hx rfl (hb hby d_rm_sinit4_2_0) rfl rfl k) ?_
  show own_Go p e below (s₁.setTop (mkF m 1 #[.val (.ref t1), .val (.ref a1), .val (.int (0 : Int32)), .val (.int (2 : Int32)), .val .null, .unset] [(.ref t1)])) _
  obtain ⟨T1, X1, e1, st1⟩ := initO X0 hx hZ hown (hw _ (List.mem_of_getElem? (i := 15) rfl)) (hw _ (List.mem_of_getElem? (i := 16) rfl)) (hw _ (List.mem_of_getElem? (i := 17) rfl)) e0 (g := (mkF m 1 #[.val (.ref t1), .val (.ref a1), .val (.int (0 : Int32)), .val (.int (2 : Int32)), .val .null, .unset] [(.ref t1)])) rfl (by rw [hml]; rfl) rfl (hb hby d_rm_sinit4_2_1) (by decide) (W := 0) (by show 2 * 0 + _ ≤ _; exact Nat.le_of_eq rfl) (by decide)
  refine own_by st1 ?_
  show own_Go p e below (T1.setTop (mkF m 4 #[.val (.ref t1), .val (.ref a1), .val (.int (0 : Int32)), .val (.int (2 : Int32)), .val .null, .unset] [])) _
  refine own_by (fun _ k => XS.iloadN X1.here hx rfl (hb hby d_rm_sinit4_2_4) rfl k) ?_
  show own_Go p e below (T1.setTop (mkF m 5 #[.val (.ref t1), .val (.ref a1), .val (.int (0 : Int32)), .val (.int (2 : Int32)), .val .null, .unset] [(.int (2 : Int32))])) _
  refine own_by (fun _ k => XS.ifYes X1.here hx rfl (pc0 := 5) (pc' := 27) rfl (hb hby d_rm_sinit4_2_5) rfl ((if0 _ _).trans (feq (by decide : ¬ ((2 : Int32) = (0 : Int32)))).2) (by decide) (by decide) k) ?_
  show own_Go p e below (T1.setTop (mkF m 27 #[.val (.ref t1), .val (.ref a1), .val (.int (0 : Int32)), .val (.int (2 : Int32)), .val .null, .unset] [])) _
  obtain ⟨T2, X2, e2, st2⟩ := getS2 X1 hx hZ hown (host := "") (Or.inl (hw _ (List.mem_of_getElem? (i := 18) rfl))) Via.refl e1 (S_COMPACT.ext O0.2) (g := (mkF m 27 #[.val (.ref t1), .val (.ref a1), .val (.int (0 : Int32)), .val (.int (2 : Int32)), .val .null, .unset] [])) rfl (hb hby d_rm_sinit4_2_27)
  refine own_by st2 ?_
  show own_Go p e below (T2.setTop (mkF m 30 #[.val (.ref t1), .val (.ref a1), .val (.int (0 : Int32)), .val (.int (2 : Int32)), .val .null, .unset] [(.int cs)])) _
  refine own_by (fun _ k => XS.ifNo X2.here hx rfl (hb hby d_rm_sinit4_2_30) rfl ((if0 _ _).trans (feq hcs).1) k) ?_
  show own_Go p e below (T2.setTop (mkF m 33 #[.val (.ref t1), .val (.ref a1), .val (.int (0 : Int32)), .val (.int (2 : Int32)), .val .null, .unset] [])) _
  refine own_by (fun _ k => XS.aloadN X2.here hx rfl (hb hby d_rm_sinit4_2_33) rfl rfl k) ?_
  show own_Go p e below (T2.setTop (mkF m 34 #[.val (.ref t1), .val (.ref a1), .val (.int (0 : Int32)), .val (.int (2 : Int32)), .val .null, .unset] [(.ref a1)])) _
  refine own_by (fun _ k => XS.iloadN X2.here hx rfl (hb hby d_rm_sinit4_2_34) rfl k) ?_
  show own_Go p e below (T2.setTop (mkF m 35 #[.val (.ref t1), .val (.ref a1), .val (.int (0 : Int32)), .val (.int (2 : Int32)), .val .null, .unset] [(.int (0 : Int32)), (.ref a1)])) _
  refine own_by (fun _ k => XS.iloadN X2.here hx rfl (hb hby d_rm_sinit4_2_35) rfl k) ?_
  show own_Go p e below (T2.setTop (mkF m 36 #[.val (.ref t1), .val (.ref a1), .val (.int (0 : Int32)), .val (.int (2 : Int32)), .val .null, .unset] [(.int (2 : Int32)), (.int (0 : Int32)), (.ref a1)])) _
  obtain ⟨_, _, ⟨T3, L3, k3, n3⟩, -, X3, ⟨Lc3, hQ3, l3, y3, z3⟩, st3⟩ := Jvm.LawKit.callS X2 hx (y := (⟨"java/lang/StringUTF16", "compress", "([CII)[B"⟩ : MethodName)) hown (mvT hZ (hw _ (List.mem_of_getElem? (i := 19) rfl))) (mvT hZ (hw _ (List.mem_of_getElem? (i := 20) rfl))) (mvT hZ (hw _ (List.mem_of_getElem? (i := 21) rfl))) (mvT hZ (hw _ (List.mem_of_getElem? (i := 22) rfl))) (by decide) (backOf (W := 0) (rm_comp3_2 l Z a0 hw [] a1 ka c1 c2 h0 n0 O0 Va rc1 rc2) hZ (hw _ (List.mem_of_getElem? (i := 22) rfl)) (hw _ (List.mem_of_getElem? (i := 21) rfl)) (by decide) (by decide)) (g := (mkF m 36 #[.val (.ref t1), .val (.ref a1), .val (.int (0 : Int32)), .val (.int (2 : Int32)), .val .null, .unset] [(.int (2 : Int32)), (.int (0 : Int32)), (.ref a1)])) rfl (by rw [hml]; rfl) (argsL := [(.ref a1), (.int (0 : Int32)), (.int (2 : Int32))]) (rest := []) (lenOf own_pd__28_5bCII_29_5bB rfl) rfl (by show 2 * 0 + _ ≤ _; exact Nat.le_of_eq rfl) (hb hby d_rm_sinit4_2_36) (fun _ _ => ⟨rfl, e2, (by decide : 0 + 1 ≤ _), (by decide : 0 + 2 ≤ _)⟩)
  dsimp only [Pt.U, Pt.locs, Pt.cells, Pt.slots] at X3 l3 y3 z3 st3 hQ3
  subst l3 y3 z3
  obtain ⟨b_3, kb_3, rfl, M3, K3, g3_0, r3_0⟩ := hQ3
  have N3 := Fr.app N0 M3
  refine own_by st3 ?_
  have z3 := K3.1
  have lt_g3_0 : T3.heap.size > b_3 := g3_0.lt
  show own_Go p e below (T3.setTop (mkF m 39 #[.val (.ref t1), .val (.ref a1), .val (.int (0 : Int32)), .val (.int (2 : Int32)), .val .null, .unset] [(.ref b_3)])) _
  refine own_by (fun _ k => XS.astore X3.here hx rfl (hb hby d_rm_sinit4_2_39) rfl rfl (l' := #[.val (.ref t1), .val (.ref a1), .val (.int (0 : Int32)), .val (.int (2 : Int32)), .val .null, .val (.ref b_3)]) rfl k) ?_
  show own_Go p e below (T3.setTop (mkF m 41 #[.val (.ref t1), .val (.ref a1), .val (.int (0 : Int32)), .val (.int (2 : Int32)), .val .null, .val (.ref b_3)] [])) _
  refine own_by (fun _ k => XS.aloadN X3.here hx rfl (hb hby d_rm_sinit4_2_41) rfl rfl k) ?_
  show own_Go p e below (T3.setTop (mkF m 42 #[.val (.ref t1), .val (.ref a1), .val (.int (0 : Int32)), .val (.int (2 : Int32)), .val .null, .val (.ref b_3)] [(.ref t1)])) _
  refine own_by (fun _ k => XS.aload X3.here hx rfl (hb hby d_rm_sinit4_2_42) rfl rfl k) ?_
  show own_Go p e below (T3.setTop (mkF m 44 #[.val (.ref t1), .val (.ref a1), .val (.int (0 : Int32)), .val (.int (2 : Int32)), .val .null, .val (.ref b_3)] [(.ref b_3), (.ref t1)])) _
  refine own_by (fun _ k => XS.iloadN X3.here hx rfl (hb hby d_rm_sinit4_2_44) rfl k) ?_
  show own_Go p e below (T3.setTop (mkF m 45 #[.val (.ref t1), .val (.ref a1), .val (.int (0 : Int32)), .val (.int (2 : Int32)), .val .null, .val (.ref b_3)] [(.int (2 : Int32)), (.ref b_3), (.ref t1)])) _
  have O4 : Old Z n0 T3.heap := (O0.keep K3 all0)
  obtain ⟨_, _, ⟨T5, L5, k5, n5⟩, -, X5, ⟨Lc5, hQ5, l5, y5, z5⟩, st5⟩ := Jvm.LawKit.callS X3 hx (y := (⟨"java/lang/StringUTF16", "coderFromArrayLen", "([BI)B"⟩ : MethodName)) hown (mvT hZ (hw _ (List.mem_of_getElem? (i := 27) rfl))) (mvT hZ (hw _ (List.mem_of_getElem? (i := 28) rfl))) (mvT hZ (hw _ (List.mem_of_getElem? (i := 21) rfl))) (mvT hZ (hw _ (List.mem_of_getElem? (i := 29) rfl))) (by decide) (backOf (W := 1) (rm_cfal_2 l Z a0 hw [] b_3 kb_3 (own_b c1) (own_b c2) T3.heap n0 O4 g3_0) hZ (hw _ (List.mem_of_getElem? (i := 29) rfl)) (hw _ (List.mem_of_getElem? (i := 21) rfl)) (by decide) (by decide)) (g := (mkF m 45 #[.val (.ref t1), .val (.ref a1), .val (.int (0 : Int32)), .val (.int (2 : Int32)), .val .null, .val (.ref b_3)] [(.int (2 : Int32)), (.ref b_3), (.ref t1)])) rfl (by rw [hml]; rfl) (argsL := [(.ref b_3), (.int (2 : Int32))]) (rest := [(.ref t1)]) (lenOf own_pd__28_5bBI_29B rfl) rfl (by show 2 * 0 + _ ≤ _; exact Nat.le_of_eq rfl) (hb hby d_rm_sinit4_2_45) (fun _ _ => ⟨rfl, rfl, (by decide : 1 + 0 ≤ _), (by decide : 2 + 0 ≤ _)⟩)
  dsimp only [Pt.U, Pt.locs, Pt.cells, Pt.slots] at X5 l5 y5 z5 st5 hQ5
  subst l5 y5 z5
  obtain ⟨rfl, M5, K5⟩ := hQ5
  have N5 := Fr.app N3 M5
  refine own_by st5 ?_
  show own_Go p e below (T5.setTop (mkF m 48 #[.val (.ref t1), .val (.ref a1), .val (.int (0 : Int32)), .val (.int (2 : Int32)), .val .null, .val (.ref b_3)] [(.int (0 : Int32)), (.ref t1)])) _
  have fc6 : Fld Z T3.heap t1 "java/lang/String" "coder" "B" (.int (0 : Int32)) := (Fc.keep K3 nin0)
  have fc7 : Exa Z T3.heap t1 "java/lang/String" := (Et.keep K3)
  obtain ⟨T8, h8, X8, e8, W8, st8⟩ := putFN X5 hx hZ hown (hw _ (List.mem_of_getElem? (i := 30) rfl)) Via.refl K5 fc6 fc7 (Or.inr ⟨(hw _ (List.mem_of_getElem? (i := 31) rfl)), rfl, hnm⟩) (hw _ (List.mem_of_getElem? (i := 5) rfl)) (ty := .byte) (v' := (.int (0 : Int32))) (by decide) rfl rfl (g := (mkF m 48 #[.val (.ref t1), .val (.ref a1), .val (.int (0 : Int32)), .val (.int (2 : Int32)), .val .null, .val (.ref b_3)] [(.int (0 : Int32)), (.ref t1)])) rfl rfl (hb hby d_rm_sinit4_2_48)
  refine own_by st8 ?_
  have z8 := W8.size
  have N8 := Fr.snoc X8 N5 (by omega)
  have Fw8 : Fld Z h8 t1 "java/lang/String" "coder" "B" (.int (0 : Int32)) := fc6.same W8
  show own_Go p e below (T8.setTop (mkF m 51 #[.val (.ref t1), .val (.ref a1), .val (.int (0 : Int32)), .val (.int (2 : Int32)), .val .null, .val (.ref b_3)] [])) _
  refine own_by (fun _ k => XS.aloadN X8.here hx rfl (hb hby d_rm_sinit4_2_51) rfl rfl k) ?_
  show own_Go p e below (T8.setTop (mkF m 52 #[.val (.ref t1), .val (.ref a1), .val (.int (0 : Int32)), .val (.int (2 : Int32)), .val .null, .val (.ref b_3)] [(.ref t1)])) _
  refine own_by (fun _ k => XS.aload X8.here hx rfl (hb hby d_rm_sinit4_2_52) rfl rfl k) ?_
  show own_Go p e below (T8.setTop (mkF m 54 #[.val (.ref t1), .val (.ref a1), .val (.int (0 : Int32)), .val (.int (2 : Int32)), .val .null, .val (.ref b_3)] [(.ref b_3), (.ref t1)])) _
  have fc9 : Fld Z h8 t1 "java/lang/String" "value" "[B" .null := ((Fv.keep K3 nin0).other W8 (Or.inr (slot_ne (a0 := a0) (Or.inr (hw _ (List.mem_of_getElem? (i := 33) rfl))) (Or.inr (hw _ (List.mem_of_getElem? (i := 31) rfl))) (by decide) (t := (.array .byte)) (by decide) (t' := .byte) (by decide))))
  have fc10 : Exa Z h8 t1 "java/lang/String" := (fc7.wr W8)
  obtain ⟨T11, h11, X11, e11, W11, st11⟩ := putF X8 hx hZ hown (host := "") (Or.inl (hw _ (List.mem_of_getElem? (i := 32) rfl))) Via.refl e8 fc9 fc10 (Or.inr ⟨(hw _ (List.mem_of_getElem? (i := 33) rfl)), rfl, hnm⟩) (hw _ (List.mem_of_getElem? (i := 5) rfl)) (ty := (.array .byte)) (by decide) rfl rfl (g := (mkF m 54 #[.val (.ref t1), .val (.ref a1), .val (.int (0 : Int32)), .val (.int (2 : Int32)), .val .null, .val (.ref b_3)] [(.ref b_3), (.ref t1)])) rfl rfl (hb hby d_rm_sinit4_2_54)
  refine own_by st11 ?_
  have z11 := W11.size
  have N11 := Fr.snoc X11 N8 (by omega)
  have Fw11 : Fld Z h11 t1 "java/lang/String" "value" "[B" (.ref b_3) := fc9.same W11
  show own_Go p e below (T11.setTop (mkF m 57 #[.val (.ref t1), .val (.ref a1), .val (.int (0 : Int32)), .val (.int (2 : Int32)), .val .null, .val (.ref b_3)] [])) _
  have fc12 : Exa Z h11 t1 "java/lang/String" := (fc10.wr W11)
  have fc13 : Fld Z h11 t1 "java/lang/String" "coder" "B" (.int (0 : Int32)) := (Fw8.other W11 (Or.inr (slot_ne (a0 := a0) (Or.inr (hw _ (List.mem_of_getElem? (i := 31) rfl))) (Or.inr (hw _ (List.mem_of_getElem? (i := 33) rfl))) (by decide) (t := .byte) (by decide) (t' := (.array .byte)) (by decide))))
  have fc14 : Arv Z h11 b_3 kb_3 .byte (2 : Int32) [(.int (own_b c1)), (.int (own_b c2))] (.int (0 : Int32)) := ((g3_0.other W8 (own_ne (by omega))).other W11 (own_ne (by omega)))
  have K15 : Keep h0 h11 [t1] := ((((Keep.refl h0 [t1]).trans K3 all0).wr W8 (Or.inl (List.mem_of_getElem? (i := 0) rfl))).wr W11 (Or.inl (List.mem_of_getElem? (i := 0) rfl)))
  obtain ⟨fs, hr, hrun, hended, hW, hsame⟩ := X11.leave (v := none) (fun h => rfl)
  refine ⟨_, _, X11.returnOut hx Bd.returns (hb hby d_rm_sinit4_2_57) hr, hrun, hended, _, _, rfl, ?_, ⟨_, rfl⟩, hW, hsame.mono (by decide) (by decide)⟩
  show Q_rm_sinit4_2 Z t1 a1 ka cs c1 c2 h0 n0 _ T11.heap _
  rw [e11]
  exact ⟨b_3, kb_3, rfl, N11, K15, fc12, fc13, Fw11, fc14, (by first | assumption | omega)⟩
theorem d_rm_sinit_2_0 : decode jdk_42_method_3_code 0 = .ok (.aload_n 0, 1) := by decide +kernel
theorem d_rm_sinit_2_1 : decode jdk_42_method_3_code 1 = .ok (.aload_n 1, 1) := by decide +kernel
theorem d_rm_sinit_2_2 : decode jdk_42_method_3_code 2 = .ok (.iconst 0, 1) := by decide +kernel
theorem d_rm_sinit_2_3 : decode jdk_42_method_3_code 3 = .ok (.aload_n 1, 1) := by decide +kernel
theorem d_rm_sinit_2_4 : decode jdk_42_method_3_code 4 = .ok (.arraylength, 1) := by decide +kernel
theorem d_rm_sinit_2_5 : decode jdk_42_method_3_code 5 = .ok (.aconst_null, 1) := by decide +kernel
theorem d_rm_sinit_2_6 : decode jdk_42_method_3_code 6 = .ok (.invokespecial 27, 3) := by decide +kernel
theorem d_rm_sinit_2_9 : decode jdk_42_method_3_code 9 = .ok (.return_, 1) := by decide +kernel
def Q_rm_sinit_2 (Z : State) (t1 : Addr) (a1 : Addr) (ka : ClassId) (cs : Int32) (c1 : Int32) (c2 : Int32) (h0 : Heap) (n0 : Nat) (v : Option Value) (h : Heap) (L : List Loc) : Prop := ∃ (b : Addr), ∃ (kb : ClassId), v = none ∧ Fr n0 L ∧ Keep h0 h [t1] ∧ Exa Z h t1 "java/lang/String" ∧ Fld Z h t1 "java/lang/String" "coder" "B" (.int (0 : Int32)) ∧ Fld Z h t1 "java/lang/String" "value" "[B" (.ref b) ∧ Arv Z h b kb .byte (2 : Int32) [(.int (own_b c1)), (.int (own_b c2))] (.int (0 : Int32)) ∧ h0.size ≤ b
theorem ef_rm_sinit_2 (m : MethodId) (t1 : Addr) (a1 : Addr) (ka : ClassId) (cs : Int32) (c1 : Int32) (c2 : Int32) : entryFrame m #[(.ref t1), (.ref a1)] 2 = mkF m 0 #[.val (.ref t1), .val (.ref a1)] [] := by first | (simp [entryFrame, mkF, argsToLocals, Value.category]; done) | rfl
set_option maxRecDepth 65536 in
set_option maxHeartbeats 40000000 in
theorem rm_sinit_2 (l : Launch) (Z : State) (a0 : Array Value) (hw : ∀ d ∈ tables_1, d.before a0 Z = true) (ws : List Jvm.Cond) (t1 : Addr) (a1 : Addr) (ka : ClassId) (cs : Int32) (c1 : Int32) (c2 : Int32) (h0 : Heap) (n0 : Nat) (O0 : Old Z n0 h0) (S_COMPACT : Sta Z Z.heap "java/lang/String" "COMPACT_STRINGS" "Z" (.int cs)) (Et : Exa Z h0 t1 "java/lang/String") (Fv : Fld Z h0 t1 "java/lang/String" "value" "[B" .null) (Fc : Fld Z h0 t1 "java/lang/String" "coder" "B" (.int (0 : Int32))) (Va : Arv Z h0 a1 ka .char (2 : Int32) [(.int c1), (.int c2)] (.int (0 : Int32))) (rc1 : ¬ ((255 : Int32) < c1)) (rc2 : ¬ ((255 : Int32) < c2)) (gt : n0 ≤ t1) (hcs : ¬ (cs = (0 : Int32))) (nta : ¬ (@Eq Nat a1 t1)) :
    MetFree l (⟨"java/lang/String", "<init>", "([C)V"⟩ : MethodName) (head1 (Jvm.Cond.code (⟨"java/lang/String", "<init>", "([C)V"⟩ : MethodName) jdk_42_method_3_code 2 none :: ws) ({ frames := 3, cells := 1, slots := 2, locals := 52 } : Room)) (fun a U => a = #[(.ref t1), (.ref a1)] ∧ Z.Warmed39 U.vm ∧ U.heap = h0) (fun _ _ _ _ _ => True) (fun _ U o U' => ∃ v L, o = .returned v ∧ Q_rm_sinit_2 Z t1 a1 ka cs c1 c2 h0 n0 v U'.heap L ∧ FrameEnd U o U' L ({ frames := 3, cells := 1, slots := 2, locals := 52 } : Room).cells ({ frames := 3, cells := 1, slots := 2, locals := 52 } : Room).slots) := by
  refine MetFree.of_bodySF (plainFor_of_name own_pn_java_lang_String) hisR ?_
  intro p e s m args below meth c s₁ Bd hml0 hP hK
  obtain ⟨rfl, hZ, hh⟩ := hP
  have hx := Bd.exec
  have hby := Bd.bytes
  have hml : c.maxLocals = 2 := hml0
  have hown : s.vm.findClass "java/lang/String" = some m.cls := findClass_of_methodNamed Bd.named
  have hnm := (name_of_methodNamed Bd.named Bd.method).1
  have X0 : Stand p l e ({ frames := 3, cells := 1, slots := 2, locals := 52 } : Room) s m #[(.ref t1), (.ref a1)] below meth c s₁ [] 0 0 := Stand.of_body Bd
  have e0 : s₁.heap = h0 := by rw [← hh, Bd.state]; rfl
  have N0 := Fr.nil n0
  have Z0 : n0 ≤ h0.size := by rw [← O0.1]; exact O0.2.1
  show own_Go p e below (s₁.setTop (entryFrame m #[(.ref t1), (.ref a1)] 2)) (fun t o => ∃ v L, o = .returned v ∧ Q_rm_sinit_2 Z t1 a1 ka cs c1 c2 h0 n0 v t.heap L ∧ FrameEnd s o t L ({ frames := 3, cells := 1, slots := 2, locals := 52 } : Room).cells ({ frames := 3, cells := 1, slots := 2, locals := 52 } : Room).slots)
  rw [ef_rm_sinit_2 m t1 a1 ka cs c1 c2]
  have lt_Et : h0.size > t1 := Et.lt
  have lt_Fv : h0.size > t1 := Fv.lt
  have lt_Fc : h0.size > t1 := Fc.lt
  have lt_Va : h0.size > a1 := Va.lt
  refine own_by (fun _ k => XS.aloadN X0.here hx rfl (hb hby d_rm_sinit_2_0) rfl rfl k) ?_
  show own_Go p e below (s₁.setTop (mkF m 1 #[.val (.ref t1), .val (.ref a1)] [(.ref t1)])) _
  refine own_by (fun _ k => XS.aloadN X0.here hx rfl (hb hby d_rm_sinit_2_1) rfl rfl k) ?_
  show own_Go p e below (s₁.setTop (mkF m 2 #[.val (.ref t1), .val (.ref a1)] [(.ref a1), (.ref t1)])) _
  refine own_by (fun _ k => XS.iconst X0.here hx rfl (hb hby d_rm_sinit_2_2) k) ?_
  show own_Go p e below (s₁.setTop (mkF m 3 #[.val (.ref t1), .val (.ref a1)] [(.int (0 : Int32)), (.ref a1), (.ref t1)])) _
  refine own_by (fun _ k => XS.aloadN X0.here hx rfl (hb hby d_rm_sinit_2_3) rfl rfl k) ?_
  show own_Go p e below (s₁.setTop (mkF m 4 #[.val (.ref t1), .val (.ref a1)] [(.ref a1), (.int (0 : Int32)), (.ref a1), (.ref t1)])) _
  obtain ⟨cl1, Ar1, q1, S1, M1, H1, G1⟩ := (id Va)
  refine own_by (X0.arraylength hx (by rw [e0]; exact Ar1.1) (State.isArrayOf_alike hZ.alike Ar1.2.1) (g := (mkF m 4 #[.val (.ref t1), .val (.ref a1)] [(.ref a1), (.int (0 : Int32)), (.ref a1), (.ref t1)])) rfl rfl (hb hby d_rm_sinit_2_4)) ?_
  rw [len_of S1 M1]
  show own_Go p e below (s₁.setTop (mkF m 5 #[.val (.ref t1), .val (.ref a1)] [(.int (2 : Int32)), (.int (0 : Int32)), (.ref a1), (.ref t1)])) _
  refine own_by (fun _ k => XS.aconstNull X0.here hx rfl (hb hby d_rm_sinit_2_5) k) ?_
  show own_Go p e below (s₁.setTop (mkF m 6 #[.val (.ref t1), .val (.ref a1)] [.null, (.int (2 : Int32)), (.int (0 : Int32)), (.ref a1), (.ref t1)])) _
  obtain ⟨_, _, ⟨T2, L2, k2, n2⟩, -, X2, ⟨Lc2, hQ2, l2, y2, z2⟩, st2⟩ := X0.specialBack hx (y := (⟨"java/lang/String", "<init>", "([CIILjava/lang/Void;)V"⟩ : MethodName)) rfl hown (mvT hZ (hw _ (List.mem_of_getElem? (i := 11) rfl))) (mvT hZ (hw _ (List.mem_of_getElem? (i := 12) rfl))) (mvT hZ (hw _ (List.mem_of_getElem? (i := 14) rfl))) (by decide) (backOf (W := 0) (rm_sinit4_2 l Z a0 hw [] t1 a1 ka cs c1 c2 h0 n0 O0 S_COMPACT Et Fv Fc Va rc1 rc2 gt hcs nta) hZ (hw _ (List.mem_of_getElem? (i := 14) rfl)) (hw _ (List.mem_of_getElem? (i := 6) rfl)) (by decide) (by decide)) (g := (mkF m 6 #[.val (.ref t1), .val (.ref a1)] [.null, (.int (2 : Int32)), (.int (0 : Int32)), (.ref a1), (.ref t1)])) rfl (by rw [hml]; rfl) (Steps.refl _) (a := t1) (argsL := [(.ref a1), (.int (0 : Int32)), (.int (2 : Int32)), .null]) (rest := []) (lenOf own_pd__28_5bCIILjava_2flang_2fVoid_3b_29V rfl) rfl (by show 2 * 0 + _ ≤ _; exact Nat.le_of_eq rfl) (hb hby d_rm_sinit_2_6) (fun _ _ => ⟨rfl, e0, (by decide : 0 + 1 ≤ _), (by decide : 0 + 2 ≤ _)⟩)
  dsimp only [Pt.U, Pt.locs, Pt.cells, Pt.slots] at X2 l2 y2 z2 st2 hQ2
  subst l2 y2 z2
  obtain ⟨b_2, kb_2, rfl, M2, K2, g2_0, g2_1, g2_2, g2_3, r2_0⟩ := hQ2
  have N2 := Fr.app N0 M2
  refine own_by (fun _ k => st2.trans k) ?_
  have z2 := K2.1
  have lt_g2_0 : T2.heap.size > t1 := g2_0.lt
  have lt_g2_1 : T2.heap.size > t1 := g2_1.lt
  have lt_g2_2 : T2.heap.size > t1 := g2_2.lt
  have lt_g2_3 : T2.heap.size > b_2 := g2_3.lt
  show own_Go p e below (T2.setTop (mkF m 9 #[.val (.ref t1), .val (.ref a1)] [])) _
  have K3 : Keep h0 T2.heap [t1] := ((Keep.refl h0 [t1]).trans K2 (allS (P := fun x => x ∈ [t1] ∨ h0.size ≤ x) (Or.inl (List.mem_of_getElem? (i := 0) rfl)) all0))
  obtain ⟨fs, hr, hrun, hended, hW, hsame⟩ := X2.leave (v := none) (fun h => rfl)
  refine ⟨_, _, X2.returnOut hx Bd.returns (hb hby d_rm_sinit_2_9) hr, hrun, hended, _, _, rfl, ?_, ⟨_, rfl⟩, hW, hsame.mono (by decide) (by decide)⟩
  show Q_rm_sinit_2 Z t1 a1 ka cs c1 c2 h0 n0 _ T2.heap _
  exact ⟨b_2, kb_2, rfl, N2, K3, g2_0, g2_1, g2_2, g2_3, (by first | assumption | omega)⟩
theorem d_rm_comp5_3_0 : decode jdk_52_method_21_code 0 = .ok (.iconst 0, 1) := by decide +kernel
theorem d_rm_comp5_3_1 : decode jdk_52_method_21_code 1 = .ok (.istore 5, 2) := by decide +kernel
theorem d_rm_comp5_3_3 : decode jdk_52_method_21_code 3 = .ok (.iload 5, 2) := by decide +kernel
theorem d_rm_comp5_3_5 : decode jdk_52_method_21_code 5 = .ok (.iload 4, 2) := by decide +kernel
theorem d_rm_comp5_3_7 : decode jdk_52_method_21_code 7 = .ok (.if_icmp .ge 37, 3) := by decide +kernel
theorem d_rm_comp5_3_10 : decode jdk_52_method_21_code 10 = .ok (.aload_n 0, 1) := by decide +kernel
theorem d_rm_comp5_3_11 : decode jdk_52_method_21_code 11 = .ok (.iload_n 1, 1) := by decide +kernel
theorem d_rm_comp5_3_12 : decode jdk_52_method_21_code 12 = .ok (.caload, 1) := by decide +kernel
theorem d_rm_comp5_3_13 : decode jdk_52_method_21_code 13 = .ok (.istore 6, 2) := by decide +kernel
theorem d_rm_comp5_3_15 : decode jdk_52_method_21_code 15 = .ok (.iload 6, 2) := by decide +kernel
theorem d_rm_comp5_3_17 : decode jdk_52_method_21_code 17 = .ok (.sipush 255, 3) := by decide +kernel
theorem d_rm_comp5_3_20 : decode jdk_52_method_21_code 20 = .ok (.if_icmp .le 6, 3) := by decide +kernel
theorem d_rm_comp5_3_26 : decode jdk_52_method_21_code 26 = .ok (.aload_n 2, 1) := by decide +kernel
theorem d_rm_comp5_3_27 : decode jdk_52_method_21_code 27 = .ok (.iload_n 3, 1) := by decide +kernel
theorem d_rm_comp5_3_28 : decode jdk_52_method_21_code 28 = .ok (.iload 6, 2) := by decide +kernel
theorem d_rm_comp5_3_30 : decode jdk_52_method_21_code 30 = .ok (.i2b, 1) := by decide +kernel
theorem d_rm_comp5_3_31 : decode jdk_52_method_21_code 31 = .ok (.bastore, 1) := by decide +kernel
theorem d_rm_comp5_3_32 : decode jdk_52_method_21_code 32 = .ok (.iinc 1 1, 3) := by decide +kernel
theorem d_rm_comp5_3_35 : decode jdk_52_method_21_code 35 = .ok (.iinc 3 1, 3) := by decide +kernel
theorem d_rm_comp5_3_38 : decode jdk_52_method_21_code 38 = .ok (.iinc 5 1, 3) := by decide +kernel
theorem d_rm_comp5_3_41 : decode jdk_52_method_21_code 41 = .ok (.goto (-38), 3) := by decide +kernel
theorem d_rm_comp5_3_44 : decode jdk_52_method_21_code 44 = .ok (.iload 4, 2) := by decide +kernel
theorem d_rm_comp5_3_46 : decode jdk_52_method_21_code 46 = .ok (.ireturn, 1) := by decide +kernel
def Q_rm_comp5_3 (Z : State) (a1 : Addr) (b : Addr) (ka : ClassId) (kb : ClassId) (c1 : Int32) (c2 : Int32) (c3 : Int32) (h0 : Heap) (n0 : Nat) (v : Option Value) (h : Heap) (L : List Loc) : Prop := v = some (.int (3 : Int32)) ∧ Fr n0 L ∧ Keep h0 h [b] ∧ Arv Z h b kb .byte (3 : Int32) [(.int (own_b c1)), (.int (own_b c2)), (.int (own_b c3))] (.int (0 : Int32))
theorem ef_rm_comp5_3 (m : MethodId) (a1 : Addr) (b : Addr) (ka : ClassId) (kb : ClassId) (c1 : Int32) (c2 : Int32) (c3 : Int32) : entryFrame m #[(.ref a1), (.int (0 : Int32)), (.ref b), (.int (0 : Int32)), (.int (3 : Int32))] 7 = mkF m 0 #[.val (.ref a1), .val (.int (0 : Int32)), .val (.ref b), .val (.int (0 : Int32)), .val (.int (3 : Int32)), .unset, .unset] [] := by first | (simp [entryFrame, mkF, argsToLocals, Value.category]; done) | rfl
set_option maxRecDepth 65536 in
set_option maxHeartbeats 40000000 in
theorem rm_comp5_3 (l : Launch) (Z : State) (a0 : Array Value) (hw : ∀ d ∈ tables_1, d.before a0 Z = true) (ws : List Jvm.Cond) (a1 : Addr) (b : Addr) (ka : ClassId) (kb : ClassId) (c1 : Int32) (c2 : Int32) (c3 : Int32) (h0 : Heap) (n0 : Nat) (O0 : Old Z n0 h0) (Va : Arv Z h0 a1 ka .char (3 : Int32) [(.int c1), (.int c2), (.int c3)] (.int (0 : Int32))) (Vb : Arv Z h0 b kb .byte (3 : Int32) [] (.int (0 : Int32))) (rc1 : ¬ ((255 : Int32) < c1)) (rc2 : ¬ ((255 : Int32) < c2)) (rc3 : ¬ ((255 : Int32) < c3)) (gb : n0 ≤ b) (nab : ¬ (@Eq Nat a1 b)) :
    MetFree l (⟨"java/lang/StringUTF16", "compress", "([CI[BII)I"⟩ : MethodName) (head1 (Jvm.Cond.code (⟨"java/lang/StringUTF16", "compress", "([CI[BII)I"⟩ : MethodName) jdk_52_method_21_code 7 (some .int) :: ws) ({ frames := 0, cells := 0, slots := 0, locals := 0 } : Room)) (fun a U => a = #[(.ref a1), (.int (0 : Int32)), (.ref b), (.int (0 : Int32)), (.int (3 : Int32))] ∧ Z.Warmed39 U.vm ∧ U.heap = h0) (fun _ _ _ _ _ => True) (fun _ U o U' => ∃ v L, o = .returned v ∧ Q_rm_comp5_3 Z a1 b ka kb c1 c2 c3 h0 n0 v U'.heap L ∧ FrameEnd U o U' L ({ frames := 0, cells := 0, slots := 0, locals := 0 } : Room).cells ({ frames := 0, cells := 0, slots := 0, locals := 0 } : Room).slots) := by
  refine MetFree.of_bodySF (plainFor_of_name own_pn_java_lang_StringUTF16) hisR ?_
  intro p e s m args below meth c s₁ Bd hml0 hP hK
  obtain ⟨rfl, hZ, hh⟩ := hP
  have hx := Bd.exec
  have hby := Bd.bytes
  have hml : c.maxLocals = 7 := hml0
  have hown : s.vm.findClass "java/lang/StringUTF16" = some m.cls := findClass_of_methodNamed Bd.named
  have hnm := (name_of_methodNamed Bd.named Bd.method).1
  have X0 : Stand p l e ({ frames := 0, cells := 0, slots := 0, locals := 0 } : Room) s m #[(.ref a1), (.int (0 : Int32)), (.ref b), (.int (0 : Int32)), (.int (3 : Int32))] below meth c s₁ [] 0 0 := Stand.of_body Bd
  have e0 : s₁.heap = h0 := by rw [← hh, Bd.state]; rfl
  have N0 := Fr.nil n0
  have Z0 : n0 ≤ h0.size := by rw [← O0.1]; exact O0.2.1
  show own_Go p e below (s₁.setTop (entryFrame m #[(.ref a1), (.int (0 : Int32)), (.ref b), (.int (0 : Int32)), (.int (3 : Int32))] 7)) (fun t o => ∃ v L, o = .returned v ∧ Q_rm_comp5_3 Z a1 b ka kb c1 c2 c3 h0 n0 v t.heap L ∧ FrameEnd s o t L ({ frames := 0, cells := 0, slots := 0, locals := 0 } : Room).cells ({ frames := 0, cells := 0, slots := 0, locals := 0 } : Room).slots)
  rw [ef_rm_comp5_3 m a1 b ka kb c1 c2 c3]
  have lt_Va : h0.size > a1 := Va.lt
  have lt_Vb : h0.size > b := Vb.lt
  refine own_by (fun _ k => XS.iconst X0.here hx rfl (hb hby d_rm_comp5_3_0) k) ?_
  show own_Go p e below (s₁.setTop (mkF m 1 #[.val (.ref a1), .val (.int (0 : Int32)), .val (.ref b), .val (.int (0 : Int32)), .val (.int (3 : Int32)), .unset, .unset] [(.int (0 : Int32))])) _
  refine own_by (fun _ k => XS.istore X0.here hx rfl (hb hby d_rm_comp5_3_1) rfl (l' := #[.val (.ref a1), .val (.int (0 : Int32)), .val (.ref b), .val (.int (0 : Int32)), .val (.int (3 : Int32)), .val (.int (0 : Int32)), .unset]) rfl k) ?_
  show own_Go p e below (s₁.setTop (mkF m 3 #[.val (.ref a1), .val (.int (0 : Int32)), .val (.ref b), .val (.int (0 : Int32)), .val (.int (3 : Int32)), .val (.int (0 : Int32)), .unset] [])) _
  refine own_by (fun _ k => XS.iload X0.here hx rfl (hb hby d_rm_comp5_3_3) rfl k) ?_
  show own_Go p e below (s₁.setTop (mkF m 5 #[.val (.ref a1), .val (.int (0 : Int32)), .val (.ref b), .val (.int (0 : Int32)), .val (.int (3 : Int32)), .val (.int (0 : Int32)), .unset] [(.int (0 : Int32))])) _
  refine own_by (fun _ k => XS.iload X0.here hx rfl (hb hby d_rm_comp5_3_5) rfl k) ?_
  show own_Go p e below (s₁.setTop (mkF m 7 #[.val (.ref a1), .val (.int (0 : Int32)), .val (.ref b), .val (.int (0 : Int32)), .val (.int (3 : Int32)), .val (.int (0 : Int32)), .unset] [(.int (3 : Int32)), (.int (0 : Int32))])) _
  refine own_by (fun _ k => XS.icmpNo X0.here hx rfl (hb hby d_rm_comp5_3_7) rfl (tlt (by decide : (0 : Int32) < (3 : Int32))).2.1 k) ?_
  show own_Go p e below (s₁.setTop (mkF m 10 #[.val (.ref a1), .val (.int (0 : Int32)), .val (.ref b), .val (.int (0 : Int32)), .val (.int (3 : Int32)), .val (.int (0 : Int32)), .unset] [])) _
  refine own_by (fun _ k => XS.aloadN X0.here hx rfl (hb hby d_rm_comp5_3_10) rfl rfl k) ?_
  show own_Go p e below (s₁.setTop (mkF m 11 #[.val (.ref a1), .val (.int (0 : Int32)), .val (.ref b), .val (.int (0 : Int32)), .val (.int (3 : Int32)), .val (.int (0 : Int32)), .unset] [(.ref a1)])) _
  refine own_by (fun _ k => XS.iloadN X0.here hx rfl (hb hby d_rm_comp5_3_11) rfl k) ?_
  show own_Go p e below (s₁.setTop (mkF m 12 #[.val (.ref a1), .val (.int (0 : Int32)), .val (.ref b), .val (.int (0 : Int32)), .val (.int (3 : Int32)), .val (.int (0 : Int32)), .unset] [(.int (0 : Int32)), (.ref a1)])) _
  obtain ⟨cl1, Ar1, q1, S1, M1, H1, G1⟩ := (id Va)
  have hin1 : ¬ ((0 : Int32) < 0 ∨ cl1.slots.size ≤ ((0 : Int32)).toNatClampNeg) := inb_of S1 ⟨by decide, by decide⟩
  refine own_by (X0.caload hx (j := (0 : Int32)) (v := (.int c1)) (by rw [e0]; exact Ar1.1) (State.isArrayOf_alike hZ.alike Ar1.2.1) Ar1.2.2 hin1 (H1.at hin1 rfl) (g := (mkF m 12 #[.val (.ref a1), .val (.int (0 : Int32)), .val (.ref b), .val (.int (0 : Int32)), .val (.int (3 : Int32)), .val (.int (0 : Int32)), .unset] [(.int (0 : Int32)), (.ref a1)])) rfl rfl (hb hby d_rm_comp5_3_12)) ?_
  show own_Go p e below (s₁.setTop (mkF m 13 #[.val (.ref a1), .val (.int (0 : Int32)), .val (.ref b), .val (.int (0 : Int32)), .val (.int (3 : Int32)), .val (.int (0 : Int32)), .unset] [(.int c1)])) _
  refine own_by (fun _ k => XS.istore X0.here hx rfl (hb hby d_rm_comp5_3_13) rfl (l' := #[.val (.ref a1), .val (.int (0 : Int32)), .val (.ref b), .val (.int (0 : Int32)), .val (.int (3 : Int32)), .val (.int (0 : Int32)), .val (.int c1)]) rfl k) ?_
  show own_Go p e below (s₁.setTop (mkF m 15 #[.val (.ref a1), .val (.int (0 : Int32)), .val (.ref b), .val (.int (0 : Int32)), .val (.int (3 : Int32)), .val (.int (0 : Int32)), .val (.int c1)] [])) _
  refine own_by (fun _ k => XS.iload X0.here hx rfl (hb hby d_rm_comp5_3_15) rfl k) ?_
  show own_Go p e below (s₁.setTop (mkF m 17 #[.val (.ref a1), .val (.int (0 : Int32)), .val (.ref b), .val (.int (0 : Int32)), .val (.int (3 : Int32)), .val (.int (0 : Int32)), .val (.int c1)] [(.int c1)])) _
  refine own_by (fun _ k => XS.sipush X0.here hx rfl (hb hby d_rm_comp5_3_17) k) ?_
  show own_Go p e below (s₁.setTop (mkF m 20 #[.val (.ref a1), .val (.int (0 : Int32)), .val (.ref b), .val (.int (0 : Int32)), .val (.int (3 : Int32)), .val (.int (0 : Int32)), .val (.int c1)] [(.int (255 : Int32)), (.int c1)])) _
  refine own_by (fun _ k => XS.icmpYes X0.here hx rfl (pc0 := 20) (pc' := 26) rfl (hb hby d_rm_comp5_3_20) rfl (flt rc1).2.2.2 (by decide) (by decide) k) ?_
  show own_Go p e below (s₁.setTop (mkF m 26 #[.val (.ref a1), .val (.int (0 : Int32)), .val (.ref b), .val (.int (0 : Int32)), .val (.int (3 : Int32)), .val (.int (0 : Int32)), .val (.int c1)] [])) _
  refine own_by (fun _ k => XS.aloadN X0.here hx rfl (hb hby d_rm_comp5_3_26) rfl rfl k) ?_
  show own_Go p e below (s₁.setTop (mkF m 27 #[.val (.ref a1), .val (.int (0 : Int32)), .val (.ref b), .val (.int (0 : Int32)), .val (.int (3 : Int32)), .val (.int (0 : Int32)), .val (.int c1)] [(.ref b)])) _
  refine own_by (fun _ k => XS.iloadN X0.here hx rfl (hb hby d_rm_comp5_3_27) rfl k) ?_
  show own_Go p e below (s₁.setTop (mkF m 28 #[.val (.ref a1), .val (.int (0 : Int32)), .val (.ref b), .val (.int (0 : Int32)), .val (.int (3 : Int32)), .val (.int (0 : Int32)), .val (.int c1)] [(.int (0 : Int32)), (.ref b)])) _
  refine own_by (fun _ k => XS.iload X0.here hx rfl (hb hby d_rm_comp5_3_28) rfl k) ?_
  show own_Go p e below (s₁.setTop (mkF m 30 #[.val (.ref a1), .val (.int (0 : Int32)), .val (.ref b), .val (.int (0 : Int32)), .val (.int (3 : Int32)), .val (.int (0 : Int32)), .val (.int c1)] [(.int c1), (.int (0 : Int32)), (.ref b)])) _
  refine own_by (fun _ k => XS.i2b X0.here hx rfl (hb hby d_rm_comp5_3_30) rfl k) ?_
  show own_Go p e below (s₁.setTop (mkF m 31 #[.val (.ref a1), .val (.int (0 : Int32)), .val (.ref b), .val (.int (0 : Int32)), .val (.int (3 : Int32)), .val (.int (0 : Int32)), .val (.int c1)] [(.int (c1.toInt8.toInt32)), (.int (0 : Int32)), (.ref b)])) _
  have Vw2 : Arv Z h0 b kb .byte (3 : Int32) [(.int (0 : Int32))] (.int (0 : Int32)) := Vb.pad (pad_rep [] (.int (0 : Int32)) 1)
  obtain ⟨cl3, Ar3, q3, S3, M3, H3, G3⟩ := (id Vw2)
  have hin3 : ¬ ((0 : Int32) < 0 ∨ cl3.slots.size ≤ ((0 : Int32)).toNatClampNeg) := inb_of S3 ⟨by decide, by decide⟩
  obtain ⟨T3, h3, X3, e3, W3, st3⟩ := stB X0 hx hZ e0 Ar3 (j := (0 : Int32)) hin3 (g := (mkF m 31 #[.val (.ref a1), .val (.int (0 : Int32)), .val (.ref b), .val (.int (0 : Int32)), .val (.int (3 : Int32)), .val (.int (0 : Int32)), .val (.int c1)] [(.int (c1.toInt8.toInt32)), (.int (0 : Int32)), (.ref b)])) rfl rfl (hb hby d_rm_comp5_3_31)
  refine own_by st3 ?_
  have z3 := W3.size
  have N3 := Fr.snoc X3 N0 (by omega)
  have Vw3 : Arv Z h3 b kb .byte (3 : Int32) [(.int (own_b c1))] (.int (0 : Int32)) := Arv.set Ar3 q3 S3 M3 H3 G3 (fits_nar_byte2 _) W3 0 rfl (Nat.le_of_ble_eq_true rfl)
  show own_Go p e below (T3.setTop (mkF m 32 #[.val (.ref a1), .val (.int (0 : Int32)), .val (.ref b), .val (.int (0 : Int32)), .val (.int (3 : Int32)), .val (.int (0 : Int32)), .val (.int c1)] [])) _
  refine own_by (fun _ k => XS.iinc X3.here hx rfl (hb hby d_rm_comp5_3_32) rfl (l' := #[.val (.ref a1), .val (.int (1 : Int32)), .val (.ref b), .val (.int (0 : Int32)), .val (.int (3 : Int32)), .val (.int (0 : Int32)), .val (.int c1)]) rfl k) ?_
  show own_Go p e below (T3.setTop (mkF m 35 #[.val (.ref a1), .val (.int (1 : Int32)), .val (.ref b), .val (.int (0 : Int32)), .val (.int (3 : Int32)), .val (.int (0 : Int32)), .val (.int c1)] [])) _
  refine own_by (fun _ k => XS.iinc X3.here hx rfl (hb hby d_rm_comp5_3_35) rfl (l' := #[.val (.ref a1), .val (.int (1 : Int32)), .val (.ref b), .val (.int (1 : Int32)), .val (.int (3 : Int32)), .val (.int (0 : Int32)), .val (.int c1)]) rfl k) ?_
  show own_Go p e below (T3.setTop (mkF m 38 #[.val (.ref a1), .val (.int (1 : Int32)), .val (.ref b), .val (.int (1 : Int32)), .val (.int (3 : Int32)), .val (.int (0 : Int32)), .val (.int c1)] [])) _
  refine own_by (fun _ k => XS.iinc X3.here hx rfl (hb hby d_rm_comp5_3_38) rfl (l' := #[.val (.ref a1), .val (.int (1 : Int32)), .val (.ref b), .val (.int (1 : Int32)), .val (.int (3 : Int32)), .val (.int (1 : Int32)), .val (.int c1)]) rfl k) ?_
  show own_Go p e below (T3.setTop (mkF m 41 #[.val (.ref a1), .val (.int (1 : Int32)), .val (.ref b), .val (.int (1 : Int32)), .val (.int (3 : Int32)), .val (.int (1 : Int32)), .val (.int c1)] [])) _
  refine own_by (fun _ k => XS.goto X3.here hx rfl (pc0 := 41) (pc' := 3) rfl (hb hby d_rm_comp5_3_41) (by decide) (by decide) k) ?_
  show own_Go p e below (T3.setTop (mkF m 3 #[.val (.ref a1), .val (.int (1 : Int32)), .val (.ref b), .val (.int (1 : Int32)), .val (.int (3 : Int32)), .val (.int (1 : Int32)), .val (.int c1)] [])) _
  refine own_by (fun _ k => XS.iload X3.here hx rfl (hb hby d_rm_comp5_3_3) rfl k) ?_
  show own_Go p e below (T3.setTop (mkF m 5 #[.val (.ref a1), .val (.int (1 : Int32)), .val (.ref b), .val (.int (1 : Int32)), .val (.int (3 : Int32)), .val (.int (1 : Int32)), .val (.int c1)] [(.int (1 : Int32))])) _
  refine own_by (fun _ k => XS.iload X3.here hx rfl (hb hby d_rm_comp5_3_5) rfl k) ?_
  show own_Go p e below (T3.setTop (mkF m 7 #[.val (.ref a1), .val (.int (1 : Int32)), .val (.ref b), .val (.int (1 : Int32)), .val (.int (3 : Int32)), .val (.int (1 : Int32)), .val (.int c1)] [(.int (3 : Int32)), (.int (1 : Int32))])) _
  refine own_by (fun _ k => XS.icmpNo X3.here hx rfl (hb hby d_rm_comp5_3_7) rfl (tlt (by decide : (1 : Int32) < (3 : Int32))).2.1 k) ?_
  show own_Go p e below (T3.setTop (mkF m 10 #[.val (.ref a1), .val (.int (1 : Int32)), .val (.ref b), .val (.int (1 : Int32)), .val (.int (3 : Int32)), .val (.int (1 : Int32)), .val (.int c1)] [])) _
  refine own_by (fun _ k => XS.aloadN X3.here hx rfl (hb hby d_rm_comp5_3_10) rfl rfl k) ?_
  show own_Go p e below (T3.setTop (mkF m 11 #[.val (.ref a1), .val (.int (1 : Int32)), .val (.ref b), .val (.int (1 : Int32)), .val (.int (3 : Int32)), .val (.int (1 : Int32)), .val (.int c1)] [(.ref a1)])) _
  refine own_by (fun _ k => XS.iloadN X3.here hx rfl (hb hby d_rm_comp5_3_11) rfl k) ?_
  show own_Go p e below (T3.setTop (mkF m 12 #[.val (.ref a1), .val (.int (1 : Int32)), .val (.ref b), .val (.int (1 : Int32)), .val (.int (3 : Int32)), .val (.int (1 : Int32)), .val (.int c1)] [(.int (1 : Int32)), (.ref a1)])) _
  have fc4 : Arv Z h3 a1 ka .char (3 : Int32) [(.int c1), (.int c2), (.int c3)] (.int (0 : Int32)) := (Va.other W3 (own_ne (by omega)))
  obtain ⟨cl5, Ar5, q5, S5, M5, H5, G5⟩ := (id fc4)
  have hin5 : ¬ ((1 : Int32) < 0 ∨ cl5.slots.size ≤ ((1 : Int32)).toNatClampNeg) := inb_of S5 ⟨by decide, by decide⟩
  refine own_by (X3.caload hx (j := (1 : Int32)) (v := (.int c2)) (by rw [e3]; exact Ar5.1) (State.isArrayOf_alike hZ.alike Ar5.2.1) Ar5.2.2 hin5 (H5.at hin5 rfl) (g := (mkF m 12 #[.val (.ref a1), .val (.int (1 : Int32)), .val (.ref b), .val (.int (1 : Int32)), .val (.int (3 : Int32)), .val (.int (1 : Int32)), .val (.int c1)] [(.int (1 : Int32)), (.ref a1)])) rfl rfl (hb hby d_rm_comp5_3_12)) ?_
  show own_Go p e below (T3.setTop (mkF m 13 #[.val (.ref a1), .val (.int (1 : Int32)), .val (.ref b), .val (.int (1 : Int32)), .val (.int (3 : Int32)), .val (.int (1 : Int32)), .val (.int c1)] [(.int c2)])) _
  refine own_by (fun _ k => XS.istore X3.here hx rfl (hb hby d_rm_comp5_3_13) rfl (l' := #[.val (.ref a1), .val (.int (1 : Int32)), .val (.ref b), .val (.int (1 : Int32)), .val (.int (3 : Int32)), .val (.int (1 : Int32)), .val (.int c2)]) rfl k) ?_
  show own_Go p e below (T3.setTop (mkF m 15 #[.val (.ref a1), .val (.int (1 : Int32)), .val (.ref b), .val (.int (1 : Int32)), .val (.int (3 : Int32)), .val (.int (1 : Int32)), .val (.int c2)] [])) _
  refine own_by (fun _ k => XS.iload X3.here hx rfl (hb hby d_rm_comp5_3_15) rfl k) ?_
  show own_Go p e below (T3.setTop (mkF m 17 #[.val (.ref a1), .val (.int (1 : Int32)), .val (.ref b), .val (.int (1 : Int32)), .val (.int (3 : Int32)), .val (.int (1 : Int32)), .val (.int c2)] [(.int c2)])) _
  refine own_by (fun _ k => XS.sipush X3.here hx rfl (hb hby d_rm_comp5_3_17) k) ?_
  show own_Go p e below (T3.setTop (mkF m 20 #[.val (.ref a1), .val (.int (1 : Int32)), .val (.ref b), .val (.int (1 : Int32)), .val (.int (3 : Int32)), .val (.int (1 : Int32)), .val (.int c2)] [(.int (255 : Int32)), (.int c2)])) _
  refine own_by (fun _ k => XS.icmpYes X3.here hx rfl (pc0 := 20) (pc' := 26) rfl (hb hby d_rm_comp5_3_20) rfl (flt rc2).2.2.2 (by decide) (by decide) k) ?_
  show own_Go p e below (T3.setTop (mkF m 26 #[.val (.ref a1), .val (.int (1 : Int32)), .val (.ref b), .val (.int (1 : Int32)), .val (.int (3 : Int32)), .val (.int (1 : Int32)), .val (.int c2)] [])) _
  refine own_by (fun _ k => XS.aloadN X3.here hx rfl (hb hby d_rm_comp5_3_26) rfl rfl k) ?_
  show own_Go p e below (T3.setTop (mkF m 27 #[.val (.ref a1), .val (.int (1 : Int32)), .val (.ref b), .val (.int (1 : Int32)), .val (.int (3 : Int32)), .val (.int (1 : Int32)), .val (.int c2)] [(.ref b)])) _
  refine own_by (fun _ k => XS.iloadN X3.here hx rfl (hb hby d_rm_comp5_3_27) rfl k) ?_
  show own_Go p e below (T3.setTop (mkF m 28 #[.val (.ref a1), .val (.int (1 : Int32)), .val (.ref b), .val (.int (1 : Int32)), .val (.int (3 : Int32)), .val (.int (1 : Int32)), .val (.int c2)] [(.int (1 : Int32)), (.ref b)])) _
  refine own_by (fun _ k => XS.iload X3.here hx rfl (hb hby d_rm_comp5_3_28) rfl k) ?_
  show own_Go p e below (T3.setTop (mkF m 30 #[.val (.ref a1), .val (.int (1 : Int32)), .val (.ref b), .val (.int (1 : Int32)), .val (.int (3 : Int32)), .val (.int (1 : Int32)), .val (.int c2)] [(.int c2), (.int (1 : Int32)), (.ref b)])) _
  refine own_by (fun _ k => XS.i2b X3.here hx rfl (hb hby d_rm_comp5_3_30) rfl k) ?_
  show own_Go p e below (T3.setTop (mkF m 31 #[.val (.ref a1), .val (.int (1 : Int32)), .val (.ref b), .val (.int (1 : Int32)), .val (.int (3 : Int32)), .val (.int (1 : Int32)), .val (.int c2)] [(.int (c2.toInt8.toInt32)), (.int (1 : Int32)), (.ref b)])) _
  have Vw6 : Arv Z h3 b kb .byte (3 : Int32) [(.int (own_b c1)), (.int (0 : Int32))] (.int (0 : Int32)) := Vw3.pad (pad_rep [(.int (own_b c1))] (.int (0 : Int32)) 1)
  obtain ⟨cl7, Ar7, q7, S7, M7, H7, G7⟩ := (id Vw6)
  have hin7 : ¬ ((1 : Int32) < 0 ∨ cl7.slots.size ≤ ((1 : Int32)).toNatClampNeg) := inb_of S7 ⟨by decide, by decide⟩
  obtain ⟨T7, h7, X7, e7, W7, st7⟩ := stB X3 hx hZ e3 Ar7 (j := (1 : Int32)) hin7 (g := (mkF m 31 #[.val (.ref a1), .val (.int (1 : Int32)), .val (.ref b), .val (.int (1 : Int32)), .val (.int (3 : Int32)), .val (.int (1 : Int32)), .val (.int c2)] [(.int (c2.toInt8.toInt32)), (.int (1 : Int32)), (.ref b)])) rfl rfl (hb hby d_rm_comp5_3_31)
  refine own_by st7 ?_
  have z7 := W7.size
  have N7 := Fr.snoc X7 N3 (by omega)
  have Vw7 : Arv Z h7 b kb .byte (3 : Int32) [(.int (own_b c1)), (.int (own_b c2))] (.int (0 : Int32)) := Arv.set Ar7 q7 S7 M7 H7 G7 (fits_nar_byte2 _) W7 1 rfl (Nat.le_of_ble_eq_true rfl)
  show own_Go p e below (T7.setTop (mkF m 32 #[.val (.ref a1), .val (.int (1 : Int32)), .val (.ref b), .val (.int (1 : Int32)), .val (.int (3 : Int32)), .val (.int (1 : Int32)), .val (.int c2)] [])) _
  refine own_by (fun _ k => XS.iinc X7.here hx rfl (hb hby d_rm_comp5_3_32) rfl (l' := #[.val (.ref a1), .val (.int (2 : Int32)), .val (.ref b), .val (.int (1 : Int32)), .val (.int (3 : Int32)), .val (.int (1 : Int32)), .val (.int c2)]) rfl k) ?_
  show own_Go p e below (T7.setTop (mkF m 35 #[.val (.ref a1), .val (.int (2 : Int32)), .val (.ref b), .val (.int (1 : Int32)), .val (.int (3 : Int32)), .val (.int (1 : Int32)), .val (.int c2)] [])) _
  refine own_by (fun _ k => XS.iinc X7.here hx rfl (hb hby d_rm_comp5_3_35) rfl (l' := #[.val (.ref a1), .val (.int (2 : Int32)), .val (.ref b), .val (.int (2 : Int32)), .val (.int (3 : Int32)), .val (.int (1 : Int32)), .val (.int c2)]) rfl k) ?_
  show own_Go p e below (T7.setTop (mkF m 38 #[.val (.ref a1), .val (.int (2 : Int32)), .val (.ref b), .val (.int (2 : Int32)), .val (.int (3 : Int32)), .val (.int (1 : Int32)), .val (.int c2)] [])) _
  refine own_by (fun _ k => XS.iinc X7.here hx rfl (hb hby d_rm_comp5_3_38) rfl (l' := #[.val (.ref a1), .val (.int (2 : Int32)), .val (.ref b), .val (.int (2 : Int32)), .val (.int (3 : Int32)), .val (.int (2 : Int32)), .val (.int c2)]) rfl k) ?_
  show own_Go p e below (T7.setTop (mkF m 41 #[.val (.ref a1), .val (.int (2 : Int32)), .val (.ref b), .val (.int (2 : Int32)), .val (.int (3 : Int32)), .val (.int (2 : Int32)), .val (.int c2)] [])) _
  refine own_by (fun _ k => XS.goto X7.here hx rfl (pc0 := 41) (pc' := 3) rfl (hb hby d_rm_comp5_3_41) (by decide) (by decide) k) ?_
  show own_Go p e below (T7.setTop (mkF m 3 #[.val (.ref a1), .val (.int (2 : Int32)), .val (.ref b), .val (.int (2 : Int32)), .val (.int (3 : Int32)), .val (.int (2 : Int32)), .val (.int c2)] [])) _
  refine own_by (fun _ k => XS.iload X7.here hx rfl (hb hby d_rm_comp5_3_3) rfl k) ?_
  show own_Go p e below (T7.setTop (mkF m 5 #[.val (.ref a1), .val (.int (2 : Int32)), .val (.ref b), .val (.int (2 : Int32)), .val (.int (3 : Int32)), .val (.int (2 : Int32)), .val (.int c2)] [(.int (2 : Int32))])) _
  refine own_by (fun _ k => XS.iload X7.here hx rfl (hb hby d_rm_comp5_3_5) rfl k) ?_
  show own_Go p e below (T7.setTop (mkF m 7 #[.val (.ref a1), .val (.int (2 : Int32)), .val (.ref b), .val (.int (2 : Int32)), .val (.int (3 : Int32)), .val (.int (2 : Int32)), .val (.int c2)] [(.int (3 : Int32)), (.int (2 : Int32))])) _
  refine own_by (fun _ k => XS.icmpNo X7.here hx rfl (hb hby d_rm_comp5_3_7) rfl (tlt (by decide : (2 : Int32) < (3 : Int32))).2.1 k) ?_
  show own_Go p e below (T7.setTop (mkF m 10 #[.val (.ref a1), .val (.int (2 : Int32)), .val (.ref b), .val (.int (2 : Int32)), .val (.int (3 : Int32)), .val (.int (2 : Int32)), .val (.int c2)] [])) _
  refine own_by (fun _ k => XS.aloadN X7.here hx rfl (hb hby d_rm_comp5_3_10) rfl rfl k) ?_
  show own_Go p e below (T7.setTop (mkF m 11 #[.val (.ref a1), .val (.int (2 : Int32)), .val (.ref b), .val (.int (2 : Int32)), .val (.int (3 : Int32)), .val (.int (2 : Int32)), .val (.int c2)] [(.ref a1)])) _
  refine own_by (fun _ k => XS.iloadN X7.here hx rfl (hb hby d_rm_comp5_3_11) rfl k) ?_
  show own_Go p e below (T7.setTop (mkF m 12 #[.val (.ref a1), .val (.int (2 : Int32)), .val (.ref b), .val (.int (2 : Int32)), .val (.int (3 : Int32)), .val (.int (2 : Int32)), .val (.int c2)] [(.int (2 : Int32)), (.ref a1)])) _
  have fc8 : Arv Z h7 a1 ka .char (3 : Int32) [(.int c1), (.int c2), (.int c3)] (.int (0 : Int32)) := (fc4.other W7 (own_ne (by omega)))
  obtain ⟨cl9, Ar9, q9, S9, M9, H9, G9⟩ := (id fc8)
  have hin9 : ¬ ((2 : Int32) < 0 ∨ cl9.slots.size ≤ ((2 : Int32)).toNatClampNeg) := inb_of S9 ⟨by decide, by decide⟩
  refine own_by (X7.caload hx (j := (2 : Int32)) (v := (.int c3)) (by rw [e7]; exact Ar9.1) (State.isArrayOf_alike hZ.alike Ar9.2.1) Ar9.2.2 hin9 (H9.at hin9 rfl) (g := (mkF m 12 #[.val (.ref a1), .val (.int (2 : Int32)), .val (.ref b), .val (.int (2 : Int32)), .val (.int (3 : Int32)), .val (.int (2 : Int32)), .val (.int c2)] [(.int (2 : Int32)), (.ref a1)])) rfl rfl (hb hby d_rm_comp5_3_12)) ?_
  show own_Go p e below (T7.setTop (mkF m 13 #[.val (.ref a1), .val (.int (2 : Int32)), .val (.ref b), .val (.int (2 : Int32)), .val (.int (3 : Int32)), .val (.int (2 : Int32)), .val (.int c2)] [(.int c3)])) _
  refine own_by (fun _ k => XS.istore X7.here hx rfl (hb hby d_rm_comp5_3_13) rfl (l' := #[.val (.ref a1), .val (.int (2 : Int32)), .val (.ref b), .val (.int (2 : Int32)), .val (.int (3 : Int32)), .val (.int (2 : Int32)), .val (.int c3)]) rfl k) ?_
  show own_Go p e below (T7.setTop (mkF m 15 #[.val (.ref a1), .val (.int (2 : Int32)), .val (.ref b), .val (.int (2 : Int32)), .val (.int (3 : Int32)), .val (.int (2 : Int32)), .val (.int c3)] [])) _
  refine own_by (fun _ k => XS.iload X7.here hx rfl (hb hby d_rm_comp5_3_15) rfl k) ?_
  show own_Go p e below (T7.setTop (mkF m 17 #[.val (.ref a1), .val (.int (2 : Int32)), .val (.ref b), .val (.int (2 : Int32)), .val (.int (3 : Int32)), .val (.int (2 : Int32)), .val (.int c3)] [(.int c3)])) _
  refine own_by (fun _ k => XS.sipush X7.here hx rfl (hb hby d_rm_comp5_3_17) k) ?_
  show own_Go p e below (T7.setTop (mkF m 20 #[.val (.ref a1), .val (.int (2 : Int32)), .val (.ref b), .val (.int (2 : Int32)), .val (.int (3 : Int32)), .val (.int (2 : Int32)), .val (.int c3)] [(.int (255 : Int32)), (.int c3)])) _
  refine own_by (fun _ k => XS.icmpYes X7.here hx rfl (pc0 := 20) (pc' := 26) rfl (hb hby d_rm_comp5_3_20) rfl (flt rc3).2.2.2 (by decide) (by decide) k) ?_
  show own_Go p e below (T7.setTop (mkF m 26 #[.val (.ref a1), .val (.int (2 : Int32)), .val (.ref b), .val (.int (2 : Int32)), .val (.int (3 : Int32)), .val (.int (2 : Int32)), .val (.int c3)] [])) _
  refine own_by (fun _ k => XS.aloadN X7.here hx rfl (hb hby d_rm_comp5_3_26) rfl rfl k) ?_
  show own_Go p e below (T7.setTop (mkF m 27 #[.val (.ref a1), .val (.int (2 : Int32)), .val (.ref b), .val (.int (2 : Int32)), .val (.int (3 : Int32)), .val (.int (2 : Int32)), .val (.int c3)] [(.ref b)])) _
  refine own_by (fun _ k => XS.iloadN X7.here hx rfl (hb hby d_rm_comp5_3_27) rfl k) ?_
  show own_Go p e below (T7.setTop (mkF m 28 #[.val (.ref a1), .val (.int (2 : Int32)), .val (.ref b), .val (.int (2 : Int32)), .val (.int (3 : Int32)), .val (.int (2 : Int32)), .val (.int c3)] [(.int (2 : Int32)), (.ref b)])) _
  refine own_by (fun _ k => XS.iload X7.here hx rfl (hb hby d_rm_comp5_3_28) rfl k) ?_
  show own_Go p e below (T7.setTop (mkF m 30 #[.val (.ref a1), .val (.int (2 : Int32)), .val (.ref b), .val (.int (2 : Int32)), .val (.int (3 : Int32)), .val (.int (2 : Int32)), .val (.int c3)] [(.int c3), (.int (2 : Int32)), (.ref b)])) _
  refine own_by (fun _ k => XS.i2b X7.here hx rfl (hb hby d_rm_comp5_3_30) rfl k) ?_
  show own_Go p e below (T7.setTop (mkF m 31 #[.val (.ref a1), .val (.int (2 : Int32)), .val (.ref b), .val (.int (2 : Int32)), .val (.int (3 : Int32)), .val (.int (2 : Int32)), .val (.int c3)] [(.int (c3.toInt8.toInt32)), (.int (2 : Int32)), (.ref b)])) _
  have Vw10 : Arv Z h7 b kb .byte (3 : Int32) [(.int (own_b c1)), (.int (own_b c2)), (.int (0 : Int32))] (.int (0 : Int32)) := Vw7.pad (pad_rep [(.int (own_b c1)), (.int (own_b c2))] (.int (0 : Int32)) 1)
  obtain ⟨cl11, Ar11, q11, S11, M11, H11, G11⟩ := (id Vw10)
  have hin11 : ¬ ((2 : Int32) < 0 ∨ cl11.slots.size ≤ ((2 : Int32)).toNatClampNeg) := inb_of S11 ⟨by decide, by decide⟩
  obtain ⟨T11, h11, X11, e11, W11, st11⟩ := stB X7 hx hZ e7 Ar11 (j := (2 : Int32)) hin11 (g := (mkF m 31 #[.val (.ref a1), .val (.int (2 : Int32)), .val (.ref b), .val (.int (2 : Int32)), .val (.int (3 : Int32)), .val (.int (2 : Int32)), .val (.int c3)] [(.int (c3.toInt8.toInt32)), (.int (2 : Int32)), (.ref b)])) rfl rfl (hb hby d_rm_comp5_3_31)
  refine own_by st11 ?_
  have z11 := W11.size
  have N11 := Fr.snoc X11 N7 (by omega)
  have Vw11 : Arv Z h11 b kb .byte (3 : Int32) [(.int (own_b c1)), (.int (own_b c2)), (.int (own_b c3))] (.int (0 : Int32)) := Arv.set Ar11 q11 S11 M11 H11 G11 (fits_nar_byte2 _) W11 2 rfl (Nat.le_of_ble_eq_true rfl)
  show own_Go p e below (T11.setTop (mkF m 32 #[.val (.ref a1), .val (.int (2 : Int32)), .val (.ref b), .val (.int (2 : Int32)), .val (.int (3 : Int32)), .val (.int (2 : Int32)), .val (.int c3)] [])) _
  refine own_by (fun _ k => XS.iinc X11.here hx rfl (hb hby d_rm_comp5_3_32) rfl (l' := #[.val (.ref a1), .val (.int (3 : Int32)), .val (.ref b), .val (.int (2 : Int32)), .val (.int (3 : Int32)), .val (.int (2 : Int32)), .val (.int c3)]) rfl k) ?_
  show own_Go p e below (T11.setTop (mkF m 35 #[.val (.ref a1), .val (.int (3 : Int32)), .val (.ref b), .val (.int (2 : Int32)), .val (.int (3 : Int32)), .val (.int (2 : Int32)), .val (.int c3)] [])) _
  refine own_by (fun _ k => XS.iinc X11.here hx rfl (hb hby d_rm_comp5_3_35) rfl (l' := #[.val (.ref a1), .val (.int (3 : Int32)), .val (.ref b), .val (.int (3 : Int32)), .val (.int (3 : Int32)), .val (.int (2 : Int32)), .val (.int c3)]) rfl k) ?_
  show own_Go p e below (T11.setTop (mkF m 38 #[.val (.ref a1), .val (.int (3 : Int32)), .val (.ref b), .val (.int (3 : Int32)), .val (.int (3 : Int32)), .val (.int (2 : Int32)), .val (.int c3)] [])) _
  refine own_by (fun _ k => XS.iinc X11.here hx rfl (hb hby d_rm_comp5_3_38) rfl (l' := #[.val (.ref a1), .val (.int (3 : Int32)), .val (.ref b), .val (.int (3 : Int32)), .val (.int (3 : Int32)), .val (.int (3 : Int32)), .val (.int c3)]) rfl k) ?_
  show own_Go p e below (T11.setTop (mkF m 41 #[.val (.ref a1), .val (.int (3 : Int32)), .val (.ref b), .val (.int (3 : Int32)), .val (.int (3 : Int32)), .val (.int (3 : Int32)), .val (.int c3)] [])) _
  refine own_by (fun _ k => XS.goto X11.here hx rfl (pc0 := 41) (pc' := 3) rfl (hb hby d_rm_comp5_3_41) (by decide) (by decide) k) ?_
  show own_Go p e below (T11.setTop (mkF m 3 #[.val (.ref a1), .val (.int (3 : Int32)), .val (.ref b), .val (.int (3 : Int32)), .val (.int (3 : Int32)), .val (.int (3 : Int32)), .val (.int c3)] [])) _
  refine own_by (fun _ k => XS.iload X11.here hx rfl (hb hby d_rm_comp5_3_3) rfl k) ?_
  show own_Go p e below (T11.setTop (mkF m 5 #[.val (.ref a1), .val (.int (3 : Int32)), .val (.ref b), .val (.int (3 : Int32)), .val (.int (3 : Int32)), .val (.int (3 : Int32)), .val (.int c3)] [(.int (3 : Int32))])) _
  refine own_by (fun _ k => XS.iload X11.here hx rfl (hb hby d_rm_comp5_3_5) rfl k) ?_
  show own_Go p e below (T11.setTop (mkF m 7 #[.val (.ref a1), .val (.int (3 : Int32)), .val (.ref b), .val (.int (3 : Int32)), .val (.int (3 : Int32)), .val (.int (3 : Int32)), .val (.int c3)] [(.int (3 : Int32)), (.int (3 : Int32))])) _
  refine own_by (fun _ k => XS.icmpYes X11.here hx rfl (pc0 := 7) (pc' := 44) rfl (hb hby d_rm_comp5_3_7) rfl (flt (by decide : ¬ ((3 : Int32) < (3 : Int32)))).2.1 (by decide) (by decide) k) ?_
  show own_Go p e below (T11.setTop (mkF m 44 #[.val (.ref a1), .val (.int (3 : Int32)), .val (.ref b), .val (.int (3 : Int32)), .val (.int (3 : Int32)), .val (.int (3 : Int32)), .val (.int c3)] [])) _
  refine own_by (fun _ k => XS.iload X11.here hx rfl (hb hby d_rm_comp5_3_44) rfl k) ?_
  show own_Go p e below (T11.setTop (mkF m 46 #[.val (.ref a1), .val (.int (3 : Int32)), .val (.ref b), .val (.int (3 : Int32)), .val (.int (3 : Int32)), .val (.int (3 : Int32)), .val (.int c3)] [(.int (3 : Int32))])) _
  have K12 : Keep h0 h11 [b] := ((((Keep.refl h0 [b]).wr W3 (Or.inl (List.mem_of_getElem? (i := 0) rfl))).wr W7 (Or.inl (List.mem_of_getElem? (i := 0) rfl))).wr W11 (Or.inl (List.mem_of_getElem? (i := 0) rfl)))
  obtain ⟨fs, hr, hrun, hended, hW, hsame⟩ := X11.leave (v := some (.int (3 : Int32))) (fun h => by rw [Bd.returns] at h; cases h)
  refine ⟨_, _, retI X11 hx Bd.returns (hb hby d_rm_comp5_3_46) hr, hrun, hended, _, _, rfl, ?_, ⟨_, rfl⟩, hW, hsame.mono (by decide) (by decide)⟩
  show Q_rm_comp5_3 Z a1 b ka kb c1 c2 c3 h0 n0 _ T11.heap _
  rw [e11]
  exact ⟨rfl, N11, K12, Vw11⟩
theorem d_rm_comp3_3_0 : decode jdk_52_method_16_code 0 = .ok (.iload_n 2, 1) := by decide +kernel
theorem d_rm_comp3_3_1 : decode jdk_52_method_16_code 1 = .ok (.newarray .byte, 2) := by decide +kernel
theorem d_rm_comp3_3_3 : decode jdk_52_method_16_code 3 = .ok (.astore_n 3, 1) := by decide +kernel
theorem d_rm_comp3_3_4 : decode jdk_52_method_16_code 4 = .ok (.aload_n 0, 1) := by decide +kernel
theorem d_rm_comp3_3_5 : decode jdk_52_method_16_code 5 = .ok (.iload_n 1, 1) := by decide +kernel
theorem d_rm_comp3_3_6 : decode jdk_52_method_16_code 6 = .ok (.aload_n 3, 1) := by decide +kernel
theorem d_rm_comp3_3_7 : decode jdk_52_method_16_code 7 = .ok (.iconst 0, 1) := by decide +kernel
theorem d_rm_comp3_3_8 : decode jdk_52_method_16_code 8 = .ok (.iload_n 2, 1) := by decide +kernel
theorem d_rm_comp3_3_9 : decode jdk_52_method_16_code 9 = .ok (.invokestatic 115, 3) := by decide +kernel
theorem d_rm_comp3_3_12 : decode jdk_52_method_16_code 12 = .ok (.istore 4, 2) := by decide +kernel
theorem d_rm_comp3_3_14 : decode jdk_52_method_16_code 14 = .ok (.iload 4, 2) := by decide +kernel
theorem d_rm_comp3_3_16 : decode jdk_52_method_16_code 16 = .ok (.iload_n 2, 1) := by decide +kernel
theorem d_rm_comp3_3_17 : decode jdk_52_method_16_code 17 = .ok (.if_icmp .eq 40, 3) := by decide +kernel
theorem d_rm_comp3_3_57 : decode jdk_52_method_16_code 57 = .ok (.aload_n 3, 1) := by decide +kernel
theorem d_rm_comp3_3_58 : decode jdk_52_method_16_code 58 = .ok (.areturn, 1) := by decide +kernel
def Q_rm_comp3_3 (Z : State) (a1 : Addr) (ka : ClassId) (c1 : Int32) (c2 : Int32) (c3 : Int32) (h0 : Heap) (n0 : Nat) (v : Option Value) (h : Heap) (L : List Loc) : Prop := ∃ (b : Addr), ∃ (kb : ClassId), v = some (.ref b) ∧ Fr n0 L ∧ Keep h0 h [] ∧ Arv Z h b kb .byte (3 : Int32) [(.int (own_b c1)), (.int (own_b c2)), (.int (own_b c3))] (.int (0 : Int32)) ∧ h0.size ≤ b
theorem ef_rm_comp3_3 (m : MethodId) (a1 : Addr) (ka : ClassId) (c1 : Int32) (c2 : Int32) (c3 : Int32) : entryFrame m #[(.ref a1), (.int (0 : Int32)), (.int (3 : Int32))] 6 = mkF m 0 #[.val (.ref a1), .val (.int (0 : Int32)), .val (.int (3 : Int32)), .unset, .unset, .unset] [] := by first | (simp [entryFrame, mkF, argsToLocals, Value.category]; done) | rfl
set_option maxRecDepth 65536 in
set_option maxHeartbeats 40000000 in
theorem rm_comp3_3 (l : Launch) (Z : State) (a0 : Array Value) (hw : ∀ d ∈ tables_1, d.before a0 Z = true) (ws : List Jvm.Cond) (a1 : Addr) (ka : ClassId) (c1 : Int32) (c2 : Int32) (c3 : Int32) (h0 : Heap) (n0 : Nat) (O0 : Old Z n0 h0) (Va : Arv Z h0 a1 ka .char (3 : Int32) [(.int c1), (.int c2), (.int c3)] (.int (0 : Int32))) (rc1 : ¬ ((255 : Int32) < c1)) (rc2 : ¬ ((255 : Int32) < c2)) (rc3 : ¬ ((255 : Int32) < c3)) :
    MetFree l (⟨"java/lang/StringUTF16", "compress", "([CII)[B"⟩ : MethodName) (head1 (Jvm.Cond.code (⟨"java/lang/StringUTF16", "compress", "([CII)[B"⟩ : MethodName) jdk_52_method_16_code 6 (some (.array .byte)) :: ws) ({ frames := 1, cells := 1, slots := 3, locals := 18 } : Room)) (fun a U => a = #[(.ref a1), (.int (0 : Int32)), (.int (3 : Int32))] ∧ Z.Warmed39 U.vm ∧ U.heap = h0) (fun _ _ _ _ _ => True) (fun _ U o U' => ∃ v L, o = .returned v ∧ Q_rm_comp3_3 Z a1 ka c1 c2 c3 h0 n0 v U'.heap L ∧ FrameEnd U o U' L ({ frames := 1, cells := 1, slots := 3, locals := 18 } : Room).cells ({ frames := 1, cells := 1, slots := 3, locals := 18 } : Room).slots) := by
  refine MetFree.of_bodySF (plainFor_of_name own_pn_java_lang_StringUTF16) hisR ?_
  intro p e s m args below meth c s₁ Bd hml0 hP hK
  obtain ⟨rfl, hZ, hh⟩ := hP
  have hx := Bd.exec
  have hby := Bd.bytes
  have hml : c.maxLocals = 6 := hml0
  have hown : s.vm.findClass "java/lang/StringUTF16" = some m.cls := findClass_of_methodNamed Bd.named
  have hnm := (name_of_methodNamed Bd.named Bd.method).1
  have X0 : Stand p l e ({ frames := 1, cells := 1, slots := 3, locals := 18 } : Room) s m #[(.ref a1), (.int (0 : Int32)), (.int (3 : Int32))] below meth c s₁ [] 0 0 := Stand.of_body Bd
  have e0 : s₁.heap = h0 := by rw [← hh, Bd.state]; rfl
  have N0 := Fr.nil n0
  have Z0 : n0 ≤ h0.size := by rw [← O0.1]; exact O0.2.1
  show own_Go p e below (s₁.setTop (entryFrame m #[(.ref a1), (.int (0 : Int32)), (.int (3 : Int32))] 6)) (fun t o => ∃ v L, o = .returned v ∧ Q_rm_comp3_3 Z a1 ka c1 c2 c3 h0 n0 v t.heap L ∧ FrameEnd s o t L ({ frames := 1, cells := 1, slots := 3, locals := 18 } : Room).cells ({ frames := 1, cells := 1, slots := 3, locals := 18 } : Room).slots)
  rw [ef_rm_comp3_3 m a1 ka c1 c2 c3]
  have lt_Va : h0.size > a1 := Va.lt
  refine own_by (fun _ k => XS.iloadN X0.here hx rfl (hb hby d_rm_comp3_3_0) rfl k) ?_
  show own_Go p e below (s₁.setTop (mkF m 1 #[.val (.ref a1), .val (.int (0 : Int32)), .val (.int (3 : Int32)), .unset, .unset, .unset] [(.int (3 : Int32))])) _
  obtain ⟨T1, h1, k1, X1, e1, E1, A1, st1⟩ := newP X0 hx hZ (hw _ (List.mem_of_getElem? (i := 23) rfl)) e0 (g := (mkF m 1 #[.val (.ref a1), .val (.int (0 : Int32)), .val (.int (3 : Int32)), .unset, .unset, .unset] [(.int (3 : Int32))])) rfl (hb hby d_rm_comp3_3_1) rfl (by decide) (cap := 3) (by decide) (by decide) (by decide) (by decide)
  obtain ⟨ob1, g1⟩ : ∃ z, z = h0.size := ⟨_, rfl⟩
  rw [← g1] at A1 st1
  refine own_by st1 ?_
  have z1 := E1.1
  have Vw1 : Arv Z h1 ob1 k1 .byte (3 : Int32) [] (.int (0 : Int32)) := Arv.new A1 (by decide)
  have lt1 : h1.size > ob1 := Vw1.lt
  show own_Go p e below (T1.setTop (mkF m 3 #[.val (.ref a1), .val (.int (0 : Int32)), .val (.int (3 : Int32)), .unset, .unset, .unset] [(.ref ob1)])) _
  refine own_by (fun _ k => XS.astoreN X1.here hx rfl (hb hby d_rm_comp3_3_3) rfl rfl (l' := #[.val (.ref a1), .val (.int (0 : Int32)), .val (.int (3 : Int32)), .val (.ref ob1), .unset, .unset]) rfl k) ?_
  show own_Go p e below (T1.setTop (mkF m 4 #[.val (.ref a1), .val (.int (0 : Int32)), .val (.int (3 : Int32)), .val (.ref ob1), .unset, .unset] [])) _
  refine own_by (fun _ k => XS.aloadN X1.here hx rfl (hb hby d_rm_comp3_3_4) rfl rfl k) ?_
  show own_Go p e below (T1.setTop (mkF m 5 #[.val (.ref a1), .val (.int (0 : Int32)), .val (.int (3 : Int32)), .val (.ref ob1), .unset, .unset] [(.ref a1)])) _
  refine own_by (fun _ k => XS.iloadN X1.here hx rfl (hb hby d_rm_comp3_3_5) rfl k) ?_
  show own_Go p e below (T1.setTop (mkF m 6 #[.val (.ref a1), .val (.int (0 : Int32)), .val (.int (3 : Int32)), .val (.ref ob1), .unset, .unset] [(.int (0 : Int32)), (.ref a1)])) _
  refine own_by (fun _ k => XS.aloadN X1.here hx rfl (hb hby d_rm_comp3_3_6) rfl rfl k) ?_
  show own_Go p e below (T1.setTop (mkF m 7 #[.val (.ref a1), .val (.int (0 : Int32)), .val (.int (3 : Int32)), .val (.ref ob1), .unset, .unset] [(.ref ob1), (.int (0 : Int32)), (.ref a1)])) _
  refine own_by (fun _ k => XS.iconst X1.here hx rfl (hb hby d_rm_comp3_3_7) k) ?_
  show own_Go p e below (T1.setTop (mkF m 8 #[.val (.ref a1), .val (.int (0 : Int32)), .val (.int (3 : Int32)), .val (.ref ob1), .unset, .unset] [(.int (0 : Int32)), (.ref ob1), (.int (0 : Int32)), (.ref a1)])) _
  refine own_by (fun _ k => XS.iloadN X1.here hx rfl (hb hby d_rm_comp3_3_8) rfl k) ?_
  show own_Go p e below (T1.setTop (mkF m 9 #[.val (.ref a1), .val (.int (0 : Int32)), .val (.int (3 : Int32)), .val (.ref ob1), .unset, .unset] [(.int (3 : Int32)), (.int (0 : Int32)), (.ref ob1), (.int (0 : Int32)), (.ref a1)])) _
  have fc2 : Arv Z h1 a1 ka .char (3 : Int32) [(.int c1), (.int c2), (.int c3)] (.int (0 : Int32)) := (Va.ext E1)
  have O3 : Old Z n0 h1 := (O0.ext E1)
  obtain ⟨_, _, ⟨T4, L4, k4, n4⟩, -, X4, ⟨Lc4, hQ4, l4, y4, z4⟩, st4⟩ := Jvm.LawKit.callS X1 hx (y := (⟨"java/lang/StringUTF16", "compress", "([CI[BII)I"⟩ : MethodName)) hown (mvT hZ (hw _ (List.mem_of_getElem? (i := 24) rfl))) (mvT hZ (hw _ (List.mem_of_getElem? (i := 25) rfl))) (mvT hZ (hw _ (List.mem_of_getElem? (i := 21) rfl))) (mvT hZ (hw _ (List.mem_of_getElem? (i := 26) rfl))) (by decide) (backOf (W := 0) (rm_comp5_3 l Z a0 hw [] a1 ob1 ka k1 c1 c2 c3 h1 n0 O3 fc2 Vw1 rc1 rc2 rc3 (by first | assumption | omega | decide) (by first | assumption | omega | decide)) hZ (hw _ (List.mem_of_getElem? (i := 26) rfl)) (hw _ (List.mem_of_getElem? (i := 21) rfl)) (by decide) (by decide)) (g := (mkF m 9 #[.val (.ref a1), .val (.int (0 : Int32)), .val (.int (3 : Int32)), .val (.ref ob1), .unset, .unset] [(.int (3 : Int32)), (.int (0 : Int32)), (.ref ob1), (.int (0 : Int32)), (.ref a1)])) rfl (by rw [hml]; rfl) (argsL := [(.ref a1), (.int (0 : Int32)), (.ref ob1), (.int (0 : Int32)), (.int (3 : Int32))]) (rest := []) (lenOf own_pd__28_5bCI_5bBII_29I rfl) rfl (by show 2 * 0 + _ ≤ _; exact Nat.le_of_eq rfl) (hb hby d_rm_comp3_3_9) (fun _ _ => ⟨rfl, e1, (by decide : 1 + 0 ≤ _), (by decide : 3 + 0 ≤ _)⟩)
  dsimp only [Pt.U, Pt.locs, Pt.cells, Pt.slots] at X4 l4 y4 z4 st4 hQ4
  subst l4 y4 z4
  obtain ⟨rfl, M4, K4, g4_0⟩ := hQ4
  have N4 := Fr.app N0 M4
  refine own_by st4 ?_
  have z4 := K4.1
  have lt_g4_0 : T4.heap.size > ob1 := g4_0.lt
  show own_Go p e below (T4.setTop (mkF m 12 #[.val (.ref a1), .val (.int (0 : Int32)), .val (.int (3 : Int32)), .val (.ref ob1), .unset, .unset] [(.int (3 : Int32))])) _
  refine own_by (fun _ k => XS.istore X4.here hx rfl (hb hby d_rm_comp3_3_12) rfl (l' := #[.val (.ref a1), .val (.int (0 : Int32)), .val (.int (3 : Int32)), .val (.ref ob1), .val (.int (3 : Int32)), .unset]) rfl k) ?_
  show own_Go p e below (T4.setTop (mkF m 14 #[.val (.ref a1), .val (.int (0 : Int32)), .val (.int (3 : Int32)), .val (.ref ob1), .val (.int (3 : Int32)), .unset] [])) _
  refine own_by (fun _ k => XS.iload X4.here hx rfl (hb hby d_rm_comp3_3_14) rfl k) ?_
  show own_Go p e below (T4.setTop (mkF m 16 #[.val (.ref a1), .val (.int (0 : Int32)), .val (.int (3 : Int32)), .val (.ref ob1), .val (.int (3 : Int32)), .unset] [(.int (3 : Int32))])) _
  refine own_by (fun _ k => XS.iloadN X4.here hx rfl (hb hby d_rm_comp3_3_16) rfl k) ?_
  show own_Go p e below (T4.setTop (mkF m 17 #[.val (.ref a1), .val (.int (0 : Int32)), .val (.int (3 : Int32)), .val (.ref ob1), .val (.int (3 : Int32)), .unset] [(.int (3 : Int32)), (.int (3 : Int32))])) _
  refine own_by (fun _ k => XS.icmpYes X4.here hx rfl (pc0 := 17) (pc' := 57) rfl (hb hby d_rm_comp3_3_17) rfl (teq (by decide : (3 : Int32) = (3 : Int32))).1 (by decide) (by decide) k) ?_
  show own_Go p e below (T4.setTop (mkF m 57 #[.val (.ref a1), .val (.int (0 : Int32)), .val (.int (3 : Int32)), .val (.ref ob1), .val (.int (3 : Int32)), .unset] [])) _
  refine own_by (fun _ k => XS.aloadN X4.here hx rfl (hb hby d_rm_comp3_3_57) rfl rfl k) ?_
  show own_Go p e below (T4.setTop (mkF m 58 #[.val (.ref a1), .val (.int (0 : Int32)), .val (.int (3 : Int32)), .val (.ref ob1), .val (.int (3 : Int32)), .unset] [(.ref ob1)])) _
  have K5 : Keep h0 T4.heap [] := (((Keep.refl h0 []).ext E1).trans K4 (allS (P := fun x => x ∈ [] ∨ h0.size ≤ x) (Or.inr (by omega)) all0))
  obtain ⟨fs, hr, hrun, hended, hW, hsame⟩ := X4.leave (v := some (.ref ob1)) (fun h => by rw [Bd.returns] at h; cases h)
  refine ⟨_, _, retOut X4 hx Bd.returns (own_narrow_ref (by decide) rfl) (Or.inr (Or.inr (Or.inr (Or.inr ⟨rfl, by decide, rfl⟩)))) (hb hby d_rm_comp3_3_58) hr, hrun, hended, _, _, rfl, ?_, ⟨_, rfl⟩, hW, hsame.mono (by decide) (by decide)⟩
  show Q_rm_comp3_3 Z a1 ka c1 c2 c3 h0 n0 _ T4.heap _
  exact ⟨ob1, k1, rfl, N4, K5, g4_0, (by first | assumption | omega)⟩
theorem d_rm_cfal_3_0 : decode jdk_52_method_15_code 0 = .ok (.iload_n 1, 1) := by decide +kernel
theorem d_rm_cfal_3_1 : decode jdk_52_method_15_code 1 = .ok (.aload_n 0, 1) := by decide +kernel
theorem d_rm_cfal_3_2 : decode jdk_52_method_15_code 2 = .ok (.arraylength, 1) := by decide +kernel
theorem d_rm_cfal_3_3 : decode jdk_52_method_15_code 3 = .ok (.isub, 1) := by decide +kernel
theorem d_rm_cfal_3_4 : decode jdk_52_method_15_code 4 = .ok (.bipush 31, 2) := by decide +kernel
theorem d_rm_cfal_3_6 : decode jdk_52_method_15_code 6 = .ok (.iushr, 1) := by decide +kernel
theorem d_rm_cfal_3_7 : decode jdk_52_method_15_code 7 = .ok (.i2b, 1) := by decide +kernel
theorem d_rm_cfal_3_8 : decode jdk_52_method_15_code 8 = .ok (.ireturn, 1) := by decide +kernel
def Q_rm_cfal_3 (Z : State) (b : Addr) (kb : ClassId) (d1 : Int32) (d2 : Int32) (d3 : Int32) (h0 : Heap) (n0 : Nat) (v : Option Value) (h : Heap) (L : List Loc) : Prop := v = some (.int (0 : Int32)) ∧ Fr n0 L ∧ h = h0
theorem ef_rm_cfal_3 (m : MethodId) (b : Addr) (kb : ClassId) (d1 : Int32) (d2 : Int32) (d3 : Int32) : entryFrame m #[(.ref b), (.int (3 : Int32))] 2 = mkF m 0 #[.val (.ref b), .val (.int (3 : Int32))] [] := by first | (simp [entryFrame, mkF, argsToLocals, Value.category]; done) | rfl
set_option maxRecDepth 65536 in
set_option maxHeartbeats 40000000 in
theorem rm_cfal_3 (l : Launch) (Z : State) (a0 : Array Value) (hw : ∀ d ∈ tables_1, d.before a0 Z = true) (ws : List Jvm.Cond) (b : Addr) (kb : ClassId) (d1 : Int32) (d2 : Int32) (d3 : Int32) (h0 : Heap) (n0 : Nat) (O0 : Old Z n0 h0) (Vb : Arv Z h0 b kb .byte (3 : Int32) [(.int d1), (.int d2), (.int d3)] (.int (0 : Int32))) :
    MetFree l (⟨"java/lang/StringUTF16", "coderFromArrayLen", "([BI)B"⟩ : MethodName) (head1 (Jvm.Cond.code (⟨"java/lang/StringUTF16", "coderFromArrayLen", "([BI)B"⟩ : MethodName) jdk_52_method_15_code 2 (some .byte) :: ws) ({ frames := 0, cells := 0, slots := 0, locals := 0 } : Room)) (fun a U => a = #[(.ref b), (.int (3 : Int32))] ∧ Z.Warmed39 U.vm ∧ U.heap = h0) (fun _ _ _ _ _ => True) (fun _ U o U' => ∃ v L, o = .returned v ∧ Q_rm_cfal_3 Z b kb d1 d2 d3 h0 n0 v U'.heap L ∧ FrameEnd U o U' L ({ frames := 0, cells := 0, slots := 0, locals := 0 } : Room).cells ({ frames := 0, cells := 0, slots := 0, locals := 0 } : Room).slots) := by
  refine MetFree.of_bodySF (plainFor_of_name own_pn_java_lang_StringUTF16) hisR ?_
  intro p e s m args below meth c s₁ Bd hml0 hP hK
  obtain ⟨rfl, hZ, hh⟩ := hP
  have hx := Bd.exec
  have hby := Bd.bytes
  have hml : c.maxLocals = 2 := hml0
  have hown : s.vm.findClass "java/lang/StringUTF16" = some m.cls := findClass_of_methodNamed Bd.named
  have hnm := (name_of_methodNamed Bd.named Bd.method).1
  have X0 : Stand p l e ({ frames := 0, cells := 0, slots := 0, locals := 0 } : Room) s m #[(.ref b), (.int (3 : Int32))] below meth c s₁ [] 0 0 := Stand.of_body Bd
  have e0 : s₁.heap = h0 := by rw [← hh, Bd.state]; rfl
  have N0 := Fr.nil n0
  have Z0 : n0 ≤ h0.size := by rw [← O0.1]; exact O0.2.1
  show own_Go p e below (s₁.setTop (entryFrame m #[(.ref b), (.int (3 : Int32))] 2)) (fun t o => ∃ v L, o = .returned v ∧ Q_rm_cfal_3 Z b kb d1 d2 d3 h0 n0 v t.heap L ∧ FrameEnd s o t L ({ frames := 0, cells := 0, slots := 0, locals := 0 } : Room).cells ({ frames := 0, cells := 0, slots := 0, locals := 0 } : Room).slots)
  rw [ef_rm_cfal_3 m b kb d1 d2 d3]
  have lt_Vb : h0.size > b := Vb.lt
  refine own_by (fun _ k => XS.iloadN X0.here hx rfl (hb hby d_rm_cfal_3_0) rfl k) ?_
  show own_Go p e below (s₁.setTop (mkF m 1 #[.val (.ref b), .val (.int (3 : Int32))] [(.int (3 : Int32))])) _
  refine own_by (fun _ k => XS.aloadN X0.here hx rfl (hb hby d_rm_cfal_3_1) rfl rfl k) ?_
  show own_Go p e below (s₁.setTop (mkF m 2 #[.val (.ref b), .val (.int (3 : Int32))] [(.ref b), (.int (3 : Int32))])) _
  obtain ⟨cl1, Ar1, q1, S1, M1, H1, G1⟩ := (id Vb)
  refine own_by (X0.arraylength hx (by rw [e0]; exact Ar1.1) (State.isArrayOf_alike hZ.alike Ar1.2.1) (g := (mkF m 2 #[.val (.ref b), .val (.int (3 : Int32))] [(.ref b), (.int (3 : Int32))])) rfl rfl (hb hby d_rm_cfal_3_2)) ?_
  rw [len_of S1 M1]
  show own_Go p e below (s₁.setTop (mkF m 3 #[.val (.ref b), .val (.int (3 : Int32))] [(.int (3 : Int32)), (.int (3 : Int32))])) _
  refine own_by (fun _ k => XS.isub X0.here hx rfl (hb hby d_rm_cfal_3_3) rfl k) ?_
  show own_Go p e below (s₁.setTop (mkF m 4 #[.val (.ref b), .val (.int (3 : Int32))] [(.int (0 : Int32))])) _
  refine own_by (fun _ k => XS.bipush X0.here hx rfl (hb hby d_rm_cfal_3_4) k) ?_
  show own_Go p e below (s₁.setTop (mkF m 6 #[.val (.ref b), .val (.int (3 : Int32))] [(.int (31 : Int32)), (.int (0 : Int32))])) _
  refine own_by (fun _ k => XS.iushr X0.here hx rfl (hb hby d_rm_cfal_3_6) rfl k) ?_
  show own_Go p e below (s₁.setTop (mkF m 7 #[.val (.ref b), .val (.int (3 : Int32))] [(.int (0 : Int32))])) _
  refine own_by (fun _ k => XS.i2b X0.here hx rfl (hb hby d_rm_cfal_3_7) rfl k) ?_
  show own_Go p e below (s₁.setTop (mkF m 8 #[.val (.ref b), .val (.int (3 : Int32))] [(.int (0 : Int32))])) _
  obtain ⟨fs, hr, hrun, hended, hW, hsame⟩ := X0.leave (v := some (.int (0 : Int32))) (fun h => by rw [Bd.returns] at h; cases h)
  refine ⟨_, _, retN X0 hx (t := .byte) Bd.returns (by simp) (hb hby d_rm_cfal_3_8) hr, hrun, hended, _, _, rfl, ?_, ⟨_, rfl⟩, hW, hsame.mono (by decide) (by decide)⟩
  show Q_rm_cfal_3 Z b kb d1 d2 d3 h0 n0 _ s₁.heap _
  rw [e0]
  exact ⟨rfl, N0, rfl⟩
theorem d_rm_sinit4_3_0 : decode jdk_42_method_149_code 0 = .ok (.aload_n 0, 1) := by decide +kernel
theorem d_rm_sinit4_3_1 : decode jdk_42_method_149_code 1 = .ok (.invokespecial 1, 3) := by decide +kernel
theorem d_rm_sinit4_3_4 : decode jdk_42_method_149_code 4 = .ok (.iload_n 3, 1) := by decide +kernel
theorem d_rm_sinit4_3_5 : decode jdk_42_method_149_code 5 = .ok (.ifCond .ne 22, 3) := by decide +kernel
theorem d_rm_sinit4_3_27 : decode jdk_42_method_149_code 27 = .ok (.getstatic 38, 3) := by decide +kernel
theorem d_rm_sinit4_3_30 : decode jdk_42_method_149_code 30 = .ok (.ifCond .eq 28, 3) := by decide +kernel
theorem d_rm_sinit4_3_33 : decode jdk_42_method_149_code 33 = .ok (.aload_n 1, 1) := by decide +kernel
theorem d_rm_sinit4_3_34 : decode jdk_42_method_149_code 34 = .ok (.iload_n 2, 1) := by decide +kernel
theorem d_rm_sinit4_3_35 : decode jdk_42_method_149_code 35 = .ok (.iload_n 3, 1) := by decide +kernel
theorem d_rm_sinit4_3_36 : decode jdk_42_method_149_code 36 = .ok (.invokestatic 177, 3) := by decide +kernel
theorem d_rm_sinit4_3_39 : decode jdk_42_method_149_code 39 = .ok (.astore 5, 2) := by decide +kernel
theorem d_rm_sinit4_3_41 : decode jdk_42_method_149_code 41 = .ok (.aload_n 0, 1) := by decide +kernel
theorem d_rm_sinit4_3_42 : decode jdk_42_method_149_code 42 = .ok (.aload 5, 2) := by decide +kernel
theorem d_rm_sinit4_3_44 : decode jdk_42_method_149_code 44 = .ok (.iload_n 3, 1) := by decide +kernel
theorem d_rm_sinit4_3_45 : decode jdk_42_method_149_code 45 = .ok (.invokestatic 47, 3) := by decide +kernel
theorem d_rm_sinit4_3_48 : decode jdk_42_method_149_code 48 = .ok (.putfield 15, 3) := by decide +kernel
theorem d_rm_sinit4_3_51 : decode jdk_42_method_149_code 51 = .ok (.aload_n 0, 1) := by decide +kernel
theorem d_rm_sinit4_3_52 : decode jdk_42_method_149_code 52 = .ok (.aload 5, 2) := by decide +kernel
theorem d_rm_sinit4_3_54 : decode jdk_42_method_149_code 54 = .ok (.putfield 9, 3) := by decide +kernel
theorem d_rm_sinit4_3_57 : decode jdk_42_method_149_code 57 = .ok (.return_, 1) := by decide +kernel
def Q_rm_sinit4_3 (Z : State) (t1 : Addr) (a1 : Addr) (ka : ClassId) (cs : Int32) (c1 : Int32) (c2 : Int32) (c3 : Int32) (h0 : Heap) (n0 : Nat) (v : Option Value) (h : Heap) (L : List Loc) : Prop := ∃ (b : Addr), ∃ (kb : ClassId), v = none ∧ Fr n0 L ∧ Keep h0 h [t1] ∧ Exa Z h t1 "java/lang/String" ∧ Fld Z h t1 "java/lang/String" "coder" "B" (.int (0 : Int32)) ∧ Fld Z h t1 "java/lang/String" "value" "[B" (.ref b) ∧ Arv Z h b kb .byte (3 : Int32) [(.int (own_b c1)), (.int (own_b c2)), (.int (own_b c3))] (.int (0 : Int32)) ∧ h0.size ≤ b
theorem ef_rm_sinit4_3 (m : MethodId) (t1 : Addr) (a1 : Addr) (ka : ClassId) (cs : Int32) (c1 : Int32) (c2 : Int32) (c3 : Int32) : entryFrame m #[(.ref t1), (.ref a1), (.int (0 : Int32)), (.int (3 : Int32)), .null] 6 = mkF m 0 #[.val (.ref t1), .val (.ref a1), .val (.int (0 : Int32)), .val (.int (3 : Int32)), .val .null, .unset] [] := by first | (simp [entryFrame, mkF, argsToLocals, Value.category]; done) | rfl
set_option maxRecDepth 65536 in
set_option maxHeartbeats 40000000 in
theorem rm_sinit4_3 (l : Launch) (Z : State) (a0 : Array Value) (hw : ∀ d ∈ tables_1, d.before a0 Z = true) (ws : List Jvm.Cond) (t1 : Addr) (a1 : Addr) (ka : ClassId) (cs : Int32) (c1 : Int32) (c2 : Int32) (c3 : Int32) (h0 : Heap) (n0 : Nat) (O0 : Old Z n0 h0) (S_COMPACT : Sta Z Z.heap "java/lang/String" "COMPACT_STRINGS" "Z" (.int cs)) (Et : Exa Z h0 t1 "java/lang/String") (Fv : Fld Z h0 t1 "java/lang/String" "value" "[B" .null) (Fc : Fld Z h0 t1 "java/lang/String" "coder" "B" (.int (0 : Int32))) (Va : Arv Z h0 a1 ka .char (3 : Int32) [(.int c1), (.int c2), (.int c3)] (.int (0 : Int32))) (rc1 : ¬ ((255 : Int32) < c1)) (rc2 : ¬ ((255 : Int32) < c2)) (rc3 : ¬ ((255 : Int32) < c3)) (gt : n0 ≤ t1) (hcs : ¬ (cs = (0 : Int32))) (nta : ¬ (@Eq Nat a1 t1)) :
    MetFree l (⟨"java/lang/String", "<init>", "([CIILjava/lang/Void;)V"⟩ : MethodName) (head1 (Jvm.Cond.code (⟨"java/lang/String", "<init>", "([CIILjava/lang/Void;)V"⟩ : MethodName) jdk_42_method_149_code 6 none :: ws) ({ frames := 2, cells := 1, slots := 3, locals := 35 } : Room)) (fun a U => a = #[(.ref t1), (.ref a1), (.int (0 : Int32)), (.int (3 : Int32)), .null] ∧ Z.Warmed39 U.vm ∧ U.heap = h0) (fun _ _ _ _ _ => True) (fun _ U o U' => ∃ v L, o = .returned v ∧ Q_rm_sinit4_3 Z t1 a1 ka cs c1 c2 c3 h0 n0 v U'.heap L ∧ FrameEnd U o U' L ({ frames := 2, cells := 1, slots := 3, locals := 35 } : Room).cells ({ frames := 2, cells := 1, slots := 3, locals := 35 } : Room).slots) := by
  refine MetFree.of_bodySF (plainFor_of_name own_pn_java_lang_String) hisR ?_
  intro p e s m args below meth c s₁ Bd hml0 hP hK
  obtain ⟨rfl, hZ, hh⟩ := hP
  have hx := Bd.exec
  have hby := Bd.bytes
  have hml : c.maxLocals = 6 := hml0
  have hown : s.vm.findClass "java/lang/String" = some m.cls := findClass_of_methodNamed Bd.named
  have hnm := (name_of_methodNamed Bd.named Bd.method).1
  have X0 : Stand p l e ({ frames := 2, cells := 1, slots := 3, locals := 35 } : Room) s m #[(.ref t1), (.ref a1), (.int (0 : Int32)), (.int (3 : Int32)), .null] below meth c s₁ [] 0 0 := Stand.of_body Bd
  have e0 : s₁.heap = h0 := by rw [← hh, Bd.state]; rfl
  have N0 := Fr.nil n0
  have Z0 : n0 ≤ h0.size := by rw [← O0.1]; exact O0.2.1
  show own_Go p e below (s₁.setTop (entryFrame m #[(.ref t1), (.ref a1), (.int (0 : Int32)), (.int (3 : Int32)), .null] 6)) (fun t o => ∃ v L, o = .returned v ∧ Q_rm_sinit4_3 Z t1 a1 ka cs c1 c2 c3 h0 n0 v t.heap L ∧ FrameEnd s o t L ({ frames := 2, cells := 1, slots := 3, locals := 35 } : Room).cells ({ frames := 2, cells := 1, slots := 3, locals := 35 } : Room).slots)
  rw [ef_rm_sinit4_3 m t1 a1 ka cs c1 c2 c3]
  have lt_Et : h0.size > t1 := Et.lt
  have lt_Fv : h0.size > t1 := Fv.lt
  have lt_Fc : h0.size > t1 := Fc.lt
  have lt_Va : h0.size > a1 := Va.lt
  refine own_by (fun _ k => XS.aloadN X0.here hx rfl (hb hby d_rm_sinit4_3_0) rfl rfl k) ?_
  show own_Go p e below (s₁.setTop (mkF m 1 #[.val (.ref t1), .val (.ref a1), .val (.int (0 : Int32)), .val (.int (3 : Int32)), .val .null, .unset] [(.ref t1)])) _
  obtain ⟨T1, X1, e1, st1⟩ := initO X0 hx hZ hown (hw _ (List.mem_of_getElem? (i := 15) rfl)) (hw _ (List.mem_of_getElem? (i := 16) rfl)) (hw _ (List.mem_of_getElem? (i := 17) rfl)) e0 (g := (mkF m 1 #[.val (.ref t1), .val (.ref a1), .val (.int (0 : Int32)), .val (.int (3 : Int32)), .val .null, .unset] [(.ref t1)])) rfl (by rw [hml]; rfl) rfl (hb hby d_rm_sinit4_3_1) (by decide) (W := 0) (by show 2 * 0 + _ ≤ _; exact Nat.le_of_eq rfl) (by decide)
  refine own_by st1 ?_
  show own_Go p e below (T1.setTop (mkF m 4 #[.val (.ref t1), .val (.ref a1), .val (.int (0 : Int32)), .val (.int (3 : Int32)), .val .null, .unset] [])) _
  refine own_by (fun _ k => XS.iloadN X1.here hx rfl (hb hby d_rm_sinit4_3_4) rfl k) ?_
  show own_Go p e below (T1.setTop (mkF m 5 #[.val (.ref t1), .val (.ref a1), .val (.int (0 : Int32)), .val (.int (3 : Int32)), .val .null, .unset] [(.int (3 : Int32))])) _
  refine own_by (fun _ k => XS.ifYes X1.here hx rfl (pc0 := 5) (pc' := 27) rfl (hb hby d_rm_sinit4_3_5) rfl ((if0 _ _).trans (feq (by decide : ¬ ((3 : Int32) = (0 : Int32)))).2) (by decide) (by decide) k) ?_
  show own_Go p e below (T1.setTop (mkF m 27 #[.val (.ref t1), .val (.ref a1), .val (.int (0 : Int32)), .val (.int (3 : Int32)), .val .null, .unset] [])) _
  obtain ⟨T2, X2, e2, st2⟩ := getS2 X1 hx hZ hown (host := "") (Or.inl (hw _ (List.mem_of_getElem? (i := 18) rfl))) Via.refl e1 (S_COMPACT.ext O0.2) (g := (mkF m 27 #[.val (.ref t1), .val (.ref a1), .val (.int (0 : Int32)), .val (.int (3 : Int32)), .val .null, .unset] [])) rfl (hb hby d_rm_sinit4_3_27)
  refine own_by st2 ?_
  show own_Go p e below (T2.setTop (mkF m 30 #[.val (.ref t1), .val (.ref a1), .val (.int (0 : Int32)), .val (.int (3 : Int32)), .val .null, .unset] [(.int cs)])) _
  refine own_by (fun _ k => XS.ifNo X2.here hx rfl (hb hby d_rm_sinit4_3_30) rfl ((if0 _ _).trans (feq hcs).1) k) ?_
  show own_Go p e below (T2.setTop (mkF m 33 #[.val (.ref t1), .val (.ref a1), .val (.int (0 : Int32)), .val (.int (3 : Int32)), .val .null, .unset] [])) _
  refine own_by (fun _ k => XS.aloadN X2.here hx rfl (hb hby d_rm_sinit4_3_33) rfl rfl k) ?_
  show own_Go p e below (T2.setTop (mkF m 34 #[.val (.ref t1), .val (.ref a1), .val (.int (0 : Int32)), .val (.int (3 : Int32)), .val .null, .unset] [(.ref a1)])) _
  refine own_by (fun _ k => XS.iloadN X2.here hx rfl (hb hby d_rm_sinit4_3_34) rfl k) ?_
  show own_Go p e below (T2.setTop (mkF m 35 #[.val (.ref t1), .val (.ref a1), .val (.int (0 : Int32)), .val (.int (3 : Int32)), .val .null, .unset] [(.int (0 : Int32)), (.ref a1)])) _
  refine own_by (fun _ k => XS.iloadN X2.here hx rfl (hb hby d_rm_sinit4_3_35) rfl k) ?_
  show own_Go p e below (T2.setTop (mkF m 36 #[.val (.ref t1), .val (.ref a1), .val (.int (0 : Int32)), .val (.int (3 : Int32)), .val .null, .unset] [(.int (3 : Int32)), (.int (0 : Int32)), (.ref a1)])) _
  obtain ⟨_, _, ⟨T3, L3, k3, n3⟩, -, X3, ⟨Lc3, hQ3, l3, y3, z3⟩, st3⟩ := Jvm.LawKit.callS X2 hx (y := (⟨"java/lang/StringUTF16", "compress", "([CII)[B"⟩ : MethodName)) hown (mvT hZ (hw _ (List.mem_of_getElem? (i := 19) rfl))) (mvT hZ (hw _ (List.mem_of_getElem? (i := 20) rfl))) (mvT hZ (hw _ (List.mem_of_getElem? (i := 21) rfl))) (mvT hZ (hw _ (List.mem_of_getElem? (i := 22) rfl))) (by decide) (backOf (W := 0) (rm_comp3_3 l Z a0 hw [] a1 ka c1 c2 c3 h0 n0 O0 Va rc1 rc2 rc3) hZ (hw _ (List.mem_of_getElem? (i := 22) rfl)) (hw _ (List.mem_of_getElem? (i := 21) rfl)) (by decide) (by decide)) (g := (mkF m 36 #[.val (.ref t1), .val (.ref a1), .val (.int (0 : Int32)), .val (.int (3 : Int32)), .val .null, .unset] [(.int (3 : Int32)), (.int (0 : Int32)), (.ref a1)])) rfl (by rw [hml]; rfl) (argsL := [(.ref a1), (.int (0 : Int32)), (.int (3 : Int32))]) (rest := []) (lenOf own_pd__28_5bCII_29_5bB rfl) rfl (by show 2 * 0 + _ ≤ _; exact Nat.le_of_eq rfl) (hb hby d_rm_sinit4_3_36) (fun _ _ => ⟨rfl, e2, (by decide : 0 + 1 ≤ _), (by decide : 0 + 3 ≤ _)⟩)
  dsimp only [Pt.U, Pt.locs, Pt.cells, Pt.slots] at X3 l3 y3 z3 st3 hQ3
  subst l3 y3 z3
  obtain ⟨b_3, kb_3, rfl, M3, K3, g3_0, r3_0⟩ := hQ3
  have N3 := Fr.app N0 M3
  refine own_by st3 ?_
  have z3 := K3.1
  have lt_g3_0 : T3.heap.size > b_3 := g3_0.lt
  show own_Go p e below (T3.setTop (mkF m 39 #[.val (.ref t1), .val (.ref a1), .val (.int (0 : Int32)), .val (.int (3 : Int32)), .val .null, .unset] [(.ref b_3)])) _
  refine own_by (fun _ k => XS.astore X3.here hx rfl (hb hby d_rm_sinit4_3_39) rfl rfl (l' := #[.val (.ref t1), .val (.ref a1), .val (.int (0 : Int32)), .val (.int (3 : Int32)), .val .null, .val (.ref b_3)]) rfl k) ?_
  show own_Go p e below (T3.setTop (mkF m 41 #[.val (.ref t1), .val (.ref a1), .val (.int (0 : Int32)), .val (.int (3 : Int32)), .val .null, .val (.ref b_3)] [])) _
  refine own_by (fun _ k => XS.aloadN X3.here hx rfl (hb hby d_rm_sinit4_3_41) rfl rfl k) ?_
  show own_Go p e below (T3.setTop (mkF m 42 #[.val (.ref t1), .val (.ref a1), .val (.int (0 : Int32)), .val (.int (3 : Int32)), .val .null, .val (.ref b_3)] [(.ref t1)])) _
  refine own_by (fun _ k => XS.aload X3.here hx rfl (hb hby d_rm_sinit4_3_42) rfl rfl k) ?_
  show own_Go p e below (T3.setTop (mkF m 44 #[.val (.ref t1), .val (.ref a1), .val (.int (0 : Int32)), .val (.int (3 : Int32)), .val .null, .val (.ref b_3)] [(.ref b_3), (.ref t1)])) _
  refine own_by (fun _ k => XS.iloadN X3.here hx rfl (hb hby d_rm_sinit4_3_44) rfl k) ?_
  show own_Go p e below (T3.setTop (mkF m 45 #[.val (.ref t1), .val (.ref a1), .val (.int (0 : Int32)), .val (.int (3 : Int32)), .val .null, .val (.ref b_3)] [(.int (3 : Int32)), (.ref b_3), (.ref t1)])) _
  have O4 : Old Z n0 T3.heap := (O0.keep K3 all0)
  obtain ⟨_, _, ⟨T5, L5, k5, n5⟩, -, X5, ⟨Lc5, hQ5, l5, y5, z5⟩, st5⟩ := Jvm.LawKit.callS X3 hx (y := (⟨"java/lang/StringUTF16", "coderFromArrayLen", "([BI)B"⟩ : MethodName)) hown (mvT hZ (hw _ (List.mem_of_getElem? (i := 27) rfl))) (mvT hZ (hw _ (List.mem_of_getElem? (i := 28) rfl))) (mvT hZ (hw _ (List.mem_of_getElem? (i := 21) rfl))) (mvT hZ (hw _ (List.mem_of_getElem? (i := 29) rfl))) (by decide) (backOf (W := 1) (rm_cfal_3 l Z a0 hw [] b_3 kb_3 (own_b c1) (own_b c2) (own_b c3) T3.heap n0 O4 g3_0) hZ (hw _ (List.mem_of_getElem? (i := 29) rfl)) (hw _ (List.mem_of_getElem? (i := 21) rfl)) (by decide) (by decide)) (g := (mkF m 45 #[.val (.ref t1), .val (.ref a1), .val (.int (0 : Int32)), .val (.int (3 : Int32)), .val .null, .val (.ref b_3)] [(.int (3 : Int32)), (.ref b_3), (.ref t1)])) rfl (by rw [hml]; rfl) (argsL := [(.ref b_3), (.int (3 : Int32))]) (rest := [(.ref t1)]) (lenOf own_pd__28_5bBI_29B rfl) rfl (by show 2 * 0 + _ ≤ _; exact Nat.le_of_eq rfl) (hb hby d_rm_sinit4_3_45) (fun _ _ => ⟨rfl, rfl, (by decide : 1 + 0 ≤ _), (by decide : 3 + 0 ≤ _)⟩)
  dsimp only [Pt.U, Pt.locs, Pt.cells, Pt.slots] at X5 l5 y5 z5 st5 hQ5
  subst l5 y5 z5
  obtain ⟨rfl, M5, K5⟩ := hQ5
  have N5 := Fr.app N3 M5
  refine own_by st5 ?_
  show own_Go p e below (T5.setTop (mkF m 48 #[.val (.ref t1), .val (.ref a1), .val (.int (0 : Int32)), .val (.int (3 : Int32)), .val .null, .val (.ref b_3)] [(.int (0 : Int32)), (.ref t1)])) _
  have fc6 : Fld Z T3.heap t1 "java/lang/String" "coder" "B" (.int (0 : Int32)) := (Fc.keep K3 nin0)
  have fc7 : Exa Z T3.heap t1 "java/lang/String" := (Et.keep K3)
  obtain ⟨T8, h8, X8, e8, W8, st8⟩ := putFN X5 hx hZ hown (hw _ (List.mem_of_getElem? (i := 30) rfl)) Via.refl K5 fc6 fc7 (Or.inr ⟨(hw _ (List.mem_of_getElem? (i := 31) rfl)), rfl, hnm⟩) (hw _ (List.mem_of_getElem? (i := 5) rfl)) (ty := .byte) (v' := (.int (0 : Int32))) (by decide) rfl rfl (g := (mkF m 48 #[.val (.ref t1), .val (.ref a1), .val (.int (0 : Int32)), .val (.int (3 : Int32)), .val .null, .val (.ref b_3)] [(.int (0 : Int32)), (.ref t1)])) rfl rfl (hb hby d_rm_sinit4_3_48)
  refine own_by st8 ?_
  have z8 := W8.size
  have N8 := Fr.snoc X8 N5 (by omega)
  have Fw8 : Fld Z h8 t1 "java/lang/String" "coder" "B" (.int (0 : Int32)) := fc6.same W8
  show own_Go p e below (T8.setTop (mkF m 51 #[.val (.ref t1), .val (.ref a1), .val (.int (0 : Int32)), .val (.int (3 : Int32)), .val .null, .val (.ref b_3)] [])) _
  refine own_by (fun _ k => XS.aloadN X8.here hx rfl (hb hby d_rm_sinit4_3_51) rfl rfl k) ?_
  show own_Go p e below (T8.setTop (mkF m 52 #[.val (.ref t1), .val (.ref a1), .val (.int (0 : Int32)), .val (.int (3 : Int32)), .val .null, .val (.ref b_3)] [(.ref t1)])) _
  refine own_by (fun _ k => XS.aload X8.here hx rfl (hb hby d_rm_sinit4_3_52) rfl rfl k) ?_
  show own_Go p e below (T8.setTop (mkF m 54 #[.val (.ref t1), .val (.ref a1), .val (.int (0 : Int32)), .val (.int (3 : Int32)), .val .null, .val (.ref b_3)] [(.ref b_3), (.ref t1)])) _
  have fc9 : Fld Z h8 t1 "java/lang/String" "value" "[B" .null := ((Fv.keep K3 nin0).other W8 (Or.inr (slot_ne (a0 := a0) (Or.inr (hw _ (List.mem_of_getElem? (i := 33) rfl))) (Or.inr (hw _ (List.mem_of_getElem? (i := 31) rfl))) (by decide) (t := (.array .byte)) (by decide) (t' := .byte) (by decide))))
  have fc10 : Exa Z h8 t1 "java/lang/String" := (fc7.wr W8)
  obtain ⟨T11, h11, X11, e11, W11, st11⟩ := putF X8 hx hZ hown (host := "") (Or.inl (hw _ (List.mem_of_getElem? (i := 32) rfl))) Via.refl e8 fc9 fc10 (Or.inr ⟨(hw _ (List.mem_of_getElem? (i := 33) rfl)), rfl, hnm⟩) (hw _ (List.mem_of_getElem? (i := 5) rfl)) (ty := (.array .byte)) (by decide) rfl rfl (g := (mkF m 54 #[.val (.ref t1), .val (.ref a1), .val (.int (0 : Int32)), .val (.int (3 : Int32)), .val .null, .val (.ref b_3)] [(.ref b_3), (.ref t1)])) rfl rfl (hb hby d_rm_sinit4_3_54)
  refine own_by st11 ?_
  have z11 := W11.size
  have N11 := Fr.snoc X11 N8 (by omega)
  have Fw11 : Fld Z h11 t1 "java/lang/String" "value" "[B" (.ref b_3) := fc9.same W11
  show own_Go p e below (T11.setTop (mkF m 57 #[.val (.ref t1), .val (.ref a1), .val (.int (0 : Int32)), .val (.int (3 : Int32)), .val .null, .val (.ref b_3)] [])) _
  have fc12 : Exa Z h11 t1 "java/lang/String" := (fc10.wr W11)
  have fc13 : Fld Z h11 t1 "java/lang/String" "coder" "B" (.int (0 : Int32)) := (Fw8.other W11 (Or.inr (slot_ne (a0 := a0) (Or.inr (hw _ (List.mem_of_getElem? (i := 31) rfl))) (Or.inr (hw _ (List.mem_of_getElem? (i := 33) rfl))) (by decide) (t := .byte) (by decide) (t' := (.array .byte)) (by decide))))
  have fc14 : Arv Z h11 b_3 kb_3 .byte (3 : Int32) [(.int (own_b c1)), (.int (own_b c2)), (.int (own_b c3))] (.int (0 : Int32)) := ((g3_0.other W8 (own_ne (by omega))).other W11 (own_ne (by omega)))
  have K15 : Keep h0 h11 [t1] := ((((Keep.refl h0 [t1]).trans K3 all0).wr W8 (Or.inl (List.mem_of_getElem? (i := 0) rfl))).wr W11 (Or.inl (List.mem_of_getElem? (i := 0) rfl)))
  obtain ⟨fs, hr, hrun, hended, hW, hsame⟩ := X11.leave (v := none) (fun h => rfl)
  refine ⟨_, _, X11.returnOut hx Bd.returns (hb hby d_rm_sinit4_3_57) hr, hrun, hended, _, _, rfl, ?_, ⟨_, rfl⟩, hW, hsame.mono (by decide) (by decide)⟩
  show Q_rm_sinit4_3 Z t1 a1 ka cs c1 c2 c3 h0 n0 _ T11.heap _
  rw [e11]
  exact ⟨b_3, kb_3, rfl, N11, K15, fc12, fc13, Fw11, fc14, (by first | assumption | omega)⟩
theorem d_rm_sinit_3_0 : decode jdk_42_method_3_code 0 = .ok (.aload_n 0, 1) := by decide +kernel
theorem d_rm_sinit_3_1 : decode jdk_42_method_3_code 1 = .ok (.aload_n 1, 1) := by decide +kernel
theorem d_rm_sinit_3_2 : decode jdk_42_method_3_code 2 = .ok (.iconst 0, 1) := by decide +kernel
theorem d_rm_sinit_3_3 : decode jdk_42_method_3_code 3 = .ok (.aload_n 1, 1) := by decide +kernel
theorem d_rm_sinit_3_4 : decode jdk_42_method_3_code 4 = .ok (.arraylength, 1) := by decide +kernel
theorem d_rm_sinit_3_5 : decode jdk_42_method_3_code 5 = .ok (.aconst_null, 1) := by decide +kernel
theorem d_rm_sinit_3_6 : decode jdk_42_method_3_code 6 = .ok (.invokespecial 27, 3) := by decide +kernel
theorem d_rm_sinit_3_9 : decode jdk_42_method_3_code 9 = .ok (.return_, 1) := by decide +kernel
def Q_rm_sinit_3 (Z : State) (t1 : Addr) (a1 : Addr) (ka : ClassId) (cs : Int32) (c1 : Int32) (c2 : Int32) (c3 : Int32) (h0 : Heap) (n0 : Nat) (v : Option Value) (h : Heap) (L : List Loc) : Prop := ∃ (b : Addr), ∃ (kb : ClassId), v = none ∧ Fr n0 L ∧ Keep h0 h [t1] ∧ Exa Z h t1 "java/lang/String" ∧ Fld Z h t1 "java/lang/String" "coder" "B" (.int (0 : Int32)) ∧ Fld Z h t1 "java/lang/String" "value" "[B" (.ref b) ∧ Arv Z h b kb .byte (3 : Int32) [(.int (own_b c1)), (.int (own_b c2)), (.int (own_b c3))] (.int (0 : Int32)) ∧ h0.size ≤ b
theorem ef_rm_sinit_3 (m : MethodId) (t1 : Addr) (a1 : Addr) (ka : ClassId) (cs : Int32) (c1 : Int32) (c2 : Int32) (c3 : Int32) : entryFrame m #[(.ref t1), (.ref a1)] 2 = mkF m 0 #[.val (.ref t1), .val (.ref a1)] [] := by first | (simp [entryFrame, mkF, argsToLocals, Value.category]; done) | rfl
set_option maxRecDepth 65536 in
set_option maxHeartbeats 40000000 in
theorem rm_sinit_3 (l : Launch) (Z : State) (a0 : Array Value) (hw : ∀ d ∈ tables_1, d.before a0 Z = true) (ws : List Jvm.Cond) (t1 : Addr) (a1 : Addr) (ka : ClassId) (cs : Int32) (c1 : Int32) (c2 : Int32) (c3 : Int32) (h0 : Heap) (n0 : Nat) (O0 : Old Z n0 h0) (S_COMPACT : Sta Z Z.heap "java/lang/String" "COMPACT_STRINGS" "Z" (.int cs)) (Et : Exa Z h0 t1 "java/lang/String") (Fv : Fld Z h0 t1 "java/lang/String" "value" "[B" .null) (Fc : Fld Z h0 t1 "java/lang/String" "coder" "B" (.int (0 : Int32))) (Va : Arv Z h0 a1 ka .char (3 : Int32) [(.int c1), (.int c2), (.int c3)] (.int (0 : Int32))) (rc1 : ¬ ((255 : Int32) < c1)) (rc2 : ¬ ((255 : Int32) < c2)) (rc3 : ¬ ((255 : Int32) < c3)) (gt : n0 ≤ t1) (hcs : ¬ (cs = (0 : Int32))) (nta : ¬ (@Eq Nat a1 t1)) :
    MetFree l (⟨"java/lang/String", "<init>", "([C)V"⟩ : MethodName) (head1 (Jvm.Cond.code (⟨"java/lang/String", "<init>", "([C)V"⟩ : MethodName) jdk_42_method_3_code 2 none :: ws) ({ frames := 3, cells := 1, slots := 3, locals := 52 } : Room)) (fun a U => a = #[(.ref t1), (.ref a1)] ∧ Z.Warmed39 U.vm ∧ U.heap = h0) (fun _ _ _ _ _ => True) (fun _ U o U' => ∃ v L, o = .returned v ∧ Q_rm_sinit_3 Z t1 a1 ka cs c1 c2 c3 h0 n0 v U'.heap L ∧ FrameEnd U o U' L ({ frames := 3, cells := 1, slots := 3, locals := 52 } : Room).cells ({ frames := 3, cells := 1, slots := 3, locals := 52 } : Room).slots) := by
  refine MetFree.of_bodySF (plainFor_of_name own_pn_java_lang_String) hisR ?_
  intro p e s m args below meth c s₁ Bd hml0 hP hK
  obtain ⟨rfl, hZ, hh⟩ := hP
  have hx := Bd.exec
  have hby := Bd.bytes
  have hml : c.maxLocals = 2 := hml0
  have hown : s.vm.findClass "java/lang/String" = some m.cls := findClass_of_methodNamed Bd.named
  have hnm := (name_of_methodNamed Bd.named Bd.method).1
  have X0 : Stand p l e ({ frames := 3, cells := 1, slots := 3, locals := 52 } : Room) s m #[(.ref t1), (.ref a1)] below meth c s₁ [] 0 0 := Stand.of_body Bd
  have e0 : s₁.heap = h0 := by rw [← hh, Bd.state]; rfl
  have N0 := Fr.nil n0
  have Z0 : n0 ≤ h0.size := by rw [← O0.1]; exact O0.2.1
  show own_Go p e below (s₁.setTop (entryFrame m #[(.ref t1), (.ref a1)] 2)) (fun t o => ∃ v L, o = .returned v ∧ Q_rm_sinit_3 Z t1 a1 ka cs c1 c2 c3 h0 n0 v t.heap L ∧ FrameEnd s o t L ({ frames := 3, cells := 1, slots := 3, locals := 52 } : Room).cells ({ frames := 3, cells := 1, slots := 3, locals := 52 } : Room).slots)
  rw [ef_rm_sinit_3 m t1 a1 ka cs c1 c2 c3]
  have lt_Et : h0.size > t1 := Et.lt
  have lt_Fv : h0.size > t1 := Fv.lt
  have lt_Fc : h0.size > t1 := Fc.lt
  have lt_Va : h0.size > a1 := Va.lt
  refine own_by (fun _ k => XS.aloadN X0.here hx rfl (hb hby d_rm_sinit_3_0) rfl rfl k) ?_
  show own_Go p e below (s₁.setTop (mkF m 1 #[.val (.ref t1), .val (.ref a1)] [(.ref t1)])) _
  refine own_by (fun _ k => XS.aloadN X0.here hx rfl (hb hby d_rm_sinit_3_1) rfl rfl k) ?_
  show own_Go p e below (s₁.setTop (mkF m 2 #[.val (.ref t1), .val (.ref a1)] [(.ref a1), (.ref t1)])) _
  refine own_by (fun _ k => XS.iconst X0.here hx rfl (hb hby d_rm_sinit_3_2) k) ?_
  show own_Go p e below (s₁.setTop (mkF m 3 #[.val (.ref t1), .val (.ref a1)] [(.int (0 : Int32)), (.ref a1), (.ref t1)])) _
  refine own_by (fun _ k => XS.aloadN X0.here hx rfl (hb hby d_rm_sinit_3_3) rfl rfl k) ?_
  show own_Go p e below (s₁.setTop (mkF m 4 #[.val (.ref t1), .val (.ref a1)] [(.ref a1), (.int (0 : Int32)), (.ref a1), (.ref t1)])) _
  obtain ⟨cl1, Ar1, q1, S1, M1, H1, G1⟩ := (id Va)
  refine own_by (X0.arraylength hx (by rw [e0]; exact Ar1.1) (State.isArrayOf_alike hZ.alike Ar1.2.1) (g := (mkF m 4 #[.val (.ref t1), .val (.ref a1)] [(.ref a1), (.int (0 : Int32)), (.ref a1), (.ref t1)])) rfl rfl (hb hby d_rm_sinit_3_4)) ?_
  rw [len_of S1 M1]
  show own_Go p e below (s₁.setTop (mkF m 5 #[.val (.ref t1), .val (.ref a1)] [(.int (3 : Int32)), (.int (0 : Int32)), (.ref a1), (.ref t1)])) _
  refine own_by (fun _ k => XS.aconstNull X0.here hx rfl (hb hby d_rm_sinit_3_5) k) ?_
  show own_Go p e below (s₁.setTop (mkF m 6 #[.val (.ref t1), .val (.ref a1)] [.null, (.int (3 : Int32)), (.int (0 : Int32)), (.ref a1), (.ref t1)])) _
  obtain ⟨_, _, ⟨T2, L2, k2, n2⟩, -, X2, ⟨Lc2, hQ2, l2, y2, z2⟩, st2⟩ := X0.specialBack hx (y := (⟨"java/lang/String", "<init>", "([CIILjava/lang/Void;)V"⟩ : MethodName)) rfl hown (mvT hZ (hw _ (List.mem_of_getElem? (i := 11) rfl))) (mvT hZ (hw _ (List.mem_of_getElem? (i := 12) rfl))) (mvT hZ (hw _ (List.mem_of_getElem? (i := 14) rfl))) (by decide) (backOf (W := 0) (rm_sinit4_3 l Z a0 hw [] t1 a1 ka cs c1 c2 c3 h0 n0 O0 S_COMPACT Et Fv Fc Va rc1 rc2 rc3 gt hcs nta) hZ (hw _ (List.mem_of_getElem? (i := 14) rfl)) (hw _ (List.mem_of_getElem? (i := 6) rfl)) (by decide) (by decide)) (g := (mkF m 6 #[.val (.ref t1), .val (.ref a1)] [.null, (.int (3 : Int32)), (.int (0 : Int32)), (.ref a1), (.ref t1)])) rfl (by rw [hml]; rfl) (Steps.refl _) (a := t1) (argsL := [(.ref a1), (.int (0 : Int32)), (.int (3 : Int32)), .null]) (rest := []) (lenOf own_pd__28_5bCIILjava_2flang_2fVoid_3b_29V rfl) rfl (by show 2 * 0 + _ ≤ _; exact Nat.le_of_eq rfl) (hb hby d_rm_sinit_3_6) (fun _ _ => ⟨rfl, e0, (by decide : 0 + 1 ≤ _), (by decide : 0 + 3 ≤ _)⟩)
  dsimp only [Pt.U, Pt.locs, Pt.cells, Pt.slots] at X2 l2 y2 z2 st2 hQ2
  subst l2 y2 z2
  obtain ⟨b_2, kb_2, rfl, M2, K2, g2_0, g2_1, g2_2, g2_3, r2_0⟩ := hQ2
  have N2 := Fr.app N0 M2
  refine own_by (fun _ k => st2.trans k) ?_
  have z2 := K2.1
  have lt_g2_0 : T2.heap.size > t1 := g2_0.lt
  have lt_g2_1 : T2.heap.size > t1 := g2_1.lt
  have lt_g2_2 : T2.heap.size > t1 := g2_2.lt
  have lt_g2_3 : T2.heap.size > b_2 := g2_3.lt
  show own_Go p e below (T2.setTop (mkF m 9 #[.val (.ref t1), .val (.ref a1)] [])) _
  have K3 : Keep h0 T2.heap [t1] := ((Keep.refl h0 [t1]).trans K2 (allS (P := fun x => x ∈ [t1] ∨ h0.size ≤ x) (Or.inl (List.mem_of_getElem? (i := 0) rfl)) all0))
  obtain ⟨fs, hr, hrun, hended, hW, hsame⟩ := X2.leave (v := none) (fun h => rfl)
  refine ⟨_, _, X2.returnOut hx Bd.returns (hb hby d_rm_sinit_3_9) hr, hrun, hended, _, _, rfl, ?_, ⟨_, rfl⟩, hW, hsame.mono (by decide) (by decide)⟩
  show Q_rm_sinit_3 Z t1 a1 ka cs c1 c2 c3 h0 n0 _ T2.heap _
  exact ⟨b_2, kb_2, rfl, N2, K3, g2_0, g2_1, g2_2, g2_3, (by first | assumption | omega)⟩
theorem d_rm_canenc_0 : decode jdk_43_method_3_code 0 = .ok (.iload_n 0, 1) := by decide +kernel
theorem d_rm_canenc_1 : decode jdk_43_method_3_code 1 = .ok (.sipush 255, 3) := by decide +kernel
theorem d_rm_canenc_4 : decode jdk_43_method_3_code 4 = .ok (.if_icmp .gt 7, 3) := by decide +kernel
theorem d_rm_canenc_7 : decode jdk_43_method_3_code 7 = .ok (.iconst 1, 1) := by decide +kernel
theorem d_rm_canenc_8 : decode jdk_43_method_3_code 8 = .ok (.goto 4, 3) := by decide +kernel
theorem d_rm_canenc_12 : decode jdk_43_method_3_code 12 = .ok (.ireturn, 1) := by decide +kernel
def Q_rm_canenc (Z : State) (c1 : Int32) (h0 : Heap) (n0 : Nat) (v : Option Value) (h : Heap) (L : List Loc) : Prop := v = some (.int (1 : Int32)) ∧ Fr n0 L ∧ h = h0
theorem ef_rm_canenc (m : MethodId) (c1 : Int32) : entryFrame m #[(.int c1)] 1 = mkF m 0 #[.val (.int c1)] [] := by first | (simp [entryFrame, mkF, argsToLocals, Value.category]; done) | rfl
set_option maxRecDepth 65536 in
set_option maxHeartbeats 40000000 in
theorem rm_canenc (l : Launch) (Z : State) (a0 : Array Value) (hw : ∀ d ∈ tables_1, d.before a0 Z = true) (ws : List Jvm.Cond) (c1 : Int32) (h0 : Heap) (n0 : Nat) (O0 : Old Z n0 h0) (rc1 : ¬ ((255 : Int32) < c1)) :
    MetFree l (⟨"java/lang/StringLatin1", "canEncode", "(C)Z"⟩ : MethodName) (head1 (Jvm.Cond.code (⟨"java/lang/StringLatin1", "canEncode", "(C)Z"⟩ : MethodName) jdk_43_method_3_code 1 (some .boolean) :: ws) ({ frames := 0, cells := 0, slots := 0, locals := 0 } : Room)) (fun a U => a = #[(.int c1)] ∧ Z.Warmed39 U.vm ∧ U.heap = h0) (fun _ _ _ _ _ => True) (fun _ U o U' => ∃ v L, o = .returned v ∧ Q_rm_canenc Z c1 h0 n0 v U'.heap L ∧ FrameEnd U o U' L ({ frames := 0, cells := 0, slots := 0, locals := 0 } : Room).cells ({ frames := 0, cells := 0, slots := 0, locals := 0 } : Room).slots) := by
  refine MetFree.of_bodySF (plainFor_of_name own_pn_java_lang_StringLatin1) hisR ?_
  intro p e s m args below meth c s₁ Bd hml0 hP hK
  obtain ⟨rfl, hZ, hh⟩ := hP
  have hx := Bd.exec
  have hby := Bd.bytes
  have hml : c.maxLocals = 1 := hml0
  have hown : s.vm.findClass "java/lang/StringLatin1" = some m.cls := findClass_of_methodNamed Bd.named
  have hnm := (name_of_methodNamed Bd.named Bd.method).1
  have X0 : Stand p l e ({ frames := 0, cells := 0, slots := 0, locals := 0 } : Room) s m #[(.int c1)] below meth c s₁ [] 0 0 := Stand.of_body Bd
  have e0 : s₁.heap = h0 := by rw [← hh, Bd.state]; rfl
  have N0 := Fr.nil n0
  have Z0 : n0 ≤ h0.size := by rw [← O0.1]; exact O0.2.1
  show own_Go p e below (s₁.setTop (entryFrame m #[(.int c1)] 1)) (fun t o => ∃ v L, o = .returned v ∧ Q_rm_canenc Z c1 h0 n0 v t.heap L ∧ FrameEnd s o t L ({ frames := 0, cells := 0, slots := 0, locals := 0 } : Room).cells ({ frames := 0, cells := 0, slots := 0, locals := 0 } : Room).slots)
  rw [ef_rm_canenc m c1]
  refine own_by (fun _ k => XS.iloadN X0.here hx rfl (hb hby d_rm_canenc_0) rfl k) ?_
  show own_Go p e below (s₁.setTop (mkF m 1 #[.val (.int c1)] [(.int c1)])) _
  refine own_by (fun _ k => XS.sipush X0.here hx rfl (hb hby d_rm_canenc_1) k) ?_
  show own_Go p e below (s₁.setTop (mkF m 4 #[.val (.int c1)] [(.int (255 : Int32)), (.int c1)])) _
  refine own_by (fun _ k => XS.icmpNo X0.here hx rfl (hb hby d_rm_canenc_4) rfl (flt rc1).2.2.1 k) ?_
  show own_Go p e below (s₁.setTop (mkF m 7 #[.val (.int c1)] [])) _
  refine own_by (fun _ k => XS.iconst X0.here hx rfl (hb hby d_rm_canenc_7) k) ?_
  show own_Go p e below (s₁.setTop (mkF m 8 #[.val (.int c1)] [(.int (1 : Int32))])) _
  refine own_by (fun _ k => XS.goto X0.here hx rfl (pc0 := 8) (pc' := 12) rfl (hb hby d_rm_canenc_8) (by decide) (by decide) k) ?_
  show own_Go p e below (s₁.setTop (mkF m 12 #[.val (.int c1)] [(.int (1 : Int32))])) _
  obtain ⟨fs, hr, hrun, hended, hW, hsame⟩ := X0.leave (v := some (.int (1 : Int32))) (fun h => by rw [Bd.returns] at h; cases h)
  refine ⟨_, _, retN X0 hx (t := .boolean) Bd.returns (by simp) (hb hby d_rm_canenc_12) hr, hrun, hended, _, _, rfl, ?_, ⟨_, rfl⟩, hW, hsame.mono (by decide) (by decide)⟩
  show Q_rm_canenc Z c1 h0 n0 _ s₁.heap _
  rw [e0]
  exact ⟨rfl, N0, rfl⟩
theorem d_rm_tobytes_0 : decode jdk_43_method_46_code 0 = .ok (.iconst 1, 1) := by decide +kernel
theorem d_rm_tobytes_1 : decode jdk_43_method_46_code 1 = .ok (.newarray .byte, 2) := by decide +kernel
theorem d_rm_tobytes_3 : decode jdk_43_method_46_code 3 = .ok (.dup, 1) := by decide +kernel
theorem d_rm_tobytes_4 : decode jdk_43_method_46_code 4 = .ok (.iconst 0, 1) := by decide +kernel
theorem d_rm_tobytes_5 : decode jdk_43_method_46_code 5 = .ok (.iload_n 0, 1) := by decide +kernel
theorem d_rm_tobytes_6 : decode jdk_43_method_46_code 6 = .ok (.i2b, 1) := by decide +kernel
theorem d_rm_tobytes_7 : decode jdk_43_method_46_code 7 = .ok (.bastore, 1) := by decide +kernel
theorem d_rm_tobytes_8 : decode jdk_43_method_46_code 8 = .ok (.areturn, 1) := by decide +kernel
def Q_rm_tobytes (Z : State) (c1 : Int32) (h0 : Heap) (n0 : Nat) (v : Option Value) (h : Heap) (L : List Loc) : Prop := ∃ (b : Addr), ∃ (kb : ClassId), v = some (.ref b) ∧ Fr n0 L ∧ Keep h0 h [] ∧ Arv Z h b kb .byte (1 : Int32) [(.int (own_b c1))] (.int (0 : Int32)) ∧ h0.size ≤ b
theorem ef_rm_tobytes (m : MethodId) (c1 : Int32) : entryFrame m #[(.int c1)] 1 = mkF m 0 #[.val (.int c1)] [] := by first | (simp [entryFrame, mkF, argsToLocals, Value.category]; done) | rfl
set_option maxRecDepth 65536 in
set_option maxHeartbeats 40000000 in
theorem rm_tobytes (l : Launch) (Z : State) (a0 : Array Value) (hw : ∀ d ∈ tables_1, d.before a0 Z = true) (ws : List Jvm.Cond) (c1 : Int32) (h0 : Heap) (n0 : Nat) (O0 : Old Z n0 h0) :
    MetFree l (⟨"java/lang/StringLatin1", "toBytes", "(C)[B"⟩ : MethodName) (head1 (Jvm.Cond.code (⟨"java/lang/StringLatin1", "toBytes", "(C)[B"⟩ : MethodName) jdk_43_method_46_code 1 (some (.array .byte)) :: ws) ({ frames := 0, cells := 1, slots := 1, locals := 0 } : Room)) (fun a U => a = #[(.int c1)] ∧ Z.Warmed39 U.vm ∧ U.heap = h0) (fun _ _ _ _ _ => True) (fun _ U o U' => ∃ v L, o = .returned v ∧ Q_rm_tobytes Z c1 h0 n0 v U'.heap L ∧ FrameEnd U o U' L ({ frames := 0, cells := 1, slots := 1, locals := 0 } : Room).cells ({ frames := 0, cells := 1, slots := 1, locals := 0 } : Room).slots) := by
  refine MetFree.of_bodySF (plainFor_of_name own_pn_java_lang_StringLatin1) hisR ?_
  intro p e s m args below meth c s₁ Bd hml0 hP hK
  obtain ⟨rfl, hZ, hh⟩ := hP
  have hx := Bd.exec
  have hby := Bd.bytes
  have hml : c.maxLocals = 1 := hml0
  have hown : s.vm.findClass "java/lang/StringLatin1" = some m.cls := findClass_of_methodNamed Bd.named
  have hnm := (name_of_methodNamed Bd.named Bd.method).1
  have X0 : Stand p l e ({ frames := 0, cells := 1, slots := 1, locals := 0 } : Room) s m #[(.int c1)] below meth c s₁ [] 0 0 := Stand.of_body Bd
  have e0 : s₁.heap = h0 := by rw [← hh, Bd.state]; rfl
  have N0 := Fr.nil n0
  have Z0 : n0 ≤ h0.size := by rw [← O0.1]; exact O0.2.1
  show own_Go p e below (s₁.setTop (entryFrame m #[(.int c1)] 1)) (fun t o => ∃ v L, o = .returned v ∧ Q_rm_tobytes Z c1 h0 n0 v t.heap L ∧ FrameEnd s o t L ({ frames := 0, cells := 1, slots := 1, locals := 0 } : Room).cells ({ frames := 0, cells := 1, slots := 1, locals := 0 } : Room).slots)
  rw [ef_rm_tobytes m c1]
  refine own_by (fun _ k => XS.iconst X0.here hx rfl (hb hby d_rm_tobytes_0) k) ?_
  show own_Go p e below (s₁.setTop (mkF m 1 #[.val (.int c1)] [(.int (1 : Int32))])) _
  obtain ⟨T1, h1, k1, X1, e1, E1, A1, st1⟩ := newP X0 hx hZ (hw _ (List.mem_of_getElem? (i := 23) rfl)) e0 (g := (mkF m 1 #[.val (.int c1)] [(.int (1 : Int32))])) rfl (hb hby d_rm_tobytes_1) rfl (by decide) (cap := 1) (by decide) (by decide) (by decide) (by decide)
  obtain ⟨ob1, g1⟩ : ∃ z, z = h0.size := ⟨_, rfl⟩
  rw [← g1] at A1 st1
  refine own_by st1 ?_
  have z1 := E1.1
  have Vw1 : Arv Z h1 ob1 k1 .byte (1 : Int32) [] (.int (0 : Int32)) := Arv.new A1 (by decide)
  have lt1 : h1.size > ob1 := Vw1.lt
  show own_Go p e below (T1.setTop (mkF m 3 #[.val (.int c1)] [(.ref ob1)])) _
  refine own_by (fun _ k => XS.dup X1.here hx rfl (hb hby d_rm_tobytes_3) rfl rfl k) ?_
  show own_Go p e below (T1.setTop (mkF m 4 #[.val (.int c1)] [(.ref ob1), (.ref ob1)])) _
  refine own_by (fun _ k => XS.iconst X1.here hx rfl (hb hby d_rm_tobytes_4) k) ?_
  show own_Go p e below (T1.setTop (mkF m 5 #[.val (.int c1)] [(.int (0 : Int32)), (.ref ob1), (.ref ob1)])) _
  refine own_by (fun _ k => XS.iloadN X1.here hx rfl (hb hby d_rm_tobytes_5) rfl k) ?_
  show own_Go p e below (T1.setTop (mkF m 6 #[.val (.int c1)] [(.int c1), (.int (0 : Int32)), (.ref ob1), (.ref ob1)])) _
  refine own_by (fun _ k => XS.i2b X1.here hx rfl (hb hby d_rm_tobytes_6) rfl k) ?_
  show own_Go p e below (T1.setTop (mkF m 7 #[.val (.int c1)] [(.int (c1.toInt8.toInt32)), (.int (0 : Int32)), (.ref ob1), (.ref ob1)])) _
  have Vw2 : Arv Z h1 ob1 k1 .byte (1 : Int32) [(.int (0 : Int32))] (.int (0 : Int32)) := Vw1.pad (pad_rep [] (.int (0 : Int32)) 1)
  obtain ⟨cl3, Ar3, q3, S3, M3, H3, G3⟩ := (id Vw2)
  have hin3 : ¬ ((0 : Int32) < 0 ∨ cl3.slots.size ≤ ((0 : Int32)).toNatClampNeg) := inb_of S3 ⟨by decide, by decide⟩
  obtain ⟨T3, h3, X3, e3, W3, st3⟩ := stB X1 hx hZ e1 Ar3 (j := (0 : Int32)) hin3 (g := (mkF m 7 #[.val (.int c1)] [(.int (c1.toInt8.toInt32)), (.int (0 : Int32)), (.ref ob1), (.ref ob1)])) rfl rfl (hb hby d_rm_tobytes_7)
  refine own_by st3 ?_
  have z3 := W3.size
  have N3 := Fr.snoc X3 N0 (by omega)
  have Vw3 : Arv Z h3 ob1 k1 .byte (1 : Int32) [(.int (own_b c1))] (.int (0 : Int32)) := Arv.set Ar3 q3 S3 M3 H3 G3 (fits_nar_byte2 _) W3 0 rfl (Nat.le_of_ble_eq_true rfl)
  show own_Go p e below (T3.setTop (mkF m 8 #[.val (.int c1)] [(.ref ob1)])) _
  have K4 : Keep h0 h3 [] := (((Keep.refl h0 []).ext E1).wr W3 (Or.inr (by omega)))
  obtain ⟨fs, hr, hrun, hended, hW, hsame⟩ := X3.leave (v := some (.ref ob1)) (fun h => by rw [Bd.returns] at h; cases h)
  refine ⟨_, _, retOut X3 hx Bd.returns (own_narrow_ref (by decide) rfl) (Or.inr (Or.inr (Or.inr (Or.inr ⟨rfl, by decide, rfl⟩)))) (hb hby d_rm_tobytes_8) hr, hrun, hended, _, _, rfl, ?_, ⟨_, rfl⟩, hW, hsame.mono (by decide) (by decide)⟩
  show Q_rm_tobytes Z c1 h0 n0 _ T3.heap _
  rw [e3]
  exact ⟨ob1, k1, rfl, N3, K4, Vw3, (by first | assumption | omega)⟩
theorem d_rm_sinitbb_1_0 : decode jdk_42_method_151_code 0 = .ok (.aload_n 0, 1) := by decide +kernel
theorem d_rm_sinitbb_1_1 : decode jdk_42_method_151_code 1 = .ok (.invokespecial 1, 3) := by decide +kernel
theorem d_rm_sinitbb_1_4 : decode jdk_42_method_151_code 4 = .ok (.aload_n 0, 1) := by decide +kernel
theorem d_rm_sinitbb_1_5 : decode jdk_42_method_151_code 5 = .ok (.aload_n 1, 1) := by decide +kernel
theorem d_rm_sinitbb_1_6 : decode jdk_42_method_151_code 6 = .ok (.putfield 9, 3) := by decide +kernel
theorem d_rm_sinitbb_1_9 : decode jdk_42_method_151_code 9 = .ok (.aload_n 0, 1) := by decide +kernel
theorem d_rm_sinitbb_1_10 : decode jdk_42_method_151_code 10 = .ok (.iload_n 2, 1) := by decide +kernel
theorem d_rm_sinitbb_1_11 : decode jdk_42_method_151_code 11 = .ok (.putfield 15, 3) := by decide +kernel
theorem d_rm_sinitbb_1_14 : decode jdk_42_method_151_code 14 = .ok (.return_, 1) := by decide +kernel
def Q_rm_sinitbb_1 (Z : State) (t1 : Addr) (b : Addr) (h0 : Heap) (n0 : Nat) (v : Option Value) (h : Heap) (L : List Loc) : Prop := v = none ∧ Fr n0 L ∧ Keep h0 h [t1] ∧ Exa Z h t1 "java/lang/String" ∧ Fld Z h t1 "java/lang/String" "coder" "B" (.int (0 : Int32)) ∧ Fld Z h t1 "java/lang/String" "value" "[B" (.ref b)
theorem ef_rm_sinitbb_1 (m : MethodId) (t1 : Addr) (b : Addr) : entryFrame m #[(.ref t1), (.ref b), (.int (0 : Int32))] 3 = mkF m 0 #[.val (.ref t1), .val (.ref b), .val (.int (0 : Int32))] [] := by first | (simp [entryFrame, mkF, argsToLocals, Value.category]; done) | rfl
set_option maxRecDepth 65536 in
set_option maxHeartbeats 40000000 in
theorem rm_sinitbb_1 (l : Launch) (Z : State) (a0 : Array Value) (hw : ∀ d ∈ tables_1, d.before a0 Z = true) (ws : List Jvm.Cond) (t1 : Addr) (b : Addr) (h0 : Heap) (n0 : Nat) (O0 : Old Z n0 h0) (Et : Exa Z h0 t1 "java/lang/String") (Fv : Fld Z h0 t1 "java/lang/String" "value" "[B" .null) (Fc : Fld Z h0 t1 "java/lang/String" "coder" "B" (.int (0 : Int32))) (gt : n0 ≤ t1) :
    MetFree l (⟨"java/lang/String", "<init>", "([BB)V"⟩ : MethodName) (head1 (Jvm.Cond.code (⟨"java/lang/String", "<init>", "([BB)V"⟩ : MethodName) jdk_42_method_151_code 3 none :: ws) ({ frames := 1, cells := 0, slots := 0, locals := 12 } : Room)) (fun a U => a = #[(.ref t1), (.ref b), (.int (0 : Int32))] ∧ Z.Warmed39 U.vm ∧ U.heap = h0) (fun _ _ _ _ _ => True) (fun _ U o U' => ∃ v L, o = .returned v ∧ Q_rm_sinitbb_1 Z t1 b h0 n0 v U'.heap L ∧ FrameEnd U o U' L ({ frames := 1, cells := 0, slots := 0, locals := 12 } : Room).cells ({ frames := 1, cells := 0, slots := 0, locals := 12 } : Room).slots) := by
  refine MetFree.of_bodySF (plainFor_of_name own_pn_java_lang_String) hisR ?_
  intro p e s m args below meth c s₁ Bd hml0 hP hK
  obtain ⟨rfl, hZ, hh⟩ := hP
  have hx := Bd.exec
  have hby := Bd.bytes
  have hml : c.maxLocals = 3 := hml0
  have hown : s.vm.findClass "java/lang/String" = some m.cls := findClass_of_methodNamed Bd.named
  have hnm := (name_of_methodNamed Bd.named Bd.method).1
  have X0 : Stand p l e ({ frames := 1, cells := 0, slots := 0, locals := 12 } : Room) s m #[(.ref t1), (.ref b), (.int (0 : Int32))] below meth c s₁ [] 0 0 := Stand.of_body Bd
  have e0 : s₁.heap = h0 := by rw [← hh, Bd.state]; rfl
  have N0 := Fr.nil n0
  have Z0 : n0 ≤ h0.size := by rw [← O0.1]; exact O0.2.1
  show own_Go p e below (s₁.setTop (entryFrame m #[(.ref t1), (.ref b), (.int (0 : Int32))] 3)) (fun t o => ∃ v L, o = .returned v ∧ Q_rm_sinitbb_1 Z t1 b h0 n0 v t.heap L ∧ FrameEnd s o t L ({ frames := 1, cells := 0, slots := 0, locals := 12 } : Room).cells ({ frames := 1, cells := 0, slots := 0, locals := 12 } : Room).slots)
  rw [ef_rm_sinitbb_1 m t1 b]
  have lt_Et : h0.size > t1 := Et.lt
  have lt_Fv : h0.size > t1 := Fv.lt
  have lt_Fc : h0.size > t1 := Fc.lt
  refine own_by (fun _ k => XS.aloadN X0.here hx rfl (hb hby d_rm_sinitbb_1_0) rfl rfl k) ?_
  show own_Go p e below (s₁.setTop (mkF m 1 #[.val (.ref t1), .val (.ref b), .val (.int (0 : Int32))] [(.ref t1)])) _
  obtain ⟨T1, X1, e1, st1⟩ := initO X0 hx hZ hown (hw _ (List.mem_of_getElem? (i := 15) rfl)) (hw _ (List.mem_of_getElem? (i := 16) rfl)) (hw _ (List.mem_of_getElem? (i := 17) rfl)) e0 (g := (mkF m 1 #[.val (.ref t1), .val (.ref b), .val (.int (0 : Int32))] [(.ref t1)])) rfl (by rw [hml]; rfl) rfl (hb hby d_rm_sinitbb_1_1) (by decide) (W := 0) (by show 2 * 0 + _ ≤ _; exact Nat.le_of_eq rfl) (by decide)
  refine own_by st1 ?_
  show own_Go p e below (T1.setTop (mkF m 4 #[.val (.ref t1), .val (.ref b), .val (.int (0 : Int32))] [])) _
  refine own_by (fun _ k => XS.aloadN X1.here hx rfl (hb hby d_rm_sinitbb_1_4) rfl rfl k) ?_
  show own_Go p e below (T1.setTop (mkF m 5 #[.val (.ref t1), .val (.ref b), .val (.int (0 : Int32))] [(.ref t1)])) _
  refine own_by (fun _ k => XS.aloadN X1.here hx rfl (hb hby d_rm_sinitbb_1_5) rfl rfl k) ?_
  show own_Go p e below (T1.setTop (mkF m 6 #[.val (.ref t1), .val (.ref b), .val (.int (0 : Int32))] [(.ref b), (.ref t1)])) _
  obtain ⟨T2, h2, X2, e2, W2, st2⟩ := putF X1 hx hZ hown (host := "") (Or.inl (hw _ (List.mem_of_getElem? (i := 32) rfl))) Via.refl e1 Fv Et (Or.inr ⟨(hw _ (List.mem_of_getElem? (i := 33) rfl)), rfl, hnm⟩) (hw _ (List.mem_of_getElem? (i := 5) rfl)) (ty := (.array .byte)) (by decide) rfl rfl (g := (mkF m 6 #[.val (.ref t1), .val (.ref b), .val (.int (0 : Int32))] [(.ref b), (.ref t1)])) rfl rfl (hb hby d_rm_sinitbb_1_6)
  refine own_by st2 ?_
  have z2 := W2.size
  have N2 := Fr.snoc X2 N0 (by omega)
  have Fw2 : Fld Z h2 t1 "java/lang/String" "value" "[B" (.ref b) := Fv.same W2
  show own_Go p e below (T2.setTop (mkF m 9 #[.val (.ref t1), .val (.ref b), .val (.int (0 : Int32))] [])) _
  refine own_by (fun _ k => XS.aloadN X2.here hx rfl (hb hby d_rm_sinitbb_1_9) rfl rfl k) ?_
  show own_Go p e below (T2.setTop (mkF m 10 #[.val (.ref t1), .val (.ref b), .val (.int (0 : Int32))] [(.ref t1)])) _
  refine own_by (fun _ k => XS.iloadN X2.here hx rfl (hb hby d_rm_sinitbb_1_10) rfl k) ?_
  show own_Go p e below (T2.setTop (mkF m 11 #[.val (.ref t1), .val (.ref b), .val (.int (0 : Int32))] [(.int (0 : Int32)), (.ref t1)])) _
  have fc3 : Fld Z h2 t1 "java/lang/String" "coder" "B" (.int (0 : Int32)) := (Fc.other W2 (Or.inr (slot_ne (a0 := a0) (Or.inr (hw _ (List.mem_of_getElem? (i := 31) rfl))) (Or.inr (hw _ (List.mem_of_getElem? (i := 33) rfl))) (by decide) (t := .byte) (by decide) (t' := (.array .byte)) (by decide))))
  have fc4 : Exa Z h2 t1 "java/lang/String" := (Et.wr W2)
  obtain ⟨T5, h5, X5, e5, W5, st5⟩ := putFN X2 hx hZ hown (hw _ (List.mem_of_getElem? (i := 30) rfl)) Via.refl e2 fc3 fc4 (Or.inr ⟨(hw _ (List.mem_of_getElem? (i := 31) rfl)), rfl, hnm⟩) (hw _ (List.mem_of_getElem? (i := 5) rfl)) (ty := .byte) (v' := (.int (0 : Int32))) (by decide) rfl rfl (g := (mkF m 11 #[.val (.ref t1), .val (.ref b), .val (.int (0 : Int32))] [(.int (0 : Int32)), (.ref t1)])) rfl rfl (hb hby d_rm_sinitbb_1_11)
  refine own_by st5 ?_
  have z5 := W5.size
  have N5 := Fr.snoc X5 N2 (by omega)
  have Fw5 : Fld Z h5 t1 "java/lang/String" "coder" "B" (.int (0 : Int32)) := fc3.same W5
  show own_Go p e below (T5.setTop (mkF m 14 #[.val (.ref t1), .val (.ref b), .val (.int (0 : Int32))] [])) _
  have fc6 : Exa Z h5 t1 "java/lang/String" := (fc4.wr W5)
  have fc7 : Fld Z h5 t1 "java/lang/String" "value" "[B" (.ref b) := (Fw2.other W5 (Or.inr (slot_ne (a0 := a0) (Or.inr (hw _ (List.mem_of_getElem? (i := 33) rfl))) (Or.inr (hw _ (List.mem_of_getElem? (i := 31) rfl))) (by decide) (t := (.array .byte)) (by decide) (t' := .byte) (by decide))))
  have K8 : Keep h0 h5 [t1] := (((Keep.refl h0 [t1]).wr W2 (Or.inl (List.mem_of_getElem? (i := 0) rfl))).wr W5 (Or.inl (List.mem_of_getElem? (i := 0) rfl)))
  obtain ⟨fs, hr, hrun, hended, hW, hsame⟩ := X5.leave (v := none) (fun h => rfl)
  refine ⟨_, _, X5.returnOut hx Bd.returns (hb hby d_rm_sinitbb_1_14) hr, hrun, hended, _, _, rfl, ?_, ⟨_, rfl⟩, hW, hsame.mono (by decide) (by decide)⟩
  show Q_rm_sinitbb_1 Z t1 b h0 n0 _ T5.heap _
  rw [e5]
  exact ⟨rfl, N5, K8, fc6, Fw5, fc7⟩
theorem d_rm_valueOfC_0 : decode jdk_42_method_139_code 0 = .ok (.getstatic 38, 3) := by decide +kernel
theorem d_rm_valueOfC_3 : decode jdk_42_method_139_code 3 = .ok (.ifCond .eq 23, 3) := by decide +kernel
theorem d_rm_valueOfC_6 : decode jdk_42_method_139_code 6 = .ok (.iload_n 0, 1) := by decide +kernel
theorem d_rm_valueOfC_7 : decode jdk_42_method_139_code 7 = .ok (.invokestatic 1015, 3) := by decide +kernel
theorem d_rm_valueOfC_10 : decode jdk_42_method_139_code 10 = .ok (.ifCond .eq 16, 3) := by decide +kernel
theorem d_rm_valueOfC_13 : decode jdk_42_method_139_code 13 = .ok (.new 10, 3) := by decide +kernel
theorem d_rm_valueOfC_16 : decode jdk_42_method_139_code 16 = .ok (.dup, 1) := by decide +kernel
theorem d_rm_valueOfC_17 : decode jdk_42_method_139_code 17 = .ok (.iload_n 0, 1) := by decide +kernel
theorem d_rm_valueOfC_18 : decode jdk_42_method_139_code 18 = .ok (.invokestatic 1018, 3) := by decide +kernel
theorem d_rm_valueOfC_21 : decode jdk_42_method_139_code 21 = .ok (.iconst 0, 1) := by decide +kernel
theorem d_rm_valueOfC_22 : decode jdk_42_method_139_code 22 = .ok (.invokespecial 209, 3) := by decide +kernel
theorem d_rm_valueOfC_25 : decode jdk_42_method_139_code 25 = .ok (.areturn, 1) := by decide +kernel
def Q_rm_valueOfC (Z : State) (c1 : Int32) (cs : Int32) (h0 : Heap) (n0 : Nat) (v : Option Value) (h : Heap) (L : List Loc) : Prop := ∃ (r1 : Addr), ∃ (b : Addr), ∃ (kb : ClassId), v = some (.ref r1) ∧ Fr n0 L ∧ Keep h0 h [] ∧ Exa Z h r1 "java/lang/String" ∧ Fld Z h r1 "java/lang/String" "coder" "B" (.int (0 : Int32)) ∧ Fld Z h r1 "java/lang/String" "value" "[B" (.ref b) ∧ Arv Z h b kb .byte (1 : Int32) [(.int (own_b c1))] (.int (0 : Int32)) ∧ h0.size ≤ r1 ∧ h0.size ≤ b
theorem ef_rm_valueOfC (m : MethodId) (c1 : Int32) (cs : Int32) : entryFrame m #[(.int c1)] 1 = mkF m 0 #[.val (.int c1)] [] := by first | (simp [entryFrame, mkF, argsToLocals, Value.category]; done) | rfl
set_option maxRecDepth 65536 in
set_option maxHeartbeats 40000000 in
theorem rm_valueOfC (l : Launch) (Z : State) (a0 : Array Value) (hw : ∀ d ∈ tables_1, d.before a0 Z = true) (ws : List Jvm.Cond) (c1 : Int32) (cs : Int32) (h0 : Heap) (n0 : Nat) (O0 : Old Z n0 h0) (S_COMPACT : Sta Z Z.heap "java/lang/String" "COMPACT_STRINGS" "Z" (.int cs)) (rc1 : ¬ ((255 : Int32) < c1)) (hcs : ¬ (cs = (0 : Int32))) :
    MetFree l (⟨"java/lang/String", "valueOf", "(C)Ljava/lang/String;"⟩ : MethodName) (head1 (Jvm.Cond.code (⟨"java/lang/String", "valueOf", "(C)Ljava/lang/String;"⟩ : MethodName) jdk_42_method_139_code 1 (some (.object "java/lang/String")) :: ws) ({ frames := 2, cells := 2, slots := 5, locals := 27 } : Room)) (fun a U => a = #[(.int c1)] ∧ Z.Warmed39 U.vm ∧ U.heap = h0) (fun _ _ _ _ _ => True) (fun _ U o U' => ∃ v L, o = .returned v ∧ Q_rm_valueOfC Z c1 cs h0 n0 v U'.heap L ∧ FrameEnd U o U' L ({ frames := 2, cells := 2, slots := 5, locals := 27 } : Room).cells ({ frames := 2, cells := 2, slots := 5, locals := 27 } : Room).slots) := by
  refine MetFree.of_bodySF (plainFor_of_name own_pn_java_lang_String) hisR ?_
  intro p e s m args below meth c s₁ Bd hml0 hP hK
  obtain ⟨rfl, hZ, hh⟩ := hP
  have hx := Bd.exec
  have hby := Bd.bytes
  have hml : c.maxLocals = 1 := hml0
  have hown : s.vm.findClass "java/lang/String" = some m.cls := findClass_of_methodNamed Bd.named
  have hnm := (name_of_methodNamed Bd.named Bd.method).1
  have X0 : Stand p l e ({ frames := 2, cells := 2, slots := 5, locals := 27 } : Room) s m #[(.int c1)] below meth c s₁ [] 0 0 := Stand.of_body Bd
  have e0 : s₁.heap = h0 := by rw [← hh, Bd.state]; rfl
  have N0 := Fr.nil n0
  have Z0 : n0 ≤ h0.size := by rw [← O0.1]; exact O0.2.1
  show own_Go p e below (s₁.setTop (entryFrame m #[(.int c1)] 1)) (fun t o => ∃ v L, o = .returned v ∧ Q_rm_valueOfC Z c1 cs h0 n0 v t.heap L ∧ FrameEnd s o t L ({ frames := 2, cells := 2, slots := 5, locals := 27 } : Room).cells ({ frames := 2, cells := 2, slots := 5, locals := 27 } : Room).slots)
  rw [ef_rm_valueOfC m c1 cs]
  obtain ⟨T1, X1, e1, st1⟩ := getS2 X0 hx hZ hown (host := "") (Or.inl (hw _ (List.mem_of_getElem? (i := 18) rfl))) Via.refl e0 (S_COMPACT.ext O0.2) (g := (mkF m 0 #[.val (.int c1)] [])) rfl (hb hby d_rm_valueOfC_0)
  refine own_by st1 ?_
  show own_Go p e below (T1.setTop (mkF m 3 #[.val (.int c1)] [(.int cs)])) _
  refine own_by (fun _ k => XS.ifNo X1.here hx rfl (hb hby d_rm_valueOfC_3) rfl ((if0 _ _).trans (feq hcs).1) k) ?_
  show own_Go p e below (T1.setTop (mkF m 6 #[.val (.int c1)] [])) _
  refine own_by (fun _ k => XS.iloadN X1.here hx rfl (hb hby d_rm_valueOfC_6) rfl k) ?_
  show own_Go p e below (T1.setTop (mkF m 7 #[.val (.int c1)] [(.int c1)])) _
  obtain ⟨_, _, ⟨T2, L2, k2, n2⟩, -, X2, ⟨Lc2, hQ2, l2, y2, z2⟩, st2⟩ := Jvm.LawKit.callS X1 hx (y := (⟨"java/lang/StringLatin1", "canEncode", "(C)Z"⟩ : MethodName)) hown (mvT hZ (hw _ (List.mem_of_getElem? (i := 106) rfl))) (mvT hZ (hw _ (List.mem_of_getElem? (i := 107) rfl))) (mvT hZ (hw _ (List.mem_of_getElem? (i := 108) rfl))) (mvT hZ (hw _ (List.mem_of_getElem? (i := 109) rfl))) (by decide) (backOf (W := 0) (rm_canenc l Z a0 hw [] c1 h0 n0 O0 rc1) hZ (hw _ (List.mem_of_getElem? (i := 109) rfl)) (hw _ (List.mem_of_getElem? (i := 108) rfl)) (by decide) (by decide)) (g := (mkF m 7 #[.val (.int c1)] [(.int c1)])) rfl (by rw [hml]; rfl) (argsL := [(.int c1)]) (rest := []) (lenOf own_pd__28C_29Z rfl) rfl (by show 2 * 0 + _ ≤ _; exact Nat.le_of_eq rfl) (hb hby d_rm_valueOfC_7) (fun _ _ => ⟨rfl, e1, (by decide : 0 + 0 ≤ _), (by decide : 0 + 0 ≤ _)⟩)
  dsimp only [Pt.U, Pt.locs, Pt.cells, Pt.slots] at X2 l2 y2 z2 st2 hQ2
  subst l2 y2 z2
  obtain ⟨rfl, M2, K2⟩ := hQ2
  have N2 := Fr.app N0 M2
  refine own_by st2 ?_
  show own_Go p e below (T2.setTop (mkF m 10 #[.val (.int c1)] [(.int (1 : Int32))])) _
  refine own_by (fun _ k => XS.ifNo X2.here hx rfl (hb hby d_rm_valueOfC_10) rfl ((if0 _ _).trans (feq (by decide : ¬ ((1 : Int32) = (0 : Int32)))).1) k) ?_
  show own_Go p e below (T2.setTop (mkF m 13 #[.val (.int c1)] [])) _
  obtain ⟨T3, h3, X3, e3, E3, A3, D3, U3, st3⟩ := newO X2 hx hZ hown (hw _ (List.mem_of_getElem? (i := 110) rfl)) (hw _ (List.mem_of_getElem? (i := 5) rfl)) (hw _ (List.mem_of_getElem? (i := 6) rfl)) K2 (g := (mkF m 13 #[.val (.int c1)] [])) rfl (hb hby d_rm_valueOfC_13) (by decide) (by decide)
  obtain ⟨ob3, g3⟩ : ∃ z, z = h0.size := ⟨_, rfl⟩
  rw [← g3] at A3 D3 U3 st3
  refine own_by st3 ?_
  have z3 := E3.1
  have lt3 : h3.size > ob3 := A3.lt
  show own_Go p e below (T3.setTop (mkF m 16 #[.val (.int c1)] [(.ref ob3)])) _
  refine own_by (fun _ k => XS.dup X3.here hx rfl (hb hby d_rm_valueOfC_16) rfl rfl k) ?_
  show own_Go p e below (T3.setTop (mkF m 17 #[.val (.int c1)] [(.ref ob3), (.ref ob3)])) _
  refine own_by (fun _ k => XS.iloadN X3.here hx rfl (hb hby d_rm_valueOfC_17) rfl k) ?_
  show own_Go p e below (T3.setTop (mkF m 18 #[.val (.int c1)] [(.int c1), (.ref ob3), (.ref ob3)])) _
  have O4 : Old Z n0 h3 := (O0.ext E3)
  obtain ⟨_, _, ⟨T5, L5, k5, n5⟩, -, X5, ⟨Lc5, hQ5, l5, y5, z5⟩, st5⟩ := Jvm.LawKit.callS X3 hx (y := (⟨"java/lang/StringLatin1", "toBytes", "(C)[B"⟩ : MethodName)) hown (mvT hZ (hw _ (List.mem_of_getElem? (i := 111) rfl))) (mvT hZ (hw _ (List.mem_of_getElem? (i := 112) rfl))) (mvT hZ (hw _ (List.mem_of_getElem? (i := 108) rfl))) (mvT hZ (hw _ (List.mem_of_getElem? (i := 113) rfl))) (by decide) (backOf (W := 2) (rm_tobytes l Z a0 hw [] c1 h3 n0 O4) hZ (hw _ (List.mem_of_getElem? (i := 113) rfl)) (hw _ (List.mem_of_getElem? (i := 108) rfl)) (by decide) (by decide)) (g := (mkF m 18 #[.val (.int c1)] [(.int c1), (.ref ob3), (.ref ob3)])) rfl (by rw [hml]; rfl) (argsL := [(.int c1)]) (rest := [(.ref ob3), (.ref ob3)]) (lenOf own_pd__28C_29_5bB rfl) rfl (by show 2 * 0 + _ ≤ _; exact Nat.le_of_eq rfl) (hb hby d_rm_valueOfC_18) (fun _ _ => ⟨rfl, e3, (by decide : 1 + 1 ≤ _), (by decide : 4 + 1 ≤ _)⟩)
  dsimp only [Pt.U, Pt.locs, Pt.cells, Pt.slots] at X5 l5 y5 z5 st5 hQ5
  subst l5 y5 z5
  obtain ⟨b_5, kb_5, rfl, M5, K5, g5_0, r5_0⟩ := hQ5
  have N5 := Fr.app N2 M5
  refine own_by st5 ?_
  have z5 := K5.1
  have lt_g5_0 : T5.heap.size > b_5 := g5_0.lt
  show own_Go p e below (T5.setTop (mkF m 21 #[.val (.int c1)] [(.ref b_5), (.ref ob3), (.ref ob3)])) _
  refine own_by (fun _ k => XS.iconst X5.here hx rfl (hb hby d_rm_valueOfC_21) k) ?_
  show own_Go p e below (T5.setTop (mkF m 22 #[.val (.int c1)] [(.int (0 : Int32)), (.ref b_5), (.ref ob3), (.ref ob3)])) _
  have fc6 : Exa Z T5.heap ob3 "java/lang/String" := (A3.keep K5)
  have fc7 : Fld Z T5.heap ob3 "java/lang/String" "value" "[B" .null := ((show Fld Z h3 ob3 "java/lang/String" "value" "[B" .null from D3 (Or.inr (hw _ (List.mem_of_getElem? (i := 33) rfl))) (ty := (.array .byte)) (by decide)).keep K5 nin0)
  have fc8 : Fld Z T5.heap ob3 "java/lang/String" "coder" "B" (.int (0 : Int32)) := ((show Fld Z h3 ob3 "java/lang/String" "coder" "B" (.int (0 : Int32)) from D3 (Or.inr (hw _ (List.mem_of_getElem? (i := 31) rfl))) (ty := .byte) (by decide)).keep K5 nin0)
  have O9 : Old Z n0 T5.heap := (O4.keep K5 all0)
  obtain ⟨_, _, ⟨T10, L10, k10, n10⟩, -, X10, ⟨Lc10, hQ10, l10, y10, z10⟩, st10⟩ := X5.specialBack hx (y := (⟨"java/lang/String", "<init>", "([BB)V"⟩ : MethodName)) rfl hown (mvT hZ (hw _ (List.mem_of_getElem? (i := 114) rfl))) (mvT hZ (hw _ (List.mem_of_getElem? (i := 115) rfl))) (mvT hZ (hw _ (List.mem_of_getElem? (i := 116) rfl))) (by decide) (backOf (W := 1) (rm_sinitbb_1 l Z a0 hw [] ob3 b_5 T5.heap n0 O9 fc6 fc7 fc8 (by first | assumption | omega | decide)) hZ (hw _ (List.mem_of_getElem? (i := 116) rfl)) (hw _ (List.mem_of_getElem? (i := 6) rfl)) (by decide) (by decide)) (g := (mkF m 22 #[.val (.int c1)] [(.int (0 : Int32)), (.ref b_5), (.ref ob3), (.ref ob3)])) rfl (by rw [hml]; rfl) (Steps.refl _) (a := ob3) (argsL := [(.ref b_5), (.int (0 : Int32))]) (rest := [(.ref ob3)]) (lenOf own_pd__28_5bBB_29V rfl) rfl (by show 2 * 0 + _ ≤ _; exact Nat.le_of_eq rfl) (hb hby d_rm_valueOfC_22) (fun _ _ => ⟨rfl, rfl, (by decide : 2 + 0 ≤ _), (by decide : 5 + 0 ≤ _)⟩)
  dsimp only [Pt.U, Pt.locs, Pt.cells, Pt.slots] at X10 l10 y10 z10 st10 hQ10
  subst l10 y10 z10
  obtain ⟨rfl, M10, K10, g10_0, g10_1, g10_2⟩ := hQ10
  have N10 := Fr.app N5 M10
  refine own_by (fun _ k => st10.trans k) ?_
  have z10 := K10.1
  have lt_g10_0 : T10.heap.size > ob3 := g10_0.lt
  have lt_g10_1 : T10.heap.size > ob3 := g10_1.lt
  have lt_g10_2 : T10.heap.size > ob3 := g10_2.lt
  show own_Go p e below (T10.setTop (mkF m 25 #[.val (.int c1)] [(.ref ob3)])) _
  have fc11 : Arv Z T10.heap b_5 kb_5 .byte (1 : Int32) [(.int (own_b c1))] (.int (0 : Int32)) := (g5_0.keep K10 (ninS (own_ne (by omega)) nin0))
  have K12 : Keep h0 T10.heap [] := ((((Keep.refl h0 []).ext E3).trans K5 all0).trans K10 (allS (P := fun x => x ∈ [] ∨ h0.size ≤ x) (Or.inr (by omega)) all0))
  obtain ⟨fs, hr, hrun, hended, hW, hsame⟩ := X10.leave (v := some (.ref ob3)) (fun h => by rw [Bd.returns] at h; cases h)
  refine ⟨_, _, retOut X10 hx Bd.returns (own_narrow_ref (by decide) rfl) (Or.inr (Or.inr (Or.inr (Or.inr ⟨rfl, by decide, rfl⟩)))) (hb hby d_rm_valueOfC_25) hr, hrun, hended, _, _, rfl, ?_, ⟨_, rfl⟩, hW, hsame.mono (by decide) (by decide)⟩
  show Q_rm_valueOfC Z c1 cs h0 n0 _ T10.heap _
  exact ⟨ob3, b_5, kb_5, rfl, N10, K12, g10_0, g10_1, g10_2, fc11, (by first | assumption | omega), (by first | assumption | omega)⟩
theorem d_rm_eqsame_0 : decode jdk_42_method_66_code 0 = .ok (.aload_n 0, 1) := by decide +kernel
theorem d_rm_eqsame_1 : decode jdk_42_method_66_code 1 = .ok (.aload_n 1, 1) := by decide +kernel
theorem d_rm_eqsame_2 : decode jdk_42_method_66_code 2 = .ok (.if_acmp .ne 5, 3) := by decide +kernel
theorem d_rm_eqsame_5 : decode jdk_42_method_66_code 5 = .ok (.iconst 1, 1) := by decide +kernel
theorem d_rm_eqsame_6 : decode jdk_42_method_66_code 6 = .ok (.ireturn, 1) := by decide +kernel
def Q_rm_eqsame (Z : State) (t1 : Addr) (h0 : Heap) (n0 : Nat) (v : Option Value) (h : Heap) (L : List Loc) : Prop := v = some (.int (1 : Int32)) ∧ Fr n0 L ∧ h = h0
theorem ef_rm_eqsame (m : MethodId) (t1 : Addr) : entryFrame m #[(.ref t1), (.ref t1)] 3 = mkF m 0 #[.val (.ref t1), .val (.ref t1), .unset] [] := by first | (simp [entryFrame, mkF, argsToLocals, Value.category]; done) | rfl
set_option maxRecDepth 65536 in
set_option maxHeartbeats 40000000 in
theorem rm_eqsame (l : Launch) (Z : State) (a0 : Array Value) (hw : ∀ d ∈ tables_1, d.before a0 Z = true) (ws : List Jvm.Cond) (t1 : Addr) (h0 : Heap) (n0 : Nat) (O0 : Old Z n0 h0) :
    MetFree l (⟨"java/lang/String", "equals", "(Ljava/lang/Object;)Z"⟩ : MethodName) (head1 (Jvm.Cond.code (⟨"java/lang/String", "equals", "(Ljava/lang/Object;)Z"⟩ : MethodName) jdk_42_method_66_code 3 (some .boolean) :: ws) ({ frames := 0, cells := 0, slots := 0, locals := 0 } : Room)) (fun a U => a = #[(.ref t1), (.ref t1)] ∧ Z.Warmed39 U.vm ∧ U.heap = h0) (fun _ _ _ _ _ => True) (fun _ U o U' => ∃ v L, o = .returned v ∧ Q_rm_eqsame Z t1 h0 n0 v U'.heap L ∧ FrameEnd U o U' L ({ frames := 0, cells := 0, slots := 0, locals := 0 } : Room).cells ({ frames := 0, cells := 0, slots := 0, locals := 0 } : Room).slots) := by
  refine MetFree.of_bodySF (plainFor_of_name own_pn_java_lang_String) hisR ?_
  intro p e s m args below meth c s₁ Bd hml0 hP hK
  obtain ⟨rfl, hZ, hh⟩ := hP
  have hx := Bd.exec
  have hby := Bd.bytes
  have hml : c.maxLocals = 3 := hml0
  have hown : s.vm.findClass "java/lang/String" = some m.cls := findClass_of_methodNamed Bd.named
  have hnm := (name_of_methodNamed Bd.named Bd.method).1
  have X0 : Stand p l e ({ frames := 0, cells := 0, slots := 0, locals := 0 } : Room) s m #[(.ref t1), (.ref t1)] below meth c s₁ [] 0 0 := Stand.of_body Bd
  have e0 : s₁.heap = h0 := by rw [← hh, Bd.state]; rfl
  have N0 := Fr.nil n0
  have Z0 : n0 ≤ h0.size := by rw [← O0.1]; exact O0.2.1
  show own_Go p e below (s₁.setTop (entryFrame m #[(.ref t1), (.ref t1)] 3)) (fun t o => ∃ v L, o = .returned v ∧ Q_rm_eqsame Z t1 h0 n0 v t.heap L ∧ FrameEnd s o t L ({ frames := 0, cells := 0, slots := 0, locals := 0 } : Room).cells ({ frames := 0, cells := 0, slots := 0, locals := 0 } : Room).slots)
  rw [ef_rm_eqsame m t1]
  refine own_by (fun _ k => XS.aloadN X0.here hx rfl (hb hby d_rm_eqsame_0) rfl rfl k) ?_
  show own_Go p e below (s₁.setTop (mkF m 1 #[.val (.ref t1), .val (.ref t1), .unset] [(.ref t1)])) _
  refine own_by (fun _ k => XS.aloadN X0.here hx rfl (hb hby d_rm_eqsame_1) rfl rfl k) ?_
  show own_Go p e below (s₁.setTop (mkF m 2 #[.val (.ref t1), .val (.ref t1), .unset] [(.ref t1), (.ref t1)])) _
  refine own_by (fun _ k => Jvm.RoadKit.acmp (g := (mkF m 2 #[.val (.ref t1), .val (.ref t1), .unset] [(.ref t1), (.ref t1)])) X0 hx rfl rfl rfl (pc0 := 2) (pc' := 5) (same := true) rfl (hb hby d_rm_eqsame_2) rfl (decide_eq_true rfl) (by decide) (by decide) k) ?_
  show own_Go p e below (s₁.setTop (mkF m 5 #[.val (.ref t1), .val (.ref t1), .unset] [])) _
  refine own_by (fun _ k => XS.iconst X0.here hx rfl (hb hby d_rm_eqsame_5) k) ?_
  show own_Go p e below (s₁.setTop (mkF m 6 #[.val (.ref t1), .val (.ref t1), .unset] [(.int (1 : Int32))])) _
  obtain ⟨fs, hr, hrun, hended, hW, hsame⟩ := X0.leave (v := some (.int (1 : Int32))) (fun h => by rw [Bd.returns] at h; cases h)
  refine ⟨_, _, retN X0 hx (t := .boolean) Bd.returns (by simp) (hb hby d_rm_eqsame_6) hr, hrun, hended, _, _, rfl, ?_, ⟨_, rfl⟩, hW, hsame.mono (by decide) (by decide)⟩
  show Q_rm_eqsame Z t1 h0 n0 _ s₁.heap _
  rw [e0]
  exact ⟨rfl, N0, rfl⟩
theorem d_rm_draw_0 : decode method_2_code 0 = .ok (.iload_n 0, 1) := by decide +kernel
theorem d_rm_draw_1 : decode method_2_code 1 = .ok (.sipush 255, 3) := by decide +kernel
theorem d_rm_draw_4 : decode method_2_code 4 = .ok (.iand, 1) := by decide +kernel
theorem d_rm_draw_5 : decode method_2_code 5 = .ok (.i2c, 1) := by decide +kernel
theorem d_rm_draw_6 : decode method_2_code 6 = .ok (.istore_n 2, 1) := by decide +kernel
theorem d_rm_draw_7 : decode method_2_code 7 = .ok (.iload_n 0, 1) := by decide +kernel
theorem d_rm_draw_8 : decode method_2_code 8 = .ok (.bipush 8, 2) := by decide +kernel
theorem d_rm_draw_10 : decode method_2_code 10 = .ok (.iushr, 1) := by decide +kernel
theorem d_rm_draw_11 : decode method_2_code 11 = .ok (.sipush 255, 3) := by decide +kernel
theorem d_rm_draw_14 : decode method_2_code 14 = .ok (.iand, 1) := by decide +kernel
theorem d_rm_draw_15 : decode method_2_code 15 = .ok (.i2c, 1) := by decide +kernel
theorem d_rm_draw_16 : decode method_2_code 16 = .ok (.istore_n 3, 1) := by decide +kernel
theorem d_rm_draw_17 : decode method_2_code 17 = .ok (.iload_n 0, 1) := by decide +kernel
theorem d_rm_draw_18 : decode method_2_code 18 = .ok (.bipush 16, 2) := by decide +kernel
theorem d_rm_draw_20 : decode method_2_code 20 = .ok (.iushr, 1) := by decide +kernel
theorem d_rm_draw_21 : decode method_2_code 21 = .ok (.sipush 255, 3) := by decide +kernel
theorem d_rm_draw_24 : decode method_2_code 24 = .ok (.iand, 1) := by decide +kernel
theorem d_rm_draw_25 : decode method_2_code 25 = .ok (.i2c, 1) := by decide +kernel
theorem d_rm_draw_26 : decode method_2_code 26 = .ok (.istore 4, 2) := by decide +kernel
theorem d_rm_draw_28 : decode method_2_code 28 = .ok (.iload_n 1, 1) := by decide +kernel
theorem d_rm_draw_29 : decode method_2_code 29 = .ok (.iconst 3, 1) := by decide +kernel
theorem d_rm_draw_30 : decode method_2_code 30 = .ok (.iand, 1) := by decide +kernel
theorem d_rm_draw_31 : decode method_2_code 31 = .ok (.istore 5, 2) := by decide +kernel
theorem d_rm_draw_33 : decode method_2_code 33 = .ok (.iload 5, 2) := by decide +kernel
theorem d_rm_draw_35 : decode method_2_code 35 = .ok (.ifCond .ne 14, 3) := by decide +kernel
theorem d_rm_draw_38 : decode method_2_code 38 = .ok (.new 7, 3) := by decide +kernel
theorem d_rm_draw_41 : decode method_2_code 41 = .ok (.dup, 1) := by decide +kernel
theorem d_rm_draw_42 : decode method_2_code 42 = .ok (.iconst 0, 1) := by decide +kernel
theorem d_rm_draw_43 : decode method_2_code 43 = .ok (.newarray .char, 2) := by decide +kernel
theorem d_rm_draw_45 : decode method_2_code 45 = .ok (.invokespecial 9, 3) := by decide +kernel
theorem d_rm_draw_48 : decode method_2_code 48 = .ok (.areturn, 1) := by decide +kernel
theorem d_rm_draw_49 : decode method_2_code 49 = .ok (.iload 5, 2) := by decide +kernel
theorem d_rm_draw_51 : decode method_2_code 51 = .ok (.iconst 1, 1) := by decide +kernel
theorem d_rm_draw_52 : decode method_2_code 52 = .ok (.if_icmp .ne 8, 3) := by decide +kernel
theorem d_rm_draw_55 : decode method_2_code 55 = .ok (.iload_n 2, 1) := by decide +kernel
theorem d_rm_draw_56 : decode method_2_code 56 = .ok (.invokestatic 12, 3) := by decide +kernel
theorem d_rm_draw_59 : decode method_2_code 59 = .ok (.areturn, 1) := by decide +kernel
theorem d_rm_draw_60 : decode method_2_code 60 = .ok (.iload 5, 2) := by decide +kernel
theorem d_rm_draw_62 : decode method_2_code 62 = .ok (.iconst 2, 1) := by decide +kernel
theorem d_rm_draw_63 : decode method_2_code 63 = .ok (.if_icmp .ne 22, 3) := by decide +kernel
theorem d_rm_draw_66 : decode method_2_code 66 = .ok (.new 7, 3) := by decide +kernel
theorem d_rm_draw_69 : decode method_2_code 69 = .ok (.dup, 1) := by decide +kernel
theorem d_rm_draw_70 : decode method_2_code 70 = .ok (.iconst 2, 1) := by decide +kernel
theorem d_rm_draw_71 : decode method_2_code 71 = .ok (.newarray .char, 2) := by decide +kernel
theorem d_rm_draw_73 : decode method_2_code 73 = .ok (.dup, 1) := by decide +kernel
theorem d_rm_draw_74 : decode method_2_code 74 = .ok (.iconst 0, 1) := by decide +kernel
theorem d_rm_draw_75 : decode method_2_code 75 = .ok (.iload_n 2, 1) := by decide +kernel
theorem d_rm_draw_76 : decode method_2_code 76 = .ok (.castore, 1) := by decide +kernel
theorem d_rm_draw_77 : decode method_2_code 77 = .ok (.dup, 1) := by decide +kernel
theorem d_rm_draw_78 : decode method_2_code 78 = .ok (.iconst 1, 1) := by decide +kernel
theorem d_rm_draw_79 : decode method_2_code 79 = .ok (.iload_n 3, 1) := by decide +kernel
theorem d_rm_draw_80 : decode method_2_code 80 = .ok (.castore, 1) := by decide +kernel
theorem d_rm_draw_81 : decode method_2_code 81 = .ok (.invokespecial 9, 3) := by decide +kernel
theorem d_rm_draw_84 : decode method_2_code 84 = .ok (.areturn, 1) := by decide +kernel
theorem d_rm_draw_85 : decode method_2_code 85 = .ok (.new 7, 3) := by decide +kernel
theorem d_rm_draw_88 : decode method_2_code 88 = .ok (.dup, 1) := by decide +kernel
theorem d_rm_draw_89 : decode method_2_code 89 = .ok (.iconst 3, 1) := by decide +kernel
theorem d_rm_draw_90 : decode method_2_code 90 = .ok (.newarray .char, 2) := by decide +kernel
theorem d_rm_draw_92 : decode method_2_code 92 = .ok (.dup, 1) := by decide +kernel
theorem d_rm_draw_93 : decode method_2_code 93 = .ok (.iconst 0, 1) := by decide +kernel
theorem d_rm_draw_94 : decode method_2_code 94 = .ok (.iload_n 2, 1) := by decide +kernel
theorem d_rm_draw_95 : decode method_2_code 95 = .ok (.castore, 1) := by decide +kernel
theorem d_rm_draw_96 : decode method_2_code 96 = .ok (.dup, 1) := by decide +kernel
theorem d_rm_draw_97 : decode method_2_code 97 = .ok (.iconst 1, 1) := by decide +kernel
theorem d_rm_draw_98 : decode method_2_code 98 = .ok (.iload_n 3, 1) := by decide +kernel
theorem d_rm_draw_99 : decode method_2_code 99 = .ok (.castore, 1) := by decide +kernel
theorem d_rm_draw_100 : decode method_2_code 100 = .ok (.dup, 1) := by decide +kernel
theorem d_rm_draw_101 : decode method_2_code 101 = .ok (.iconst 2, 1) := by decide +kernel
theorem d_rm_draw_102 : decode method_2_code 102 = .ok (.iload 4, 2) := by decide +kernel
theorem d_rm_draw_104 : decode method_2_code 104 = .ok (.castore, 1) := by decide +kernel
theorem d_rm_draw_105 : decode method_2_code 105 = .ok (.invokespecial 9, 3) := by decide +kernel
theorem d_rm_draw_108 : decode method_2_code 108 = .ok (.areturn, 1) := by decide +kernel
def Q_rm_draw (Z : State) (p1 : Int32) (k1 : Int32) (cs : Int32) (h0 : Heap) (n0 : Nat) (v : Option Value) (h : Heap) (L : List Loc) : Prop := ∃ (r1 : Addr), v = some (.ref r1) ∧ Fr n0 L ∧ Keep h0 h [] ∧ Exa Z h r1 "java/lang/String"
theorem ef_rm_draw (m : MethodId) (p1 : Int32) (k1 : Int32) (cs : Int32) : entryFrame m #[(.int p1), (.int k1)] 6 = mkF m 0 #[.val (.int p1), .val (.int k1), .unset, .unset, .unset, .unset] [] := by first | (simp [entryFrame, mkF, argsToLocals, Value.category]; done) | rfl
set_option maxRecDepth 65536 in
set_option maxHeartbeats 40000000 in
theorem rm_draw (l : Launch) (Z : State) (a0 : Array Value) (hw : ∀ d ∈ tables_1, d.before a0 Z = true) (ws : List Jvm.Cond) (p1 : Int32) (k1 : Int32) (cs : Int32) (h0 : Heap) (n0 : Nat) (O0 : Old Z n0 h0) (hEL : EW Z a0 own_EL) (S_COMPACT : Sta Z Z.heap "java/lang/String" "COMPACT_STRINGS" "Z" (.int cs)) (hcs : ¬ (cs = (0 : Int32))) :
    MetFree l (⟨"com/example/rollcall/rollcall/io/RuleCopyingPinLaw", "draw", "(II)Ljava/lang/String;"⟩ : MethodName) (head1 (Jvm.Cond.code (⟨"com/example/rollcall/rollcall/io/RuleCopyingPinLaw", "draw", "(II)Ljava/lang/String;"⟩ : MethodName) method_2_code 6 (some (.object "java/lang/String")) :: ws) ({ frames := 4, cells := 6, slots := 12, locals := 66 } : Room)) (fun a U => a = #[(.int p1), (.int k1)] ∧ Z.Warmed39 U.vm ∧ U.heap = h0 ∧ CHv Z own_EL U.vm h0) (fun _ _ _ _ _ => True) (fun _ U o U' => ∃ v L, o = .returned v ∧ Q_rm_draw Z p1 k1 cs h0 n0 v U'.heap L ∧ CHr Z own_EL U.vm U.heap U'.vm U'.heap ∧ ReturnedEndW U o U' L ({ frames := 4, cells := 6, slots := 12, locals := 66 } : Room).cells ({ frames := 4, cells := 6, slots := 12, locals := 66 } : Room).slots) := by
  refine MetFree.of_bodySF (plainFor_of_name own_pn_com_example_rollcall_rollcall_io_RuleCopyingPinLaw) hisR ?_
  intro p e s m args below meth c s₁ Bd hml0 hP hK
  obtain ⟨rfl, hZ, hh, hC⟩ := hP
  have hx := Bd.exec
  have hby := Bd.bytes
  have hml : c.maxLocals = 6 := hml0
  have hown : s.vm.findClass "com/example/rollcall/rollcall/io/RuleCopyingPinLaw" = some m.cls := findClass_of_methodNamed Bd.named
  have hnm := (name_of_methodNamed Bd.named Bd.method).1
  have X0 : Stand p l e ({ frames := 4, cells := 6, slots := 12, locals := 66 } : Room) (s.setVm s.vm) m #[(.int p1), (.int k1)] below meth c s₁ [] 0 0 := Stand.of_body Bd
  have S0 : s.Since s.vm h0.size := (State.WarmedH.refl s).since _
  have hZ : Z.Warmed39 (s.setVm s.vm).vm := hZ
  have hown : (s.setVm s.vm).vm.findClass "com/example/rollcall/rollcall/io/RuleCopyingPinLaw" = some m.cls := hown
  have R0 : CHr Z own_EL s.vm h0 s.vm h0 := CHr.refl hC
  have e0 : s₁.heap = h0 := by rw [← hh, Bd.state]; rfl
  have N0 := Fr.nil n0
  have Z0 : n0 ≤ h0.size := by rw [← O0.1]; exact O0.2.1
  show own_Go p e below (s₁.setTop (entryFrame m #[(.int p1), (.int k1)] 6)) (fun t o => ∃ v L, o = .returned v ∧ Q_rm_draw Z p1 k1 cs h0 n0 v t.heap L ∧ CHr Z own_EL s.vm s.heap t.vm t.heap ∧ ReturnedEndW s o t L ({ frames := 4, cells := 6, slots := 12, locals := 66 } : Room).cells ({ frames := 4, cells := 6, slots := 12, locals := 66 } : Room).slots)
  rw [ef_rm_draw m p1 k1 cs]
  refine own_by (fun _ k => XS.iloadN X0.here hx rfl (hb hby d_rm_draw_0) rfl k) ?_
  show own_Go p e below (s₁.setTop (mkF m 1 #[.val (.int p1), .val (.int k1), .unset, .unset, .unset, .unset] [(.int p1)])) _
  refine own_by (fun _ k => XS.sipush X0.here hx rfl (hb hby d_rm_draw_1) k) ?_
  show own_Go p e below (s₁.setTop (mkF m 4 #[.val (.int p1), .val (.int k1), .unset, .unset, .unset, .unset] [(.int (255 : Int32)), (.int p1)])) _
  refine own_by (fun _ k => XS.iand X0.here hx rfl (hb hby d_rm_draw_4) rfl k) ?_
  show own_Go p e below (s₁.setTop (mkF m 5 #[.val (.int p1), .val (.int k1), .unset, .unset, .unset, .unset] [(.int (p1 &&& (255 : Int32)))])) _
  refine own_by (fun _ k => XS.i2c X0.here hx rfl (hb hby d_rm_draw_5) rfl k) ?_
  rw [i2c_mask]
  show own_Go p e below (s₁.setTop (mkF m 6 #[.val (.int p1), .val (.int k1), .unset, .unset, .unset, .unset] [(.int (p1 &&& (255 : Int32)))])) _
  refine own_by (fun _ k => XS.istoreN X0.here hx rfl (hb hby d_rm_draw_6) rfl (l' := #[.val (.int p1), .val (.int k1), .val (.int (p1 &&& (255 : Int32))), .unset, .unset, .unset]) rfl k) ?_
  show own_Go p e below (s₁.setTop (mkF m 7 #[.val (.int p1), .val (.int k1), .val (.int (p1 &&& (255 : Int32))), .unset, .unset, .unset] [])) _
  refine own_by (fun _ k => XS.iloadN X0.here hx rfl (hb hby d_rm_draw_7) rfl k) ?_
  show own_Go p e below (s₁.setTop (mkF m 8 #[.val (.int p1), .val (.int k1), .val (.int (p1 &&& (255 : Int32))), .unset, .unset, .unset] [(.int p1)])) _
  refine own_by (fun _ k => XS.bipush X0.here hx rfl (hb hby d_rm_draw_8) k) ?_
  show own_Go p e below (s₁.setTop (mkF m 10 #[.val (.int p1), .val (.int k1), .val (.int (p1 &&& (255 : Int32))), .unset, .unset, .unset] [(.int (8 : Int32)), (.int p1)])) _
  refine own_by (fun _ k => XS.iushr X0.here hx rfl (hb hby d_rm_draw_10) rfl k) ?_
  show own_Go p e below (s₁.setTop (mkF m 11 #[.val (.int p1), .val (.int k1), .val (.int (p1 &&& (255 : Int32))), .unset, .unset, .unset] [(.int ((p1.toUInt32 >>> ((8 : Int32) &&& 31).toUInt32).toInt32))])) _
  refine own_by (fun _ k => XS.sipush X0.here hx rfl (hb hby d_rm_draw_11) k) ?_
  show own_Go p e below (s₁.setTop (mkF m 14 #[.val (.int p1), .val (.int k1), .val (.int (p1 &&& (255 : Int32))), .unset, .unset, .unset] [(.int (255 : Int32)), (.int ((p1.toUInt32 >>> ((8 : Int32) &&& 31).toUInt32).toInt32))])) _
  refine own_by (fun _ k => XS.iand X0.here hx rfl (hb hby d_rm_draw_14) rfl k) ?_
  show own_Go p e below (s₁.setTop (mkF m 15 #[.val (.int p1), .val (.int k1), .val (.int (p1 &&& (255 : Int32))), .unset, .unset, .unset] [(.int (((p1.toUInt32 >>> ((8 : Int32) &&& 31).toUInt32).toInt32) &&& (255 : Int32)))])) _
  refine own_by (fun _ k => XS.i2c X0.here hx rfl (hb hby d_rm_draw_15) rfl k) ?_
  rw [i2c_mask]
  show own_Go p e below (s₁.setTop (mkF m 16 #[.val (.int p1), .val (.int k1), .val (.int (p1 &&& (255 : Int32))), .unset, .unset, .unset] [(.int (((p1.toUInt32 >>> ((8 : Int32) &&& 31).toUInt32).toInt32) &&& (255 : Int32)))])) _
  refine own_by (fun _ k => XS.istoreN X0.here hx rfl (hb hby d_rm_draw_16) rfl (l' := #[.val (.int p1), .val (.int k1), .val (.int (p1 &&& (255 : Int32))), .val (.int (((p1.toUInt32 >>> ((8 : Int32) &&& 31).toUInt32).toInt32) &&& (255 : Int32))), .unset, .unset]) rfl k) ?_
  show own_Go p e below (s₁.setTop (mkF m 17 #[.val (.int p1), .val (.int k1), .val (.int (p1 &&& (255 : Int32))), .val (.int (((p1.toUInt32 >>> ((8 : Int32) &&& 31).toUInt32).toInt32) &&& (255 : Int32))), .unset, .unset] [])) _
  refine own_by (fun _ k => XS.iloadN X0.here hx rfl (hb hby d_rm_draw_17) rfl k) ?_
  show own_Go p e below (s₁.setTop (mkF m 18 #[.val (.int p1), .val (.int k1), .val (.int (p1 &&& (255 : Int32))), .val (.int (((p1.toUInt32 >>> ((8 : Int32) &&& 31).toUInt32).toInt32) &&& (255 : Int32))), .unset, .unset] [(.int p1)])) _
  refine own_by (fun _ k => XS.bipush X0.here hx rfl (hb hby d_rm_draw_18) k) ?_
  show own_Go p e below (s₁.setTop (mkF m 20 #[.val (.int p1), .val (.int k1), .val (.int (p1 &&& (255 : Int32))), .val (.int (((p1.toUInt32 >>> ((8 : Int32) &&& 31).toUInt32).toInt32) &&& (255 : Int32))), .unset, .unset] [(.int (16 : Int32)), (.int p1)])) _
  refine own_by (fun _ k => XS.iushr X0.here hx rfl (hb hby d_rm_draw_20) rfl k) ?_
  show own_Go p e below (s₁.setTop (mkF m 21 #[.val (.int p1), .val (.int k1), .val (.int (p1 &&& (255 : Int32))), .val (.int (((p1.toUInt32 >>> ((8 : Int32) &&& 31).toUInt32).toInt32) &&& (255 : Int32))), .unset, .unset] [(.int ((p1.toUInt32 >>> ((16 : Int32) &&& 31).toUInt32).toInt32))])) _
  refine own_by (fun _ k => XS.sipush X0.here hx rfl (hb hby d_rm_draw_21) k) ?_
  show own_Go p e below (s₁.setTop (mkF m 24 #[.val (.int p1), .val (.int k1), .val (.int (p1 &&& (255 : Int32))), .val (.int (((p1.toUInt32 >>> ((8 : Int32) &&& 31).toUInt32).toInt32) &&& (255 : Int32))), .unset, .unset] [(.int (255 : Int32)), (.int ((p1.toUInt32 >>> ((16 : Int32) &&& 31).toUInt32).toInt32))])) _
  refine own_by (fun _ k => XS.iand X0.here hx rfl (hb hby d_rm_draw_24) rfl k) ?_
  show own_Go p e below (s₁.setTop (mkF m 25 #[.val (.int p1), .val (.int k1), .val (.int (p1 &&& (255 : Int32))), .val (.int (((p1.toUInt32 >>> ((8 : Int32) &&& 31).toUInt32).toInt32) &&& (255 : Int32))), .unset, .unset] [(.int (((p1.toUInt32 >>> ((16 : Int32) &&& 31).toUInt32).toInt32) &&& (255 : Int32)))])) _
  refine own_by (fun _ k => XS.i2c X0.here hx rfl (hb hby d_rm_draw_25) rfl k) ?_
  rw [i2c_mask]
  show own_Go p e below (s₁.setTop (mkF m 26 #[.val (.int p1), .val (.int k1), .val (.int (p1 &&& (255 : Int32))), .val (.int (((p1.toUInt32 >>> ((8 : Int32) &&& 31).toUInt32).toInt32) &&& (255 : Int32))), .unset, .unset] [(.int (((p1.toUInt32 >>> ((16 : Int32) &&& 31).toUInt32).toInt32) &&& (255 : Int32)))])) _
  refine own_by (fun _ k => XS.istore X0.here hx rfl (hb hby d_rm_draw_26) rfl (l' := #[.val (.int p1), .val (.int k1), .val (.int (p1 &&& (255 : Int32))), .val (.int (((p1.toUInt32 >>> ((8 : Int32) &&& 31).toUInt32).toInt32) &&& (255 : Int32))), .val (.int (((p1.toUInt32 >>> ((16 : Int32) &&& 31).toUInt32).toInt32) &&& (255 : Int32))), .unset]) rfl k) ?_
  show own_Go p e below (s₁.setTop (mkF m 28 #[.val (.int p1), .val (.int k1), .val (.int (p1 &&& (255 : Int32))), .val (.int (((p1.toUInt32 >>> ((8 : Int32) &&& 31).toUInt32).toInt32) &&& (255 : Int32))), .val (.int (((p1.toUInt32 >>> ((16 : Int32) &&& 31).toUInt32).toInt32) &&& (255 : Int32))), .unset] [])) _
  refine own_by (fun _ k => XS.iloadN X0.here hx rfl (hb hby d_rm_draw_28) rfl k) ?_
  show own_Go p e below (s₁.setTop (mkF m 29 #[.val (.int p1), .val (.int k1), .val (.int (p1 &&& (255 : Int32))), .val (.int (((p1.toUInt32 >>> ((8 : Int32) &&& 31).toUInt32).toInt32) &&& (255 : Int32))), .val (.int (((p1.toUInt32 >>> ((16 : Int32) &&& 31).toUInt32).toInt32) &&& (255 : Int32))), .unset] [(.int k1)])) _
  refine own_by (fun _ k => XS.iconst X0.here hx rfl (hb hby d_rm_draw_29) k) ?_
  show own_Go p e below (s₁.setTop (mkF m 30 #[.val (.int p1), .val (.int k1), .val (.int (p1 &&& (255 : Int32))), .val (.int (((p1.toUInt32 >>> ((8 : Int32) &&& 31).toUInt32).toInt32) &&& (255 : Int32))), .val (.int (((p1.toUInt32 >>> ((16 : Int32) &&& 31).toUInt32).toInt32) &&& (255 : Int32))), .unset] [(.int (3 : Int32)), (.int k1)])) _
  refine own_by (fun _ k => XS.iand X0.here hx rfl (hb hby d_rm_draw_30) rfl k) ?_
  show own_Go p e below (s₁.setTop (mkF m 31 #[.val (.int p1), .val (.int k1), .val (.int (p1 &&& (255 : Int32))), .val (.int (((p1.toUInt32 >>> ((8 : Int32) &&& 31).toUInt32).toInt32) &&& (255 : Int32))), .val (.int (((p1.toUInt32 >>> ((16 : Int32) &&& 31).toUInt32).toInt32) &&& (255 : Int32))), .unset] [(.int (k1 &&& (3 : Int32)))])) _
  refine own_by (fun _ k => XS.istore X0.here hx rfl (hb hby d_rm_draw_31) rfl (l' := #[.val (.int p1), .val (.int k1), .val (.int (p1 &&& (255 : Int32))), .val (.int (((p1.toUInt32 >>> ((8 : Int32) &&& 31).toUInt32).toInt32) &&& (255 : Int32))), .val (.int (((p1.toUInt32 >>> ((16 : Int32) &&& 31).toUInt32).toInt32) &&& (255 : Int32))), .val (.int (k1 &&& (3 : Int32)))]) rfl k) ?_
  show own_Go p e below (s₁.setTop (mkF m 33 #[.val (.int p1), .val (.int k1), .val (.int (p1 &&& (255 : Int32))), .val (.int (((p1.toUInt32 >>> ((8 : Int32) &&& 31).toUInt32).toInt32) &&& (255 : Int32))), .val (.int (((p1.toUInt32 >>> ((16 : Int32) &&& 31).toUInt32).toInt32) &&& (255 : Int32))), .val (.int (k1 &&& (3 : Int32)))] [])) _
  refine own_by (fun _ k => XS.iload X0.here hx rfl (hb hby d_rm_draw_33) rfl k) ?_
  show own_Go p e below (s₁.setTop (mkF m 35 #[.val (.int p1), .val (.int k1), .val (.int (p1 &&& (255 : Int32))), .val (.int (((p1.toUInt32 >>> ((8 : Int32) &&& 31).toUInt32).toInt32) &&& (255 : Int32))), .val (.int (((p1.toUInt32 >>> ((16 : Int32) &&& 31).toUInt32).toInt32) &&& (255 : Int32))), .val (.int (k1 &&& (3 : Int32)))] [(.int (k1 &&& (3 : Int32)))])) _
  by_cases hc1 : (k1 &&& (3 : Int32)) = (0 : Int32)
  · skip
    refine own_by (fun _ k => XS.ifNo X0.here hx rfl (hb hby d_rm_draw_35) rfl ((if0 _ _).trans (teq hc1).2) k) ?_
    show own_Go p e below (s₁.setTop (mkF m 38 #[.val (.int p1), .val (.int k1), .val (.int (p1 &&& (255 : Int32))), .val (.int (((p1.toUInt32 >>> ((8 : Int32) &&& 31).toUInt32).toInt32) &&& (255 : Int32))), .val (.int (((p1.toUInt32 >>> ((16 : Int32) &&& 31).toUInt32).toInt32) &&& (255 : Int32))), .val (.int (k1 &&& (3 : Int32)))] [])) _
    obtain ⟨T2, h2, X2, e2, E2, A2, D2, U2, st2⟩ := newO X0 hx hZ hown (hw _ (List.mem_of_getElem? (i := 4) rfl)) (hw _ (List.mem_of_getElem? (i := 5) rfl)) (hw _ (List.mem_of_getElem? (i := 6) rfl)) e0 (g := (mkF m 38 #[.val (.int p1), .val (.int k1), .val (.int (p1 &&& (255 : Int32))), .val (.int (((p1.toUInt32 >>> ((8 : Int32) &&& 31).toUInt32).toInt32) &&& (255 : Int32))), .val (.int (((p1.toUInt32 >>> ((16 : Int32) &&& 31).toUInt32).toInt32) &&& (255 : Int32))), .val (.int (k1 &&& (3 : Int32)))] [])) rfl (hb hby d_rm_draw_38) (by decide) (by decide)
    obtain ⟨ob2, g2⟩ : ∃ z, z = h0.size := ⟨_, rfl⟩
    rw [← g2] at A2 D2 U2 st2
    refine own_by st2 ?_
    have z2 := E2.1
    have lt2 : h2.size > ob2 := A2.lt
    have R2 := R0.trans (CHr.ext E2 R0.1)
    show own_Go p e below (T2.setTop (mkF m 41 #[.val (.int p1), .val (.int k1), .val (.int (p1 &&& (255 : Int32))), .val (.int (((p1.toUInt32 >>> ((8 : Int32) &&& 31).toUInt32).toInt32) &&& (255 : Int32))), .val (.int (((p1.toUInt32 >>> ((16 : Int32) &&& 31).toUInt32).toInt32) &&& (255 : Int32))), .val (.int (k1 &&& (3 : Int32)))] [(.ref ob2)])) _
    refine own_by (fun _ k => XS.dup X2.here hx rfl (hb hby d_rm_draw_41) rfl rfl k) ?_
    show own_Go p e below (T2.setTop (mkF m 42 #[.val (.int p1), .val (.int k1), .val (.int (p1 &&& (255 : Int32))), .val (.int (((p1.toUInt32 >>> ((8 : Int32) &&& 31).toUInt32).toInt32) &&& (255 : Int32))), .val (.int (((p1.toUInt32 >>> ((16 : Int32) &&& 31).toUInt32).toInt32) &&& (255 : Int32))), .val (.int (k1 &&& (3 : Int32)))] [(.ref ob2), (.ref ob2)])) _
    refine own_by (fun _ k => XS.iconst X2.here hx rfl (hb hby d_rm_draw_42) k) ?_
    show own_Go p e below (T2.setTop (mkF m 43 #[.val (.int p1), .val (.int k1), .val (.int (p1 &&& (255 : Int32))), .val (.int (((p1.toUInt32 >>> ((8 : Int32) &&& 31).toUInt32).toInt32) &&& (255 : Int32))), .val (.int (((p1.toUInt32 >>> ((16 : Int32) &&& 31).toUInt32).toInt32) &&& (255 : Int32))), .val (.int (k1 &&& (3 : Int32)))] [(.int (0 : Int32)), (.ref ob2), (.ref ob2)])) _
    obtain ⟨T3, h3, k3, X3, e3, E3, A3, st3⟩ := newP X2 hx hZ (hw _ (List.mem_of_getElem? (i := 7) rfl)) e2 (g := (mkF m 43 #[.val (.int p1), .val (.int k1), .val (.int (p1 &&& (255 : Int32))), .val (.int (((p1.toUInt32 >>> ((8 : Int32) &&& 31).toUInt32).toInt32) &&& (255 : Int32))), .val (.int (((p1.toUInt32 >>> ((16 : Int32) &&& 31).toUInt32).toInt32) &&& (255 : Int32))), .val (.int (k1 &&& (3 : Int32)))] [(.int (0 : Int32)), (.ref ob2), (.ref ob2)])) rfl (hb hby d_rm_draw_43) rfl (by decide) (cap := 0) (by decide) (by decide) (by decide) (by decide)
    obtain ⟨ob3, g3⟩ : ∃ z, z = h2.size := ⟨_, rfl⟩
    rw [← g3] at A3 st3
    refine own_by st3 ?_
    have z3 := E3.1
    have R3 := R2.trans (CHr.ext E3 R2.1)
    have Vw3 : Arv Z h3 ob3 k3 .char (0 : Int32) [] (.int (0 : Int32)) := Arv.new A3 (by decide)
    have lt3 : h3.size > ob3 := Vw3.lt
    show own_Go p e below (T3.setTop (mkF m 45 #[.val (.int p1), .val (.int k1), .val (.int (p1 &&& (255 : Int32))), .val (.int (((p1.toUInt32 >>> ((8 : Int32) &&& 31).toUInt32).toInt32) &&& (255 : Int32))), .val (.int (((p1.toUInt32 >>> ((16 : Int32) &&& 31).toUInt32).toInt32) &&& (255 : Int32))), .val (.int (k1 &&& (3 : Int32)))] [(.ref ob3), (.ref ob2), (.ref ob2)])) _
    have fc4 : Exa Z h3 ob2 "java/lang/String" := (A2.ext E3)
    have fc5 : Fld Z h3 ob2 "java/lang/String" "value" "[B" .null := ((show Fld Z h2 ob2 "java/lang/String" "value" "[B" .null from D2 (Or.inr (hw _ (List.mem_of_getElem? (i := 33) rfl))) (ty := (.array .byte)) (by decide)).ext E3)
    have fc6 : Fld Z h3 ob2 "java/lang/String" "coder" "B" (.int (0 : Int32)) := ((show Fld Z h2 ob2 "java/lang/String" "coder" "B" (.int (0 : Int32)) from D2 (Or.inr (hw _ (List.mem_of_getElem? (i := 31) rfl))) (ty := .byte) (by decide)).ext E3)
    have O7 : Old Z n0 h3 := ((O0.ext E2).ext E3)
    obtain ⟨_, _, ⟨T8, L8, k8, n8⟩, -, X8, S'8, gr8, ⟨Lc8, hQ8, l8, y8, z8, C8⟩, st8⟩ := X3.specialBackS hx (y := (⟨"java/lang/String", "<init>", "([C)V"⟩ : MethodName)) rfl hown (mvT hZ (hw _ (List.mem_of_getElem? (i := 8) rfl))) (mvT hZ (hw _ (List.mem_of_getElem? (i := 9) rfl))) (mvT hZ (hw _ (List.mem_of_getElem? (i := 10) rfl))) (by decide) (backOfSH (W := 1) (rm_sinit_0 l Z a0 hw [] ob2 ob3 k3 h3 n0 O7 hEL fc4 fc5 fc6 Vw3 (by first | assumption | omega | decide)) hZ (hw _ (List.mem_of_getElem? (i := 10) rfl)) (hw _ (List.mem_of_getElem? (i := 6) rfl)) (by decide) (by decide) hEL R3.1) (g := (mkF m 45 #[.val (.int p1), .val (.int k1), .val (.int (p1 &&& (255 : Int32))), .val (.int (((p1.toUInt32 >>> ((8 : Int32) &&& 31).toUInt32).toInt32) &&& (255 : Int32))), .val (.int (((p1.toUInt32 >>> ((16 : Int32) &&& 31).toUInt32).toInt32) &&& (255 : Int32))), .val (.int (k1 &&& (3 : Int32)))] [(.ref ob3), (.ref ob2), (.ref ob2)])) rfl (by rw [hml]; rfl) (Steps.refl _) (a := ob2) (argsL := [(.ref ob3)]) (rest := [(.ref ob2)]) (lenOf own_pd__28_5bC_29V rfl) rfl (by show 2 * 0 + _ ≤ _; exact Nat.le_of_eq rfl) (hb hby d_rm_draw_45) (fun _ _ => ⟨rfl, e3, (by decide : 2 + 4 ≤ _), (by decide : 4 + 8 ≤ _)⟩)
    dsimp only [Pt.U, Pt.locs, Pt.cells, Pt.slots] at X8 l8 y8 z8 st8 hQ8 S'8 gr8 C8
    subst l8 y8 z8
    obtain ⟨X8, S8, hZ8, ho8⟩ := rebS S0 (by first | omega | (rw [e3]; omega)) X8 S'8 gr8 hZ hown
    obtain ⟨b_8, kb_8, rfl, M8, K8, g8_0, g8_1, g8_2, g8_3⟩ := hQ8
    have N8 := Fr.app N0 M8
    refine own_by (fun _ k => st8.trans k) ?_
    have R8 := R3.trans C8
    have z8 := K8.1
    have lt_g8_0 : T8.heap.size > ob2 := g8_0.lt
    have lt_g8_1 : T8.heap.size > ob2 := g8_1.lt
    have lt_g8_2 : T8.heap.size > ob2 := g8_2.lt
    have lt_g8_3 : T8.heap.size > b_8 := g8_3.lt
    show own_Go p e below (T8.setTop (mkF m 48 #[.val (.int p1), .val (.int k1), .val (.int (p1 &&& (255 : Int32))), .val (.int (((p1.toUInt32 >>> ((8 : Int32) &&& 31).toUInt32).toInt32) &&& (255 : Int32))), .val (.int (((p1.toUInt32 >>> ((16 : Int32) &&& 31).toUInt32).toInt32) &&& (255 : Int32))), .val (.int (k1 &&& (3 : Int32)))] [(.ref ob2)])) _
    have K9 : Keep h0 T8.heap [] := ((((Keep.refl h0 []).ext E2).ext E3).trans K8 (allS (P := fun x => x ∈ [] ∨ h0.size ≤ x) (Or.inr (by omega)) all0))
    obtain ⟨fs, hr, hrun, hended, hW⟩ := X8.leaveW S8 (by first | omega | (rw [e0]; omega)) (v := some (.ref ob2)) (fun h => by rw [Bd.returns] at h; cases h)
    have RR := R8.trans (CHv.at X8 hZ8 hEL R8.1)
    have RR' : CHr Z own_EL s.vm s.heap T8.vm T8.heap := by rw [hh]; exact RR
    refine ⟨_, _, retOut X8 hx Bd.returns (own_narrow_ref (by decide) rfl) (Or.inr (Or.inr (Or.inr (Or.inr ⟨rfl, by decide, rfl⟩)))) (hb hby d_rm_draw_48) hr, hrun, hended, _, _, rfl, ?_, RR', ⟨_, rfl⟩, hW.2.1, hW.2.2.1, hW.2.2.2.mono (by decide) (by decide)⟩
    show Q_rm_draw Z p1 k1 cs h0 n0 _ T8.heap _
    exact ⟨ob2, rfl, N8, K9, g8_0⟩
  · skip
    refine own_by (fun _ k => XS.ifYes X0.here hx rfl (pc0 := 35) (pc' := 49) rfl (hb hby d_rm_draw_35) rfl ((if0 _ _).trans (feq hc1).2) (by decide) (by decide) k) ?_
    show own_Go p e below (s₁.setTop (mkF m 49 #[.val (.int p1), .val (.int k1), .val (.int (p1 &&& (255 : Int32))), .val (.int (((p1.toUInt32 >>> ((8 : Int32) &&& 31).toUInt32).toInt32) &&& (255 : Int32))), .val (.int (((p1.toUInt32 >>> ((16 : Int32) &&& 31).toUInt32).toInt32) &&& (255 : Int32))), .val (.int (k1 &&& (3 : Int32)))] [])) _
    refine own_by (fun _ k => XS.iload X0.here hx rfl (hb hby d_rm_draw_49) rfl k) ?_
    show own_Go p e below (s₁.setTop (mkF m 51 #[.val (.int p1), .val (.int k1), .val (.int (p1 &&& (255 : Int32))), .val (.int (((p1.toUInt32 >>> ((8 : Int32) &&& 31).toUInt32).toInt32) &&& (255 : Int32))), .val (.int (((p1.toUInt32 >>> ((16 : Int32) &&& 31).toUInt32).toInt32) &&& (255 : Int32))), .val (.int (k1 &&& (3 : Int32)))] [(.int (k1 &&& (3 : Int32)))])) _
    refine own_by (fun _ k => XS.iconst X0.here hx rfl (hb hby d_rm_draw_51) k) ?_
    show own_Go p e below (s₁.setTop (mkF m 52 #[.val (.int p1), .val (.int k1), .val (.int (p1 &&& (255 : Int32))), .val (.int (((p1.toUInt32 >>> ((8 : Int32) &&& 31).toUInt32).toInt32) &&& (255 : Int32))), .val (.int (((p1.toUInt32 >>> ((16 : Int32) &&& 31).toUInt32).toInt32) &&& (255 : Int32))), .val (.int (k1 &&& (3 : Int32)))] [(.int (1 : Int32)), (.int (k1 &&& (3 : Int32)))])) _
    by_cases hc10 : (k1 &&& (3 : Int32)) = (1 : Int32)
    · skip
      refine own_by (fun _ k => XS.icmpNo X0.here hx rfl (hb hby d_rm_draw_52) rfl (teq hc10).2 k) ?_
      show own_Go p e below (s₁.setTop (mkF m 55 #[.val (.int p1), .val (.int k1), .val (.int (p1 &&& (255 : Int32))), .val (.int (((p1.toUInt32 >>> ((8 : Int32) &&& 31).toUInt32).toInt32) &&& (255 : Int32))), .val (.int (((p1.toUInt32 >>> ((16 : Int32) &&& 31).toUInt32).toInt32) &&& (255 : Int32))), .val (.int (k1 &&& (3 : Int32)))] [])) _
      refine own_by (fun _ k => XS.iloadN X0.here hx rfl (hb hby d_rm_draw_55) rfl k) ?_
      show own_Go p e below (s₁.setTop (mkF m 56 #[.val (.int p1), .val (.int k1), .val (.int (p1 &&& (255 : Int32))), .val (.int (((p1.toUInt32 >>> ((8 : Int32) &&& 31).toUInt32).toInt32) &&& (255 : Int32))), .val (.int (((p1.toUInt32 >>> ((16 : Int32) &&& 31).toUInt32).toInt32) &&& (255 : Int32))), .val (.int (k1 &&& (3 : Int32)))] [(.int (p1 &&& (255 : Int32)))])) _
      obtain ⟨_, _, ⟨T11, L11, k11, n11⟩, -, X11, ⟨Lc11, hQ11, l11, y11, z11⟩, st11⟩ := Jvm.LawKit.callS X0 hx (y := (⟨"java/lang/String", "valueOf", "(C)Ljava/lang/String;"⟩ : MethodName)) hown (mvT hZ (hw _ (List.mem_of_getElem? (i := 103) rfl))) (mvT hZ (hw _ (List.mem_of_getElem? (i := 104) rfl))) (mvT hZ (hw _ (List.mem_of_getElem? (i := 6) rfl))) (mvT hZ (hw _ (List.mem_of_getElem? (i := 105) rfl))) (by decide) (backOf (W := 0) (rm_valueOfC l Z a0 hw [] (p1 &&& (255 : Int32)) cs h0 n0 O0 S_COMPACT (own_mask_hi p1) hcs) hZ (hw _ (List.mem_of_getElem? (i := 105) rfl)) (hw _ (List.mem_of_getElem? (i := 6) rfl)) (by decide) (by decide)) (g := (mkF m 56 #[.val (.int p1), .val (.int k1), .val (.int (p1 &&& (255 : Int32))), .val (.int (((p1.toUInt32 >>> ((8 : Int32) &&& 31).toUInt32).toInt32) &&& (255 : Int32))), .val (.int (((p1.toUInt32 >>> ((16 : Int32) &&& 31).toUInt32).toInt32) &&& (255 : Int32))), .val (.int (k1 &&& (3 : Int32)))] [(.int (p1 &&& (255 : Int32)))])) rfl (by rw [hml]; rfl) (argsL := [(.int (p1 &&& (255 : Int32)))]) (rest := []) (lenOf own_pd__28C_29Ljava_2flang_2fString_3b rfl) rfl (by show 2 * 0 + _ ≤ _; exact Nat.le_of_eq rfl) (hb hby d_rm_draw_56) (fun _ _ => ⟨rfl, e0, (by decide : 0 + 2 ≤ _), (by decide : 0 + 5 ≤ _)⟩)
      dsimp only [Pt.U, Pt.locs, Pt.cells, Pt.slots] at X11 l11 y11 z11 st11 hQ11
      subst l11 y11 z11
      obtain ⟨r1_11, b_11, kb_11, rfl, M11, K11, g11_0, g11_1, g11_2, g11_3, r11_0, r11_1⟩ := hQ11
      have N11 := Fr.app N0 M11
      refine own_by st11 ?_
      have sk11 : ∀ x ∈ ([] : List Addr), Safe Z own_EL s.vm h0 x := sf0
      have R11 := R0.trans (CHr.keep K11 sk11 R0.1)
      have z11 := K11.1
      have lt_g11_0 : T11.heap.size > r1_11 := g11_0.lt
      have lt_g11_1 : T11.heap.size > r1_11 := g11_1.lt
      have lt_g11_2 : T11.heap.size > r1_11 := g11_2.lt
      have lt_g11_3 : T11.heap.size > b_11 := g11_3.lt
      show own_Go p e below (T11.setTop (mkF m 59 #[.val (.int p1), .val (.int k1), .val (.int (p1 &&& (255 : Int32))), .val (.int (((p1.toUInt32 >>> ((8 : Int32) &&& 31).toUInt32).toInt32) &&& (255 : Int32))), .val (.int (((p1.toUInt32 >>> ((16 : Int32) &&& 31).toUInt32).toInt32) &&& (255 : Int32))), .val (.int (k1 &&& (3 : Int32)))] [(.ref r1_11)])) _
      have K12 : Keep h0 T11.heap [] := ((Keep.refl h0 []).trans K11 all0)
      obtain ⟨fs, hr, hrun, hended, hW⟩ := X11.leaveW S0 (by first | omega | (rw [e0]; omega)) (v := some (.ref r1_11)) (fun h => by rw [Bd.returns] at h; cases h)
      have RR := R11.trans (CHv.at X11 hZ hEL R11.1)
      have RR' : CHr Z own_EL s.vm s.heap T11.vm T11.heap := by rw [hh]; exact RR
      refine ⟨_, _, retOut X11 hx Bd.returns (own_narrow_ref (by decide) rfl) (Or.inr (Or.inr (Or.inr (Or.inr ⟨rfl, by decide, rfl⟩)))) (hb hby d_rm_draw_59) hr, hrun, hended, _, _, rfl, ?_, RR', ⟨_, rfl⟩, hW.2.1, hW.2.2.1, hW.2.2.2.mono (by decide) (by decide)⟩
      show Q_rm_draw Z p1 k1 cs h0 n0 _ T11.heap _
      exact ⟨r1_11, rfl, N11, K12, g11_0⟩
    · skip
      refine own_by (fun _ k => XS.icmpYes X0.here hx rfl (pc0 := 52) (pc' := 60) rfl (hb hby d_rm_draw_52) rfl (feq hc10).2 (by decide) (by decide) k) ?_
      show own_Go p e below (s₁.setTop (mkF m 60 #[.val (.int p1), .val (.int k1), .val (.int (p1 &&& (255 : Int32))), .val (.int (((p1.toUInt32 >>> ((8 : Int32) &&& 31).toUInt32).toInt32) &&& (255 : Int32))), .val (.int (((p1.toUInt32 >>> ((16 : Int32) &&& 31).toUInt32).toInt32) &&& (255 : Int32))), .val (.int (k1 &&& (3 : Int32)))] [])) _
      refine own_by (fun _ k => XS.iload X0.here hx rfl (hb hby d_rm_draw_60) rfl k) ?_
      show own_Go p e below (s₁.setTop (mkF m 62 #[.val (.int p1), .val (.int k1), .val (.int (p1 &&& (255 : Int32))), .val (.int (((p1.toUInt32 >>> ((8 : Int32) &&& 31).toUInt32).toInt32) &&& (255 : Int32))), .val (.int (((p1.toUInt32 >>> ((16 : Int32) &&& 31).toUInt32).toInt32) &&& (255 : Int32))), .val (.int (k1 &&& (3 : Int32)))] [(.int (k1 &&& (3 : Int32)))])) _
      refine own_by (fun _ k => XS.iconst X0.here hx rfl (hb hby d_rm_draw_62) k) ?_
      show own_Go p e below (s₁.setTop (mkF m 63 #[.val (.int p1), .val (.int k1), .val (.int (p1 &&& (255 : Int32))), .val (.int (((p1.toUInt32 >>> ((8 : Int32) &&& 31).toUInt32).toInt32) &&& (255 : Int32))), .val (.int (((p1.toUInt32 >>> ((16 : Int32) &&& 31).toUInt32).toInt32) &&& (255 : Int32))), .val (.int (k1 &&& (3 : Int32)))] [(.int (2 : Int32)), (.int (k1 &&& (3 : Int32)))])) _
      by_cases hc13 : (k1 &&& (3 : Int32)) = (2 : Int32)
      · skip
        refine own_by (fun _ k => XS.icmpNo X0.here hx rfl (hb hby d_rm_draw_63) rfl (teq hc13).2 k) ?_
        show own_Go p e below (s₁.setTop (mkF m 66 #[.val (.int p1), .val (.int k1), .val (.int (p1 &&& (255 : Int32))), .val (.int (((p1.toUInt32 >>> ((8 : Int32) &&& 31).toUInt32).toInt32) &&& (255 : Int32))), .val (.int (((p1.toUInt32 >>> ((16 : Int32) &&& 31).toUInt32).toInt32) &&& (255 : Int32))), .val (.int (k1 &&& (3 : Int32)))] [])) _
        obtain ⟨T14, h14, X14, e14, E14, A14, D14, U14, st14⟩ := newO X0 hx hZ hown (hw _ (List.mem_of_getElem? (i := 4) rfl)) (hw _ (List.mem_of_getElem? (i := 5) rfl)) (hw _ (List.mem_of_getElem? (i := 6) rfl)) e0 (g := (mkF m 66 #[.val (.int p1), .val (.int k1), .val (.int (p1 &&& (255 : Int32))), .val (.int (((p1.toUInt32 >>> ((8 : Int32) &&& 31).toUInt32).toInt32) &&& (255 : Int32))), .val (.int (((p1.toUInt32 >>> ((16 : Int32) &&& 31).toUInt32).toInt32) &&& (255 : Int32))), .val (.int (k1 &&& (3 : Int32)))] [])) rfl (hb hby d_rm_draw_66) (by decide) (by decide)
        obtain ⟨ob14, g14⟩ : ∃ z, z = h0.size := ⟨_, rfl⟩
        rw [← g14] at A14 D14 U14 st14
        refine own_by st14 ?_
        have z14 := E14.1
        have lt14 : h14.size > ob14 := A14.lt
        have R14 := R0.trans (CHr.ext E14 R0.1)
        show own_Go p e below (T14.setTop (mkF m 69 #[.val (.int p1), .val (.int k1), .val (.int (p1 &&& (255 : Int32))), .val (.int (((p1.toUInt32 >>> ((8 : Int32) &&& 31).toUInt32).toInt32) &&& (255 : Int32))), .val (.int (((p1.toUInt32 >>> ((16 : Int32) &&& 31).toUInt32).toInt32) &&& (255 : Int32))), .val (.int (k1 &&& (3 : Int32)))] [(.ref ob14)])) _
        refine own_by (fun _ k => XS.dup X14.here hx rfl (hb hby d_rm_draw_69) rfl rfl k) ?_
        show own_Go p e below (T14.setTop (mkF m 70 #[.val (.int p1), .val (.int k1), .val (.int (p1 &&& (255 : Int32))), .val (.int (((p1.toUInt32 >>> ((8 : Int32) &&& 31).toUInt32).toInt32) &&& (255 : Int32))), .val (.int (((p1.toUInt32 >>> ((16 : Int32) &&& 31).toUInt32).toInt32) &&& (255 : Int32))), .val (.int (k1 &&& (3 : Int32)))] [(.ref ob14), (.ref ob14)])) _
        refine own_by (fun _ k => XS.iconst X14.here hx rfl (hb hby d_rm_draw_70) k) ?_
        show own_Go p e below (T14.setTop (mkF m 71 #[.val (.int p1), .val (.int k1), .val (.int (p1 &&& (255 : Int32))), .val (.int (((p1.toUInt32 >>> ((8 : Int32) &&& 31).toUInt32).toInt32) &&& (255 : Int32))), .val (.int (((p1.toUInt32 >>> ((16 : Int32) &&& 31).toUInt32).toInt32) &&& (255 : Int32))), .val (.int (k1 &&& (3 : Int32)))] [(.int (2 : Int32)), (.ref ob14), (.ref ob14)])) _
        obtain ⟨T15, h15, k15, X15, e15, E15, A15, st15⟩ := newP X14 hx hZ (hw _ (List.mem_of_getElem? (i := 7) rfl)) e14 (g := (mkF m 71 #[.val (.int p1), .val (.int k1), .val (.int (p1 &&& (255 : Int32))), .val (.int (((p1.toUInt32 >>> ((8 : Int32) &&& 31).toUInt32).toInt32) &&& (255 : Int32))), .val (.int (((p1.toUInt32 >>> ((16 : Int32) &&& 31).toUInt32).toInt32) &&& (255 : Int32))), .val (.int (k1 &&& (3 : Int32)))] [(.int (2 : Int32)), (.ref ob14), (.ref ob14)])) rfl (hb hby d_rm_draw_71) rfl (by decide) (cap := 2) (by decide) (by decide) (by decide) (by decide)
        obtain ⟨ob15, g15⟩ : ∃ z, z = h14.size := ⟨_, rfl⟩
        rw [← g15] at A15 st15
        refine own_by st15 ?_
        have z15 := E15.1
        have R15 := R14.trans (CHr.ext E15 R14.1)
        have Vw15 : Arv Z h15 ob15 k15 .char (2 : Int32) [] (.int (0 : Int32)) := Arv.new A15 (by decide)
        have lt15 : h15.size > ob15 := Vw15.lt
        show own_Go p e below (T15.setTop (mkF m 73 #[.val (.int p1), .val (.int k1), .val (.int (p1 &&& (255 : Int32))), .val (.int (((p1.toUInt32 >>> ((8 : Int32) &&& 31).toUInt32).toInt32) &&& (255 : Int32))), .val (.int (((p1.toUInt32 >>> ((16 : Int32) &&& 31).toUInt32).toInt32) &&& (255 : Int32))), .val (.int (k1 &&& (3 : Int32)))] [(.ref ob15), (.ref ob14), (.ref ob14)])) _
        refine own_by (fun _ k => XS.dup X15.here hx rfl (hb hby d_rm_draw_73) rfl rfl k) ?_
        show own_Go p e below (T15.setTop (mkF m 74 #[.val (.int p1), .val (.int k1), .val (.int (p1 &&& (255 : Int32))), .val (.int (((p1.toUInt32 >>> ((8 : Int32) &&& 31).toUInt32).toInt32) &&& (255 : Int32))), .val (.int (((p1.toUInt32 >>> ((16 : Int32) &&& 31).toUInt32).toInt32) &&& (255 : Int32))), .val (.int (k1 &&& (3 : Int32)))] [(.ref ob15), (.ref ob15), (.ref ob14), (.ref ob14)])) _
        refine own_by (fun _ k => XS.iconst X15.here hx rfl (hb hby d_rm_draw_74) k) ?_
        show own_Go p e below (T15.setTop (mkF m 75 #[.val (.int p1), .val (.int k1), .val (.int (p1 &&& (255 : Int32))), .val (.int (((p1.toUInt32 >>> ((8 : Int32) &&& 31).toUInt32).toInt32) &&& (255 : Int32))), .val (.int (((p1.toUInt32 >>> ((16 : Int32) &&& 31).toUInt32).toInt32) &&& (255 : Int32))), .val (.int (k1 &&& (3 : Int32)))] [(.int (0 : Int32)), (.ref ob15), (.ref ob15), (.ref ob14), (.ref ob14)])) _
        refine own_by (fun _ k => XS.iloadN X15.here hx rfl (hb hby d_rm_draw_75) rfl k) ?_
        show own_Go p e below (T15.setTop (mkF m 76 #[.val (.int p1), .val (.int k1), .val (.int (p1 &&& (255 : Int32))), .val (.int (((p1.toUInt32 >>> ((8 : Int32) &&& 31).toUInt32).toInt32) &&& (255 : Int32))), .val (.int (((p1.toUInt32 >>> ((16 : Int32) &&& 31).toUInt32).toInt32) &&& (255 : Int32))), .val (.int (k1 &&& (3 : Int32)))] [(.int (p1 &&& (255 : Int32))), (.int (0 : Int32)), (.ref ob15), (.ref ob15), (.ref ob14), (.ref ob14)])) _
        have Vw16 : Arv Z h15 ob15 k15 .char (2 : Int32) [(.int (0 : Int32))] (.int (0 : Int32)) := Vw15.pad (pad_rep [] (.int (0 : Int32)) 1)
        obtain ⟨cl17, Ar17, q17, S17, M17, H17, G17⟩ := (id Vw16)
        have hin17 : ¬ ((0 : Int32) < 0 ∨ cl17.slots.size ≤ ((0 : Int32)).toNatClampNeg) := inb_of S17 ⟨by decide, by decide⟩
        obtain ⟨T17, h17, X17, e17, W17, st17⟩ := stC X15 hx hZ e15 Ar17 (j := (0 : Int32)) hin17 (g := (mkF m 76 #[.val (.int p1), .val (.int k1), .val (.int (p1 &&& (255 : Int32))), .val (.int (((p1.toUInt32 >>> ((8 : Int32) &&& 31).toUInt32).toInt32) &&& (255 : Int32))), .val (.int (((p1.toUInt32 >>> ((16 : Int32) &&& 31).toUInt32).toInt32) &&& (255 : Int32))), .val (.int (k1 &&& (3 : Int32)))] [(.int (p1 &&& (255 : Int32))), (.int (0 : Int32)), (.ref ob15), (.ref ob15), (.ref ob14), (.ref ob14)])) rfl rfl (hb hby d_rm_draw_76)
        refine own_by st17 ?_
        rw [own_mask_c] at W17
        have z17 := W17.size
        have N17 := Fr.snoc X17 N0 (by omega)
        have sw17 : Safe Z own_EL s.vm h15 ob15 := (Safe.arv hZ.alike Vw16 (by decide))
        have sf17_ob15 := Safe.wr W17 sw17 R15.1 sw17
        have R17 := R15.trans (CHr.wr W17 sw17 R15.1)
        have Vw17 : Arv Z h17 ob15 k15 .char (2 : Int32) [(.int (p1 &&& (255 : Int32)))] (.int (0 : Int32)) := Arv.set Ar17 q17 S17 M17 H17 G17 (own_fits_c _) W17 0 rfl (Nat.le_of_ble_eq_true rfl)
        show own_Go p e below (T17.setTop (mkF m 77 #[.val (.int p1), .val (.int k1), .val (.int (p1 &&& (255 : Int32))), .val (.int (((p1.toUInt32 >>> ((8 : Int32) &&& 31).toUInt32).toInt32) &&& (255 : Int32))), .val (.int (((p1.toUInt32 >>> ((16 : Int32) &&& 31).toUInt32).toInt32) &&& (255 : Int32))), .val (.int (k1 &&& (3 : Int32)))] [(.ref ob15), (.ref ob14), (.ref ob14)])) _
        refine own_by (fun _ k => XS.dup X17.here hx rfl (hb hby d_rm_draw_77) rfl rfl k) ?_
        show own_Go p e below (T17.setTop (mkF m 78 #[.val (.int p1), .val (.int k1), .val (.int (p1 &&& (255 : Int32))), .val (.int (((p1.toUInt32 >>> ((8 : Int32) &&& 31).toUInt32).toInt32) &&& (255 : Int32))), .val (.int (((p1.toUInt32 >>> ((16 : Int32) &&& 31).toUInt32).toInt32) &&& (255 : Int32))), .val (.int (k1 &&& (3 : Int32)))] [(.ref ob15), (.ref ob15), (.ref ob14), (.ref ob14)])) _
        refine own_by (fun _ k => XS.iconst X17.here hx rfl (hb hby d_rm_draw_78) k) ?_
        show own_Go p e below (T17.setTop (mkF m 79 #[.val (.int p1), .val (.int k1), .val (.int (p1 &&& (255 : Int32))), .val (.int (((p1.toUInt32 >>> ((8 : Int32) &&& 31).toUInt32).toInt32) &&& (255 : Int32))), .val (.int (((p1.toUInt32 >>> ((16 : Int32) &&& 31).toUInt32).toInt32) &&& (255 : Int32))), .val (.int (k1 &&& (3 : Int32)))] [(.int (1 : Int32)), (.ref ob15), (.ref ob15), (.ref ob14), (.ref ob14)])) _
        refine own_by (fun _ k => XS.iloadN X17.here hx rfl (hb hby d_rm_draw_79) rfl k) ?_
        show own_Go p e below (T17.setTop (mkF m 80 #[.val (.int p1), .val (.int k1), .val (.int (p1 &&& (255 : Int32))), .val (.int (((p1.toUInt32 >>> ((8 : Int32) &&& 31).toUInt32).toInt32) &&& (255 : Int32))), .val (.int (((p1.toUInt32 >>> ((16 : Int32) &&& 31).toUInt32).toInt32) &&& (255 : Int32))), .val (.int (k1 &&& (3 : Int32)))] [(.int (((p1.toUInt32 >>> ((8 : Int32) &&& 31).toUInt32).toInt32) &&& (255 : Int32))), (.int (1 : Int32)), (.ref ob15), (.ref ob15), (.ref ob14), (.ref ob14)])) _
        have Vw18 : Arv Z h17 ob15 k15 .char (2 : Int32) [(.int (p1 &&& (255 : Int32))), (.int (0 : Int32))] (.int (0 : Int32)) := Vw17.pad (pad_rep [(.int (p1 &&& (255 : Int32)))] (.int (0 : Int32)) 1)
        obtain ⟨cl19, Ar19, q19, S19, M19, H19, G19⟩ := (id Vw18)
        have hin19 : ¬ ((1 : Int32) < 0 ∨ cl19.slots.size ≤ ((1 : Int32)).toNatClampNeg) := inb_of S19 ⟨by decide, by decide⟩
        obtain ⟨T19, h19, X19, e19, W19, st19⟩ := stC X17 hx hZ e17 Ar19 (j := (1 : Int32)) hin19 (g := (mkF m 80 #[.val (.int p1), .val (.int k1), .val (.int (p1 &&& (255 : Int32))), .val (.int (((p1.toUInt32 >>> ((8 : Int32) &&& 31).toUInt32).toInt32) &&& (255 : Int32))), .val (.int (((p1.toUInt32 >>> ((16 : Int32) &&& 31).toUInt32).toInt32) &&& (255 : Int32))), .val (.int (k1 &&& (3 : Int32)))] [(.int (((p1.toUInt32 >>> ((8 : Int32) &&& 31).toUInt32).toInt32) &&& (255 : Int32))), (.int (1 : Int32)), (.ref ob15), (.ref ob15), (.ref ob14), (.ref ob14)])) rfl rfl (hb hby d_rm_draw_80)
        refine own_by st19 ?_
        rw [own_mask_c] at W19
        have z19 := W19.size
        have N19 := Fr.snoc X19 N17 (by omega)
        have sw19 : Safe Z own_EL s.vm h17 ob15 := sf17_ob15
        have sf19_ob15 := Safe.wr W19 sw19 R17.1 sw19
        have R19 := R17.trans (CHr.wr W19 sw19 R17.1)
        have Vw19 : Arv Z h19 ob15 k15 .char (2 : Int32) [(.int (p1 &&& (255 : Int32))), (.int (((p1.toUInt32 >>> ((8 : Int32) &&& 31).toUInt32).toInt32) &&& (255 : Int32)))] (.int (0 : Int32)) := Arv.set Ar19 q19 S19 M19 H19 G19 (own_fits_c _) W19 1 rfl (Nat.le_of_ble_eq_true rfl)
        show own_Go p e below (T19.setTop (mkF m 81 #[.val (.int p1), .val (.int k1), .val (.int (p1 &&& (255 : Int32))), .val (.int (((p1.toUInt32 >>> ((8 : Int32) &&& 31).toUInt32).toInt32) &&& (255 : Int32))), .val (.int (((p1.toUInt32 >>> ((16 : Int32) &&& 31).toUInt32).toInt32) &&& (255 : Int32))), .val (.int (k1 &&& (3 : Int32)))] [(.ref ob15), (.ref ob14), (.ref ob14)])) _
        have fc20 : Exa Z h19 ob14 "java/lang/String" := (((A14.ext E15).wr W17).wr W19)
        have fc21 : Fld Z h19 ob14 "java/lang/String" "value" "[B" .null := ((((show Fld Z h14 ob14 "java/lang/String" "value" "[B" .null from D14 (Or.inr (hw _ (List.mem_of_getElem? (i := 33) rfl))) (ty := (.array .byte)) (by decide)).ext E15).other W17 (Or.inl (own_ne (by omega)))).other W19 (Or.inl (own_ne (by omega))))
        have fc22 : Fld Z h19 ob14 "java/lang/String" "coder" "B" (.int (0 : Int32)) := ((((show Fld Z h14 ob14 "java/lang/String" "coder" "B" (.int (0 : Int32)) from D14 (Or.inr (hw _ (List.mem_of_getElem? (i := 31) rfl))) (ty := .byte) (by decide)).ext E15).other W17 (Or.inl (own_ne (by omega)))).other W19 (Or.inl (own_ne (by omega))))
        have O23 : Old Z n0 h19 := ((((O0.ext E14).ext E15).wr W17 (by omega)).wr W19 (by omega))
        obtain ⟨_, _, ⟨T24, L24, k24, n24⟩, -, X24, ⟨Lc24, hQ24, l24, y24, z24⟩, st24⟩ := X19.specialBack hx (y := (⟨"java/lang/String", "<init>", "([C)V"⟩ : MethodName)) rfl hown (mvT hZ (hw _ (List.mem_of_getElem? (i := 8) rfl))) (mvT hZ (hw _ (List.mem_of_getElem? (i := 9) rfl))) (mvT hZ (hw _ (List.mem_of_getElem? (i := 10) rfl))) (by decide) (backOf (W := 1) (rm_sinit_2 l Z a0 hw [] ob14 ob15 k15 cs (p1 &&& (255 : Int32)) (((p1.toUInt32 >>> ((8 : Int32) &&& 31).toUInt32).toInt32) &&& (255 : Int32)) h19 n0 O23 S_COMPACT fc20 fc21 fc22 Vw19 (own_mask_hi p1) (own_mask_hi ((p1.toUInt32 >>> ((8 : Int32) &&& 31).toUInt32).toInt32)) (by first | assumption | omega | decide) hcs (by first | assumption | omega | decide)) hZ (hw _ (List.mem_of_getElem? (i := 10) rfl)) (hw _ (List.mem_of_getElem? (i := 6) rfl)) (by decide) (by decide)) (g := (mkF m 81 #[.val (.int p1), .val (.int k1), .val (.int (p1 &&& (255 : Int32))), .val (.int (((p1.toUInt32 >>> ((8 : Int32) &&& 31).toUInt32).toInt32) &&& (255 : Int32))), .val (.int (((p1.toUInt32 >>> ((16 : Int32) &&& 31).toUInt32).toInt32) &&& (255 : Int32))), .val (.int (k1 &&& (3 : Int32)))] [(.ref ob15), (.ref ob14), (.ref ob14)])) rfl (by rw [hml]; rfl) (Steps.refl _) (a := ob14) (argsL := [(.ref ob15)]) (rest := [(.ref ob14)]) (lenOf own_pd__28_5bC_29V rfl) rfl (by show 2 * 0 + _ ≤ _; exact Nat.le_of_eq rfl) (hb hby d_rm_draw_81) (fun _ _ => ⟨rfl, e19, (by decide : 2 + 1 ≤ _), (by decide : 6 + 2 ≤ _)⟩)
        dsimp only [Pt.U, Pt.locs, Pt.cells, Pt.slots] at X24 l24 y24 z24 st24 hQ24
        subst l24 y24 z24
        obtain ⟨b_24, kb_24, rfl, M24, K24, g24_0, g24_1, g24_2, g24_3, r24_0⟩ := hQ24
        have N24 := Fr.app N19 M24
        refine own_by (fun _ k => st24.trans k) ?_
        have sk24 : ∀ x ∈ ([ob14] : List Addr), Safe Z own_EL s.vm h19 x := (sfS (own_safe_null hZ.alike fc20 fc21) sf0)
        have sf24_ob15 := Safe.keep K24 sk24 R19.1 sf19_ob15
        have R24 := R19.trans (CHr.keep K24 sk24 R19.1)
        have z24 := K24.1
        have lt_g24_0 : T24.heap.size > ob14 := g24_0.lt
        have lt_g24_1 : T24.heap.size > ob14 := g24_1.lt
        have lt_g24_2 : T24.heap.size > ob14 := g24_2.lt
        have lt_g24_3 : T24.heap.size > b_24 := g24_3.lt
        show own_Go p e below (T24.setTop (mkF m 84 #[.val (.int p1), .val (.int k1), .val (.int (p1 &&& (255 : Int32))), .val (.int (((p1.toUInt32 >>> ((8 : Int32) &&& 31).toUInt32).toInt32) &&& (255 : Int32))), .val (.int (((p1.toUInt32 >>> ((16 : Int32) &&& 31).toUInt32).toInt32) &&& (255 : Int32))), .val (.int (k1 &&& (3 : Int32)))] [(.ref ob14)])) _
        have K25 : Keep h0 T24.heap [] := ((((((Keep.refl h0 []).ext E14).ext E15).wr W17 (Or.inr (by omega))).wr W19 (Or.inr (by omega))).trans K24 (allS (P := fun x => x ∈ [] ∨ h0.size ≤ x) (Or.inr (by omega)) all0))
        obtain ⟨fs, hr, hrun, hended, hW⟩ := X24.leaveW S0 (by first | omega | (rw [e0]; omega)) (v := some (.ref ob14)) (fun h => by rw [Bd.returns] at h; cases h)
        have RR := R24.trans (CHv.at X24 hZ hEL R24.1)
        have RR' : CHr Z own_EL s.vm s.heap T24.vm T24.heap := by rw [hh]; exact RR
        refine ⟨_, _, retOut X24 hx Bd.returns (own_narrow_ref (by decide) rfl) (Or.inr (Or.inr (Or.inr (Or.inr ⟨rfl, by decide, rfl⟩)))) (hb hby d_rm_draw_84) hr, hrun, hended, _, _, rfl, ?_, RR', ⟨_, rfl⟩, hW.2.1, hW.2.2.1, hW.2.2.2.mono (by decide) (by decide)⟩
        show Q_rm_draw Z p1 k1 cs h0 n0 _ T24.heap _
        exact ⟨ob14, rfl, N24, K25, g24_0⟩
      · skip
        refine own_by (fun _ k => XS.icmpYes X0.here hx rfl (pc0 := 63) (pc' := 85) rfl (hb hby d_rm_draw_63) rfl (feq hc13).2 (by decide) (by decide) k) ?_
        show own_Go p e below (s₁.setTop (mkF m 85 #[.val (.int p1), .val (.int k1), .val (.int (p1 &&& (255 : Int32))), .val (.int (((p1.toUInt32 >>> ((8 : Int32) &&& 31).toUInt32).toInt32) &&& (255 : Int32))), .val (.int (((p1.toUInt32 >>> ((16 : Int32) &&& 31).toUInt32).toInt32) &&& (255 : Int32))), .val (.int (k1 &&& (3 : Int32)))] [])) _
        obtain ⟨T26, h26, X26, e26, E26, A26, D26, U26, st26⟩ := newO X0 hx hZ hown (hw _ (List.mem_of_getElem? (i := 4) rfl)) (hw _ (List.mem_of_getElem? (i := 5) rfl)) (hw _ (List.mem_of_getElem? (i := 6) rfl)) e0 (g := (mkF m 85 #[.val (.int p1), .val (.int k1), .val (.int (p1 &&& (255 : Int32))), .val (.int (((p1.toUInt32 >>> ((8 : Int32) &&& 31).toUInt32).toInt32) &&& (255 : Int32))), .val (.int (((p1.toUInt32 >>> ((16 : Int32) &&& 31).toUInt32).toInt32) &&& (255 : Int32))), .val (.int (k1 &&& (3 : Int32)))] [])) rfl (hb hby d_rm_draw_85) (by decide) (by decide)
        obtain ⟨ob26, g26⟩ : ∃ z, z = h0.size := ⟨_, rfl⟩
        rw [← g26] at A26 D26 U26 st26
        refine own_by st26 ?_
        have z26 := E26.1
        have lt26 : h26.size > ob26 := A26.lt
        have R26 := R0.trans (CHr.ext E26 R0.1)
        show own_Go p e below (T26.setTop (mkF m 88 #[.val (.int p1), .val (.int k1), .val (.int (p1 &&& (255 : Int32))), .val (.int (((p1.toUInt32 >>> ((8 : Int32) &&& 31).toUInt32).toInt32) &&& (255 : Int32))), .val (.int (((p1.toUInt32 >>> ((16 : Int32) &&& 31).toUInt32).toInt32) &&& (255 : Int32))), .val (.int (k1 &&& (3 : Int32)))] [(.ref ob26)])) _
        refine own_by (fun _ k => XS.dup X26.here hx rfl (hb hby d_rm_draw_88) rfl rfl k) ?_
        show own_Go p e below (T26.setTop (mkF m 89 #[.val (.int p1), .val (.int k1), .val (.int (p1 &&& (255 : Int32))), .val (.int (((p1.toUInt32 >>> ((8 : Int32) &&& 31).toUInt32).toInt32) &&& (255 : Int32))), .val (.int (((p1.toUInt32 >>> ((16 : Int32) &&& 31).toUInt32).toInt32) &&& (255 : Int32))), .val (.int (k1 &&& (3 : Int32)))] [(.ref ob26), (.ref ob26)])) _
        refine own_by (fun _ k => XS.iconst X26.here hx rfl (hb hby d_rm_draw_89) k) ?_
        show own_Go p e below (T26.setTop (mkF m 90 #[.val (.int p1), .val (.int k1), .val (.int (p1 &&& (255 : Int32))), .val (.int (((p1.toUInt32 >>> ((8 : Int32) &&& 31).toUInt32).toInt32) &&& (255 : Int32))), .val (.int (((p1.toUInt32 >>> ((16 : Int32) &&& 31).toUInt32).toInt32) &&& (255 : Int32))), .val (.int (k1 &&& (3 : Int32)))] [(.int (3 : Int32)), (.ref ob26), (.ref ob26)])) _
        obtain ⟨T27, h27, k27, X27, e27, E27, A27, st27⟩ := newP X26 hx hZ (hw _ (List.mem_of_getElem? (i := 7) rfl)) e26 (g := (mkF m 90 #[.val (.int p1), .val (.int k1), .val (.int (p1 &&& (255 : Int32))), .val (.int (((p1.toUInt32 >>> ((8 : Int32) &&& 31).toUInt32).toInt32) &&& (255 : Int32))), .val (.int (((p1.toUInt32 >>> ((16 : Int32) &&& 31).toUInt32).toInt32) &&& (255 : Int32))), .val (.int (k1 &&& (3 : Int32)))] [(.int (3 : Int32)), (.ref ob26), (.ref ob26)])) rfl (hb hby d_rm_draw_90) rfl (by decide) (cap := 3) (by decide) (by decide) (by decide) (by decide)
        obtain ⟨ob27, g27⟩ : ∃ z, z = h26.size := ⟨_, rfl⟩
        rw [← g27] at A27 st27
        refine own_by st27 ?_
        have z27 := E27.1
        have R27 := R26.trans (CHr.ext E27 R26.1)
        have Vw27 : Arv Z h27 ob27 k27 .char (3 : Int32) [] (.int (0 : Int32)) := Arv.new A27 (by decide)
        have lt27 : h27.size > ob27 := Vw27.lt
        show own_Go p e below (T27.setTop (mkF m 92 #[.val (.int p1), .val (.int k1), .val (.int (p1 &&& (255 : Int32))), .val (.int (((p1.toUInt32 >>> ((8 : Int32) &&& 31).toUInt32).toInt32) &&& (255 : Int32))), .val (.int (((p1.toUInt32 >>> ((16 : Int32) &&& 31).toUInt32).toInt32) &&& (255 : Int32))), .val (.int (k1 &&& (3 : Int32)))] [(.ref ob27), (.ref ob26), (.ref ob26)])) _
        refine own_by (fun _ k => XS.dup X27.here hx rfl (hb hby d_rm_draw_92) rfl rfl k) ?_
        show own_Go p e below (T27.setTop (mkF m 93 #[.val (.int p1), .val (.int k1), .val (.int (p1 &&& (255 : Int32))), .val (.int (((p1.toUInt32 >>> ((8 : Int32) &&& 31).toUInt32).toInt32) &&& (255 : Int32))), .val (.int (((p1.toUInt32 >>> ((16 : Int32) &&& 31).toUInt32).toInt32) &&& (255 : Int32))), .val (.int (k1 &&& (3 : Int32)))] [(.ref ob27), (.ref ob27), (.ref ob26), (.ref ob26)])) _
        refine own_by (fun _ k => XS.iconst X27.here hx rfl (hb hby d_rm_draw_93) k) ?_
        show own_Go p e below (T27.setTop (mkF m 94 #[.val (.int p1), .val (.int k1), .val (.int (p1 &&& (255 : Int32))), .val (.int (((p1.toUInt32 >>> ((8 : Int32) &&& 31).toUInt32).toInt32) &&& (255 : Int32))), .val (.int (((p1.toUInt32 >>> ((16 : Int32) &&& 31).toUInt32).toInt32) &&& (255 : Int32))), .val (.int (k1 &&& (3 : Int32)))] [(.int (0 : Int32)), (.ref ob27), (.ref ob27), (.ref ob26), (.ref ob26)])) _
        refine own_by (fun _ k => XS.iloadN X27.here hx rfl (hb hby d_rm_draw_94) rfl k) ?_
        show own_Go p e below (T27.setTop (mkF m 95 #[.val (.int p1), .val (.int k1), .val (.int (p1 &&& (255 : Int32))), .val (.int (((p1.toUInt32 >>> ((8 : Int32) &&& 31).toUInt32).toInt32) &&& (255 : Int32))), .val (.int (((p1.toUInt32 >>> ((16 : Int32) &&& 31).toUInt32).toInt32) &&& (255 : Int32))), .val (.int (k1 &&& (3 : Int32)))] [(.int (p1 &&& (255 : Int32))), (.int (0 : Int32)), (.ref ob27), (.ref ob27), (.ref ob26), (.ref ob26)])) _
        have Vw28 : Arv Z h27 ob27 k27 .char (3 : Int32) [(.int (0 : Int32))] (.int (0 : Int32)) := Vw27.pad (pad_rep [] (.int (0 : Int32)) 1)
        obtain ⟨cl29, Ar29, q29, S29, M29, H29, G29⟩ := (id Vw28)
        have hin29 : ¬ ((0 : Int32) < 0 ∨ cl29.slots.size ≤ ((0 : Int32)).toNatClampNeg) := inb_of S29 ⟨by decide, by decide⟩
        obtain ⟨T29, h29, X29, e29, W29, st29⟩ := stC X27 hx hZ e27 Ar29 (j := (0 : Int32)) hin29 (g := (mkF m 95 #[.val (.int p1), .val (.int k1), .val (.int (p1 &&& (255 : Int32))), .val (.int (((p1.toUInt32 >>> ((8 : Int32) &&& 31).toUInt32).toInt32) &&& (255 : Int32))), .val (.int (((p1.toUInt32 >>> ((16 : Int32) &&& 31).toUInt32).toInt32) &&& (255 : Int32))), .val (.int (k1 &&& (3 : Int32)))] [(.int (p1 &&& (255 : Int32))), (.int (0 : Int32)), (.ref ob27), (.ref ob27), (.ref ob26), (.ref ob26)])) rfl rfl (hb hby d_rm_draw_95)
        refine own_by st29 ?_
        rw [own_mask_c] at W29
        have z29 := W29.size
        have N29 := Fr.snoc X29 N0 (by omega)
        have sw29 : Safe Z own_EL s.vm h27 ob27 := (Safe.arv hZ.alike Vw28 (by decide))
        have sf29_ob27 := Safe.wr W29 sw29 R27.1 sw29
        have R29 := R27.trans (CHr.wr W29 sw29 R27.1)
        have Vw29 : Arv Z h29 ob27 k27 .char (3 : Int32) [(.int (p1 &&& (255 : Int32)))] (.int (0 : Int32)) := Arv.set Ar29 q29 S29 M29 H29 G29 (own_fits_c _) W29 0 rfl (Nat.le_of_ble_eq_true rfl)
        show own_Go p e below (T29.setTop (mkF m 96 #[.val (.int p1), .val (.int k1), .val (.int (p1 &&& (255 : Int32))), .val (.int (((p1.toUInt32 >>> ((8 : Int32) &&& 31).toUInt32).toInt32) &&& (255 : Int32))), .val (.int (((p1.toUInt32 >>> ((16 : Int32) &&& 31).toUInt32).toInt32) &&& (255 : Int32))), .val (.int (k1 &&& (3 : Int32)))] [(.ref ob27), (.ref ob26), (.ref ob26)])) _
        refine own_by (fun _ k => XS.dup X29.here hx rfl (hb hby d_rm_draw_96) rfl rfl k) ?_
        show own_Go p e below (T29.setTop (mkF m 97 #[.val (.int p1), .val (.int k1), .val (.int (p1 &&& (255 : Int32))), .val (.int (((p1.toUInt32 >>> ((8 : Int32) &&& 31).toUInt32).toInt32) &&& (255 : Int32))), .val (.int (((p1.toUInt32 >>> ((16 : Int32) &&& 31).toUInt32).toInt32) &&& (255 : Int32))), .val (.int (k1 &&& (3 : Int32)))] [(.ref ob27), (.ref ob27), (.ref ob26), (.ref ob26)])) _
        refine own_by (fun _ k => XS.iconst X29.here hx rfl (hb hby d_rm_draw_97) k) ?_
        show own_Go p e below (T29.setTop (mkF m 98 #[.val (.int p1), .val (.int k1), .val (.int (p1 &&& (255 : Int32))), .val (.int (((p1.toUInt32 >>> ((8 : Int32) &&& 31).toUInt32).toInt32) &&& (255 : Int32))), .val (.int (((p1.toUInt32 >>> ((16 : Int32) &&& 31).toUInt32).toInt32) &&& (255 : Int32))), .val (.int (k1 &&& (3 : Int32)))] [(.int (1 : Int32)), (.ref ob27), (.ref ob27), (.ref ob26), (.ref ob26)])) _
        refine own_by (fun _ k => XS.iloadN X29.here hx rfl (hb hby d_rm_draw_98) rfl k) ?_
        show own_Go p e below (T29.setTop (mkF m 99 #[.val (.int p1), .val (.int k1), .val (.int (p1 &&& (255 : Int32))), .val (.int (((p1.toUInt32 >>> ((8 : Int32) &&& 31).toUInt32).toInt32) &&& (255 : Int32))), .val (.int (((p1.toUInt32 >>> ((16 : Int32) &&& 31).toUInt32).toInt32) &&& (255 : Int32))), .val (.int (k1 &&& (3 : Int32)))] [(.int (((p1.toUInt32 >>> ((8 : Int32) &&& 31).toUInt32).toInt32) &&& (255 : Int32))), (.int (1 : Int32)), (.ref ob27), (.ref ob27), (.ref ob26), (.ref ob26)])) _
        have Vw30 : Arv Z h29 ob27 k27 .char (3 : Int32) [(.int (p1 &&& (255 : Int32))), (.int (0 : Int32))] (.int (0 : Int32)) := Vw29.pad (pad_rep [(.int (p1 &&& (255 : Int32)))] (.int (0 : Int32)) 1)
        obtain ⟨cl31, Ar31, q31, S31, M31, H31, G31⟩ := (id Vw30)
        have hin31 : ¬ ((1 : Int32) < 0 ∨ cl31.slots.size ≤ ((1 : Int32)).toNatClampNeg) := inb_of S31 ⟨by decide, by decide⟩
        obtain ⟨T31, h31, X31, e31, W31, st31⟩ := stC X29 hx hZ e29 Ar31 (j := (1 : Int32)) hin31 (g := (mkF m 99 #[.val (.int p1), .val (.int k1), .val (.int (p1 &&& (255 : Int32))), .val (.int (((p1.toUInt32 >>> ((8 : Int32) &&& 31).toUInt32).toInt32) &&& (255 : Int32))), .val (.int (((p1.toUInt32 >>> ((16 : Int32) &&& 31).toUInt32).toInt32) &&& (255 : Int32))), .val (.int (k1 &&& (3 : Int32)))] [(.int (((p1.toUInt32 >>> ((8 : Int32) &&& 31).toUInt32).toInt32) &&& (255 : Int32))), (.int (1 : Int32)), (.ref ob27), (.ref ob27), (.ref ob26), (.ref ob26)])) rfl rfl (hb hby d_rm_draw_99)
        refine own_by st31 ?_
        rw [own_mask_c] at W31
        have z31 := W31.size
        have N31 := Fr.snoc X31 N29 (by omega)
        have sw31 : Safe Z own_EL s.vm h29 ob27 := sf29_ob27
        have sf31_ob27 := Safe.wr W31 sw31 R29.1 sw31
        have R31 := R29.trans (CHr.wr W31 sw31 R29.1)
        have Vw31 : Arv Z h31 ob27 k27 .char (3 : Int32) [(.int (p1 &&& (255 : Int32))), (.int (((p1.toUInt32 >>> ((8 : Int32) &&& 31).toUInt32).toInt32) &&& (255 : Int32)))] (.int (0 : Int32)) := Arv.set Ar31 q31 S31 M31 H31 G31 (own_fits_c _) W31 1 rfl (Nat.le_of_ble_eq_true rfl)
        show own_Go p e below (T31.setTop (mkF m 100 #[.val (.int p1), .val (.int k1), .val (.int (p1 &&& (255 : Int32))), .val (.int (((p1.toUInt32 >>> ((8 : Int32) &&& 31).toUInt32).toInt32) &&& (255 : Int32))), .val (.int (((p1.toUInt32 >>> ((16 : Int32) &&& 31).toUInt32).toInt32) &&& (255 : Int32))), .val (.int (k1 &&& (3 : Int32)))] [(.ref ob27), (.ref ob26), (.ref ob26)])) _
        refine own_by (fun _ k => XS.dup X31.here hx rfl (hb hby d_rm_draw_100) rfl rfl k) ?_
        show own_Go p e below (T31.setTop (mkF m 101 #[.val (.int p1), .val (.int k1), .val (.int (p1 &&& (255 : Int32))), .val (.int (((p1.toUInt32 >>> ((8 : Int32) &&& 31).toUInt32).toInt32) &&& (255 : Int32))), .val (.int (((p1.toUInt32 >>> ((16 : Int32) &&& 31).toUInt32).toInt32) &&& (255 : Int32))), .val (.int (k1 &&& (3 : Int32)))] [(.ref ob27), (.ref ob27), (.ref ob26), (.ref ob26)])) _
        refine own_by (fun _ k => XS.iconst X31.here hx rfl (hb hby d_rm_draw_101) k) ?_
        show own_Go p e below (T31.setTop (mkF m 102 #[.val (.int p1), .val (.int k1), .val (.int (p1 &&& (255 : Int32))), .val (.int (((p1.toUInt32 >>> ((8 : Int32) &&& 31).toUInt32).toInt32) &&& (255 : Int32))), .val (.int (((p1.toUInt32 >>> ((16 : Int32) &&& 31).toUInt32).toInt32) &&& (255 : Int32))), .val (.int (k1 &&& (3 : Int32)))] [(.int (2 : Int32)), (.ref ob27), (.ref ob27), (.ref ob26), (.ref ob26)])) _
        refine own_by (fun _ k => XS.iload X31.here hx rfl (hb hby d_rm_draw_102) rfl k) ?_
        show own_Go p e below (T31.setTop (mkF m 104 #[.val (.int p1), .val (.int k1), .val (.int (p1 &&& (255 : Int32))), .val (.int (((p1.toUInt32 >>> ((8 : Int32) &&& 31).toUInt32).toInt32) &&& (255 : Int32))), .val (.int (((p1.toUInt32 >>> ((16 : Int32) &&& 31).toUInt32).toInt32) &&& (255 : Int32))), .val (.int (k1 &&& (3 : Int32)))] [(.int (((p1.toUInt32 >>> ((16 : Int32) &&& 31).toUInt32).toInt32) &&& (255 : Int32))), (.int (2 : Int32)), (.ref ob27), (.ref ob27), (.ref ob26), (.ref ob26)])) _
        have Vw32 : Arv Z h31 ob27 k27 .char (3 : Int32) [(.int (p1 &&& (255 : Int32))), (.int (((p1.toUInt32 >>> ((8 : Int32) &&& 31).toUInt32).toInt32) &&& (255 : Int32))), (.int (0 : Int32))] (.int (0 : Int32)) := Vw31.pad (pad_rep [(.int (p1 &&& (255 : Int32))), (.int (((p1.toUInt32 >>> ((8 : Int32) &&& 31).toUInt32).toInt32) &&& (255 : Int32)))] (.int (0 : Int32)) 1)
        obtain ⟨cl33, Ar33, q33, S33, M33, H33, G33⟩ := (id Vw32)
        have hin33 : ¬ ((2 : Int32) < 0 ∨ cl33.slots.size ≤ ((2 : Int32)).toNatClampNeg) := inb_of S33 ⟨by decide, by decide⟩
        obtain ⟨T33, h33, X33, e33, W33, st33⟩ := stC X31 hx hZ e31 Ar33 (j := (2 : Int32)) hin33 (g := (mkF m 104 #[.val (.int p1), .val (.int k1), .val (.int (p1 &&& (255 : Int32))), .val (.int (((p1.toUInt32 >>> ((8 : Int32) &&& 31).toUInt32).toInt32) &&& (255 : Int32))), .val (.int (((p1.toUInt32 >>> ((16 : Int32) &&& 31).toUInt32).toInt32) &&& (255 : Int32))), .val (.int (k1 &&& (3 : Int32)))] [(.int (((p1.toUInt32 >>> ((16 : Int32) &&& 31).toUInt32).toInt32) &&& (255 : Int32))), (.int (2 : Int32)), (.ref ob27), (.ref ob27), (.ref ob26), (.ref ob26)])) rfl rfl (hb hby d_rm_draw_104)
        refine own_by st33 ?_
        rw [own_mask_c] at W33
        have z33 := W33.size
        have N33 := Fr.snoc X33 N31 (by omega)
        have sw33 : Safe Z own_EL s.vm h31 ob27 := sf31_ob27
        have sf33_ob27 := Safe.wr W33 sw33 R31.1 sw33
        have R33 := R31.trans (CHr.wr W33 sw33 R31.1)
        have Vw33 : Arv Z h33 ob27 k27 .char (3 : Int32) [(.int (p1 &&& (255 : Int32))), (.int (((p1.toUInt32 >>> ((8 : Int32) &&& 31).toUInt32).toInt32) &&& (255 : Int32))), (.int (((p1.toUInt32 >>> ((16 : Int32) &&& 31).toUInt32).toInt32) &&& (255 : Int32)))] (.int (0 : Int32)) := Arv.set Ar33 q33 S33 M33 H33 G33 (own_fits_c _) W33 2 rfl (Nat.le_of_ble_eq_true rfl)
        show own_Go p e below (T33.setTop (mkF m 105 #[.val (.int p1), .val (.int k1), .val (.int (p1 &&& (255 : Int32))), .val (.int (((p1.toUInt32 >>> ((8 : Int32) &&& 31).toUInt32).toInt32) &&& (255 : Int32))), .val (.int (((p1.toUInt32 >>> ((16 : Int32) &&& 31).toUInt32).toInt32) &&& (255 : Int32))), .val (.int (k1 &&& (3 : Int32)))] [(.ref ob27), (.ref ob26), (.ref ob26)])) _
        have fc34 : Exa Z h33 ob26 "java/lang/String" := ((((A26.ext E27).wr W29).wr W31).wr W33)
        have fc35 : Fld Z h33 ob26 "java/lang/String" "value" "[B" .null := (((((show Fld Z h26 ob26 "java/lang/String" "value" "[B" .null from D26 (Or.inr (hw _ (List.mem_of_getElem? (i := 33) rfl))) (ty := (.array .byte)) (by decide)).ext E27).other W29 (Or.inl (own_ne (by omega)))).other W31 (Or.inl (own_ne (by omega)))).other W33 (Or.inl (own_ne (by omega))))
        have fc36 : Fld Z h33 ob26 "java/lang/String" "coder" "B" (.int (0 : Int32)) := (((((show Fld Z h26 ob26 "java/lang/String" "coder" "B" (.int (0 : Int32)) from D26 (Or.inr (hw _ (List.mem_of_getElem? (i := 31) rfl))) (ty := .byte) (by decide)).ext E27).other W29 (Or.inl (own_ne (by omega)))).other W31 (Or.inl (own_ne (by omega)))).other W33 (Or.inl (own_ne (by omega))))
        have O37 : Old Z n0 h33 := (((((O0.ext E26).ext E27).wr W29 (by omega)).wr W31 (by omega)).wr W33 (by omega))
        obtain ⟨_, _, ⟨T38, L38, k38, n38⟩, -, X38, ⟨Lc38, hQ38, l38, y38, z38⟩, st38⟩ := X33.specialBack hx (y := (⟨"java/lang/String", "<init>", "([C)V"⟩ : MethodName)) rfl hown (mvT hZ (hw _ (List.mem_of_getElem? (i := 8) rfl))) (mvT hZ (hw _ (List.mem_of_getElem? (i := 9) rfl))) (mvT hZ (hw _ (List.mem_of_getElem? (i := 10) rfl))) (by decide) (backOf (W := 1) (rm_sinit_3 l Z a0 hw [] ob26 ob27 k27 cs (p1 &&& (255 : Int32)) (((p1.toUInt32 >>> ((8 : Int32) &&& 31).toUInt32).toInt32) &&& (255 : Int32)) (((p1.toUInt32 >>> ((16 : Int32) &&& 31).toUInt32).toInt32) &&& (255 : Int32)) h33 n0 O37 S_COMPACT fc34 fc35 fc36 Vw33 (own_mask_hi p1) (own_mask_hi ((p1.toUInt32 >>> ((8 : Int32) &&& 31).toUInt32).toInt32)) (own_mask_hi ((p1.toUInt32 >>> ((16 : Int32) &&& 31).toUInt32).toInt32)) (by first | assumption | omega | decide) hcs (by first | assumption | omega | decide)) hZ (hw _ (List.mem_of_getElem? (i := 10) rfl)) (hw _ (List.mem_of_getElem? (i := 6) rfl)) (by decide) (by decide)) (g := (mkF m 105 #[.val (.int p1), .val (.int k1), .val (.int (p1 &&& (255 : Int32))), .val (.int (((p1.toUInt32 >>> ((8 : Int32) &&& 31).toUInt32).toInt32) &&& (255 : Int32))), .val (.int (((p1.toUInt32 >>> ((16 : Int32) &&& 31).toUInt32).toInt32) &&& (255 : Int32))), .val (.int (k1 &&& (3 : Int32)))] [(.ref ob27), (.ref ob26), (.ref ob26)])) rfl (by rw [hml]; rfl) (Steps.refl _) (a := ob26) (argsL := [(.ref ob27)]) (rest := [(.ref ob26)]) (lenOf own_pd__28_5bC_29V rfl) rfl (by show 2 * 0 + _ ≤ _; exact Nat.le_of_eq rfl) (hb hby d_rm_draw_105) (fun _ _ => ⟨rfl, e33, (by decide : 2 + 1 ≤ _), (by decide : 7 + 3 ≤ _)⟩)
        dsimp only [Pt.U, Pt.locs, Pt.cells, Pt.slots] at X38 l38 y38 z38 st38 hQ38
        subst l38 y38 z38
        obtain ⟨b_38, kb_38, rfl, M38, K38, g38_0, g38_1, g38_2, g38_3, r38_0⟩ := hQ38
        have N38 := Fr.app N33 M38
        refine own_by (fun _ k => st38.trans k) ?_
        have sk38 : ∀ x ∈ ([ob26] : List Addr), Safe Z own_EL s.vm h33 x := (sfS (own_safe_null hZ.alike fc34 fc35) sf0)
        have sf38_ob27 := Safe.keep K38 sk38 R33.1 sf33_ob27
        have R38 := R33.trans (CHr.keep K38 sk38 R33.1)
        have z38 := K38.1
        have lt_g38_0 : T38.heap.size > ob26 := g38_0.lt
        have lt_g38_1 : T38.heap.size > ob26 := g38_1.lt
        have lt_g38_2 : T38.heap.size > ob26 := g38_2.lt
        have lt_g38_3 : T38.heap.size > b_38 := g38_3.lt
        show own_Go p e below (T38.setTop (mkF m 108 #[.val (.int p1), .val (.int k1), .val (.int (p1 &&& (255 : Int32))), .val (.int (((p1.toUInt32 >>> ((8 : Int32) &&& 31).toUInt32).toInt32) &&& (255 : Int32))), .val (.int (((p1.toUInt32 >>> ((16 : Int32) &&& 31).toUInt32).toInt32) &&& (255 : Int32))), .val (.int (k1 &&& (3 : Int32)))] [(.ref ob26)])) _
        have K39 : Keep h0 T38.heap [] := (((((((Keep.refl h0 []).ext E26).ext E27).wr W29 (Or.inr (by omega))).wr W31 (Or.inr (by omega))).wr W33 (Or.inr (by omega))).trans K38 (allS (P := fun x => x ∈ [] ∨ h0.size ≤ x) (Or.inr (by omega)) all0))
        obtain ⟨fs, hr, hrun, hended, hW⟩ := X38.leaveW S0 (by first | omega | (rw [e0]; omega)) (v := some (.ref ob26)) (fun h => by rw [Bd.returns] at h; cases h)
        have RR := R38.trans (CHv.at X38 hZ hEL R38.1)
        have RR' : CHr Z own_EL s.vm s.heap T38.vm T38.heap := by rw [hh]; exact RR
        refine ⟨_, _, retOut X38 hx Bd.returns (own_narrow_ref (by decide) rfl) (Or.inr (Or.inr (Or.inr (Or.inr ⟨rfl, by decide, rfl⟩)))) (hb hby d_rm_draw_108) hr, hrun, hended, _, _, rfl, ?_, RR', ⟨_, rfl⟩, hW.2.1, hW.2.2.1, hW.2.2.2.mono (by decide) (by decide)⟩
        show Q_rm_draw Z p1 k1 cs h0 n0 _ T38.heap _
        exact ⟨ob26, rfl, N38, K39, g38_0⟩
def Q_rm_law (Z : State) (p1 : Int32) (k1 : Int32) (cs : Int32) (h0 : Heap) (n0 : Nat) (v : Option Value) (h : Heap) (L : List Loc) : Prop := v = some (.int (1 : Int32)) ∧ Fr n0 L ∧ Keep h0 h []
theorem ef_rm_law (m : MethodId) (p1 : Int32) (k1 : Int32) (cs : Int32) : entryFrame m #[(.int p1), (.int k1)] maxLocals = mkF m 0 #[.val (.int p1), .val (.int k1), .unset, .unset, .unset, .unset, .unset, .unset, .unset, .unset, .unset] [] := by first | (simp [entryFrame, mkF, argsToLocals, Value.category, maxLocals]; done) | rfl
set_option maxRecDepth 65536 in
set_option maxHeartbeats 40000000 in
theorem rm_law (l : Launch) (Z : State) (a0 : Array Value) (hw : ∀ d ∈ tables_1, d.before a0 Z = true) (ws : List Jvm.Cond) (p1 : Int32) (k1 : Int32) (cs : Int32) (h0 : Heap) (n0 : Nat) (O0 : Old Z n0 h0) (hEL : EW Z a0 own_EL) (S_COMPACT : Sta Z Z.heap "java/lang/String" "COMPACT_STRINGS" "Z" (.int cs)) (hcs : ¬ (cs = (0 : Int32))) :
    MetFree l x (head1 (Jvm.Cond.code x code maxLocals ret :: ws) room_1) (fun a U => a = #[(.int p1), (.int k1)] ∧ Z.Warmed39 U.vm ∧ U.heap = h0 ∧ CHv Z own_EL U.vm h0) (fun _ _ _ _ _ => True) (fun _ U o U' => ∃ v L, o = .returned v ∧ Q_rm_law Z p1 k1 cs h0 n0 v U'.heap L ∧ CHr Z own_EL U.vm U.heap U'.vm U'.heap ∧ ReturnedEndW U o U' L room_1.cells room_1.slots) := by
  refine MetFree.of_bodySF (plainFor_of_name own_pn_com_example_rollcall_rollcall_io_RuleCopyingPinLaw) hisR ?_
  intro p e s m args below meth c s₁ Bd hml0 hP hK
  obtain ⟨rfl, hZ, hh, hC⟩ := hP
  have hx := Bd.exec
  have hby := Bd.bytes
  have hml : c.maxLocals = 11 := hml0
  have hown : s.vm.findClass "com/example/rollcall/rollcall/io/RuleCopyingPinLaw" = some m.cls := findClass_of_methodNamed Bd.named
  have hnm := (name_of_methodNamed Bd.named Bd.method).1
  have X0 : Stand p l e room_1 (s.setVm s.vm) m #[(.int p1), (.int k1)] below meth c s₁ [] 0 0 := Stand.of_body Bd
  have S0 : s.Since s.vm h0.size := (State.WarmedH.refl s).since _
  have hZ : Z.Warmed39 (s.setVm s.vm).vm := hZ
  have hown : (s.setVm s.vm).vm.findClass "com/example/rollcall/rollcall/io/RuleCopyingPinLaw" = some m.cls := hown
  have R0 : CHr Z own_EL s.vm h0 s.vm h0 := CHr.refl hC
  have e0 : s₁.heap = h0 := by rw [← hh, Bd.state]; rfl
  have N0 := Fr.nil n0
  have Z0 : n0 ≤ h0.size := by rw [← O0.1]; exact O0.2.1
  show own_Go p e below (s₁.setTop (entryFrame m #[(.int p1), (.int k1)] maxLocals)) (fun t o => ∃ v L, o = .returned v ∧ Q_rm_law Z p1 k1 cs h0 n0 v t.heap L ∧ CHr Z own_EL s.vm s.heap t.vm t.heap ∧ ReturnedEndW s o t L room_1.cells room_1.slots)
  rw [ef_rm_law m p1 k1 cs]
  refine own_by (fun _ k => XS.iloadN X0.here hx rfl (hb hby at_0) rfl k) ?_
  show own_Go p e below (s₁.setTop (mkF m 1 #[.val (.int p1), .val (.int k1), .unset, .unset, .unset, .unset, .unset, .unset, .unset, .unset, .unset] [(.int p1)])) _
  refine own_by (fun _ k => XS.iloadN X0.here hx rfl (hb hby at_1) rfl k) ?_
  show own_Go p e below (s₁.setTop (mkF m 2 #[.val (.int p1), .val (.int k1), .unset, .unset, .unset, .unset, .unset, .unset, .unset, .unset, .unset] [(.int k1), (.int p1)])) _
  obtain ⟨_, _, ⟨T1, L1, k1, n1⟩, -, X1, S'1, gr1, ⟨Lc1, hQ1, l1, y1, z1, C1⟩, st1⟩ := callSS X0 hx (y := (⟨"com/example/rollcall/rollcall/io/RuleCopyingPinLaw", "draw", "(II)Ljava/lang/String;"⟩ : MethodName)) hown (mvT hZ (hw _ (List.mem_of_getElem? (i := 0) rfl))) (mvT hZ (hw _ (List.mem_of_getElem? (i := 1) rfl))) (mvT hZ (hw _ (List.mem_of_getElem? (i := 2) rfl))) (mvT hZ (hw _ (List.mem_of_getElem? (i := 3) rfl))) (by decide) (backOfSH (W := 0) (rm_draw l Z a0 hw [] p1 k1 cs h0 n0 O0 hEL S_COMPACT hcs) hZ (hw _ (List.mem_of_getElem? (i := 3) rfl)) (hw _ (List.mem_of_getElem? (i := 2) rfl)) (by decide) (by decide) hEL R0.1) (g := (mkF m 2 #[.val (.int p1), .val (.int k1), .unset, .unset, .unset, .unset, .unset, .unset, .unset, .unset, .unset] [(.int k1), (.int p1)])) rfl (by rw [hml]; rfl) (argsL := [(.int p1), (.int k1)]) (rest := []) (lenOf own_pd__28II_29Ljava_2flang_2fString_3b rfl) rfl (by show 2 * 0 + _ ≤ _; exact Nat.le_of_eq rfl) (hb hby at_2) (fun _ _ => ⟨rfl, e0, (by decide : 0 + 6 ≤ _), (by decide : 0 + 12 ≤ _)⟩)
  dsimp only [Pt.U, Pt.locs, Pt.cells, Pt.slots] at X1 l1 y1 z1 st1 hQ1 S'1 gr1 C1
  subst l1 y1 z1
  obtain ⟨X1, S1, hZ1, ho1⟩ := rebS S0 (by first | omega | (rw [e0]; omega)) X1 S'1 gr1 hZ hown
  obtain ⟨r1_1, rfl, M1, K1, g1_0⟩ := hQ1
  have N1 := Fr.app N0 M1
  refine own_by (fun _ k => st1.trans k) ?_
  have R1 := R0.trans C1
  have z1 := K1.1
  have lt_g1_0 : T1.heap.size > r1_1 := g1_0.lt
  show own_Go p e below (T1.setTop (mkF m 5 #[.val (.int p1), .val (.int k1), .unset, .unset, .unset, .unset, .unset, .unset, .unset, .unset, .unset] [(.ref r1_1)])) _
  refine own_by (fun _ k => XS.astoreN X1.here hx rfl (hb hby at_5) rfl rfl (l' := #[.val (.int p1), .val (.int k1), .val (.ref r1_1), .unset, .unset, .unset, .unset, .unset, .unset, .unset, .unset]) rfl k) ?_
  show own_Go p e below (T1.setTop (mkF m 6 #[.val (.int p1), .val (.int k1), .val (.ref r1_1), .unset, .unset, .unset, .unset, .unset, .unset, .unset, .unset] [])) _
  refine own_by (fun _ k => XS.aloadN X1.here hx rfl (hb hby at_6) rfl rfl k) ?_
  show own_Go p e below (T1.setTop (mkF m 7 #[.val (.int p1), .val (.int k1), .val (.ref r1_1), .unset, .unset, .unset, .unset, .unset, .unset, .unset, .unset] [(.ref r1_1)])) _
  have O2 : Old Z n0 T1.heap := (O0.keep K1 all0)
  obtain ⟨_, _, ⟨T3, L3, k3, n3⟩, -, X3, ⟨Lc3, hQ3, l3, y3, z3⟩, st3⟩ := Jvm.LawKit.callS X1 hx (y := (⟨"com/example/rollcall/rollcall/io/Configuration$Rule", "copying", "(Ljava/lang/String;)Lcom/example/rollcall/rollcall/io/Configuration$Rule;"⟩ : MethodName)) ho1 (mvT hZ1 (hw _ (List.mem_of_getElem? (i := 34) rfl))) (mvT hZ1 (hw _ (List.mem_of_getElem? (i := 35) rfl))) (mvT hZ1 (hw _ (List.mem_of_getElem? (i := 36) rfl))) (mvT hZ1 (hw _ (List.mem_of_getElem? (i := 37) rfl))) (by decide) (backOf (W := 0) (rm_copying l Z a0 hw [] r1_1 T1.heap n0 O2) hZ1 (hw _ (List.mem_of_getElem? (i := 37) rfl)) (hw _ (List.mem_of_getElem? (i := 36) rfl)) (by decide) (by decide)) (g := (mkF m 7 #[.val (.int p1), .val (.int k1), .val (.ref r1_1), .unset, .unset, .unset, .unset, .unset, .unset, .unset, .unset] [(.ref r1_1)])) rfl (by rw [hml]; rfl) (argsL := [(.ref r1_1)]) (rest := []) (lenOf own_pd__28Ljava_2flang_2fString_3b_29Lcom_2fexample_2frollcall_2frollcall_2fio_2fConfiguration_24Rule_3b rfl) rfl (by show 2 * 0 + _ ≤ _; exact Nat.le_of_eq rfl) (hb hby at_7) (fun _ _ => ⟨rfl, rfl, (by decide : 6 + 1 ≤ _), (by decide : 12 + 7 ≤ _)⟩)
  dsimp only [Pt.U, Pt.locs, Pt.cells, Pt.slots] at X3 l3 y3 z3 st3 hQ3
  subst l3 y3 z3
  obtain ⟨t1_3, rfl, M3, K3, g3_0, g3_1, g3_2, g3_3, g3_4, g3_5, g3_6, g3_7⟩ := hQ3
  have N3 := Fr.app N1 M3
  refine own_by st3 ?_
  have sk3 : ∀ x ∈ ([] : List Addr), Safe Z own_EL T1.vm T1.heap x := sf0
  have R3 := R1.trans (CHr.keep K3 sk3 R1.1)
  have z3 := K3.1
  have lt_g3_0 : T3.heap.size > t1_3 := g3_0.lt
  have lt_g3_1 : T3.heap.size > t1_3 := g3_1.lt
  have lt_g3_2 : T3.heap.size > t1_3 := g3_2.lt
  have lt_g3_3 : T3.heap.size > t1_3 := g3_3.lt
  have lt_g3_4 : T3.heap.size > t1_3 := g3_4.lt
  have lt_g3_5 : T3.heap.size > t1_3 := g3_5.lt
  have lt_g3_6 : T3.heap.size > t1_3 := g3_6.lt
  have lt_g3_7 : T3.heap.size > t1_3 := g3_7.lt
  show own_Go p e below (T3.setTop (mkF m 10 #[.val (.int p1), .val (.int k1), .val (.ref r1_1), .unset, .unset, .unset, .unset, .unset, .unset, .unset, .unset] [(.ref t1_3)])) _
  refine own_by (fun _ k => XS.astoreN X3.here hx rfl (hb hby at_10) rfl rfl (l' := #[.val (.int p1), .val (.int k1), .val (.ref r1_1), .val (.ref t1_3), .unset, .unset, .unset, .unset, .unset, .unset, .unset]) rfl k) ?_
  show own_Go p e below (T3.setTop (mkF m 11 #[.val (.int p1), .val (.int k1), .val (.ref r1_1), .val (.ref t1_3), .unset, .unset, .unset, .unset, .unset, .unset, .unset] [])) _
  refine own_by (fun _ k => XS.aloadN X3.here hx rfl (hb hby at_11) rfl rfl k) ?_
  show own_Go p e below (T3.setTop (mkF m 12 #[.val (.int p1), .val (.int k1), .val (.ref r1_1), .val (.ref t1_3), .unset, .unset, .unset, .unset, .unset, .unset, .unset] [(.ref r1_1)])) _
  refine own_by (fun _ k => XS.aloadN X3.here hx rfl (hb hby at_12) rfl rfl k) ?_
  show own_Go p e below (T3.setTop (mkF m 13 #[.val (.int p1), .val (.int k1), .val (.ref r1_1), .val (.ref t1_3), .unset, .unset, .unset, .unset, .unset, .unset, .unset] [(.ref t1_3), (.ref r1_1)])) _
  have O4 : Old Z n0 T3.heap := (O2.keep K3 all0)
  obtain ⟨cq5, kq5, q5a, q5b, q5c⟩ := isOf hZ1 rfl g3_0
  obtain ⟨_, _, ⟨T5, L5, k5, n5⟩, -, X5, ⟨Lc5, hQ5, l5, y5, z5⟩, st5⟩ := X3.virtualBack hx (y := (⟨"com/example/rollcall/rollcall/io/Configuration$Rule", "from", "()Ljava/lang/String;"⟩ : MethodName)) (z := (⟨"com/example/rollcall/rollcall/io/Configuration$Rule", "from", "()Ljava/lang/String;"⟩ : MethodName)) ho1 (mvT hZ1 (hw _ (List.mem_of_getElem? (i := 63) rfl))) (mvT hZ1 (hw _ (List.mem_of_getElem? (i := 64) rfl))) (notFace_of_selects (args := #[]) (mvT hZ1 (hw _ (List.mem_of_getElem? (i := 66) rfl)))) (mvT hZ1 (hw _ (List.mem_of_getElem? (i := 66) rfl))) (mvT hZ1 (hw _ (List.mem_of_getElem? (i := 65) rfl))) (by decide) (backOf (W := 1) (rm_get_from l Z a0 hw [] t1_3 r1_1 T3.heap n0 O4 g3_1) hZ1 (hw _ (List.mem_of_getElem? (i := 67) rfl)) (hw _ (List.mem_of_getElem? (i := 36) rfl)) (by decide) (by decide)) q5a q5c (g := (mkF m 13 #[.val (.int p1), .val (.int k1), .val (.ref r1_1), .val (.ref t1_3), .unset, .unset, .unset, .unset, .unset, .unset, .unset] [(.ref t1_3), (.ref r1_1)])) rfl (by rw [hml]; rfl) (Steps.refl _) (argsL := []) (rest := [(.ref r1_1)]) (lenOf own_pd__28_29Ljava_2flang_2fString_3b rfl) rfl (by show 2 * 0 + _ ≤ _; exact Nat.le_of_eq rfl) (hb hby at_13) (fun _ _ => ⟨rfl, rfl, (by decide : 7 + 0 ≤ _), (by decide : 19 + 0 ≤ _)⟩)
  dsimp only [Pt.U, Pt.locs, Pt.cells, Pt.slots] at X5 l5 y5 z5 st5 hQ5
  subst l5 y5 z5
  obtain ⟨rfl, M5, K5⟩ := hQ5
  have N5 := Fr.app N3 M5
  refine own_by (fun _ k => st5.trans k) ?_
  show own_Go p e below (T5.setTop (mkF m 16 #[.val (.int p1), .val (.int k1), .val (.ref r1_1), .val (.ref t1_3), .unset, .unset, .unset, .unset, .unset, .unset, .unset] [(.ref r1_1), (.ref r1_1)])) _
  have fc7 : Exa Z T3.heap r1_1 "java/lang/String" := (g1_0.keep K3)
  obtain ⟨cq6, kq6, q6a, q6b, q6c⟩ := isOf hZ1 K5 fc7
  obtain ⟨_, _, ⟨T6, L6, k6, n6⟩, -, X6, ⟨Lc6, hQ6, l6, y6, z6⟩, st6⟩ := X5.virtualBack hx (y := (⟨"java/lang/String", "equals", "(Ljava/lang/Object;)Z"⟩ : MethodName)) (z := (⟨"java/lang/String", "equals", "(Ljava/lang/Object;)Z"⟩ : MethodName)) ho1 (mvT hZ1 (hw _ (List.mem_of_getElem? (i := 68) rfl))) (mvT hZ1 (hw _ (List.mem_of_getElem? (i := 69) rfl))) (notFace_of_selects (args := #[]) (mvT hZ1 (hw _ (List.mem_of_getElem? (i := 71) rfl)))) (mvT hZ1 (hw _ (List.mem_of_getElem? (i := 71) rfl))) (mvT hZ1 (hw _ (List.mem_of_getElem? (i := 70) rfl))) (by decide) (backOf (W := 0) (rm_eqsame l Z a0 hw [] r1_1 T3.heap n0 O4) hZ1 (hw _ (List.mem_of_getElem? (i := 72) rfl)) (hw _ (List.mem_of_getElem? (i := 6) rfl)) (by decide) (by decide)) q6a q6c (g := (mkF m 16 #[.val (.int p1), .val (.int k1), .val (.ref r1_1), .val (.ref t1_3), .unset, .unset, .unset, .unset, .unset, .unset, .unset] [(.ref r1_1), (.ref r1_1)])) rfl (by rw [hml]; rfl) (Steps.refl _) (argsL := [(.ref r1_1)]) (rest := []) (lenOf own_pd__28Ljava_2flang_2fObject_3b_29Z rfl) rfl (by show 2 * 0 + _ ≤ _; exact Nat.le_of_eq rfl) (hb hby at_16) (fun _ _ => ⟨rfl, K5, (by decide : 7 + 0 ≤ _), (by decide : 19 + 0 ≤ _)⟩)
  dsimp only [Pt.U, Pt.locs, Pt.cells, Pt.slots] at X6 l6 y6 z6 st6 hQ6
  subst l6 y6 z6
  obtain ⟨rfl, M6, K6⟩ := hQ6
  have N6 := Fr.app N5 M6
  refine own_by (fun _ k => st6.trans k) ?_
  show own_Go p e below (T6.setTop (mkF m 19 #[.val (.int p1), .val (.int k1), .val (.ref r1_1), .val (.ref t1_3), .unset, .unset, .unset, .unset, .unset, .unset, .unset] [(.int (1 : Int32))])) _
  refine own_by (fun _ k => XS.istore X6.here hx rfl (hb hby at_19) rfl (l' := #[.val (.int p1), .val (.int k1), .val (.ref r1_1), .val (.ref t1_3), .val (.int (1 : Int32)), .unset, .unset, .unset, .unset, .unset, .unset]) rfl k) ?_
  show own_Go p e below (T6.setTop (mkF m 21 #[.val (.int p1), .val (.int k1), .val (.ref r1_1), .val (.ref t1_3), .val (.int (1 : Int32)), .unset, .unset, .unset, .unset, .unset, .unset] [])) _
  refine own_by (fun _ k => XS.aloadN X6.here hx rfl (hb hby at_21) rfl rfl k) ?_
  show own_Go p e below (T6.setTop (mkF m 22 #[.val (.int p1), .val (.int k1), .val (.ref r1_1), .val (.ref t1_3), .val (.int (1 : Int32)), .unset, .unset, .unset, .unset, .unset, .unset] [(.ref t1_3)])) _
  obtain ⟨cq8, kq8, q8a, q8b, q8c⟩ := isOf hZ1 K6 g3_0
  obtain ⟨_, _, ⟨T8, L8, k8, n8⟩, -, X8, ⟨Lc8, hQ8, l8, y8, z8⟩, st8⟩ := X6.virtualBack hx (y := (⟨"com/example/rollcall/rollcall/io/Configuration$Rule", "regex", "()Ljava/util/regex/Pattern;"⟩ : MethodName)) (z := (⟨"com/example/rollcall/rollcall/io/Configuration$Rule", "regex", "()Ljava/util/regex/Pattern;"⟩ : MethodName)) ho1 (mvT hZ1 (hw _ (List.mem_of_getElem? (i := 73) rfl))) (mvT hZ1 (hw _ (List.mem_of_getElem? (i := 74) rfl))) (notFace_of_selects (args := #[]) (mvT hZ1 (hw _ (List.mem_of_getElem? (i := 76) rfl)))) (mvT hZ1 (hw _ (List.mem_of_getElem? (i := 76) rfl))) (mvT hZ1 (hw _ (List.mem_of_getElem? (i := 75) rfl))) (by decide) (backOf (W := 0) (rm_get_regex l Z a0 hw [] t1_3 T3.heap n0 O4 g3_2) hZ1 (hw _ (List.mem_of_getElem? (i := 77) rfl)) (hw _ (List.mem_of_getElem? (i := 36) rfl)) (by decide) (by decide)) q8a q8c (g := (mkF m 22 #[.val (.int p1), .val (.int k1), .val (.ref r1_1), .val (.ref t1_3), .val (.int (1 : Int32)), .unset, .unset, .unset, .unset, .unset, .unset] [(.ref t1_3)])) rfl (by rw [hml]; rfl) (Steps.refl _) (argsL := []) (rest := []) (lenOf own_pd__28_29Ljava_2futil_2fregex_2fPattern_3b rfl) rfl (by show 2 * 0 + _ ≤ _; exact Nat.le_of_eq rfl) (hb hby at_22) (fun _ _ => ⟨rfl, K6, (by decide : 7 + 0 ≤ _), (by decide : 19 + 0 ≤ _)⟩)
  dsimp only [Pt.U, Pt.locs, Pt.cells, Pt.slots] at X8 l8 y8 z8 st8 hQ8
  subst l8 y8 z8
  obtain ⟨rfl, M8, K8⟩ := hQ8
  have N8 := Fr.app N6 M8
  refine own_by (fun _ k => st8.trans k) ?_
  show own_Go p e below (T8.setTop (mkF m 25 #[.val (.int p1), .val (.int k1), .val (.ref r1_1), .val (.ref t1_3), .val (.int (1 : Int32)), .unset, .unset, .unset, .unset, .unset, .unset] [.null])) _
  refine own_by (fun _ k => XS.ifnonnullNo X8.here hx rfl (hb hby at_25) rfl k) ?_
  show own_Go p e below (T8.setTop (mkF m 28 #[.val (.int p1), .val (.int k1), .val (.ref r1_1), .val (.ref t1_3), .val (.int (1 : Int32)), .unset, .unset, .unset, .unset, .unset, .unset] [])) _
  refine own_by (fun _ k => XS.iconst X8.here hx rfl (hb hby at_28) k) ?_
  show own_Go p e below (T8.setTop (mkF m 29 #[.val (.int p1), .val (.int k1), .val (.ref r1_1), .val (.ref t1_3), .val (.int (1 : Int32)), .unset, .unset, .unset, .unset, .unset, .unset] [(.int (1 : Int32))])) _
  refine own_by (fun _ k => XS.goto X8.here hx rfl (pc0 := 29) (pc' := 33) rfl (hb hby at_29) (by decide) (by decide) k) ?_
  show own_Go p e below (T8.setTop (mkF m 33 #[.val (.int p1), .val (.int k1), .val (.ref r1_1), .val (.ref t1_3), .val (.int (1 : Int32)), .unset, .unset, .unset, .unset, .unset, .unset] [(.int (1 : Int32))])) _
  refine own_by (fun _ k => XS.istore X8.here hx rfl (hb hby at_33) rfl (l' := #[.val (.int p1), .val (.int k1), .val (.ref r1_1), .val (.ref t1_3), .val (.int (1 : Int32)), .val (.int (1 : Int32)), .unset, .unset, .unset, .unset, .unset]) rfl k) ?_
  show own_Go p e below (T8.setTop (mkF m 35 #[.val (.int p1), .val (.int k1), .val (.ref r1_1), .val (.ref t1_3), .val (.int (1 : Int32)), .val (.int (1 : Int32)), .unset, .unset, .unset, .unset, .unset] [])) _
  refine own_by (fun _ k => XS.aloadN X8.here hx rfl (hb hby at_35) rfl rfl k) ?_
  show own_Go p e below (T8.setTop (mkF m 36 #[.val (.int p1), .val (.int k1), .val (.ref r1_1), .val (.ref t1_3), .val (.int (1 : Int32)), .val (.int (1 : Int32)), .unset, .unset, .unset, .unset, .unset] [(.ref t1_3)])) _
  obtain ⟨cq9, kq9, q9a, q9b, q9c⟩ := isOf hZ1 K8 g3_0
  obtain ⟨_, _, ⟨T9, L9, k9, n9⟩, -, X9, ⟨Lc9, hQ9, l9, y9, z9⟩, st9⟩ := X8.virtualBack hx (y := (⟨"com/example/rollcall/rollcall/io/Configuration$Rule", "match", "()J"⟩ : MethodName)) (z := (⟨"com/example/rollcall/rollcall/io/Configuration$Rule", "match", "()J"⟩ : MethodName)) ho1 (mvT hZ1 (hw _ (List.mem_of_getElem? (i := 78) rfl))) (mvT hZ1 (hw _ (List.mem_of_getElem? (i := 79) rfl))) (notFace_of_selects (args := #[]) (mvT hZ1 (hw _ (List.mem_of_getElem? (i := 81) rfl)))) (mvT hZ1 (hw _ (List.mem_of_getElem? (i := 81) rfl))) (mvT hZ1 (hw _ (List.mem_of_getElem? (i := 80) rfl))) (by decide) (backOf (W := 0) (rm_get_match l Z a0 hw [] t1_3 T3.heap n0 O4 g3_3) hZ1 (hw _ (List.mem_of_getElem? (i := 82) rfl)) (hw _ (List.mem_of_getElem? (i := 36) rfl)) (by decide) (by decide)) q9a q9c (g := (mkF m 36 #[.val (.int p1), .val (.int k1), .val (.ref r1_1), .val (.ref t1_3), .val (.int (1 : Int32)), .val (.int (1 : Int32)), .unset, .unset, .unset, .unset, .unset] [(.ref t1_3)])) rfl (by rw [hml]; rfl) (Steps.refl _) (argsL := []) (rest := []) (lenOf own_pd__28_29J rfl) rfl (by show 2 * 0 + _ ≤ _; exact Nat.le_of_eq rfl) (hb hby at_36) (fun _ _ => ⟨rfl, K8, (by decide : 7 + 0 ≤ _), (by decide : 19 + 0 ≤ _)⟩)
  dsimp only [Pt.U, Pt.locs, Pt.cells, Pt.slots] at X9 l9 y9 z9 st9 hQ9
  subst l9 y9 z9
  obtain ⟨rfl, M9, K9⟩ := hQ9
  have N9 := Fr.app N8 M9
  refine own_by (fun _ k => st9.trans k) ?_
  show own_Go p e below (T9.setTop (mkF m 39 #[.val (.int p1), .val (.int k1), .val (.ref r1_1), .val (.ref t1_3), .val (.int (1 : Int32)), .val (.int (1 : Int32)), .unset, .unset, .unset, .unset, .unset] [(.long (0 : Int64))])) _
  refine own_by (fun _ k => XS.lconst X9.here hx rfl (hb hby at_39) k) ?_
  show own_Go p e below (T9.setTop (mkF m 40 #[.val (.int p1), .val (.int k1), .val (.ref r1_1), .val (.ref t1_3), .val (.int (1 : Int32)), .val (.int (1 : Int32)), .unset, .unset, .unset, .unset, .unset] [(.long (0 : Int64)), (.long (0 : Int64))])) _
  refine own_by (fun _ k => XS.lcmp X9.here hx rfl (hb hby at_40) rfl k) ?_
  show own_Go p e below (T9.setTop (mkF m 41 #[.val (.int p1), .val (.int k1), .val (.ref r1_1), .val (.ref t1_3), .val (.int (1 : Int32)), .val (.int (1 : Int32)), .unset, .unset, .unset, .unset, .unset] [(.int (lcmpW (0 : Int64) (0 : Int64)))])) _
  refine own_by (fun _ k => XS.ifNo X9.here hx rfl (hb hby at_41) rfl ((if0 _ _).trans (teq (by decide)).2) k) ?_
  show own_Go p e below (T9.setTop (mkF m 44 #[.val (.int p1), .val (.int k1), .val (.ref r1_1), .val (.ref t1_3), .val (.int (1 : Int32)), .val (.int (1 : Int32)), .unset, .unset, .unset, .unset, .unset] [])) _
  refine own_by (fun _ k => XS.iconst X9.here hx rfl (hb hby at_44) k) ?_
  show own_Go p e below (T9.setTop (mkF m 45 #[.val (.int p1), .val (.int k1), .val (.ref r1_1), .val (.ref t1_3), .val (.int (1 : Int32)), .val (.int (1 : Int32)), .unset, .unset, .unset, .unset, .unset] [(.int (1 : Int32))])) _
  refine own_by (fun _ k => XS.goto X9.here hx rfl (pc0 := 45) (pc' := 49) rfl (hb hby at_45) (by decide) (by decide) k) ?_
  show own_Go p e below (T9.setTop (mkF m 49 #[.val (.int p1), .val (.int k1), .val (.ref r1_1), .val (.ref t1_3), .val (.int (1 : Int32)), .val (.int (1 : Int32)), .unset, .unset, .unset, .unset, .unset] [(.int (1 : Int32))])) _
  refine own_by (fun _ k => XS.istore X9.here hx rfl (hb hby at_49) rfl (l' := #[.val (.int p1), .val (.int k1), .val (.ref r1_1), .val (.ref t1_3), .val (.int (1 : Int32)), .val (.int (1 : Int32)), .val (.int (1 : Int32)), .unset, .unset, .unset, .unset]) rfl k) ?_
  show own_Go p e below (T9.setTop (mkF m 51 #[.val (.int p1), .val (.int k1), .val (.ref r1_1), .val (.ref t1_3), .val (.int (1 : Int32)), .val (.int (1 : Int32)), .val (.int (1 : Int32)), .unset, .unset, .unset, .unset] [])) _
  refine own_by (fun _ k => XS.aloadN X9.here hx rfl (hb hby at_51) rfl rfl k) ?_
  show own_Go p e below (T9.setTop (mkF m 52 #[.val (.int p1), .val (.int k1), .val (.ref r1_1), .val (.ref t1_3), .val (.int (1 : Int32)), .val (.int (1 : Int32)), .val (.int (1 : Int32)), .unset, .unset, .unset, .unset] [(.ref t1_3)])) _
  obtain ⟨cq10, kq10, q10a, q10b, q10c⟩ := isOf hZ1 K9 g3_0
  obtain ⟨_, _, ⟨T10, L10, k10, n10⟩, -, X10, ⟨Lc10, hQ10, l10, y10, z10⟩, st10⟩ := X9.virtualBack hx (y := (⟨"com/example/rollcall/rollcall/io/Configuration$Rule", "group", "()I"⟩ : MethodName)) (z := (⟨"com/example/rollcall/rollcall/io/Configuration$Rule", "group", "()I"⟩ : MethodName)) ho1 (mvT hZ1 (hw _ (List.mem_of_getElem? (i := 83) rfl))) (mvT hZ1 (hw _ (List.mem_of_getElem? (i := 84) rfl))) (notFace_of_selects (args := #[]) (mvT hZ1 (hw _ (List.mem_of_getElem? (i := 86) rfl)))) (mvT hZ1 (hw _ (List.mem_of_getElem? (i := 86) rfl))) (mvT hZ1 (hw _ (List.mem_of_getElem? (i := 85) rfl))) (by decide) (backOf (W := 0) (rm_get_group l Z a0 hw [] t1_3 T3.heap n0 O4 g3_4) hZ1 (hw _ (List.mem_of_getElem? (i := 87) rfl)) (hw _ (List.mem_of_getElem? (i := 36) rfl)) (by decide) (by decide)) q10a q10c (g := (mkF m 52 #[.val (.int p1), .val (.int k1), .val (.ref r1_1), .val (.ref t1_3), .val (.int (1 : Int32)), .val (.int (1 : Int32)), .val (.int (1 : Int32)), .unset, .unset, .unset, .unset] [(.ref t1_3)])) rfl (by rw [hml]; rfl) (Steps.refl _) (argsL := []) (rest := []) (lenOf own_pd__28_29I rfl) rfl (by show 2 * 0 + _ ≤ _; exact Nat.le_of_eq rfl) (hb hby at_52) (fun _ _ => ⟨rfl, K9, (by decide : 7 + 0 ≤ _), (by decide : 19 + 0 ≤ _)⟩)
  dsimp only [Pt.U, Pt.locs, Pt.cells, Pt.slots] at X10 l10 y10 z10 st10 hQ10
  subst l10 y10 z10
  obtain ⟨rfl, M10, K10⟩ := hQ10
  have N10 := Fr.app N9 M10
  refine own_by (fun _ k => st10.trans k) ?_
  show own_Go p e below (T10.setTop (mkF m 55 #[.val (.int p1), .val (.int k1), .val (.ref r1_1), .val (.ref t1_3), .val (.int (1 : Int32)), .val (.int (1 : Int32)), .val (.int (1 : Int32)), .unset, .unset, .unset, .unset] [(.int (0 : Int32))])) _
  refine own_by (fun _ k => XS.ifNo X10.here hx rfl (hb hby at_55) rfl ((if0 _ _).trans (teq (by decide : (0 : Int32) = (0 : Int32))).2) k) ?_
  show own_Go p e below (T10.setTop (mkF m 58 #[.val (.int p1), .val (.int k1), .val (.ref r1_1), .val (.ref t1_3), .val (.int (1 : Int32)), .val (.int (1 : Int32)), .val (.int (1 : Int32)), .unset, .unset, .unset, .unset] [])) _
  refine own_by (fun _ k => XS.iconst X10.here hx rfl (hb hby at_58) k) ?_
  show own_Go p e below (T10.setTop (mkF m 59 #[.val (.int p1), .val (.int k1), .val (.ref r1_1), .val (.ref t1_3), .val (.int (1 : Int32)), .val (.int (1 : Int32)), .val (.int (1 : Int32)), .unset, .unset, .unset, .unset] [(.int (1 : Int32))])) _
  refine own_by (fun _ k => XS.goto X10.here hx rfl (pc0 := 59) (pc' := 63) rfl (hb hby at_59) (by decide) (by decide) k) ?_
  show own_Go p e below (T10.setTop (mkF m 63 #[.val (.int p1), .val (.int k1), .val (.ref r1_1), .val (.ref t1_3), .val (.int (1 : Int32)), .val (.int (1 : Int32)), .val (.int (1 : Int32)), .unset, .unset, .unset, .unset] [(.int (1 : Int32))])) _
  refine own_by (fun _ k => XS.istore X10.here hx rfl (hb hby at_63) rfl (l' := #[.val (.int p1), .val (.int k1), .val (.ref r1_1), .val (.ref t1_3), .val (.int (1 : Int32)), .val (.int (1 : Int32)), .val (.int (1 : Int32)), .val (.int (1 : Int32)), .unset, .unset, .unset]) rfl k) ?_
  show own_Go p e below (T10.setTop (mkF m 65 #[.val (.int p1), .val (.int k1), .val (.ref r1_1), .val (.ref t1_3), .val (.int (1 : Int32)), .val (.int (1 : Int32)), .val (.int (1 : Int32)), .val (.int (1 : Int32)), .unset, .unset, .unset] [])) _
  refine own_by (fun _ k => XS.aloadN X10.here hx rfl (hb hby at_65) rfl rfl k) ?_
  show own_Go p e below (T10.setTop (mkF m 66 #[.val (.int p1), .val (.int k1), .val (.ref r1_1), .val (.ref t1_3), .val (.int (1 : Int32)), .val (.int (1 : Int32)), .val (.int (1 : Int32)), .val (.int (1 : Int32)), .unset, .unset, .unset] [(.ref t1_3)])) _
  obtain ⟨cq11, kq11, q11a, q11b, q11c⟩ := isOf hZ1 K10 g3_0
  obtain ⟨_, _, ⟨T11, L11, k11, n11⟩, -, X11, ⟨Lc11, hQ11, l11, y11, z11⟩, st11⟩ := X10.virtualBack hx (y := (⟨"com/example/rollcall/rollcall/io/Configuration$Rule", "ifEmpty", "()Ljava/lang/String;"⟩ : MethodName)) (z := (⟨"com/example/rollcall/rollcall/io/Configuration$Rule", "ifEmpty", "()Ljava/lang/String;"⟩ : MethodName)) ho1 (mvT hZ1 (hw _ (List.mem_of_getElem? (i := 88) rfl))) (mvT hZ1 (hw _ (List.mem_of_getElem? (i := 89) rfl))) (notFace_of_selects (args := #[]) (mvT hZ1 (hw _ (List.mem_of_getElem? (i := 91) rfl)))) (mvT hZ1 (hw _ (List.mem_of_getElem? (i := 91) rfl))) (mvT hZ1 (hw _ (List.mem_of_getElem? (i := 90) rfl))) (by decide) (backOf (W := 0) (rm_get_ifEmpty l Z a0 hw [] t1_3 T3.heap n0 O4 g3_5) hZ1 (hw _ (List.mem_of_getElem? (i := 92) rfl)) (hw _ (List.mem_of_getElem? (i := 36) rfl)) (by decide) (by decide)) q11a q11c (g := (mkF m 66 #[.val (.int p1), .val (.int k1), .val (.ref r1_1), .val (.ref t1_3), .val (.int (1 : Int32)), .val (.int (1 : Int32)), .val (.int (1 : Int32)), .val (.int (1 : Int32)), .unset, .unset, .unset] [(.ref t1_3)])) rfl (by rw [hml]; rfl) (Steps.refl _) (argsL := []) (rest := []) (lenOf own_pd__28_29Ljava_2flang_2fString_3b rfl) rfl (by show 2 * 0 + _ ≤ _; exact Nat.le_of_eq rfl) (hb hby at_66) (fun _ _ => ⟨rfl, K10, (by decide : 7 + 0 ≤ _), (by decide : 19 + 0 ≤ _)⟩)
  dsimp only [Pt.U, Pt.locs, Pt.cells, Pt.slots] at X11 l11 y11 z11 st11 hQ11
  subst l11 y11 z11
  obtain ⟨rfl, M11, K11⟩ := hQ11
  have N11 := Fr.app N10 M11
  refine own_by (fun _ k => st11.trans k) ?_
  show own_Go p e below (T11.setTop (mkF m 69 #[.val (.int p1), .val (.int k1), .val (.ref r1_1), .val (.ref t1_3), .val (.int (1 : Int32)), .val (.int (1 : Int32)), .val (.int (1 : Int32)), .val (.int (1 : Int32)), .unset, .unset, .unset] [.null])) _
  refine own_by (fun _ k => XS.ifnonnullNo X11.here hx rfl (hb hby at_69) rfl k) ?_
  show own_Go p e below (T11.setTop (mkF m 72 #[.val (.int p1), .val (.int k1), .val (.ref r1_1), .val (.ref t1_3), .val (.int (1 : Int32)), .val (.int (1 : Int32)), .val (.int (1 : Int32)), .val (.int (1 : Int32)), .unset, .unset, .unset] [])) _
  refine own_by (fun _ k => XS.iconst X11.here hx rfl (hb hby at_72) k) ?_
  show own_Go p e below (T11.setTop (mkF m 73 #[.val (.int p1), .val (.int k1), .val (.ref r1_1), .val (.ref t1_3), .val (.int (1 : Int32)), .val (.int (1 : Int32)), .val (.int (1 : Int32)), .val (.int (1 : Int32)), .unset, .unset, .unset] [(.int (1 : Int32))])) _
  refine own_by (fun _ k => XS.goto X11.here hx rfl (pc0 := 73) (pc' := 77) rfl (hb hby at_73) (by decide) (by decide) k) ?_
  show own_Go p e below (T11.setTop (mkF m 77 #[.val (.int p1), .val (.int k1), .val (.ref r1_1), .val (.ref t1_3), .val (.int (1 : Int32)), .val (.int (1 : Int32)), .val (.int (1 : Int32)), .val (.int (1 : Int32)), .unset, .unset, .unset] [(.int (1 : Int32))])) _
  refine own_by (fun _ k => XS.istore X11.here hx rfl (hb hby at_77) rfl (l' := #[.val (.int p1), .val (.int k1), .val (.ref r1_1), .val (.ref t1_3), .val (.int (1 : Int32)), .val (.int (1 : Int32)), .val (.int (1 : Int32)), .val (.int (1 : Int32)), .val (.int (1 : Int32)), .unset, .unset]) rfl k) ?_
  show own_Go p e below (T11.setTop (mkF m 79 #[.val (.int p1), .val (.int k1), .val (.ref r1_1), .val (.ref t1_3), .val (.int (1 : Int32)), .val (.int (1 : Int32)), .val (.int (1 : Int32)), .val (.int (1 : Int32)), .val (.int (1 : Int32)), .unset, .unset] [])) _
  refine own_by (fun _ k => XS.aloadN X11.here hx rfl (hb hby at_79) rfl rfl k) ?_
  show own_Go p e below (T11.setTop (mkF m 80 #[.val (.int p1), .val (.int k1), .val (.ref r1_1), .val (.ref t1_3), .val (.int (1 : Int32)), .val (.int (1 : Int32)), .val (.int (1 : Int32)), .val (.int (1 : Int32)), .val (.int (1 : Int32)), .unset, .unset] [(.ref t1_3)])) _
  obtain ⟨cq12, kq12, q12a, q12b, q12c⟩ := isOf hZ1 K11 g3_0
  obtain ⟨_, _, ⟨T12, L12, k12, n12⟩, -, X12, ⟨Lc12, hQ12, l12, y12, z12⟩, st12⟩ := X11.virtualBack hx (y := (⟨"com/example/rollcall/rollcall/io/Configuration$Rule", "keepIfEmpty", "()Z"⟩ : MethodName)) (z := (⟨"com/example/rollcall/rollcall/io/Configuration$Rule", "keepIfEmpty", "()Z"⟩ : MethodName)) ho1 (mvT hZ1 (hw _ (List.mem_of_getElem? (i := 93) rfl))) (mvT hZ1 (hw _ (List.mem_of_getElem? (i := 94) rfl))) (notFace_of_selects (args := #[]) (mvT hZ1 (hw _ (List.mem_of_getElem? (i := 96) rfl)))) (mvT hZ1 (hw _ (List.mem_of_getElem? (i := 96) rfl))) (mvT hZ1 (hw _ (List.mem_of_getElem? (i := 95) rfl))) (by decide) (backOf (W := 0) (rm_get_keepIfEmpty l Z a0 hw [] t1_3 T3.heap n0 O4 g3_6) hZ1 (hw _ (List.mem_of_getElem? (i := 97) rfl)) (hw _ (List.mem_of_getElem? (i := 36) rfl)) (by decide) (by decide)) q12a q12c (g := (mkF m 80 #[.val (.int p1), .val (.int k1), .val (.ref r1_1), .val (.ref t1_3), .val (.int (1 : Int32)), .val (.int (1 : Int32)), .val (.int (1 : Int32)), .val (.int (1 : Int32)), .val (.int (1 : Int32)), .unset, .unset] [(.ref t1_3)])) rfl (by rw [hml]; rfl) (Steps.refl _) (argsL := []) (rest := []) (lenOf own_pd__28_29Z rfl) rfl (by show 2 * 0 + _ ≤ _; exact Nat.le_of_eq rfl) (hb hby at_80) (fun _ _ => ⟨rfl, K11, (by decide : 7 + 0 ≤ _), (by decide : 19 + 0 ≤ _)⟩)
  dsimp only [Pt.U, Pt.locs, Pt.cells, Pt.slots] at X12 l12 y12 z12 st12 hQ12
  subst l12 y12 z12
  obtain ⟨rfl, M12, K12⟩ := hQ12
  have N12 := Fr.app N11 M12
  refine own_by (fun _ k => st12.trans k) ?_
  show own_Go p e below (T12.setTop (mkF m 83 #[.val (.int p1), .val (.int k1), .val (.ref r1_1), .val (.ref t1_3), .val (.int (1 : Int32)), .val (.int (1 : Int32)), .val (.int (1 : Int32)), .val (.int (1 : Int32)), .val (.int (1 : Int32)), .unset, .unset] [(.int (0 : Int32))])) _
  refine own_by (fun _ k => XS.ifNo X12.here hx rfl (hb hby at_83) rfl ((if0 _ _).trans (teq (by decide : (0 : Int32) = (0 : Int32))).2) k) ?_
  show own_Go p e below (T12.setTop (mkF m 86 #[.val (.int p1), .val (.int k1), .val (.ref r1_1), .val (.ref t1_3), .val (.int (1 : Int32)), .val (.int (1 : Int32)), .val (.int (1 : Int32)), .val (.int (1 : Int32)), .val (.int (1 : Int32)), .unset, .unset] [])) _
  refine own_by (fun _ k => XS.iconst X12.here hx rfl (hb hby at_86) k) ?_
  show own_Go p e below (T12.setTop (mkF m 87 #[.val (.int p1), .val (.int k1), .val (.ref r1_1), .val (.ref t1_3), .val (.int (1 : Int32)), .val (.int (1 : Int32)), .val (.int (1 : Int32)), .val (.int (1 : Int32)), .val (.int (1 : Int32)), .unset, .unset] [(.int (1 : Int32))])) _
  refine own_by (fun _ k => XS.goto X12.here hx rfl (pc0 := 87) (pc' := 91) rfl (hb hby at_87) (by decide) (by decide) k) ?_
  show own_Go p e below (T12.setTop (mkF m 91 #[.val (.int p1), .val (.int k1), .val (.ref r1_1), .val (.ref t1_3), .val (.int (1 : Int32)), .val (.int (1 : Int32)), .val (.int (1 : Int32)), .val (.int (1 : Int32)), .val (.int (1 : Int32)), .unset, .unset] [(.int (1 : Int32))])) _
  refine own_by (fun _ k => XS.istore X12.here hx rfl (hb hby at_91) rfl (l' := #[.val (.int p1), .val (.int k1), .val (.ref r1_1), .val (.ref t1_3), .val (.int (1 : Int32)), .val (.int (1 : Int32)), .val (.int (1 : Int32)), .val (.int (1 : Int32)), .val (.int (1 : Int32)), .val (.int (1 : Int32)), .unset]) rfl k) ?_
  show own_Go p e below (T12.setTop (mkF m 93 #[.val (.int p1), .val (.int k1), .val (.ref r1_1), .val (.ref t1_3), .val (.int (1 : Int32)), .val (.int (1 : Int32)), .val (.int (1 : Int32)), .val (.int (1 : Int32)), .val (.int (1 : Int32)), .val (.int (1 : Int32)), .unset] [])) _
  refine own_by (fun _ k => XS.aloadN X12.here hx rfl (hb hby at_93) rfl rfl k) ?_
  show own_Go p e below (T12.setTop (mkF m 94 #[.val (.int p1), .val (.int k1), .val (.ref r1_1), .val (.ref t1_3), .val (.int (1 : Int32)), .val (.int (1 : Int32)), .val (.int (1 : Int32)), .val (.int (1 : Int32)), .val (.int (1 : Int32)), .val (.int (1 : Int32)), .unset] [(.ref t1_3)])) _
  obtain ⟨cq13, kq13, q13a, q13b, q13c⟩ := isOf hZ1 K12 g3_0
  obtain ⟨_, _, ⟨T13, L13, k13, n13⟩, -, X13, ⟨Lc13, hQ13, l13, y13, z13⟩, st13⟩ := X12.virtualBack hx (y := (⟨"com/example/rollcall/rollcall/io/Configuration$Rule", "onlyIfEmpty", "()Z"⟩ : MethodName)) (z := (⟨"com/example/rollcall/rollcall/io/Configuration$Rule", "onlyIfEmpty", "()Z"⟩ : MethodName)) ho1 (mvT hZ1 (hw _ (List.mem_of_getElem? (i := 98) rfl))) (mvT hZ1 (hw _ (List.mem_of_getElem? (i := 99) rfl))) (notFace_of_selects (args := #[]) (mvT hZ1 (hw _ (List.mem_of_getElem? (i := 101) rfl)))) (mvT hZ1 (hw _ (List.mem_of_getElem? (i := 101) rfl))) (mvT hZ1 (hw _ (List.mem_of_getElem? (i := 100) rfl))) (by decide) (backOf (W := 0) (rm_get_onlyIfEmpty l Z a0 hw [] t1_3 T3.heap n0 O4 g3_7) hZ1 (hw _ (List.mem_of_getElem? (i := 102) rfl)) (hw _ (List.mem_of_getElem? (i := 36) rfl)) (by decide) (by decide)) q13a q13c (g := (mkF m 94 #[.val (.int p1), .val (.int k1), .val (.ref r1_1), .val (.ref t1_3), .val (.int (1 : Int32)), .val (.int (1 : Int32)), .val (.int (1 : Int32)), .val (.int (1 : Int32)), .val (.int (1 : Int32)), .val (.int (1 : Int32)), .unset] [(.ref t1_3)])) rfl (by rw [hml]; rfl) (Steps.refl _) (argsL := []) (rest := []) (lenOf own_pd__28_29Z rfl) rfl (by show 2 * 0 + _ ≤ _; exact Nat.le_of_eq rfl) (hb hby at_94) (fun _ _ => ⟨rfl, K12, (by decide : 7 + 0 ≤ _), (by decide : 19 + 0 ≤ _)⟩)
  dsimp only [Pt.U, Pt.locs, Pt.cells, Pt.slots] at X13 l13 y13 z13 st13 hQ13
  subst l13 y13 z13
  obtain ⟨rfl, M13, K13⟩ := hQ13
  have N13 := Fr.app N12 M13
  refine own_by (fun _ k => st13.trans k) ?_
  show own_Go p e below (T13.setTop (mkF m 97 #[.val (.int p1), .val (.int k1), .val (.ref r1_1), .val (.ref t1_3), .val (.int (1 : Int32)), .val (.int (1 : Int32)), .val (.int (1 : Int32)), .val (.int (1 : Int32)), .val (.int (1 : Int32)), .val (.int (1 : Int32)), .unset] [(.int (0 : Int32))])) _
  refine own_by (fun _ k => XS.ifNo X13.here hx rfl (hb hby at_97) rfl ((if0 _ _).trans (teq (by decide : (0 : Int32) = (0 : Int32))).2) k) ?_
  show own_Go p e below (T13.setTop (mkF m 100 #[.val (.int p1), .val (.int k1), .val (.ref r1_1), .val (.ref t1_3), .val (.int (1 : Int32)), .val (.int (1 : Int32)), .val (.int (1 : Int32)), .val (.int (1 : Int32)), .val (.int (1 : Int32)), .val (.int (1 : Int32)), .unset] [])) _
  refine own_by (fun _ k => XS.iconst X13.here hx rfl (hb hby at_100) k) ?_
  show own_Go p e below (T13.setTop (mkF m 101 #[.val (.int p1), .val (.int k1), .val (.ref r1_1), .val (.ref t1_3), .val (.int (1 : Int32)), .val (.int (1 : Int32)), .val (.int (1 : Int32)), .val (.int (1 : Int32)), .val (.int (1 : Int32)), .val (.int (1 : Int32)), .unset] [(.int (1 : Int32))])) _
  refine own_by (fun _ k => XS.goto X13.here hx rfl (pc0 := 101) (pc' := 105) rfl (hb hby at_101) (by decide) (by decide) k) ?_
  show own_Go p e below (T13.setTop (mkF m 105 #[.val (.int p1), .val (.int k1), .val (.ref r1_1), .val (.ref t1_3), .val (.int (1 : Int32)), .val (.int (1 : Int32)), .val (.int (1 : Int32)), .val (.int (1 : Int32)), .val (.int (1 : Int32)), .val (.int (1 : Int32)), .unset] [(.int (1 : Int32))])) _
  refine own_by (fun _ k => XS.istore X13.here hx rfl (hb hby at_105) rfl (l' := #[.val (.int p1), .val (.int k1), .val (.ref r1_1), .val (.ref t1_3), .val (.int (1 : Int32)), .val (.int (1 : Int32)), .val (.int (1 : Int32)), .val (.int (1 : Int32)), .val (.int (1 : Int32)), .val (.int (1 : Int32)), .val (.int (1 : Int32))]) rfl k) ?_
  show own_Go p e below (T13.setTop (mkF m 107 #[.val (.int p1), .val (.int k1), .val (.ref r1_1), .val (.ref t1_3), .val (.int (1 : Int32)), .val (.int (1 : Int32)), .val (.int (1 : Int32)), .val (.int (1 : Int32)), .val (.int (1 : Int32)), .val (.int (1 : Int32)), .val (.int (1 : Int32))] [])) _
  refine own_by (fun _ k => XS.iload X13.here hx rfl (hb hby at_107) rfl k) ?_
  show own_Go p e below (T13.setTop (mkF m 109 #[.val (.int p1), .val (.int k1), .val (.ref r1_1), .val (.ref t1_3), .val (.int (1 : Int32)), .val (.int (1 : Int32)), .val (.int (1 : Int32)), .val (.int (1 : Int32)), .val (.int (1 : Int32)), .val (.int (1 : Int32)), .val (.int (1 : Int32))] [(.int (1 : Int32))])) _
  refine own_by (fun _ k => XS.ifNo X13.here hx rfl (hb hby at_109) rfl ((if0 _ _).trans (feq (by decide : ¬ ((1 : Int32) = (0 : Int32)))).1) k) ?_
  show own_Go p e below (T13.setTop (mkF m 112 #[.val (.int p1), .val (.int k1), .val (.ref r1_1), .val (.ref t1_3), .val (.int (1 : Int32)), .val (.int (1 : Int32)), .val (.int (1 : Int32)), .val (.int (1 : Int32)), .val (.int (1 : Int32)), .val (.int (1 : Int32)), .val (.int (1 : Int32))] [])) _
  refine own_by (fun _ k => XS.iload X13.here hx rfl (hb hby at_112) rfl k) ?_
  show own_Go p e below (T13.setTop (mkF m 114 #[.val (.int p1), .val (.int k1), .val (.ref r1_1), .val (.ref t1_3), .val (.int (1 : Int32)), .val (.int (1 : Int32)), .val (.int (1 : Int32)), .val (.int (1 : Int32)), .val (.int (1 : Int32)), .val (.int (1 : Int32)), .val (.int (1 : Int32))] [(.int (1 : Int32))])) _
  refine own_by (fun _ k => XS.ifNo X13.here hx rfl (hb hby at_114) rfl ((if0 _ _).trans (feq (by decide : ¬ ((1 : Int32) = (0 : Int32)))).1) k) ?_
  show own_Go p e below (T13.setTop (mkF m 117 #[.val (.int p1), .val (.int k1), .val (.ref r1_1), .val (.ref t1_3), .val (.int (1 : Int32)), .val (.int (1 : Int32)), .val (.int (1 : Int32)), .val (.int (1 : Int32)), .val (.int (1 : Int32)), .val (.int (1 : Int32)), .val (.int (1 : Int32))] [])) _
  refine own_by (fun _ k => XS.iload X13.here hx rfl (hb hby at_117) rfl k) ?_
  show own_Go p e below (T13.setTop (mkF m 119 #[.val (.int p1), .val (.int k1), .val (.ref r1_1), .val (.ref t1_3), .val (.int (1 : Int32)), .val (.int (1 : Int32)), .val (.int (1 : Int32)), .val (.int (1 : Int32)), .val (.int (1 : Int32)), .val (.int (1 : Int32)), .val (.int (1 : Int32))] [(.int (1 : Int32))])) _
  refine own_by (fun _ k => XS.ifNo X13.here hx rfl (hb hby at_119) rfl ((if0 _ _).trans (feq (by decide : ¬ ((1 : Int32) = (0 : Int32)))).1) k) ?_
  show own_Go p e below (T13.setTop (mkF m 122 #[.val (.int p1), .val (.int k1), .val (.ref r1_1), .val (.ref t1_3), .val (.int (1 : Int32)), .val (.int (1 : Int32)), .val (.int (1 : Int32)), .val (.int (1 : Int32)), .val (.int (1 : Int32)), .val (.int (1 : Int32)), .val (.int (1 : Int32))] [])) _
  refine own_by (fun _ k => XS.iload X13.here hx rfl (hb hby at_122) rfl k) ?_
  show own_Go p e below (T13.setTop (mkF m 124 #[.val (.int p1), .val (.int k1), .val (.ref r1_1), .val (.ref t1_3), .val (.int (1 : Int32)), .val (.int (1 : Int32)), .val (.int (1 : Int32)), .val (.int (1 : Int32)), .val (.int (1 : Int32)), .val (.int (1 : Int32)), .val (.int (1 : Int32))] [(.int (1 : Int32))])) _
  refine own_by (fun _ k => XS.ifNo X13.here hx rfl (hb hby at_124) rfl ((if0 _ _).trans (feq (by decide : ¬ ((1 : Int32) = (0 : Int32)))).1) k) ?_
  show own_Go p e below (T13.setTop (mkF m 127 #[.val (.int p1), .val (.int k1), .val (.ref r1_1), .val (.ref t1_3), .val (.int (1 : Int32)), .val (.int (1 : Int32)), .val (.int (1 : Int32)), .val (.int (1 : Int32)), .val (.int (1 : Int32)), .val (.int (1 : Int32)), .val (.int (1 : Int32))] [])) _
  refine own_by (fun _ k => XS.iload X13.here hx rfl (hb hby at_127) rfl k) ?_
  show own_Go p e below (T13.setTop (mkF m 129 #[.val (.int p1), .val (.int k1), .val (.ref r1_1), .val (.ref t1_3), .val (.int (1 : Int32)), .val (.int (1 : Int32)), .val (.int (1 : Int32)), .val (.int (1 : Int32)), .val (.int (1 : Int32)), .val (.int (1 : Int32)), .val (.int (1 : Int32))] [(.int (1 : Int32))])) _
  refine own_by (fun _ k => XS.ifNo X13.here hx rfl (hb hby at_129) rfl ((if0 _ _).trans (feq (by decide : ¬ ((1 : Int32) = (0 : Int32)))).1) k) ?_
  show own_Go p e below (T13.setTop (mkF m 132 #[.val (.int p1), .val (.int k1), .val (.ref r1_1), .val (.ref t1_3), .val (.int (1 : Int32)), .val (.int (1 : Int32)), .val (.int (1 : Int32)), .val (.int (1 : Int32)), .val (.int (1 : Int32)), .val (.int (1 : Int32)), .val (.int (1 : Int32))] [])) _
  refine own_by (fun _ k => XS.iload X13.here hx rfl (hb hby at_132) rfl k) ?_
  show own_Go p e below (T13.setTop (mkF m 134 #[.val (.int p1), .val (.int k1), .val (.ref r1_1), .val (.ref t1_3), .val (.int (1 : Int32)), .val (.int (1 : Int32)), .val (.int (1 : Int32)), .val (.int (1 : Int32)), .val (.int (1 : Int32)), .val (.int (1 : Int32)), .val (.int (1 : Int32))] [(.int (1 : Int32))])) _
  refine own_by (fun _ k => XS.ifNo X13.here hx rfl (hb hby at_134) rfl ((if0 _ _).trans (feq (by decide : ¬ ((1 : Int32) = (0 : Int32)))).1) k) ?_
  show own_Go p e below (T13.setTop (mkF m 137 #[.val (.int p1), .val (.int k1), .val (.ref r1_1), .val (.ref t1_3), .val (.int (1 : Int32)), .val (.int (1 : Int32)), .val (.int (1 : Int32)), .val (.int (1 : Int32)), .val (.int (1 : Int32)), .val (.int (1 : Int32)), .val (.int (1 : Int32))] [])) _
  refine own_by (fun _ k => XS.iload X13.here hx rfl (hb hby at_137) rfl k) ?_
  show own_Go p e below (T13.setTop (mkF m 139 #[.val (.int p1), .val (.int k1), .val (.ref r1_1), .val (.ref t1_3), .val (.int (1 : Int32)), .val (.int (1 : Int32)), .val (.int (1 : Int32)), .val (.int (1 : Int32)), .val (.int (1 : Int32)), .val (.int (1 : Int32)), .val (.int (1 : Int32))] [(.int (1 : Int32))])) _
  refine own_by (fun _ k => XS.ifNo X13.here hx rfl (hb hby at_139) rfl ((if0 _ _).trans (feq (by decide : ¬ ((1 : Int32) = (0 : Int32)))).1) k) ?_
  show own_Go p e below (T13.setTop (mkF m 142 #[.val (.int p1), .val (.int k1), .val (.ref r1_1), .val (.ref t1_3), .val (.int (1 : Int32)), .val (.int (1 : Int32)), .val (.int (1 : Int32)), .val (.int (1 : Int32)), .val (.int (1 : Int32)), .val (.int (1 : Int32)), .val (.int (1 : Int32))] [])) _
  refine own_by (fun _ k => XS.iconst X13.here hx rfl (hb hby at_142) k) ?_
  show own_Go p e below (T13.setTop (mkF m 143 #[.val (.int p1), .val (.int k1), .val (.ref r1_1), .val (.ref t1_3), .val (.int (1 : Int32)), .val (.int (1 : Int32)), .val (.int (1 : Int32)), .val (.int (1 : Int32)), .val (.int (1 : Int32)), .val (.int (1 : Int32)), .val (.int (1 : Int32))] [(.int (1 : Int32))])) _
  refine own_by (fun _ k => XS.goto X13.here hx rfl (pc0 := 143) (pc' := 147) rfl (hb hby at_143) (by decide) (by decide) k) ?_
  show own_Go p e below (T13.setTop (mkF m 147 #[.val (.int p1), .val (.int k1), .val (.ref r1_1), .val (.ref t1_3), .val (.int (1 : Int32)), .val (.int (1 : Int32)), .val (.int (1 : Int32)), .val (.int (1 : Int32)), .val (.int (1 : Int32)), .val (.int (1 : Int32)), .val (.int (1 : Int32))] [(.int (1 : Int32))])) _
  have K14 : Keep h0 T3.heap [] := (((Keep.refl h0 []).trans K1 all0).trans K3 all0)
  obtain ⟨fs, hr, hrun, hended, hW⟩ := X13.leaveW S1 (by first | omega | (rw [K13]; omega)) (v := some (.int (1 : Int32))) (fun h => by rw [Bd.returns] at h; cases h)
  have RR := R3.trans (CHv.at X13 hZ1 hEL R3.1)
  have RR' : CHr Z own_EL s.vm s.heap T13.vm T13.heap := by rw [hh, K13]; exact RR
  refine ⟨_, _, retN X13 hx (t := .boolean) Bd.returns (by simp) (hb hby at_147) hr, hrun, hended, _, _, rfl, ?_, RR', ⟨_, rfl⟩, hW.2.1, hW.2.2.1, hW.2.2.2.mono (by decide) (by decide)⟩
  show Q_rm_law Z p1 k1 cs h0 n0 _ T13.heap _
  rw [K13]
  exact ⟨rfl, N13, K14⟩
set_option maxRecDepth 65536 in
set_option maxHeartbeats 40000000 in
theorem comes_1 {Post : Tables → Env → Array Value → State → Outcome → State → Prop} (hpost : ∀ tb e args s v u, (limb_1_1.after args s (.returned v) u = true ∧ limb_1_2.after args s (.returned v) u = true ∧ True) → ReturnedEndW s (.returned v) u (Jvm.fieldLocs frame_1_writes args s ++ Jvm.arrayLocs frame_1_arrays args s ++ Jvm.staticLocs frame_1_statics s) 24 1152 → Post tb e args s (.returned v) u) :
    ArmFor flags0 classFile x code maxLocals ret World_1 tables_1 room_1 Calls_1 rest_1 Pre_1 Post := by
  intro l hfl _ _ p e ha hc hk s m args below hf hA hF happ hP
  obtain ⟨hcalls, hrest, hpre⟩ := hP
  obtain ⟨-, -, -, hnamed, -, -, -, hat⟩ := (Spec.applies_iff hf).mp happ
  obtain ⟨hg, hn⟩ := and_e (Cond.before_iff.mp (show (Jvm.Cond.and given_1 narrow_1).before args s = true from hpre))
  obtain ⟨hh0, hg0⟩ := and_e hg
  obtain ⟨hh1, hg1⟩ := and_e hg0
  obtain ⟨w0, w1, rfl⟩ : ∃ w0 w1 : Value, args = #[w0, w1] := by
    have hs : args.size = 2 := by simpa [Cond.value, given_1] using hh0
    obtain ⟨L⟩ := args
    match L, hs with
    | [w0, w1], _ => exact ⟨w0, w1, rfl⟩
  have hw := fun d (hd : d ∈ tables_1) => atoms_spec (ws := Jvm.Cond.code x code maxLocals ret :: tables_1) hat d (List.mem_cons_of_mem _ hd)
  have hfit : Fit s := fun {y c} hc i hi => by
    obtain ⟨ha, rfl⟩ := Array.getElem?_eq_some_iff.mp hc
    have q := List.all_eq_true.mp ((Array.all_eq_true_iff_forall_mem.mp hF) _ (Array.getElem_mem ha)) i (List.mem_range.mpr hi)
    simpa [Array.getElem?_eq_getElem hi] using q
  obtain ⟨hsets, hown0⟩ := atoms_of _ (rest_1_c_eq ▸ (show rest_1_c.before _ s = true from hrest))
  have hr0 := Cond.before_iff.mp hown0
  obtain ⟨i0, ea0⟩ := is_v hh1
  obtain rfl : w0 = (.int i0) := Option.some.inj ea0
  obtain ⟨i1, ea1⟩ := is_v hg1
  obtain rfl : w1 = (.int i1) := Option.some.inj ea1
  obtain ⟨cs, v_cs⟩ := is_v (Cond.before_iff.mp (hsets _ (List.mem_of_getElem? (i := 1) rfl)))
  have S_COMPACT := Sta.start v_cs (Or.inl (hsets _ (List.mem_of_getElem? (i := 0) rfl)))
  have hcs : ¬ (cs = (0 : Int32)) := gotF (Cond.eq_ints v_cs (Term.int_eval (0))) (not_v (Cond.before_iff.mp (hsets _ (List.mem_of_getElem? (i := 2) rfl))))
  obtain ⟨fmt, v_fmt, hfmt⟩ := isR_v (Cond.before_iff.mp (hsets _ (List.mem_of_getElem? (i := 8) rfl)))
  have S_FMT := Sta.start v_fmt (Or.inl (hsets _ (List.mem_of_getElem? (i := 7) rfl)))
  have hEL : EW s _ own_EL := (EW.cons (hw _ (List.mem_of_getElem? (i := 117) rfl)) (by decide) EW.nil)
  have hCH : CHv s own_EL s.vm s.heap := CHv.start hEL (fun q hq => hcalls.1 q hq) (hsets _ (List.mem_of_getElem? (i := 2) rfl)) (hw _ (List.mem_of_getElem? (i := 23) rfl)) (hw _ (List.mem_of_getElem? (i := 5) rfl))
  obtain ⟨n, o, h1, h2, h3, _, L, rfl, ⟨rfl, N, -⟩, -, hq⟩ := rm_law l s _ hw tables_1 i0 i1 cs s.heap s.heap.size (Old.start s) hEL S_COMPACT hcs p e ha hc hk s m _ below hf ((Spec.applies_iff_loose hf).mp happ).1 ⟨rfl, State.Warmed39.refl s, rfl, hCH⟩ trivial
  refine ⟨n, _, h1, h2, h3, hpost _ _ _ _ _ _ ⟨Cond.after_iff.mpr rfl, Cond.after_iff.mpr (eq_i res_at (Term.int_eval (1)) rfl), trivial⟩ ⟨hq.1, hq.2.1, hq.2.2.1, (hq.2.2.2.sift fun y hy => Or.inr (N y hy)).mono (by decide) (by decide)⟩⟩
theorem main_1_1 : Claimed_1_1 := comes_1 fun _ _ _ _ _ _ h hF => ⟨h.1, hF⟩
theorem main_1_2 : Claimed_1_2 := comes_1 fun _ _ _ _ _ _ h hF => ⟨h.2.1, hF⟩
end Jvm.Pilot.@@N@@
namespace Jvm.Pilot.@@N@@
open Jvm Jvm.ClassFile Sem Op Lib Jvm.Free Jvm.Stand Jvm.Pilot.@@N@@.Jvm.D
/-! MADE BY PROGRAM (witnessworld.py) out of the Statement's table words and the real class files: 21 classes; the members and pool entries that the words name. The judged class is class 1, her method 2. -/
namespace start1
open Jvm.ClassFile
def u (s : String) : CpInfo := .utf8 (stringToUtf16 s)
/-- a pool by its gaps: so many unusable entries, then the entry; so many at the end -/
def gap : Nat → List CpInfo → List CpInfo
  | 0, r => r
  | n + 1, r => .unusable :: gap n r
def poolList (es : List (Nat × CpInfo)) (last : Nat) : List CpInfo := es.foldr (fun e r => gap e.1 (e.2 :: r)) (gap last [])
def pool (es : List (Nat × CpInfo)) (last : Nat) : Array CpInfo := ⟨poolList es last⟩
def fileOf (pool : Array CpInfo) (this : Nat) (attrs : Array Attribute := #[]) (ms : Array MethodInfo := #[]) (fl : Nat := 33) (sup : Nat := 0) (ifs : Array Nat := #[]) (fds : Array FieldInfo := #[]) : ClassFile where
  minorVersion := 0
  majorVersion := 65
  constantPool := pool
  accessFlags := fl
  thisClass := this
  superClass := sup
  interfaces := ifs
  fields := fds
  methods := ms
  attributes := attrs
def plain (name : String) (sup : Option ClassId) : Class where
  name := name
  kind := .ordinary
  loader := none
  accessFlags := 33
  super := sup
  interfaces := #[]
  cf := none
  fields := #[]
  methods := #[]
  instanceTypes := #[]
  staticTypes := #[]
  resolved := #[]
  callSites := []
  init := .initialized
  statics := none
  mirror := none

def pool0 : Array CpInfo := pool [(5, u "<init>"), (0, u "()V"), (1, .class_ 10), (1, u "java/lang/Object")] 113

def k0c0 : Code := { maxStack := 0, maxLocals := 1, code := object_method_1_code, exceptionTable := #[], attributes := #[] }
def k0m0 : Method := { name := "<init>", desc := "()V", sig := { parameters := [], returnType := none }, accessFlags := 1, code := some k0c0 }
/-- java/lang/Object -/
def k0 : Class := { plain "java/lang/Object" none with
  accessFlags := 33
  interfaces := #[]
  cf := some (fileOf pool0 8 #[] #[{ accessFlags := 1, nameIndex := 5, descriptorIndex := 6, attributes := #[] }] 33 0 #[] #[])
  fields := #[]
  methods := #[k0m0]
  instanceTypes := #[]
  staticTypes := #[]
  resolved := Array.replicate 124 none
  statics := none }

def pool1 : Array CpInfo := pool [(2, .class_ 4), (1, u "java/lang/Object"), (0, u "<init>"), (0, u "()V"), (0, .class_ 8), (0, u "java/lang/String"), (0, .methodref 7 10), (0, .nameAndType 5 11), (0, u "([C)V"), (0, .methodref 7 13), (0, .nameAndType 14 15), (0, u "valueOf"), (0, u "(C)Ljava/lang/String;"), (0, .methodref 17 18), (0, .class_ 19), (0, .nameAndType 20 21), (0, u "com/example/rollcall/rollcall/io/RuleCopyingPinLaw"), (0, u "draw"), (0, u "(II)Ljava/lang/String;"), (0, .methodref 23 24), (0, .class_ 25), (0, .nameAndType 26 27), (0, u "com/example/rollcall/rollcall/io/Configuration$Rule"), (0, u "copying"), (0, u "(Ljava/lang/String;)Lcom/example/rollcall/rollcall/io/Configuration$Rule;"), (0, .methodref 23 29), (0, .nameAndType 30 31), (0, u "from"), (0, u "()Ljava/lang/String;"), (0, .methodref 7 33), (0, .nameAndType 34 35), (0, u "equals"), (0, u "(Ljava/lang/Object;)Z"), (0, .methodref 23 37), (0, .nameAndType 38 39), (0, u "regex"), (0, u "()Ljava/util/regex/Pattern;"), (0, .methodref 23 41), (0, .nameAndType 42 43), (0, u "match"), (0, u "()J"), (0, .methodref 23 45), (0, .nameAndType 46 47), (0, u "group"), (0, u "()I"), (0, .methodref 23 49), (0, .nameAndType 50 31), (0, u "ifEmpty"), (0, .methodref 23 52), (0, .nameAndType 53 54), (0, u "keepIfEmpty"), (0, u "()Z"), (0, .methodref 23 56), (0, .nameAndType 57 54), (0, u "onlyIfEmpty"), (3, u "law"), (0, u "(II)Z")] 6

def k1m0 : Method := { name := "<init>", desc := "()V", sig := { parameters := [], returnType := none }, accessFlags := 2, code := none }
def k1c1 : Code := { maxStack := 6, maxLocals := 6, code := method_2_code, exceptionTable := #[], attributes := #[] }
def k1m1 : Method := { name := "draw", desc := "(II)Ljava/lang/String;", sig := { parameters := [.int, .int], returnType := some (.object "java/lang/String") }, accessFlags := 10, code := some k1c1 }
def k1c2 : Code := { maxStack := 4, maxLocals := 11, code := code, exceptionTable := #[], attributes := #[] }
def k1m2 : Method := { name := "law", desc := "(II)Z", sig := { parameters := [.int, .int], returnType := some .boolean }, accessFlags := 9, code := some k1c2 }
/-- com/example/rollcall/rollcall/io/RuleCopyingPinLaw -/
def k1 : Class := { plain "com/example/rollcall/rollcall/io/RuleCopyingPinLaw" (some 0) with
  accessFlags := 49
  interfaces := #[]
  cf := some (fileOf pool1 17 #[] #[{ accessFlags := 2, nameIndex := 5, descriptorIndex := 6, attributes := #[] }, { accessFlags := 10, nameIndex := 20, descriptorIndex := 21, attributes := #[] }, { accessFlags := 9, nameIndex := 61, descriptorIndex := 62, attributes := #[] }] 49 2 #[] #[])
  fields := #[]
  methods := #[k1m0, k1m1, k1m2]
  instanceTypes := #[]
  staticTypes := #[]
  resolved := Array.replicate 69 none
  statics := none }

def pool2 : Array CpInfo := pool [(1, .class_ 2), (0, u "java/io/Serializable"), (0, .class_ 4), (0, u "java/lang/Object")] 2

/-- java/io/Serializable -/
def k2 : Class := { plain "java/io/Serializable" (some 0) with
  accessFlags := 1537
  interfaces := #[]
  cf := some (fileOf pool2 1 #[] #[] 1537 3 #[] #[])
  fields := #[]
  methods := #[]
  instanceTypes := #[]
  staticTypes := #[]
  resolved := Array.replicate 7 none
  statics := none }

def pool3 : Array CpInfo := pool [(1, .class_ 2), (0, u "java/lang/Comparable"), (0, .class_ 4), (0, u "java/lang/Object")] 7

/-- java/lang/Comparable -/
def k3 : Class := { plain "java/lang/Comparable" (some 0) with
  accessFlags := 1537
  interfaces := #[]
  cf := some (fileOf pool3 1 #[] #[] 1537 3 #[] #[])
  fields := #[]
  methods := #[]
  instanceTypes := #[]
  staticTypes := #[]
  resolved := Array.replicate 12 none
  statics := none }

def pool4 : Array CpInfo := pool [(2, .class_ 4), (1, u "java/lang/CharSequence"), (42, .class_ 48), (0, u "java/lang/CharSequence$1CodePointIterator"), (10, .class_ 60), (0, u "java/lang/CharSequence$1CharIterator"), (5, .class_ 67), (0, u "java/lang/Object")] 63

/-- java/lang/CharSequence -/
def k4 : Class := { plain "java/lang/CharSequence" (some 0) with
  accessFlags := 1537
  interfaces := #[]
  cf := some (fileOf pool4 2 #[.nestMembers #[47, 59]] #[] 1537 66 #[] #[])
  fields := #[]
  methods := #[]
  instanceTypes := #[]
  staticTypes := #[]
  resolved := Array.replicate 131 none
  statics := none }

def pool5 : Array CpInfo := pool [(1, .class_ 2), (0, u "java/lang/constant/Constable"), (0, .class_ 4), (0, u "java/lang/Object")] 6

/-- java/lang/constant/Constable -/
def k5 : Class := { plain "java/lang/constant/Constable" (some 0) with
  accessFlags := 1537
  interfaces := #[]
  cf := some (fileOf pool5 1 #[] #[] 1537 3 #[] #[])
  fields := #[]
  methods := #[]
  instanceTypes := #[]
  staticTypes := #[]
  resolved := Array.replicate 11 none
  statics := none }

def pool6 : Array CpInfo := pool [(1, .class_ 2), (0, u "java/lang/constant/ConstantDesc"), (0, .class_ 4), (0, u "java/lang/Object")] 32

/-- java/lang/constant/ConstantDesc -/
def k6 : Class := { plain "java/lang/constant/ConstantDesc" (some 0) with
  accessFlags := 1537
  interfaces := #[]
  cf := some (fileOf pool6 1 #[] #[] 1537 3 #[] #[])
  fields := #[]
  methods := #[]
  instanceTypes := #[]
  staticTypes := #[]
  resolved := Array.replicate 37 none
  statics := none }

def pool7 : Array CpInfo := pool [(1, .methodref 2 3), (0, .class_ 4), (0, .nameAndType 5 6), (0, u "java/lang/Object"), (0, u "<init>"), (0, u "()V"), (0, .string 8), (0, u ""), (0, .fieldref 10 11), (0, .class_ 12), (0, .nameAndType 13 14), (0, u "java/lang/String"), (0, u "value"), (0, u "[B"), (0, .fieldref 10 16), (0, .nameAndType 17 18), (0, u "coder"), (0, u "B"), (2, u "hash"), (0, u "I"), (2, u "hashIsZero"), (0, u "Z"), (0, .methodref 10 28), (0, .nameAndType 5 29), (0, u "([CIILjava/lang/Void;)V"), (8, .fieldref 10 39), (0, .nameAndType 40 26), (0, u "COMPACT_STRINGS"), (1, .class_ 44), (1, u "java/lang/StringUTF16"), (0, u "compress"), (1, .methodref 42 48), (0, .nameAndType 49 50), (0, u "coderFromArrayLen"), (0, u "([BI)B"), (2, u "toBytes"), (53, .class_ 109), (1, u "java/lang/StringLatin1"), (67, .methodref 42 178), (0, .nameAndType 45 179), (0, u "([CII)[B"), (29, .methodref 10 210), (0, .nameAndType 5 211), (0, u "([BB)V"), (157, u "(C)Z"), (173, u "equals"), (29, u "(Ljava/lang/Object;)Z"), (1, .class_ 576), (0, u "java/lang/CharSequence"), (22, u "CASE_INSENSITIVE_ORDER"), (0, u "Ljava/util/Comparator;"), (181, u "valueOf"), (0, u "(C)Ljava/lang/String;"), (226, u "([C)V"), (4, .methodref 107 1016), (0, .nameAndType 1017 369), (0, u "canEncode"), (0, .methodref 107 1019), (0, .nameAndType 53 1020), (0, u "(C)[B"), (80, u "serialPersistentFields"), (0, u "[Ljava/io/ObjectStreamField;"), (0, .class_ 1104), (0, u "java/lang/String$CaseInsensitiveComparator"), (1, .class_ 1107), (0, u "java/io/Serializable"), (0, .class_ 1109), (0, u "java/lang/Comparable"), (0, .class_ 1111), (0, u "java/lang/constant/Constable"), (0, .class_ 1113), (0, u "java/lang/constant/ConstantDesc"), (2, u "serialVersionUID"), (0, u "J"), (3, u "REPL"), (0, u "C"), (2, u "LATIN1"), (1, u "UTF16")] 323

def k7m0 : Method := { name := "<init>", desc := "()V", sig := { parameters := [], returnType := none }, accessFlags := 1, code := none }
def k7c1 : Code := { maxStack := 5, maxLocals := 2, code := jdk_42_method_3_code, exceptionTable := #[], attributes := #[] }
def k7m1 : Method := { name := "<init>", desc := "([C)V", sig := { parameters := [(.array .char)], returnType := none }, accessFlags := 1, code := some k7c1 }
def k7c2 : Code := { maxStack := 2, maxLocals := 3, code := jdk_42_method_66_code, exceptionTable := #[], attributes := #[] }
def k7m2 : Method := { name := "equals", desc := "(Ljava/lang/Object;)Z", sig := { parameters := [(.object "java/lang/Object")], returnType := some .boolean }, accessFlags := 1, code := some k7c2 }
def k7c3 : Code := { maxStack := 4, maxLocals := 1, code := jdk_42_method_139_code, exceptionTable := #[], attributes := #[] }
def k7m3 : Method := { name := "valueOf", desc := "(C)Ljava/lang/String;", sig := { parameters := [.char], returnType := some (.object "java/lang/String") }, accessFlags := 9, code := some k7c3 }
def k7c4 : Code := { maxStack := 4, maxLocals := 6, code := jdk_42_method_149_code, exceptionTable := #[], attributes := #[] }
def k7m4 : Method := { name := "<init>", desc := "([CIILjava/lang/Void;)V", sig := { parameters := [(.array .char), .int, .int, (.object "java/lang/Void")], returnType := none }, accessFlags := 2, code := some k7c4 }
def k7c5 : Code := { maxStack := 2, maxLocals := 3, code := jdk_42_method_151_code, exceptionTable := #[], attributes := #[] }
def k7m5 : Method := { name := "<init>", desc := "([BB)V", sig := { parameters := [(.array .byte), .byte], returnType := none }, accessFlags := 0, code := some k7c5 }
/-- java/lang/String -/
def k7 : Class := { plain "java/lang/String" (some 0) with
  accessFlags := 49
  interfaces := #[2, 3, 4, 5, 6]
  cf := some (fileOf pool7 10 #[.nestMembers #[1103]] #[{ accessFlags := 1, nameIndex := 5, descriptorIndex := 6, attributes := #[] }, { accessFlags := 1, nameIndex := 5, descriptorIndex := 1010, attributes := #[] }, { accessFlags := 1, nameIndex := 543, descriptorIndex := 573, attributes := #[] }, { accessFlags := 9, nameIndex := 782, descriptorIndex := 783, attributes := #[] }, { accessFlags := 2, nameIndex := 5, descriptorIndex := 29, attributes := #[] }, { accessFlags := 0, nameIndex := 5, descriptorIndex := 211, attributes := #[] }] 49 2 #[1106, 1108, 575, 1110, 1112] #[{ accessFlags := 18, nameIndex := 13, descriptorIndex := 14, attributes := #[] }, { accessFlags := 18, nameIndex := 17, descriptorIndex := 18, attributes := #[] }, { accessFlags := 2, nameIndex := 21, descriptorIndex := 22, attributes := #[] }, { accessFlags := 2, nameIndex := 25, descriptorIndex := 26, attributes := #[] }, { accessFlags := 26, nameIndex := 1116, descriptorIndex := 1117, attributes := #[] }, { accessFlags := 24, nameIndex := 40, descriptorIndex := 26, attributes := #[] }, { accessFlags := 26, nameIndex := 1101, descriptorIndex := 1102, attributes := #[] }, { accessFlags := 26, nameIndex := 1121, descriptorIndex := 1122, attributes := #[] }, { accessFlags := 25, nameIndex := 599, descriptorIndex := 600, attributes := #[] }, { accessFlags := 24, nameIndex := 1125, descriptorIndex := 18, attributes := #[] }, { accessFlags := 24, nameIndex := 1127, descriptorIndex := 18, attributes := #[] }])
  fields := #[{ name := "value", type := (.array .byte), accessFlags := 18, slot := 0, constantValue := 0 }, { name := "coder", type := .byte, accessFlags := 18, slot := 1, constantValue := 0 }, { name := "hash", type := .int, accessFlags := 2, slot := 2, constantValue := 0 }, { name := "hashIsZero", type := .boolean, accessFlags := 2, slot := 3, constantValue := 0 }, { name := "serialVersionUID", type := .long, accessFlags := 26, slot := 0, constantValue := 0 }, { name := "COMPACT_STRINGS", type := .boolean, accessFlags := 24, slot := 1, constantValue := 0 }, { name := "serialPersistentFields", type := (.array (.object "java/io/ObjectStreamField")), accessFlags := 26, slot := 2, constantValue := 0 }, { name := "REPL", type := .char, accessFlags := 26, slot := 3, constantValue := 0 }, { name := "CASE_INSENSITIVE_ORDER", type := (.object "java/util/Comparator"), accessFlags := 25, slot := 4, constantValue := 0 }, { name := "LATIN1", type := .byte, accessFlags := 24, slot := 5, constantValue := 0 }, { name := "UTF16", type := .byte, accessFlags := 24, slot := 6, constantValue := 0 }]
  methods := #[k7m0, k7m1, k7m2, k7m3, k7m4, k7m5]
  instanceTypes := #[(.array .byte), .byte, .int, .boolean]
  staticTypes := #[.long, .boolean, (.array (.object "java/io/ObjectStreamField")), .char, (.object "java/util/Comparator"), .byte, .byte]
  resolved := Array.replicate 1451 none
  statics := some 0 }

def pool8 : Array CpInfo := pool [(6, .class_ 8), (1, u "java/lang/Object"), (0, u "<init>"), (0, u "()V"), (1, .class_ 14), (1, u "java/lang/StringUTF16"), (31, u "$assertionsDisabled"), (0, u "Z"), (13, u "HI_BYTE_SHIFT"), (0, u "I"), (2, u "LO_BYTE_SHIFT"), (49, .methodref 12 116), (0, .nameAndType 117 118), (0, u "compress"), (0, u "([CI[BII)I"), (3, u "([CII)[B"), (138, u "coderFromArrayLen"), (0, u "([BI)B"), (106, .class_ 371), (1, u "java/lang/StringUTF16$LinesSpliterator"), (58, u "MAX_LENGTH"), (196, .class_ 628), (0, u "java/lang/StringUTF16$CodePointsSpliterator"), (0, .class_ 630), (0, u "java/lang/StringUTF16$CharsSpliterator")] 4

def k8m0 : Method := { name := "<init>", desc := "()V", sig := { parameters := [], returnType := none }, accessFlags := 0, code := none }
def k8c1 : Code := { maxStack := 2, maxLocals := 2, code := jdk_52_method_15_code, exceptionTable := #[], attributes := #[] }
def k8m1 : Method := { name := "coderFromArrayLen", desc := "([BI)B", sig := { parameters := [(.array .byte), .int], returnType := some .byte }, accessFlags := 8, code := some k8c1 }
def k8c2 : Code := { maxStack := 5, maxLocals := 6, code := jdk_52_method_16_code, exceptionTable := #[], attributes := #[] }
def k8m2 : Method := { name := "compress", desc := "([CII)[B", sig := { parameters := [(.array .char), .int, .int], returnType := some (.array .byte) }, accessFlags := 9, code := some k8c2 }
def k8c3 : Code := { maxStack := 3, maxLocals := 7, code := jdk_52_method_21_code, exceptionTable := #[], attributes := #[] }
def k8m3 : Method := { name := "compress", desc := "([CI[BII)I", sig := { parameters := [(.array .char), .int, (.array .byte), .int, .int], returnType := some .int }, accessFlags := 9, code := some k8c3 }
/-- java/lang/StringUTF16 -/
def k8 : Class := { plain "java/lang/StringUTF16" (some 0) with
  accessFlags := 48
  interfaces := #[]
  cf := some (fileOf pool8 12 #[.nestMembers #[627, 629, 369]] #[{ accessFlags := 0, nameIndex := 9, descriptorIndex := 10, attributes := #[] }, { accessFlags := 8, nameIndex := 261, descriptorIndex := 262, attributes := #[] }, { accessFlags := 9, nameIndex := 117, descriptorIndex := 122, attributes := #[] }, { accessFlags := 9, nameIndex := 117, descriptorIndex := 118, attributes := #[] }] 48 6 #[] #[{ accessFlags := 26, nameIndex := 61, descriptorIndex := 62, attributes := #[] }, { accessFlags := 26, nameIndex := 65, descriptorIndex := 62, attributes := #[] }, { accessFlags := 24, nameIndex := 430, descriptorIndex := 62, attributes := #[] }, { accessFlags := 4120, nameIndex := 46, descriptorIndex := 47, attributes := #[] }])
  fields := #[{ name := "HI_BYTE_SHIFT", type := .int, accessFlags := 26, slot := 0, constantValue := 0 }, { name := "LO_BYTE_SHIFT", type := .int, accessFlags := 26, slot := 1, constantValue := 0 }, { name := "MAX_LENGTH", type := .int, accessFlags := 24, slot := 2, constantValue := 0 }, { name := "$assertionsDisabled", type := .boolean, accessFlags := 4120, slot := 3, constantValue := 0 }]
  methods := #[k8m0, k8m1, k8m2, k8m3]
  instanceTypes := #[]
  staticTypes := #[.int, .int, .int, .boolean]
  resolved := Array.replicate 635 none
  statics := none }

def pool9 : Array CpInfo := pool [(1, .methodref 2 3), (0, .class_ 4), (0, .nameAndType 5 6), (0, u "java/lang/Object"), (0, u "<init>"), (0, u "()V"), (0, .class_ 8), (0, u "java/lang/Record")] 13

def k9c0 : Code := { maxStack := 1, maxLocals := 1, code := jdk_30_method_1_code, exceptionTable := #[], attributes := #[] }
def k9m0 : Method := { name := "<init>", desc := "()V", sig := { parameters := [], returnType := none }, accessFlags := 4, code := some k9c0 }
/-- java/lang/Record -/
def k9 : Class := { plain "java/lang/Record" (some 0) with
  accessFlags := 1057
  interfaces := #[]
  cf := some (fileOf pool9 7 #[] #[{ accessFlags := 4, nameIndex := 5, descriptorIndex := 6, attributes := #[] }] 1057 2 #[] #[])
  fields := #[]
  methods := #[k9m0]
  instanceTypes := #[]
  staticTypes := #[]
  resolved := Array.replicate 22 none
  statics := none }

def pool10 : Array CpInfo := pool [(1, .methodref 2 3), (0, .class_ 4), (0, .nameAndType 5 6), (0, u "java/lang/Record"), (0, u "<init>"), (0, u "()V"), (0, .fieldref 8 9), (0, .class_ 10), (0, .nameAndType 11 12), (0, u "com/example/rollcall/rollcall/io/Configuration$Rule"), (0, u "from"), (0, u "Ljava/lang/String;"), (0, .fieldref 8 14), (0, .nameAndType 15 16), (0, u "regex"), (0, u "Ljava/util/regex/Pattern;"), (0, .fieldref 8 18), (0, .nameAndType 19 20), (0, u "match"), (0, u "J"), (0, .fieldref 8 22), (0, .nameAndType 23 24), (0, u "group"), (0, u "I"), (0, .fieldref 8 26), (0, .nameAndType 27 12), (0, u "ifEmpty"), (0, .fieldref 8 29), (0, .nameAndType 30 31), (0, u "keepIfEmpty"), (0, u "Z"), (0, .fieldref 8 33), (0, .nameAndType 34 31), (0, u "onlyIfEmpty"), (0, .methodref 8 36), (0, .nameAndType 5 37), (0, u "(Ljava/lang/String;Ljava/util/regex/Pattern;JILjava/lang/String;ZZ)V"), (15, u "copying"), (0, u "(Ljava/lang/String;)Lcom/example/rollcall/rollcall/io/Configuration$Rule;"), (0, u "()Ljava/lang/String;"), (0, u "()I"), (1, u "()Ljava/util/regex/Pattern;"), (0, u "()J"), (0, u "()Z"), (3, .class_ 65), (0, u "com/example/rollcall/rollcall/io/Configuration")] 25

def k10c0 : Code := { maxStack := 3, maxLocals := 9, code := prog_8_method_1_code, exceptionTable := #[], attributes := #[] }
def k10m0 : Method := { name := "<init>", desc := "(Ljava/lang/String;Ljava/util/regex/Pattern;JILjava/lang/String;ZZ)V", sig := { parameters := [(.object "java/lang/String"), (.object "java/util/regex/Pattern"), .long, .int, (.object "java/lang/String"), .boolean, .boolean], returnType := none }, accessFlags := 1, code := some k10c0 }
def k10c1 : Code := { maxStack := 10, maxLocals := 1, code := prog_8_method_2_code, exceptionTable := #[], attributes := #[] }
def k10m1 : Method := { name := "copying", desc := "(Ljava/lang/String;)Lcom/example/rollcall/rollcall/io/Configuration$Rule;", sig := { parameters := [(.object "java/lang/String")], returnType := some (.object "com/example/rollcall/rollcall/io/Configuration$Rule") }, accessFlags := 9, code := some k10c1 }
def k10c2 : Code := { maxStack := 1, maxLocals := 1, code := prog_8_method_6_code, exceptionTable := #[], attributes := #[] }
def k10m2 : Method := { name := "from", desc := "()Ljava/lang/String;", sig := { parameters := [], returnType := some (.object "java/lang/String") }, accessFlags := 1, code := some k10c2 }
def k10c3 : Code := { maxStack := 1, maxLocals := 1, code := prog_8_method_7_code, exceptionTable := #[], attributes := #[] }
def k10m3 : Method := { name := "regex", desc := "()Ljava/util/regex/Pattern;", sig := { parameters := [], returnType := some (.object "java/util/regex/Pattern") }, accessFlags := 1, code := some k10c3 }
def k10c4 : Code := { maxStack := 2, maxLocals := 1, code := prog_8_method_8_code, exceptionTable := #[], attributes := #[] }
def k10m4 : Method := { name := "match", desc := "()J", sig := { parameters := [], returnType := some .long }, accessFlags := 1, code := some k10c4 }
def k10c5 : Code := { maxStack := 1, maxLocals := 1, code := prog_8_method_9_code, exceptionTable := #[], attributes := #[] }
def k10m5 : Method := { name := "group", desc := "()I", sig := { parameters := [], returnType := some .int }, accessFlags := 1, code := some k10c5 }
def k10c6 : Code := { maxStack := 1, maxLocals := 1, code := prog_8_method_10_code, exceptionTable := #[], attributes := #[] }
def k10m6 : Method := { name := "ifEmpty", desc := "()Ljava/lang/String;", sig := { parameters := [], returnType := some (.object "java/lang/String") }, accessFlags := 1, code := some k10c6 }
def k10c7 : Code := { maxStack := 1, maxLocals := 1, code := prog_8_method_11_code, exceptionTable := #[], attributes := #[] }
def k10m7 : Method := { name := "keepIfEmpty", desc := "()Z", sig := { parameters := [], returnType := some .boolean }, accessFlags := 1, code := some k10c7 }
def k10c8 : Code := { maxStack := 1, maxLocals := 1, code := prog_8_method_12_code, exceptionTable := #[], attributes := #[] }
def k10m8 : Method := { name := "onlyIfEmpty", desc := "()Z", sig := { parameters := [], returnType := some .boolean }, accessFlags := 1, code := some k10c8 }
/-- com/example/rollcall/rollcall/io/Configuration$Rule -/
def k10 : Class := { plain "com/example/rollcall/rollcall/io/Configuration$Rule" (some 9) with
  accessFlags := 49
  interfaces := #[]
  cf := some (fileOf pool10 8 #[.nestHost 64] #[{ accessFlags := 1, nameIndex := 5, descriptorIndex := 37, attributes := #[] }, { accessFlags := 9, nameIndex := 53, descriptorIndex := 54, attributes := #[] }, { accessFlags := 1, nameIndex := 11, descriptorIndex := 55, attributes := #[] }, { accessFlags := 1, nameIndex := 15, descriptorIndex := 58, attributes := #[] }, { accessFlags := 1, nameIndex := 19, descriptorIndex := 59, attributes := #[] }, { accessFlags := 1, nameIndex := 23, descriptorIndex := 56, attributes := #[] }, { accessFlags := 1, nameIndex := 27, descriptorIndex := 55, attributes := #[] }, { accessFlags := 1, nameIndex := 30, descriptorIndex := 60, attributes := #[] }, { accessFlags := 1, nameIndex := 34, descriptorIndex := 60, attributes := #[] }] 49 2 #[] #[{ accessFlags := 18, nameIndex := 11, descriptorIndex := 12, attributes := #[] }, { accessFlags := 18, nameIndex := 15, descriptorIndex := 16, attributes := #[] }, { accessFlags := 18, nameIndex := 19, descriptorIndex := 20, attributes := #[] }, { accessFlags := 18, nameIndex := 23, descriptorIndex := 24, attributes := #[] }, { accessFlags := 18, nameIndex := 27, descriptorIndex := 12, attributes := #[] }, { accessFlags := 18, nameIndex := 30, descriptorIndex := 31, attributes := #[] }, { accessFlags := 18, nameIndex := 34, descriptorIndex := 31, attributes := #[] }])
  fields := #[{ name := "from", type := (.object "java/lang/String"), accessFlags := 18, slot := 0, constantValue := 0 }, { name := "regex", type := (.object "java/util/regex/Pattern"), accessFlags := 18, slot := 1, constantValue := 0 }, { name := "match", type := .long, accessFlags := 18, slot := 2, constantValue := 0 }, { name := "group", type := .int, accessFlags := 18, slot := 3, constantValue := 0 }, { name := "ifEmpty", type := (.object "java/lang/String"), accessFlags := 18, slot := 4, constantValue := 0 }, { name := "keepIfEmpty", type := .boolean, accessFlags := 18, slot := 5, constantValue := 0 }, { name := "onlyIfEmpty", type := .boolean, accessFlags := 18, slot := 6, constantValue := 0 }]
  methods := #[k10m0, k10m1, k10m2, k10m3, k10m4, k10m5, k10m6, k10m7, k10m8]
  instanceTypes := #[(.object "java/lang/String"), (.object "java/util/regex/Pattern"), .long, .int, (.object "java/lang/String"), .boolean, .boolean]
  staticTypes := #[]
  resolved := Array.replicate 91 none
  statics := none }

def pool11 : Array CpInfo := pool [(4, .class_ 6), (1, u "java/lang/Object"), (0, u "<init>"), (0, u "()V"), (5, .class_ 16), (1, u "java/lang/StringLatin1"), (73, u "canEncode"), (14, u "(C)Z"), (15, u "$assertionsDisabled"), (0, u "Z"), (98, .class_ 223), (1, u "java/lang/StringLatin1$LinesSpliterator"), (156, u "toBytes"), (1, u "(C)[B"), (7, .class_ 391), (0, u "java/lang/StringLatin1$CharsSpliterator")] 3

def k11m0 : Method := { name := "<init>", desc := "()V", sig := { parameters := [], returnType := none }, accessFlags := 0, code := none }
def k11c1 : Code := { maxStack := 2, maxLocals := 1, code := jdk_43_method_3_code, exceptionTable := #[], attributes := #[] }
def k11m1 : Method := { name := "canEncode", desc := "(C)Z", sig := { parameters := [.char], returnType := some .boolean }, accessFlags := 9, code := some k11c1 }
def k11c2 : Code := { maxStack := 4, maxLocals := 1, code := jdk_43_method_46_code, exceptionTable := #[], attributes := #[] }
def k11m2 : Method := { name := "toBytes", desc := "(C)[B", sig := { parameters := [.char], returnType := some (.array .byte) }, accessFlags := 9, code := some k11c2 }
/-- java/lang/StringLatin1 -/
def k11 : Class := { plain "java/lang/StringLatin1" (some 0) with
  accessFlags := 48
  interfaces := #[]
  cf := some (fileOf pool11 14 #[.nestMembers #[390, 221]] #[{ accessFlags := 0, nameIndex := 7, descriptorIndex := 8, attributes := #[] }, { accessFlags := 9, nameIndex := 90, descriptorIndex := 105, attributes := #[] }, { accessFlags := 9, nameIndex := 380, descriptorIndex := 382, attributes := #[] }] 48 4 #[] #[{ accessFlags := 4120, nameIndex := 121, descriptorIndex := 122, attributes := #[] }])
  fields := #[{ name := "$assertionsDisabled", type := .boolean, accessFlags := 4120, slot := 0, constantValue := 0 }]
  methods := #[k11m0, k11m1, k11m2]
  instanceTypes := #[]
  staticTypes := #[.boolean]
  resolved := Array.replicate 395 none
  statics := none }

def pool12 : Array CpInfo := pool [(2, .class_ 4), (1, u "java/lang/Object"), (0, u "<init>"), (0, u "()V"), (17, .class_ 26), (1, u "jdk/internal/util/Preconditions"), (28, .class_ 56), (0, u "jdk/internal/util/Preconditions$4"), (57, .class_ 115), (0, u "jdk/internal/util/Preconditions$1"), (7, u "SIOOBE_FORMATTER"), (0, u "Ljava/util/function/BiFunction;"), (0, .class_ 126), (0, u "jdk/internal/util/Preconditions$2"), (3, u "AIOOBE_FORMATTER"), (0, .class_ 132), (0, u "jdk/internal/util/Preconditions$3"), (3, u "IOOBE_FORMATTER")] 57

def k12m0 : Method := { name := "<init>", desc := "()V", sig := { parameters := [], returnType := none }, accessFlags := 1, code := none }
/-- jdk/internal/util/Preconditions -/
def k12 : Class := { plain "jdk/internal/util/Preconditions" (some 0) with
  accessFlags := 33
  interfaces := #[]
  cf := some (fileOf pool12 24 #[.nestMembers #[55, 131, 125, 114]] #[{ accessFlags := 1, nameIndex := 5, descriptorIndex := 6, attributes := #[] }] 33 2 #[] #[{ accessFlags := 25, nameIndex := 123, descriptorIndex := 124, attributes := #[] }, { accessFlags := 25, nameIndex := 130, descriptorIndex := 124, attributes := #[] }, { accessFlags := 25, nameIndex := 136, descriptorIndex := 124, attributes := #[] }])
  fields := #[{ name := "SIOOBE_FORMATTER", type := (.object "java/util/function/BiFunction"), accessFlags := 25, slot := 0, constantValue := 0 }, { name := "AIOOBE_FORMATTER", type := (.object "java/util/function/BiFunction"), accessFlags := 25, slot := 1, constantValue := 0 }, { name := "IOOBE_FORMATTER", type := (.object "java/util/function/BiFunction"), accessFlags := 25, slot := 2, constantValue := 0 }]
  methods := #[k12m0]
  instanceTypes := #[]
  staticTypes := #[(.object "java/util/function/BiFunction"), (.object "java/util/function/BiFunction"), (.object "java/util/function/BiFunction")]
  resolved := Array.replicate 194 none
  statics := some 1 }

def pool13 : Array CpInfo := pool [(9, u "<init>"), (6, .class_ 18), (1, u "java/lang/Object"), (0, u "()V"), (1, .class_ 23), (1, u "jdk/internal/util/ArraysSupport"), (0, u "LOG2_ARRAY_LONG_INDEX_SCALE"), (0, u "I"), (2, u "U"), (0, u "Ljdk/internal/misc/Unsafe;"), (8, u "BIG_ENDIAN"), (0, u "Z"), (8, u "LOG2_BYTE_BIT_SIZE"), (4, u "LOG2_ARRAY_INT_INDEX_SCALE"), (54, u "JLA"), (0, u "Ljdk/internal/access/JavaLangAccess;"), (11, u "LOG2_ARRAY_BOOLEAN_INDEX_SCALE"), (9, u "LOG2_ARRAY_BYTE_INDEX_SCALE"), (5, u "LOG2_ARRAY_CHAR_INDEX_SCALE"), (5, u "LOG2_ARRAY_SHORT_INDEX_SCALE"), (18, u "LOG2_ARRAY_FLOAT_INDEX_SCALE"), (24, u "LOG2_ARRAY_DOUBLE_INDEX_SCALE"), (89, u "T_BOOLEAN"), (2, u "T_CHAR"), (1, u "T_FLOAT"), (1, u "T_DOUBLE"), (1, u "T_BYTE"), (1, u "T_SHORT"), (1, u "T_INT"), (1, u "T_LONG"), (1, u "SOFT_MAX_ARRAY_LENGTH")] 83

def k13m0 : Method := { name := "<init>", desc := "()V", sig := { parameters := [], returnType := none }, accessFlags := 2, code := none }
/-- jdk/internal/util/ArraysSupport -/
def k13 : Class := { plain "jdk/internal/util/ArraysSupport" (some 0) with
  accessFlags := 33
  interfaces := #[]
  cf := some (fileOf pool13 21 #[] #[{ accessFlags := 2, nameIndex := 9, descriptorIndex := 19, attributes := #[] }] 33 16 #[] #[{ accessFlags := 24, nameIndex := 28, descriptorIndex := 29, attributes := #[] }, { accessFlags := 26, nameIndex := 38, descriptorIndex := 39, attributes := #[] }, { accessFlags := 25, nameIndex := 121, descriptorIndex := 25, attributes := #[] }, { accessFlags := 25, nameIndex := 131, descriptorIndex := 25, attributes := #[] }, { accessFlags := 25, nameIndex := 137, descriptorIndex := 25, attributes := #[] }, { accessFlags := 25, nameIndex := 143, descriptorIndex := 25, attributes := #[] }, { accessFlags := 25, nameIndex := 53, descriptorIndex := 25, attributes := #[] }, { accessFlags := 25, nameIndex := 24, descriptorIndex := 25, attributes := #[] }, { accessFlags := 25, nameIndex := 162, descriptorIndex := 25, attributes := #[] }, { accessFlags := 25, nameIndex := 187, descriptorIndex := 25, attributes := #[] }, { accessFlags := 26, nameIndex := 48, descriptorIndex := 25, attributes := #[] }, { accessFlags := 25, nameIndex := 277, descriptorIndex := 25, attributes := #[] }, { accessFlags := 25, nameIndex := 280, descriptorIndex := 25, attributes := #[] }, { accessFlags := 25, nameIndex := 282, descriptorIndex := 25, attributes := #[] }, { accessFlags := 25, nameIndex := 284, descriptorIndex := 25, attributes := #[] }, { accessFlags := 25, nameIndex := 286, descriptorIndex := 25, attributes := #[] }, { accessFlags := 25, nameIndex := 288, descriptorIndex := 25, attributes := #[] }, { accessFlags := 25, nameIndex := 290, descriptorIndex := 25, attributes := #[] }, { accessFlags := 25, nameIndex := 292, descriptorIndex := 25, attributes := #[] }, { accessFlags := 26, nameIndex := 108, descriptorIndex := 109, attributes := #[] }, { accessFlags := 25, nameIndex := 294, descriptorIndex := 25, attributes := #[] }])
  fields := #[{ name := "U", type := (.object "jdk/internal/misc/Unsafe"), accessFlags := 24, slot := 0, constantValue := 0 }, { name := "BIG_ENDIAN", type := .boolean, accessFlags := 26, slot := 1, constantValue := 0 }, { name := "LOG2_ARRAY_BOOLEAN_INDEX_SCALE", type := .int, accessFlags := 25, slot := 2, constantValue := 0 }, { name := "LOG2_ARRAY_BYTE_INDEX_SCALE", type := .int, accessFlags := 25, slot := 3, constantValue := 0 }, { name := "LOG2_ARRAY_CHAR_INDEX_SCALE", type := .int, accessFlags := 25, slot := 4, constantValue := 0 }, { name := "LOG2_ARRAY_SHORT_INDEX_SCALE", type := .int, accessFlags := 25, slot := 5, constantValue := 0 }, { name := "LOG2_ARRAY_INT_INDEX_SCALE", type := .int, accessFlags := 25, slot := 6, constantValue := 0 }, { name := "LOG2_ARRAY_LONG_INDEX_SCALE", type := .int, accessFlags := 25, slot := 7, constantValue := 0 }, { name := "LOG2_ARRAY_FLOAT_INDEX_SCALE", type := .int, accessFlags := 25, slot := 8, constantValue := 0 }, { name := "LOG2_ARRAY_DOUBLE_INDEX_SCALE", type := .int, accessFlags := 25, slot := 9, constantValue := 0 }, { name := "LOG2_BYTE_BIT_SIZE", type := .int, accessFlags := 26, slot := 10, constantValue := 0 }, { name := "T_BOOLEAN", type := .int, accessFlags := 25, slot := 11, constantValue := 0 }, { name := "T_CHAR", type := .int, accessFlags := 25, slot := 12, constantValue := 0 }, { name := "T_FLOAT", type := .int, accessFlags := 25, slot := 13, constantValue := 0 }, { name := "T_DOUBLE", type := .int, accessFlags := 25, slot := 14, constantValue := 0 }, { name := "T_BYTE", type := .int, accessFlags := 25, slot := 15, constantValue := 0 }, { name := "T_SHORT", type := .int, accessFlags := 25, slot := 16, constantValue := 0 }, { name := "T_INT", type := .int, accessFlags := 25, slot := 17, constantValue := 0 }, { name := "T_LONG", type := .int, accessFlags := 25, slot := 18, constantValue := 0 }, { name := "JLA", type := (.object "jdk/internal/access/JavaLangAccess"), accessFlags := 26, slot := 19, constantValue := 0 }, { name := "SOFT_MAX_ARRAY_LENGTH", type := .int, accessFlags := 25, slot := 20, constantValue := 0 }]
  methods := #[k13m0]
  instanceTypes := #[]
  staticTypes := #[(.object "jdk/internal/misc/Unsafe"), .boolean, .int, .int, .int, .int, .int, .int, .int, .int, .int, .int, .int, .int, .int, .int, .int, .int, .int, (.object "jdk/internal/access/JavaLangAccess"), .int]
  resolved := Array.replicate 378 none
  statics := none }

def pool14 : Array CpInfo := pool [(1, u "java/lang/Cloneable"), (0, .class_ 1), (0, u "java/lang/Object"), (0, .class_ 3)] 3

/-- java/lang/Cloneable -/
def k14 : Class := { plain "java/lang/Cloneable" (some 0) with
  accessFlags := 1537
  interfaces := #[]
  cf := some (fileOf pool14 2 #[] #[] 1537 4 #[] #[])
  fields := #[]
  methods := #[]
  instanceTypes := #[]
  staticTypes := #[]
  resolved := Array.replicate 8 none
  statics := none }

/-- the primitive byte -/
def k15 : Class := { plain "byte" none with kind := .primitive 'B', accessFlags := 0x411 }
/-- [B -/
def k16 : Class := { plain "[B" (some 0) with kind := .array 15 .byte, interfaces := #[14, 2], accessFlags := 1041 }

/-- the primitive char -/
def k17 : Class := { plain "char" none with kind := .primitive 'C', accessFlags := 0x411 }
/-- [C -/
def k18 : Class := { plain "[C" (some 0) with kind := .array 17 .char, interfaces := #[14, 2], accessFlags := 1041 }

/-- the primitive int -/
def k19 : Class := { plain "int" none with kind := .primitive 'I', accessFlags := 0x411 }
/-- [I -/
def k20 : Class := { plain "[I" (some 0) with kind := .array 19 .int, interfaces := #[14, 2], accessFlags := 1041 }

def heap : Heap := #[{ cls := 7, slots := #[.long 0, .int 1, .null, .int 0, .null, .int 0, .int 0], vm := .statics 7 },
  { cls := 12, slots := #[.null, .null, .null], vm := .statics 12 }]
def classes : Array Class := #[k0, k1, k2, k3, k4, k5, k6, k7, k8, k9, k10, k11, k12, k13, k14, k15, k16, k17, k18, k19, k20]
def interned : List (Array UInt16 × Addr) := []
def slotsUsed : Nat := 10
def theMethod : MethodId := ⟨1, 2⟩
def args0 : Array Value := #[.int 5, .int 6]
def aboutOver (below : List Frame) : State where
  vm := { classes := classes, interned := interned.toArray }
  heap := heap
  slotsUsed := slotsUsed
  threads := #[{ frames := .invoking theMethod args0 :: below }]
def below0 : List Frame := [.native { method := ⟨0, 0⟩, args := #[] }]
def about1 : State := aboutOver below0
def p0 : Program := .bare "" "" ""
def e0 : Env := launch0.env 0 0 0
theorem w_frames : about1.frames = Frame.invoking theMethod args0 :: below0 := rfl
set_option maxRecDepth 65536 in
theorem w_args : argsFit about1.vm theMethod args0 = true := by decide +kernel
set_option maxRecDepth 65536 in
theorem w_heap : heapFits about1 = true := by decide +kernel
set_option maxRecDepth 65536 in
theorem w_runnable : about1.curStatus? = some .runnable := by decide +kernel
set_option maxRecDepth 65536 in
theorem w_alone : about1.alone = true := by decide +kernel
set_option maxRecDepth 65536 in
theorem w_named : about1.methodNamed? x = some theMethod := by decide +kernel
set_option maxRecDepth 65536 in
theorem w_hears : about1.hears theMethod below0 = true := by decide +kernel
set_option maxRecDepth 65536 in
theorem w_ripe : about1.ripe theMethod args0 below0 = true := by decide +kernel
theorem w_running : about1.status = .running := rfl
set_option maxRecDepth 65536 in
theorem w_room : about1.hasRoom e0.platform room_1 = true :=
  launch0.hasRoom_least _ room_1 (by decide +kernel) (by decide +kernel) (by decide +kernel) (by decide +kernel) (by decide +kernel) (by decide +kernel)
theorem allAtoms_all (ts : List Jvm.Cond) (a : Array Jvm.Value) (st : Jvm.State) : (allAtoms ts).before a st = ts.all (fun c => c.before a st) := by
  induction ts with
  | nil => rfl
  | cons c t ih =>
    show (Jvm.Cond.and c (allAtoms t)).before a st = _
    rw [Jvm.Cond.before_and, ih, List.all_cons]
def words1 : List Jvm.Cond := Jvm.Cond.code x code maxLocals ret :: tables_1
/-- a 'code' word, met by the world's own term for the bytes: nothing is compared byte by byte -/
theorem code_word {y : MethodName} {bytes : ByteArray} {mx : Nat} {rt : Option FieldType} {a : Array Value} {s : State} {m : MethodId} {meth : Method} {c : Code} (h1 : s.methodNamed? y = some m) (h2 : s.vm.method? m = some meth) (h3 : meth.code = some c) (h4 : c.code = bytes)
    (h5 : (c.maxLocals == mx && c.exceptionTable.isEmpty && decide (c.maxStack ≤ mostOperands) && decide (meth.sig.returnType = rt) && !meth.locks && decide (parseMethodDescriptor y.desc = some meth.sig)) = true) : (Jvm.Cond.code y bytes mx rt).before a s = true := by
  simp only [Bool.and_eq_true, beq_iff_eq, Bool.not_eq_true', decide_eq_true_eq] at h5
  obtain ⟨⟨⟨⟨⟨g1, g2⟩, g3⟩, g4⟩, g5⟩, g6⟩ := h5
  simp [Cond.before, Cond.holds, Cond.value, h1, h2, h3, h4, g1, g2, g3, g4, g5, g6]
def isCode : Jvm.Cond → Bool
  | .code _ _ _ _ => true
  | _ => false
theorem all_split {L : List Jvm.Cond} {P : Jvm.Cond → Bool} (h1 : L.all (fun c => isCode c || P c) = true) (h2 : ∀ c ∈ L.filter isCode, P c = true) : L.all P = true := by
  refine List.all_eq_true.mpr fun c hc => ?_
  have h := List.all_eq_true.mp h1 c hc
  rcases Bool.eq_false_or_eq_true (isCode c) with hi | hi
  · exact h2 c (List.mem_filter.mpr ⟨hc, hi⟩)
  · simpa [hi] using h
set_option maxRecDepth 65536 in
theorem w_c0 : (Jvm.Cond.code x code maxLocals ret).before args0 about1 = true := code_word (m := ⟨1, 2⟩) (meth := k1m2) (c := k1c2) (by decide +kernel) rfl rfl rfl (by decide +kernel)
set_option maxRecDepth 65536 in
theorem w_c1 : (Jvm.Cond.code ({ cls := "com/example/rollcall/rollcall/io/RuleCopyingPinLaw", name := "draw", desc := "(II)Ljava/lang/String;" } : Jvm.MethodName) method_2_code (6 : Nat) (Option.some (Jvm.ClassFile.FieldType.object "java/lang/String"))).before args0 about1 = true := code_word (m := ⟨1, 1⟩) (meth := k1m1) (c := k1c1) (by decide +kernel) rfl rfl rfl (by decide +kernel)
set_option maxRecDepth 65536 in
theorem w_c2 : (Jvm.Cond.code ({ cls := "java/lang/String", name := "<init>", desc := "([C)V" } : Jvm.MethodName) jdk_42_method_3_code (2 : Nat) (Option.none : Option Jvm.ClassFile.FieldType)).before args0 about1 = true := code_word (m := ⟨7, 1⟩) (meth := k7m1) (c := k7c1) (by decide +kernel) rfl rfl rfl (by decide +kernel)
set_option maxRecDepth 65536 in
theorem w_c3 : (Jvm.Cond.code ({ cls := "java/lang/String", name := "<init>", desc := "([CIILjava/lang/Void;)V" } : Jvm.MethodName) jdk_42_method_149_code (6 : Nat) (Option.none : Option Jvm.ClassFile.FieldType)).before args0 about1 = true := code_word (m := ⟨7, 4⟩) (meth := k7m4) (c := k7c4) (by decide +kernel) rfl rfl rfl (by decide +kernel)
set_option maxRecDepth 65536 in
theorem w_c4 : (Jvm.Cond.code ({ cls := "java/lang/Object", name := "<init>", desc := "()V" } : Jvm.MethodName) object_method_1_code (1 : Nat) (Option.none : Option Jvm.ClassFile.FieldType)).before args0 about1 = true := code_word (m := ⟨0, 0⟩) (meth := k0m0) (c := k0c0) (by decide +kernel) rfl rfl rfl (by decide +kernel)
set_option maxRecDepth 65536 in
theorem w_c5 : (Jvm.Cond.code ({ cls := "java/lang/StringUTF16", name := "compress", desc := "([CII)[B" } : Jvm.MethodName) jdk_52_method_16_code (6 : Nat) (Option.some (Jvm.ClassFile.FieldType.array Jvm.ClassFile.FieldType.byte))).before args0 about1 = true := code_word (m := ⟨8, 2⟩) (meth := k8m2) (c := k8c2) (by decide +kernel) rfl rfl rfl (by decide +kernel)
set_option maxRecDepth 65536 in
theorem w_c6 : (Jvm.Cond.code ({ cls := "java/lang/StringUTF16", name := "compress", desc := "([CI[BII)I" } : Jvm.MethodName) jdk_52_method_21_code (7 : Nat) (Option.some Jvm.ClassFile.FieldType.int)).before args0 about1 = true := code_word (m := ⟨8, 3⟩) (meth := k8m3) (c := k8c3) (by decide +kernel) rfl rfl rfl (by decide +kernel)
set_option maxRecDepth 65536 in
theorem w_c7 : (Jvm.Cond.code ({ cls := "java/lang/StringUTF16", name := "coderFromArrayLen", desc := "([BI)B" } : Jvm.MethodName) jdk_52_method_15_code (2 : Nat) (Option.some Jvm.ClassFile.FieldType.byte)).before args0 about1 = true := code_word (m := ⟨8, 1⟩) (meth := k8m1) (c := k8c1) (by decide +kernel) rfl rfl rfl (by decide +kernel)
set_option maxRecDepth 65536 in
theorem w_c8 : (Jvm.Cond.code ({ cls := "com/example/rollcall/rollcall/io/Configuration$Rule", name := "copying", desc := "(Ljava/lang/String;)Lcom/example/rollcall/rollcall/io/Configuration$Rule;" } : Jvm.MethodName) prog_8_method_2_code (1 : Nat) (Option.some (Jvm.ClassFile.FieldType.object "com/example/rollcall/rollcall/io/Configuration$Rule"))).before args0 about1 = true := code_word (m := ⟨10, 1⟩) (meth := k10m1) (c := k10c1) (by decide +kernel) rfl rfl rfl (by decide +kernel)
set_option maxRecDepth 65536 in
theorem w_c9 : (Jvm.Cond.code ({ cls := "com/example/rollcall/rollcall/io/Configuration$Rule", name := "<init>", desc := "(Ljava/lang/String;Ljava/util/regex/Pattern;JILjava/lang/String;ZZ)V" } : Jvm.MethodName) prog_8_method_1_code (9 : Nat) (Option.none : Option Jvm.ClassFile.FieldType)).before args0 about1 = true := code_word (m := ⟨10, 0⟩) (meth := k10m0) (c := k10c0) (by decide +kernel) rfl rfl rfl (by decide +kernel)
set_option maxRecDepth 65536 in
theorem w_c10 : (Jvm.Cond.code ({ cls := "java/lang/Record", name := "<init>", desc := "()V" } : Jvm.MethodName) jdk_30_method_1_code (1 : Nat) (Option.none : Option Jvm.ClassFile.FieldType)).before args0 about1 = true := code_word (m := ⟨9, 0⟩) (meth := k9m0) (c := k9c0) (by decide +kernel) rfl rfl rfl (by decide +kernel)
set_option maxRecDepth 65536 in
theorem w_c11 : (Jvm.Cond.code ({ cls := "com/example/rollcall/rollcall/io/Configuration$Rule", name := "from", desc := "()Ljava/lang/String;" } : Jvm.MethodName) prog_8_method_6_code (1 : Nat) (Option.some (Jvm.ClassFile.FieldType.object "java/lang/String"))).before args0 about1 = true := code_word (m := ⟨10, 2⟩) (meth := k10m2) (c := k10c2) (by decide +kernel) rfl rfl rfl (by decide +kernel)
set_option maxRecDepth 65536 in
theorem w_c12 : (Jvm.Cond.code ({ cls := "java/lang/String", name := "equals", desc := "(Ljava/lang/Object;)Z" } : Jvm.MethodName) jdk_42_method_66_code (3 : Nat) (Option.some Jvm.ClassFile.FieldType.boolean)).before args0 about1 = true := code_word (m := ⟨7, 2⟩) (meth := k7m2) (c := k7c2) (by decide +kernel) rfl rfl rfl (by decide +kernel)
set_option maxRecDepth 65536 in
theorem w_c13 : (Jvm.Cond.code ({ cls := "com/example/rollcall/rollcall/io/Configuration$Rule", name := "regex", desc := "()Ljava/util/regex/Pattern;" } : Jvm.MethodName) prog_8_method_7_code (1 : Nat) (Option.some (Jvm.ClassFile.FieldType.object "java/util/regex/Pattern"))).before args0 about1 = true := code_word (m := ⟨10, 3⟩) (meth := k10m3) (c := k10c3) (by decide +kernel) rfl rfl rfl (by decide +kernel)
set_option maxRecDepth 65536 in
theorem w_c14 : (Jvm.Cond.code ({ cls := "com/example/rollcall/rollcall/io/Configuration$Rule", name := "match", desc := "()J" } : Jvm.MethodName) prog_8_method_8_code (1 : Nat) (Option.some Jvm.ClassFile.FieldType.long)).before args0 about1 = true := code_word (m := ⟨10, 4⟩) (meth := k10m4) (c := k10c4) (by decide +kernel) rfl rfl rfl (by decide +kernel)
set_option maxRecDepth 65536 in
theorem w_c15 : (Jvm.Cond.code ({ cls := "com/example/rollcall/rollcall/io/Configuration$Rule", name := "group", desc := "()I" } : Jvm.MethodName) prog_8_method_9_code (1 : Nat) (Option.some Jvm.ClassFile.FieldType.int)).before args0 about1 = true := code_word (m := ⟨10, 5⟩) (meth := k10m5) (c := k10c5) (by decide +kernel) rfl rfl rfl (by decide +kernel)
set_option maxRecDepth 65536 in
theorem w_c16 : (Jvm.Cond.code ({ cls := "com/example/rollcall/rollcall/io/Configuration$Rule", name := "ifEmpty", desc := "()Ljava/lang/String;" } : Jvm.MethodName) prog_8_method_10_code (1 : Nat) (Option.some (Jvm.ClassFile.FieldType.object "java/lang/String"))).before args0 about1 = true := code_word (m := ⟨10, 6⟩) (meth := k10m6) (c := k10c6) (by decide +kernel) rfl rfl rfl (by decide +kernel)
set_option maxRecDepth 65536 in
theorem w_c17 : (Jvm.Cond.code ({ cls := "com/example/rollcall/rollcall/io/Configuration$Rule", name := "keepIfEmpty", desc := "()Z" } : Jvm.MethodName) prog_8_method_11_code (1 : Nat) (Option.some Jvm.ClassFile.FieldType.boolean)).before args0 about1 = true := code_word (m := ⟨10, 7⟩) (meth := k10m7) (c := k10c7) (by decide +kernel) rfl rfl rfl (by decide +kernel)
set_option maxRecDepth 65536 in
theorem w_c18 : (Jvm.Cond.code ({ cls := "com/example/rollcall/rollcall/io/Configuration$Rule", name := "onlyIfEmpty", desc := "()Z" } : Jvm.MethodName) prog_8_method_12_code (1 : Nat) (Option.some Jvm.ClassFile.FieldType.boolean)).before args0 about1 = true := code_word (m := ⟨10, 8⟩) (meth := k10m8) (c := k10c8) (by decide +kernel) rfl rfl rfl (by decide +kernel)
set_option maxRecDepth 65536 in
theorem w_c19 : (Jvm.Cond.code ({ cls := "java/lang/String", name := "valueOf", desc := "(C)Ljava/lang/String;" } : Jvm.MethodName) jdk_42_method_139_code (1 : Nat) (Option.some (Jvm.ClassFile.FieldType.object "java/lang/String"))).before args0 about1 = true := code_word (m := ⟨7, 3⟩) (meth := k7m3) (c := k7c3) (by decide +kernel) rfl rfl rfl (by decide +kernel)
set_option maxRecDepth 65536 in
theorem w_c20 : (Jvm.Cond.code ({ cls := "java/lang/StringLatin1", name := "canEncode", desc := "(C)Z" } : Jvm.MethodName) jdk_43_method_3_code (1 : Nat) (Option.some Jvm.ClassFile.FieldType.boolean)).before args0 about1 = true := code_word (m := ⟨11, 1⟩) (meth := k11m1) (c := k11c1) (by decide +kernel) rfl rfl rfl (by decide +kernel)
set_option maxRecDepth 65536 in
theorem w_c21 : (Jvm.Cond.code ({ cls := "java/lang/StringLatin1", name := "toBytes", desc := "(C)[B" } : Jvm.MethodName) jdk_43_method_46_code (1 : Nat) (Option.some (Jvm.ClassFile.FieldType.array Jvm.ClassFile.FieldType.byte))).before args0 about1 = true := code_word (m := ⟨11, 2⟩) (meth := k11m2) (c := k11c2) (by decide +kernel) rfl rfl rfl (by decide +kernel)
set_option maxRecDepth 65536 in
theorem w_c22 : (Jvm.Cond.code ({ cls := "java/lang/String", name := "<init>", desc := "([BB)V" } : Jvm.MethodName) jdk_42_method_151_code (3 : Nat) (Option.none : Option Jvm.ClassFile.FieldType)).before args0 about1 = true := code_word (m := ⟨7, 5⟩) (meth := k7m5) (c := k7c5) (by decide +kernel) rfl rfl rfl (by decide +kernel)
def codes1 : List Jvm.Cond := [Jvm.Cond.code x code maxLocals ret, Jvm.Cond.code ({ cls := "com/example/rollcall/rollcall/io/RuleCopyingPinLaw", name := "draw", desc := "(II)Ljava/lang/String;" } : Jvm.MethodName) method_2_code (6 : Nat) (Option.some (Jvm.ClassFile.FieldType.object "java/lang/String")), Jvm.Cond.code ({ cls := "java/lang/String", name := "<init>", desc := "([C)V" } : Jvm.MethodName) jdk_42_method_3_code (2 : Nat) (Option.none : Option Jvm.ClassFile.FieldType), Jvm.Cond.code ({ cls := "java/lang/String", name := "<init>", desc := "([CIILjava/lang/Void;)V" } : Jvm.MethodName) jdk_42_method_149_code (6 : Nat) (Option.none : Option Jvm.ClassFile.FieldType), Jvm.Cond.code ({ cls := "java/lang/Object", name := "<init>", desc := "()V" } : Jvm.MethodName) object_method_1_code (1 : Nat) (Option.none : Option Jvm.ClassFile.FieldType), Jvm.Cond.code ({ cls := "java/lang/StringUTF16", name := "compress", desc := "([CII)[B" } : Jvm.MethodName) jdk_52_method_16_code (6 : Nat) (Option.some (Jvm.ClassFile.FieldType.array Jvm.ClassFile.FieldType.byte)), Jvm.Cond.code ({ cls := "java/lang/StringUTF16", name := "compress", desc := "([CI[BII)I" } : Jvm.MethodName) jdk_52_method_21_code (7 : Nat) (Option.some Jvm.ClassFile.FieldType.int), Jvm.Cond.code ({ cls := "java/lang/StringUTF16", name := "coderFromArrayLen", desc := "([BI)B" } : Jvm.MethodName) jdk_52_method_15_code (2 : Nat) (Option.some Jvm.ClassFile.FieldType.byte), Jvm.Cond.code ({ cls := "com/example/rollcall/rollcall/io/Configuration$Rule", name := "copying", desc := "(Ljava/lang/String;)Lcom/example/rollcall/rollcall/io/Configuration$Rule;" } : Jvm.MethodName) prog_8_method_2_code (1 : Nat) (Option.some (Jvm.ClassFile.FieldType.object "com/example/rollcall/rollcall/io/Configuration$Rule")), Jvm.Cond.code ({ cls := "com/example/rollcall/rollcall/io/Configuration$Rule", name := "<init>", desc := "(Ljava/lang/String;Ljava/util/regex/Pattern;JILjava/lang/String;ZZ)V" } : Jvm.MethodName) prog_8_method_1_code (9 : Nat) (Option.none : Option Jvm.ClassFile.FieldType), Jvm.Cond.code ({ cls := "java/lang/Record", name := "<init>", desc := "()V" } : Jvm.MethodName) jdk_30_method_1_code (1 : Nat) (Option.none : Option Jvm.ClassFile.FieldType), Jvm.Cond.code ({ cls := "com/example/rollcall/rollcall/io/Configuration$Rule", name := "from", desc := "()Ljava/lang/String;" } : Jvm.MethodName) prog_8_method_6_code (1 : Nat) (Option.some (Jvm.ClassFile.FieldType.object "java/lang/String")), Jvm.Cond.code ({ cls := "java/lang/String", name := "equals", desc := "(Ljava/lang/Object;)Z" } : Jvm.MethodName) jdk_42_method_66_code (3 : Nat) (Option.some Jvm.ClassFile.FieldType.boolean), Jvm.Cond.code ({ cls := "com/example/rollcall/rollcall/io/Configuration$Rule", name := "regex", desc := "()Ljava/util/regex/Pattern;" } : Jvm.MethodName) prog_8_method_7_code (1 : Nat) (Option.some (Jvm.ClassFile.FieldType.object "java/util/regex/Pattern")), Jvm.Cond.code ({ cls := "com/example/rollcall/rollcall/io/Configuration$Rule", name := "match", desc := "()J" } : Jvm.MethodName) prog_8_method_8_code (1 : Nat) (Option.some Jvm.ClassFile.FieldType.long), Jvm.Cond.code ({ cls := "com/example/rollcall/rollcall/io/Configuration$Rule", name := "group", desc := "()I" } : Jvm.MethodName) prog_8_method_9_code (1 : Nat) (Option.some Jvm.ClassFile.FieldType.int), Jvm.Cond.code ({ cls := "com/example/rollcall/rollcall/io/Configuration$Rule", name := "ifEmpty", desc := "()Ljava/lang/String;" } : Jvm.MethodName) prog_8_method_10_code (1 : Nat) (Option.some (Jvm.ClassFile.FieldType.object "java/lang/String")), Jvm.Cond.code ({ cls := "com/example/rollcall/rollcall/io/Configuration$Rule", name := "keepIfEmpty", desc := "()Z" } : Jvm.MethodName) prog_8_method_11_code (1 : Nat) (Option.some Jvm.ClassFile.FieldType.boolean), Jvm.Cond.code ({ cls := "com/example/rollcall/rollcall/io/Configuration$Rule", name := "onlyIfEmpty", desc := "()Z" } : Jvm.MethodName) prog_8_method_12_code (1 : Nat) (Option.some Jvm.ClassFile.FieldType.boolean), Jvm.Cond.code ({ cls := "java/lang/String", name := "valueOf", desc := "(C)Ljava/lang/String;" } : Jvm.MethodName) jdk_42_method_139_code (1 : Nat) (Option.some (Jvm.ClassFile.FieldType.object "java/lang/String")), Jvm.Cond.code ({ cls := "java/lang/StringLatin1", name := "canEncode", desc := "(C)Z" } : Jvm.MethodName) jdk_43_method_3_code (1 : Nat) (Option.some Jvm.ClassFile.FieldType.boolean), Jvm.Cond.code ({ cls := "java/lang/StringLatin1", name := "toBytes", desc := "(C)[B" } : Jvm.MethodName) jdk_43_method_46_code (1 : Nat) (Option.some (Jvm.ClassFile.FieldType.array Jvm.ClassFile.FieldType.byte)), Jvm.Cond.code ({ cls := "java/lang/String", name := "<init>", desc := "([BB)V" } : Jvm.MethodName) jdk_42_method_151_code (3 : Nat) (Option.none : Option Jvm.ClassFile.FieldType)]
set_option maxRecDepth 65536 in
theorem codes_eq : words1.filter isCode = codes1 := rfl
theorem w_codes : ∀ c ∈ words1.filter isCode, c.before args0 about1 = true := by
  rw [codes_eq]
  intro c hc
  simp only [codes1, List.mem_cons, List.not_mem_nil, or_false] at hc
  rcases hc with rfl | rfl | rfl | rfl | rfl | rfl | rfl | rfl | rfl | rfl | rfl | rfl | rfl | rfl | rfl | rfl | rfl | rfl | rfl | rfl | rfl | rfl | rfl
  · exact w_c0
  · exact w_c1
  · exact w_c2
  · exact w_c3
  · exact w_c4
  · exact w_c5
  · exact w_c6
  · exact w_c7
  · exact w_c8
  · exact w_c9
  · exact w_c10
  · exact w_c11
  · exact w_c12
  · exact w_c13
  · exact w_c14
  · exact w_c15
  · exact w_c16
  · exact w_c17
  · exact w_c18
  · exact w_c19
  · exact w_c20
  · exact w_c21
  · exact w_c22
set_option maxRecDepth 65536 in
theorem w_t1 : (words1.take 24).all (fun c => isCode c || c.before args0 about1) = true := by decide +kernel
set_option maxRecDepth 65536 in
theorem w_t2 : ((words1.drop 24).take 24).all (fun c => isCode c || c.before args0 about1) = true := by decide +kernel
set_option maxRecDepth 65536 in
theorem w_t3 : (((words1.drop 24).drop 24).take 24).all (fun c => isCode c || c.before args0 about1) = true := by decide +kernel
set_option maxRecDepth 65536 in
theorem w_t4 : ((((words1.drop 24).drop 24).drop 24).take 24).all (fun c => isCode c || c.before args0 about1) = true := by decide +kernel
set_option maxRecDepth 65536 in
theorem w_t5 : (((((words1.drop 24).drop 24).drop 24).drop 24).take 24).all (fun c => isCode c || c.before args0 about1) = true := by decide +kernel
set_option maxRecDepth 65536 in
theorem w_t6 : (((((words1.drop 24).drop 24).drop 24).drop 24).drop 24).all (fun c => isCode c || c.before args0 about1) = true := by decide +kernel
theorem w_tables : (allAtoms (Jvm.Cond.code x code maxLocals ret :: tables_1)).before args0 about1 = true := by
  rw [allAtoms_all]
  show words1.all (fun c => c.before args0 about1) = true
  refine all_split ?_ w_codes
  rw [← List.take_append_drop 24 words1, List.all_append, w_t1, ← List.take_append_drop 24 (words1.drop 24), List.all_append, w_t2, ← List.take_append_drop 24 ((words1.drop 24).drop 24), List.all_append, w_t3, ← List.take_append_drop 24 (((words1.drop 24).drop 24).drop 24), List.all_append, w_t4, ← List.take_append_drop 24 ((((words1.drop 24).drop 24).drop 24).drop 24), List.all_append, w_t5, w_t6]
  rfl
set_option maxRecDepth 65536 in
theorem w_rest : rest_1_c.before args0 about1 = true := by decide +kernel
set_option maxRecDepth 65536 in
theorem w_case : (Jvm.Cond.and given_1 narrow_1).before args0 about1 = true := by decide +kernel
set_option maxRecDepth 65536 in
theorem w_consts : constsHeld consts_1 about1 := Jvm.Lit.constsHeldB_iff.mp (by decide +kernel)
theorem w_applies : (headSpec (Jvm.Cond.code x code maxLocals ret :: tables_1) room_1).applies x e0.platform about1 = true :=
  (Spec.applies_iff w_frames).mpr ⟨w_running, w_runnable, w_alone, w_named, w_hears, w_ripe, w_room, w_tables⟩
theorem atStart : AtStart classFile x code maxLocals ret World_1 tables_1 room_1 Calls_1 rest_1 Pre_1 launch0 p0 e0 about1 theMethod args0 below0 :=
  ⟨lists_1, trivial, launch0.admits_env _ _ _, launch0.least_env, fairChoices_fair.cas, fairChoices_fair.clock, w_frames, w_args, w_heap, w_applies, ⟨w_consts, trivial⟩, w_rest, w_case⟩
end start1
theorem witness_1 : WitnessClaimed_1 := ⟨start1.p0, start1.e0, start1.about1, start1.theMethod, start1.args0, start1.below0, start1.atStart⟩
end Jvm.Pilot.@@N@@
